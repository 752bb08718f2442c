import JvmDerived
import JvmDerived.Pilot.@@N@@Statement
import JvmDerived.Pilot.@@N@@Code
set_option linter.unusedVariables false
set_option linter.unusedSimpArgs false
namespace Jvm.OwnKit
open Sem ClassFile Op Lib Jvm.Stand Jvm.Free Jvm.LawKit Jvm.RoadKit
/-- from the frame f over the state T the run ends within P -/
def Goes (p : Program) (e : Env) (below : List Frame) (T : State) (f : JFrame) (P : State → Outcome → Prop) : Prop := ∃ U o, Steps p.tables e below (T.setTop f) U ∧ U.status = .running ∧ Ended U below o ∧ P U o
/-- only places of ws or of new cells -/
def Only (h0 : Heap) (ws : List Addr) (L : List Loc) : Prop := ∀ y ∈ L, y.base ∈ ws ∨ h0.size ≤ y.base
def Kp (h0 h : Heap) (ws : List Addr) (L : List Loc) : Prop := Keep h0 h ws ∧ Only h0 ws L
/-- Q, kept from being reduced -/
def Ap (Q : Option Value → Heap → List Loc → Prop) (v : Option Value) (h : Heap) (L : List Loc) : Prop := Q v h L
/-- a contract: called with 'as' over the heap h0, the method returns within Q -/
def Con (l : Launch) (y : MethodName) (bytes : ByteArray) (maxL : Nat) (ret : Option FieldType) (rm : Room) (Z : State) (as : Array Value) (h0 : Heap) (Q : Option Value → Heap → List Loc → Prop) : Prop :=
  ∀ ws, MetFree l y (head1 (Cond.code y bytes maxL ret :: ws) rm) (fun a U => a = as ∧ Z.Warmed39 U.vm ∧ U.heap = h0) (fun _ _ _ _ _ => True) (fun _ U o U' => ∃ v L, o = .returned v ∧ Ap Q v U'.heap L ∧ FrameEnd U o U' L rm.cells rm.slots)
section G
variable {p : Program} {l : Launch} {e : Env} {R : Room} {s : State} {m : MethodId} {args : Array Value} {below : List Frame} {meth : Method} {c : Code} {T T' : State} {locs : List Loc} {cells slots : Nat} {P : State → Outcome → Prop} {f f' : JFrame} {Z : State} {a0 : Array Value} {h h' h0 : Heap} {a b : Addr} {ws ws' : List Addr} {Lc Lc' : List Loc} {sl : Nat} {v : Value}
theorem Goes.via (q : ∀ t, Steps p.tables e below (T'.setTop f') t → Steps p.tables e below (T.setTop f) t) (k : Goes p e below T' f' P) : Goes p e below T f P := by
  obtain ⟨U, o, h1, h2⟩ := k
  exact ⟨U, o, q U h1, h2⟩
theorem Goes.thru (q : Steps p.tables e below (T.setTop f) (T'.setTop f')) (k : Goes p e below T' f' P) : Goes p e below T f P := by
  obtain ⟨U, o, h1, h2⟩ := k
  exact ⟨U, o, q.trans h1, h2⟩
theorem Goes.ite {c : Prop} [Decidable c] {F : Int32 → JFrame} {a b : Int32} (h1 : c → Goes p e below T (F a) P → Goes p e below T f P) (h2 : ¬ c → Goes p e below T (F b) P → Goes p e below T f P) (k : Goes p e below T (F (if c then a else b)) P) : Goes p e below T f P := by
  by_cases hc : c
  · rw [if_pos hc] at k; exact h1 hc k
  · rw [if_neg hc] at k; exact h2 hc k
theorem Goes.cast (q : f = f') (k : Goes p e below T f' P) : Goes p e below T f P := q ▸ k
theorem Kp.refl (h : Heap) (ws : List Addr) : Kp h h ws [] := ⟨Keep.refl h ws, fun _ q => nomatch q⟩
theorem Kp.ext (K : Kp h0 h ws Lc) (E : Ext h h') : Kp h0 h' ws Lc := ⟨K.1.ext E, K.2⟩
theorem Kp.wr (K : Kp h0 h ws Lc) (W : Wr h h' a sl v) (q : a ∈ ws ∨ h0.size ≤ a) : Kp h0 h' ws (Lc ++ [⟨a, sl⟩]) :=
  ⟨K.1.wr W q, fun y hy => (List.mem_append.mp hy).elim (K.2 y) fun z => by cases List.mem_singleton.mp z; exact q⟩
theorem Kp.call (K : Kp h0 h ws Lc) (K' : Kp h h' ws' Lc') (q : ∀ x ∈ ws', x ∈ ws ∨ h0.size ≤ x) : Kp h0 h' ws (Lc ++ Lc') :=
  ⟨K.1.trans K'.1 q, fun y hy => (List.mem_append.mp hy).elim (K.2 y) fun z => (K'.2 y z).elim (q _) fun u => Or.inr (Nat.le_trans K.1.1 u)⟩
theorem Kp.size (K : Kp h0 h ws Lc) : h0.size ≤ h.size := K.1.1
theorem Kp.fr (K : Kp h0 h [] Lc) : Fr h0.size Lc := fun y hy => (K.2 y hy).elim (fun z => nomatch z) id
theorem Con.of_body {l : Launch} {y : MethodName} {bytes : ByteArray} {maxL : Nat} {ret : Option FieldType} {rm : Room} {Z : State} {as : Array Value} {h0 : Heap} {Q : Option Value → Heap → List Loc → Prop} (hn : plainFor y = true)
    (body : ∀ (p : Program) (e : Env) (s : State) (m : MethodId) (below : List Frame) (meth : Method) (c : Code) (T : State), Stand p l e rm s m as below meth c T [] 0 0 → p.tables.exec = Jvm.exec → c.code = bytes → c.maxLocals = maxL → Z.Warmed39 s.vm → s.vm.findClass y.cls = some m.cls → meth.name = y.name → meth.sig.returnType = ret → meth.locks = false → T.heap = h0 →
      Goes p e below T (entryFrame m as maxL) (fun U o => ∃ v L, o = .returned v ∧ Ap Q v U.heap L ∧ FrameEnd s o U L rm.cells rm.slots)) : Con l y bytes maxL ret rm Z as h0 Q := by
  intro ws
  refine MetFree.of_bodySF hn hisR ?_
  intro p e s m args below meth c s₁ Bd hml hP _
  obtain ⟨rfl, hZ, hh⟩ := hP
  exact body p e s m below meth c s₁ (Stand.of_body Bd) Bd.exec Bd.bytes hml hZ (findClass_of_methodNamed Bd.named) (name_of_methodNamed Bd.named Bd.method).1 Bd.returns (BodyLoose.notSynchronized Bd) (by rw [← hh, Bd.state]; rfl)
theorem Con.back {y : MethodName} {bytes : ByteArray} {maxL : Nat} {ret : Option FieldType} {rm : Room} {len W : Nat} {as' : Array Value} {Q : Option Value → Heap → List Loc → Prop} (hM : Con l y bytes maxL ret rm Z as' h Q)
    (hZ : Z.Warmed39 s.vm) (wc : (Cond.code y bytes maxL ret).before a0 Z = true) (wz : (Cond.initialized y.cls).before a0 Z = true) (hf : rm.frames + 1 ≤ R.frames) (hl : W + (maxL + 11) + rm.locals ≤ R.locals) :
    Back l R p e below s args y len W (fun A a => a = as' ∧ A.U.heap = h ∧ A.cells + rm.cells ≤ R.cells ∧ A.slots + rm.slots ≤ R.slots)
      (fun A _ v B => ∃ L, Q v B.U.heap L ∧ B.locs = A.locs ++ L ∧ B.cells = A.cells + rm.cells ∧ B.slots = A.slots + rm.slots) := backOf (hM []) hZ wc wz hf hl
/-- the end of a walk, for any of the returning instructions -/
theorem Goes.end (X : Stand p l e R s m args below meth c T locs cells slots) (hlk : meth.locks = false) {v : Option Value} (hv : meth.sig.returnType = none → v = none)
    (hs : ∀ fs, (∀ (f : JFrame) (acts : List Action), f.method = m → f.locked = none → f.entered = [] → (doReturn e (T.setTop f) acts v).1 = T.setFrames fs) → Steps p.tables e below (T.setTop f) (T.setFrames fs))
    {Q : Option Value → Heap → List Loc → Prop} {k n : Nat} (hk : cells ≤ k) (hn : slots ≤ n) (q : Q v T.heap locs) : Goes p e below T f (fun U o => ∃ v L, o = .returned v ∧ Ap Q v U.heap L ∧ FrameEnd s o U L k n) := by
  obtain ⟨fs, hr, hrun, hended, hW, hsame⟩ := X.leave hv hlk
  exact ⟨_, _, hs fs hr, hrun, hended, v, locs, rfl, q, ⟨_, rfl⟩, hW, hsame.mono hk hn⟩
theorem retI' (X : Stand p l e R s m args below meth c T locs cells slots) (hx : p.tables.exec = Jvm.exec) {pc : Nat} {Ls : Array Slot} {z : Int32} {rest : List Value} (hret : meth.sig.returnType = some .int) (hd : decode c.code pc = .ok (.ireturn, 1)) {fs : List Frame}
    (hl : ∀ (f : JFrame) (acts : List Action), f.method = m → f.locked = none → f.entered = [] → (doReturn e (T.setTop f) acts (some (.int z))).1 = T.setFrames fs) : Steps p.tables e below (T.setTop (mkF m pc Ls (.int z :: rest))) (T.setFrames fs) :=
  retOut X hx hret rfl (Or.inl ⟨rfl, Or.inl rfl, z, rfl⟩) hd hl
variable {pc pc' : Nat} {L L' : Array Slot} {S : List Value}
variable {Q : Option Value → Heap → List Loc → Prop} {k n : Nat}
theorem Goes.retI (X : Stand p l e R s m args below meth c T locs cells slots) (hx : p.tables.exec = Jvm.exec) (hret : meth.sig.returnType = some .int) (hlk : meth.locks = false) {z : Int32} (hd : decode c.code pc = .ok (.ireturn, 1)) (hk : cells ≤ k) (hn : slots ≤ n) (q : Q (some (.int z)) T.heap locs) :
    Goes p e below T (mkF m pc L (.int z :: S)) (fun U o => ∃ v L, o = .returned v ∧ Ap Q v U.heap L ∧ FrameEnd s o U L k n) :=
  Goes.end X hlk (fun h => by rw [hret] at h; cases h) (fun _ hr => retOut X hx hret rfl (Or.inl ⟨rfl, Or.inl rfl, z, rfl⟩) hd hr) hk hn q
theorem Goes.retN (X : Stand p l e R s m args below meth c T locs cells slots) (hx : p.tables.exec = Jvm.exec) {t : FieldType} (hret : meth.sig.returnType = some t) (ht : t = .boolean ∨ t = .byte ∨ t = .char ∨ t = .short) (hlk : meth.locks = false) {z : Int32} (hd : decode c.code pc = .ok (.ireturn, 1)) (hk : cells ≤ k) (hn : slots ≤ n) (q : Q (some (.int (nar t z))) T.heap locs) :
    Goes p e below T (mkF m pc L (.int z :: S)) (fun U o => ∃ v L, o = .returned v ∧ Ap Q v U.heap L ∧ FrameEnd s o U L k n) :=
  Goes.end X hlk (fun h => by rw [hret] at h; cases h) (fun _ hr => Jvm.RoadKit.retN X hx hret ht hd hr) hk hn q
theorem Goes.retJ (X : Stand p l e R s m args below meth c T locs cells slots) (hx : p.tables.exec = Jvm.exec) (hret : meth.sig.returnType = some .long) (hlk : meth.locks = false) {z : Int64} (hd : decode c.code pc = .ok (.lreturn, 1)) (hk : cells ≤ k) (hn : slots ≤ n) (q : Q (some (.long z)) T.heap locs) :
    Goes p e below T (mkF m pc L (.long z :: S)) (fun U o => ∃ v L, o = .returned v ∧ Ap Q v U.heap L ∧ FrameEnd s o U L k n) :=
  Goes.end X hlk (fun h => by rw [hret] at h; cases h) (fun _ hr => retOut X hx hret rfl (Or.inr (Or.inl ⟨rfl, rfl, z, rfl⟩)) hd hr) hk hn q
theorem Goes.retA (X : Stand p l e R s m args below meth c T locs cells slots) (hx : p.tables.exec = Jvm.exec) {t : FieldType} (hret : meth.sig.returnType = some t) (ht : t.isReference = true) (hlk : meth.locks = false) {z : Value} (hz : z.isRef = true) (hnr : narrow t z = z) (hd : decode c.code pc = .ok (.areturn, 1)) (hk : cells ≤ k) (hn : slots ≤ n) (q : Q (some z) T.heap locs) :
    Goes p e below T (mkF m pc L (z :: S)) (fun U o => ∃ v L, o = .returned v ∧ Ap Q v U.heap L ∧ FrameEnd s o U L k n) :=
  Goes.end X hlk (fun h => by rw [hret] at h; cases h) (fun _ hr => retOut X hx hret hnr (Or.inr (Or.inr (Or.inr (Or.inr ⟨rfl, ht, hz⟩)))) hd hr) hk hn q
theorem Goes.retV (X : Stand p l e R s m args below meth c T locs cells slots) (hx : p.tables.exec = Jvm.exec) (hret : meth.sig.returnType = none) (hlk : meth.locks = false) (hd : decode c.code pc = .ok (.return_, 1)) (hk : cells ≤ k) (hn : slots ≤ n) (q : Q none T.heap locs) :
    Goes p e below T (mkF m pc L []) (fun U o => ∃ v L, o = .returned v ∧ Ap Q v U.heap L ∧ FrameEnd s o U L k n) :=
  Goes.end X hlk (fun _ => rfl) (fun _ hr => X.returnOut hx hret hd hr) hk hn q
theorem G.aload (X : Stand p l e R s m args below meth c T locs cells slots) (hx : p.tables.exec = Jvm.exec) {k : Nat} {v : Value} (hd : decode c.code pc = .ok (.aload k, 2)) (hl : L[k]? = some (.val v)) (hv : v.isRef = true) (hp : pc + 2 = pc') (q : Goes p e below T (mkF m pc' L (v :: S)) P) : Goes p e below T (mkF m pc L (S)) P := by
  subst hp; exact Goes.via (fun _ u => Jvm.Free.XS.aload X.here hx rfl hd hl hv u) q
theorem G.aloadN (X : Stand p l e R s m args below meth c T locs cells slots) (hx : p.tables.exec = Jvm.exec) {k : Fin 4} {v : Value} (hd : decode c.code pc = .ok (.aload_n k, 1)) (hl : L[k.val]? = some (.val v)) (hv : v.isRef = true) (hp : pc + 1 = pc') (q : Goes p e below T (mkF m pc' L (v :: S)) P) : Goes p e below T (mkF m pc L (S)) P := by
  subst hp; exact Goes.via (fun _ u => Jvm.Free.XS.aloadN X.here hx rfl hd hl hv u) q
theorem G.iload (X : Stand p l e R s m args below meth c T locs cells slots) (hx : p.tables.exec = Jvm.exec) {k : Nat} {v : Int32} (hd : decode c.code pc = .ok (.iload k, 2)) (hl : L[k]? = some (.val (.int v))) (hp : pc + 2 = pc') (q : Goes p e below T (mkF m pc' L (.int v :: S)) P) : Goes p e below T (mkF m pc L (S)) P := by
  subst hp; exact Goes.via (fun _ u => Jvm.Free.XS.iload X.here hx rfl hd hl u) q
theorem G.iloadN (X : Stand p l e R s m args below meth c T locs cells slots) (hx : p.tables.exec = Jvm.exec) {k : Fin 4} {v : Int32} (hd : decode c.code pc = .ok (.iload_n k, 1)) (hl : L[k.val]? = some (.val (.int v))) (hp : pc + 1 = pc') (q : Goes p e below T (mkF m pc' L (.int v :: S)) P) : Goes p e below T (mkF m pc L (S)) P := by
  subst hp; exact Goes.via (fun _ u => Jvm.Free.XS.iloadN X.here hx rfl hd hl u) q
theorem G.lload (X : Stand p l e R s m args below meth c T locs cells slots) (hx : p.tables.exec = Jvm.exec) {k : Nat} {v : Int64} (hd : decode c.code pc = .ok (.lload k, 2)) (hl : L[k]? = some (.val (.long v))) (hp : pc + 2 = pc') (q : Goes p e below T (mkF m pc' L (.long v :: S)) P) : Goes p e below T (mkF m pc L (S)) P := by
  subst hp; exact Goes.via (fun _ u => Jvm.Free.XT.lload X.here hx rfl hd hl u) q
theorem G.lloadN (X : Stand p l e R s m args below meth c T locs cells slots) (hx : p.tables.exec = Jvm.exec) {k : Fin 4} {v : Int64} (hd : decode c.code pc = .ok (.lload_n k, 1)) (hl : L[k.val]? = some (.val (.long v))) (hp : pc + 1 = pc') (q : Goes p e below T (mkF m pc' L (.long v :: S)) P) : Goes p e below T (mkF m pc L (S)) P := by
  subst hp; exact Goes.via (fun _ u => Jvm.Free.XT.lloadN X.here hx rfl hd hl u) q
theorem G.istore (X : Stand p l e R s m args below meth c T locs cells slots) (hx : p.tables.exec = Jvm.exec) {k : Nat} {v : Int32} (hd : decode c.code pc = .ok (.istore k, 2)) (hl : storeLocals L k (.int v) = some L') (hp : pc + 2 = pc') (q : Goes p e below T (mkF m pc' L' (S)) P) : Goes p e below T (mkF m pc L (.int v :: S)) P := by
  subst hp; exact Goes.via (fun _ u => Jvm.Free.XS.istore X.here hx rfl hd rfl hl u) q
theorem G.istoreN (X : Stand p l e R s m args below meth c T locs cells slots) (hx : p.tables.exec = Jvm.exec) {k : Fin 4} {v : Int32} (hd : decode c.code pc = .ok (.istore_n k, 1)) (hl : storeLocals L k.val (.int v) = some L') (hp : pc + 1 = pc') (q : Goes p e below T (mkF m pc' L' (S)) P) : Goes p e below T (mkF m pc L (.int v :: S)) P := by
  subst hp; exact Goes.via (fun _ u => Jvm.Free.XS.istoreN X.here hx rfl hd rfl hl u) q
theorem G.lstore (X : Stand p l e R s m args below meth c T locs cells slots) (hx : p.tables.exec = Jvm.exec) {k : Nat} {v : Int64} (hd : decode c.code pc = .ok (.lstore k, 2)) (hl : storeLocals L k (.long v) = some L') (hp : pc + 2 = pc') (q : Goes p e below T (mkF m pc' L' (S)) P) : Goes p e below T (mkF m pc L (.long v :: S)) P := by
  subst hp; exact Goes.via (fun _ u => Jvm.Free.XT.lstore X.here hx rfl hd rfl hl u) q
theorem G.lstoreN (X : Stand p l e R s m args below meth c T locs cells slots) (hx : p.tables.exec = Jvm.exec) {k : Fin 4} {v : Int64} (hd : decode c.code pc = .ok (.lstore_n k, 1)) (hl : storeLocals L k.val (.long v) = some L') (hp : pc + 1 = pc') (q : Goes p e below T (mkF m pc' L' (S)) P) : Goes p e below T (mkF m pc L (.long v :: S)) P := by
  subst hp; exact Goes.via (fun _ u => Jvm.Free.XT.lstoreN X.here hx rfl hd rfl hl u) q
theorem G.astore (X : Stand p l e R s m args below meth c T locs cells slots) (hx : p.tables.exec = Jvm.exec) {k : Nat} {v : Value} (hd : decode c.code pc = .ok (.astore k, 2)) (hv : v.isRef = true) (hl : storeLocals L k v = some L') (hp : pc + 2 = pc') (q : Goes p e below T (mkF m pc' L' (S)) P) : Goes p e below T (mkF m pc L (v :: S)) P := by
  subst hp; exact Goes.via (fun _ u => Jvm.Free.XS.astore X.here hx rfl hd rfl hv hl u) q
theorem G.astoreN (X : Stand p l e R s m args below meth c T locs cells slots) (hx : p.tables.exec = Jvm.exec) {k : Fin 4} {v : Value} (hd : decode c.code pc = .ok (.astore_n k, 1)) (hv : v.isRef = true) (hl : storeLocals L k.val v = some L') (hp : pc + 1 = pc') (q : Goes p e below T (mkF m pc' L' (S)) P) : Goes p e below T (mkF m pc L (v :: S)) P := by
  subst hp; exact Goes.via (fun _ u => Jvm.Free.XS.astoreN X.here hx rfl hd rfl hv hl u) q
theorem G.iinc (X : Stand p l e R s m args below meth c T locs cells slots) (hx : p.tables.exec = Jvm.exec) {k : Nat} {cst : Int} {v : Int32} (hd : decode c.code pc = .ok (.iinc k cst, 3)) (hl : L[k]? = some (.val (.int v))) (hl' : storeLocals L k (.int (v + Int32.ofInt cst)) = some L') (hp : pc + 3 = pc') (q : Goes p e below T (mkF m pc' L' (S)) P) : Goes p e below T (mkF m pc L (S)) P := by
  subst hp; exact Goes.via (fun _ u => Jvm.Free.XS.iinc X.here hx rfl hd hl hl' u) q
theorem G.iconst (X : Stand p l e R s m args below meth c T locs cells slots) (hx : p.tables.exec = Jvm.exec) {i : Int} {z : Int32} (hd : decode c.code pc = .ok (.iconst i, 1)) (hz : Int32.ofInt i = z) (hp : pc + 1 = pc') (q : Goes p e below T (mkF m pc' L (.int z :: S)) P) : Goes p e below T (mkF m pc L S) P := by
  subst hp hz; exact Goes.via (fun _ u => Jvm.Free.XS.iconst X.here hx rfl hd u) q
theorem G.bipush (X : Stand p l e R s m args below meth c T locs cells slots) (hx : p.tables.exec = Jvm.exec) {i : Int} {z : Int32} (hd : decode c.code pc = .ok (.bipush i, 2)) (hz : (Int8.ofInt i).toInt32 = z) (hp : pc + 2 = pc') (q : Goes p e below T (mkF m pc' L (.int z :: S)) P) : Goes p e below T (mkF m pc L S) P := by
  subst hp hz; exact Goes.via (fun _ u => Jvm.Free.XS.bipush X.here hx rfl hd u) q
theorem G.sipush (X : Stand p l e R s m args below meth c T locs cells slots) (hx : p.tables.exec = Jvm.exec) {i : Int} {z : Int32} (hd : decode c.code pc = .ok (.sipush i, 3)) (hz : (Int16.ofInt i).toInt32 = z) (hp : pc + 3 = pc') (q : Goes p e below T (mkF m pc' L (.int z :: S)) P) : Goes p e below T (mkF m pc L S) P := by
  subst hp hz; exact Goes.via (fun _ u => Jvm.Free.XS.sipush X.here hx rfl hd u) q
theorem G.lconst (X : Stand p l e R s m args below meth c T locs cells slots) (hx : p.tables.exec = Jvm.exec) {k : Fin 2} {z : Int64} (hd : decode c.code pc = .ok (.lconst k, 1)) (hz : Int64.ofNat k = z) (hp : pc + 1 = pc') (q : Goes p e below T (mkF m pc' L (.long z :: S)) P) : Goes p e below T (mkF m pc L S) P := by
  subst hp hz; exact Goes.via (fun _ u => Jvm.Free.XT.lconst X.here hx rfl hd u) q
theorem G.aconstNull (X : Stand p l e R s m args below meth c T locs cells slots) (hx : p.tables.exec = Jvm.exec) (hd : decode c.code pc = .ok (.aconst_null, 1)) (hp : pc + 1 = pc') (q : Goes p e below T (mkF m pc' L (.null :: S)) P) : Goes p e below T (mkF m pc L (S)) P := by
  subst hp; exact Goes.via (fun _ u => Jvm.Free.XS.aconstNull X.here hx rfl hd u) q
theorem G.iadd (X : Stand p l e R s m args below meth c T locs cells slots) (hx : p.tables.exec = Jvm.exec) {x y : Int32} (hd : decode c.code pc = .ok (.iadd, 1)) (hp : pc + 1 = pc') (q : Goes p e below T (mkF m pc' L (.int (x + y) :: S)) P) : Goes p e below T (mkF m pc L (.int y :: .int x :: S)) P := by
  subst hp; exact Goes.via (fun _ u => Jvm.Free.XS.iadd X.here hx rfl hd rfl u) q
theorem G.isub (X : Stand p l e R s m args below meth c T locs cells slots) (hx : p.tables.exec = Jvm.exec) {x y : Int32} (hd : decode c.code pc = .ok (.isub, 1)) (hp : pc + 1 = pc') (q : Goes p e below T (mkF m pc' L (.int (x - y) :: S)) P) : Goes p e below T (mkF m pc L (.int y :: .int x :: S)) P := by
  subst hp; exact Goes.via (fun _ u => Jvm.Free.XS.isub X.here hx rfl hd rfl u) q
theorem G.iand (X : Stand p l e R s m args below meth c T locs cells slots) (hx : p.tables.exec = Jvm.exec) {x y : Int32} (hd : decode c.code pc = .ok (.iand, 1)) (hp : pc + 1 = pc') (q : Goes p e below T (mkF m pc' L (.int (x &&& y) :: S)) P) : Goes p e below T (mkF m pc L (.int y :: .int x :: S)) P := by
  subst hp; exact Goes.via (fun _ u => Jvm.Free.XS.iand X.here hx rfl hd rfl u) q
theorem G.imul (X : Stand p l e R s m args below meth c T locs cells slots) (hx : p.tables.exec = Jvm.exec) {x y : Int32} (hd : decode c.code pc = .ok (.imul, 1)) (hp : pc + 1 = pc') (q : Goes p e below T (mkF m pc' L (.int (x * y) :: S)) P) : Goes p e below T (mkF m pc L (.int y :: .int x :: S)) P := by
  subst hp; exact Goes.via (fun _ u => Jvm.Free.XS.imul X.here hx rfl hd rfl u) q
theorem G.ior (X : Stand p l e R s m args below meth c T locs cells slots) (hx : p.tables.exec = Jvm.exec) {x y : Int32} (hd : decode c.code pc = .ok (.ior, 1)) (hp : pc + 1 = pc') (q : Goes p e below T (mkF m pc' L (.int (x ||| y) :: S)) P) : Goes p e below T (mkF m pc L (.int y :: .int x :: S)) P := by
  subst hp; exact Goes.via (fun _ u => Jvm.Free.XT.ior X.here hx rfl hd rfl u) q
theorem G.ixor (X : Stand p l e R s m args below meth c T locs cells slots) (hx : p.tables.exec = Jvm.exec) {x y : Int32} (hd : decode c.code pc = .ok (.ixor, 1)) (hp : pc + 1 = pc') (q : Goes p e below T (mkF m pc' L (.int (x ^^^ y) :: S)) P) : Goes p e below T (mkF m pc L (.int y :: .int x :: S)) P := by
  subst hp; exact Goes.via (fun _ u => Jvm.Free.XT.ixor X.here hx rfl hd rfl u) q
theorem G.ishl (X : Stand p l e R s m args below meth c T locs cells slots) (hx : p.tables.exec = Jvm.exec) {x y : Int32} (hd : decode c.code pc = .ok (.ishl, 1)) (hp : pc + 1 = pc') (q : Goes p e below T (mkF m pc' L (.int (x <<< (y &&& 31)) :: S)) P) : Goes p e below T (mkF m pc L (.int y :: .int x :: S)) P := by
  subst hp; exact Goes.via (fun _ u => Jvm.Free.XT.ishl X.here hx rfl hd rfl u) q
theorem G.ishr (X : Stand p l e R s m args below meth c T locs cells slots) (hx : p.tables.exec = Jvm.exec) {x y : Int32} (hd : decode c.code pc = .ok (.ishr, 1)) (hp : pc + 1 = pc') (q : Goes p e below T (mkF m pc' L (.int (x >>> (y &&& 31)) :: S)) P) : Goes p e below T (mkF m pc L (.int y :: .int x :: S)) P := by
  subst hp; exact Goes.via (fun _ u => Jvm.Free.XT.ishr X.here hx rfl hd rfl u) q
theorem G.iushr (X : Stand p l e R s m args below meth c T locs cells slots) (hx : p.tables.exec = Jvm.exec) {x y : Int32} (hd : decode c.code pc = .ok (.iushr, 1)) (hp : pc + 1 = pc') (q : Goes p e below T (mkF m pc' L (.int (Jvm.Free.XT.ushr x y) :: S)) P) : Goes p e below T (mkF m pc L (.int y :: .int x :: S)) P := by
  subst hp; exact Goes.via (fun _ u => Jvm.Free.XT.iushr X.here hx rfl hd rfl u) q
theorem G.idiv (X : Stand p l e R s m args below meth c T locs cells slots) (hx : p.tables.exec = Jvm.exec) {x y : Int32} (hd : decode c.code pc = .ok (.idiv, 1)) (hy : y ≠ 0) (hp : pc + 1 = pc') (q : Goes p e below T (mkF m pc' L (.int (x / y) :: S)) P) : Goes p e below T (mkF m pc L (.int y :: .int x :: S)) P := by
  subst hp; exact Goes.via (fun _ u => Jvm.Free.XS.idiv X.here hx rfl hd rfl hy u) q
theorem G.irem (X : Stand p l e R s m args below meth c T locs cells slots) (hx : p.tables.exec = Jvm.exec) {x y : Int32} (hd : decode c.code pc = .ok (.irem, 1)) (hy : y ≠ 0) (hp : pc + 1 = pc') (q : Goes p e below T (mkF m pc' L (.int (x % y) :: S)) P) : Goes p e below T (mkF m pc L (.int y :: .int x :: S)) P := by
  subst hp; exact Goes.via (fun _ u => Jvm.RoadKit.iremM X hx rfl hd rfl hy u) q
theorem G.ineg (X : Stand p l e R s m args below meth c T locs cells slots) (hx : p.tables.exec = Jvm.exec) {x : Int32} (hd : decode c.code pc = .ok (.ineg, 1)) (hp : pc + 1 = pc') (q : Goes p e below T (mkF m pc' L (.int (-x) :: S)) P) : Goes p e below T (mkF m pc L (.int x :: S)) P := by
  subst hp; exact Goes.via (fun _ u => Jvm.Free.XS.ineg X.here hx rfl hd rfl u) q
theorem G.ladd (X : Stand p l e R s m args below meth c T locs cells slots) (hx : p.tables.exec = Jvm.exec) {x y : Int64} (hd : decode c.code pc = .ok (.ladd, 1)) (hp : pc + 1 = pc') (q : Goes p e below T (mkF m pc' L (.long (x + y) :: S)) P) : Goes p e below T (mkF m pc L (.long y :: .long x :: S)) P := by
  subst hp; exact Goes.via (fun _ u => Jvm.Free.XT.ladd X.here hx rfl hd rfl u) q
theorem G.lsub (X : Stand p l e R s m args below meth c T locs cells slots) (hx : p.tables.exec = Jvm.exec) {x y : Int64} (hd : decode c.code pc = .ok (.lsub, 1)) (hp : pc + 1 = pc') (q : Goes p e below T (mkF m pc' L (.long (x - y) :: S)) P) : Goes p e below T (mkF m pc L (.long y :: .long x :: S)) P := by
  subst hp; exact Goes.via (fun _ u => Jvm.Free.XT.lsub X.here hx rfl hd rfl u) q
theorem G.lmul (X : Stand p l e R s m args below meth c T locs cells slots) (hx : p.tables.exec = Jvm.exec) {x y : Int64} (hd : decode c.code pc = .ok (.lmul, 1)) (hp : pc + 1 = pc') (q : Goes p e below T (mkF m pc' L (.long (x * y) :: S)) P) : Goes p e below T (mkF m pc L (.long y :: .long x :: S)) P := by
  subst hp; exact Goes.via (fun _ u => Jvm.Free.XT.lmul X.here hx rfl hd rfl u) q
theorem G.land (X : Stand p l e R s m args below meth c T locs cells slots) (hx : p.tables.exec = Jvm.exec) {x y : Int64} (hd : decode c.code pc = .ok (.land, 1)) (hp : pc + 1 = pc') (q : Goes p e below T (mkF m pc' L (.long (x &&& y) :: S)) P) : Goes p e below T (mkF m pc L (.long y :: .long x :: S)) P := by
  subst hp; exact Goes.via (fun _ u => Jvm.Free.XT.land X.here hx rfl hd rfl u) q
theorem G.lor (X : Stand p l e R s m args below meth c T locs cells slots) (hx : p.tables.exec = Jvm.exec) {x y : Int64} (hd : decode c.code pc = .ok (.lor, 1)) (hp : pc + 1 = pc') (q : Goes p e below T (mkF m pc' L (.long (x ||| y) :: S)) P) : Goes p e below T (mkF m pc L (.long y :: .long x :: S)) P := by
  subst hp; exact Goes.via (fun _ u => Jvm.Free.XT.lor X.here hx rfl hd rfl u) q
theorem G.lxor (X : Stand p l e R s m args below meth c T locs cells slots) (hx : p.tables.exec = Jvm.exec) {x y : Int64} (hd : decode c.code pc = .ok (.lxor, 1)) (hp : pc + 1 = pc') (q : Goes p e below T (mkF m pc' L (.long (x ^^^ y) :: S)) P) : Goes p e below T (mkF m pc L (.long y :: .long x :: S)) P := by
  subst hp; exact Goes.via (fun _ u => Jvm.Free.XT.lxor X.here hx rfl hd rfl u) q
theorem G.lshl (X : Stand p l e R s m args below meth c T locs cells slots) (hx : p.tables.exec = Jvm.exec) {x : Int64} {y : Int32} (hd : decode c.code pc = .ok (.lshl, 1)) (hp : pc + 1 = pc') (q : Goes p e below T (mkF m pc' L (.long (x <<< (y.toInt64 &&& 63)) :: S)) P) : Goes p e below T (mkF m pc L (.int y :: .long x :: S)) P := by
  subst hp; exact Goes.via (fun _ u => Jvm.Free.XT.lshl X.here hx rfl hd rfl u) q
theorem G.lshr (X : Stand p l e R s m args below meth c T locs cells slots) (hx : p.tables.exec = Jvm.exec) {x : Int64} {y : Int32} (hd : decode c.code pc = .ok (.lshr, 1)) (hp : pc + 1 = pc') (q : Goes p e below T (mkF m pc' L (.long (x >>> (y.toInt64 &&& 63)) :: S)) P) : Goes p e below T (mkF m pc L (.int y :: .long x :: S)) P := by
  subst hp; exact Goes.via (fun _ u => Jvm.Free.XT.lshr X.here hx rfl hd rfl u) q
theorem G.lushr (X : Stand p l e R s m args below meth c T locs cells slots) (hx : p.tables.exec = Jvm.exec) {x : Int64} {y : Int32} (hd : decode c.code pc = .ok (.lushr, 1)) (hp : pc + 1 = pc') (q : Goes p e below T (mkF m pc' L (.long (Jvm.Free.XT.ushrL x y) :: S)) P) : Goes p e below T (mkF m pc L (.int y :: .long x :: S)) P := by
  subst hp; exact Goes.via (fun _ u => Jvm.Free.XT.lushr X.here hx rfl hd rfl u) q
theorem G.ldiv (X : Stand p l e R s m args below meth c T locs cells slots) (hx : p.tables.exec = Jvm.exec) {x y : Int64} (hd : decode c.code pc = .ok (.ldiv, 1)) (hy : y ≠ 0) (hp : pc + 1 = pc') (q : Goes p e below T (mkF m pc' L (.long (x / y) :: S)) P) : Goes p e below T (mkF m pc L (.long y :: .long x :: S)) P := by
  subst hp; exact Goes.via (fun _ u => Jvm.Free.XT.ldiv X.here hx rfl hd rfl hy u) q
theorem G.lrem (X : Stand p l e R s m args below meth c T locs cells slots) (hx : p.tables.exec = Jvm.exec) {x y : Int64} (hd : decode c.code pc = .ok (.lrem, 1)) (hy : y ≠ 0) (hp : pc + 1 = pc') (q : Goes p e below T (mkF m pc' L (.long (x % y) :: S)) P) : Goes p e below T (mkF m pc L (.long y :: .long x :: S)) P := by
  subst hp; exact Goes.via (fun _ u => Jvm.Free.XT.lrem X.here hx rfl hd rfl hy u) (by rw [lrem_mod]; exact q)
theorem G.lneg (X : Stand p l e R s m args below meth c T locs cells slots) (hx : p.tables.exec = Jvm.exec) {x : Int64} (hd : decode c.code pc = .ok (.lneg, 1)) (hp : pc + 1 = pc') (q : Goes p e below T (mkF m pc' L (.long (-x) :: S)) P) : Goes p e below T (mkF m pc L (.long x :: S)) P := by
  subst hp; exact Goes.via (fun _ u => Jvm.Free.XT.lneg X.here hx rfl hd rfl u) q
theorem G.i2l (X : Stand p l e R s m args below meth c T locs cells slots) (hx : p.tables.exec = Jvm.exec) {x : Int32} (hd : decode c.code pc = .ok (.i2l, 1)) (hp : pc + 1 = pc') (q : Goes p e below T (mkF m pc' L (.long (x.toInt64) :: S)) P) : Goes p e below T (mkF m pc L (.int x :: S)) P := by
  subst hp; exact Goes.via (fun _ u => Jvm.Free.XT.i2l X.here hx rfl hd rfl u) q
theorem G.i2b (X : Stand p l e R s m args below meth c T locs cells slots) (hx : p.tables.exec = Jvm.exec) {x : Int32} (hd : decode c.code pc = .ok (.i2b, 1)) (hp : pc + 1 = pc') (q : Goes p e below T (mkF m pc' L (.int (x.toInt8.toInt32) :: S)) P) : Goes p e below T (mkF m pc L (.int x :: S)) P := by
  subst hp; exact Goes.via (fun _ u => Jvm.Free.XT.i2b X.here hx rfl hd rfl u) q
theorem G.i2c (X : Stand p l e R s m args below meth c T locs cells slots) (hx : p.tables.exec = Jvm.exec) {x : Int32} (hd : decode c.code pc = .ok (.i2c, 1)) (hp : pc + 1 = pc') (q : Goes p e below T (mkF m pc' L (.int (x.toUInt32.toUInt16.toUInt32.toInt32) :: S)) P) : Goes p e below T (mkF m pc L (.int x :: S)) P := by
  subst hp; exact Goes.via (fun _ u => Jvm.Free.XT.i2c X.here hx rfl hd rfl u) q
theorem G.i2s (X : Stand p l e R s m args below meth c T locs cells slots) (hx : p.tables.exec = Jvm.exec) {x : Int32} (hd : decode c.code pc = .ok (.i2s, 1)) (hp : pc + 1 = pc') (q : Goes p e below T (mkF m pc' L (.int (x.toInt16.toInt32) :: S)) P) : Goes p e below T (mkF m pc L (.int x :: S)) P := by
  subst hp; exact Goes.via (fun _ u => Jvm.Free.XT.i2s X.here hx rfl hd rfl u) q
theorem G.l2i (X : Stand p l e R s m args below meth c T locs cells slots) (hx : p.tables.exec = Jvm.exec) {x : Int64} (hd : decode c.code pc = .ok (.l2i, 1)) (hp : pc + 1 = pc') (q : Goes p e below T (mkF m pc' L (.int (x.toInt32) :: S)) P) : Goes p e below T (mkF m pc L (.long x :: S)) P := by
  subst hp; exact Goes.via (fun _ u => Jvm.Free.XT.l2i X.here hx rfl hd rfl u) q
theorem G.lcmp (X : Stand p l e R s m args below meth c T locs cells slots) (hx : p.tables.exec = Jvm.exec) {x y : Int64} (hd : decode c.code pc = .ok (.lcmp, 1)) (hp : pc + 1 = pc') (q : Goes p e below T (mkF m pc' L (.int (Jvm.Free.XT.cmpL x y) :: S)) P) : Goes p e below T (mkF m pc L (.long y :: .long x :: S)) P := by
  subst hp; exact Goes.via (fun _ u => Jvm.Free.XT.lcmp X.here hx rfl hd rfl u) q
theorem G.dup (X : Stand p l e R s m args below meth c T locs cells slots) (hx : p.tables.exec = Jvm.exec) {v : Value} (hd : decode c.code pc = .ok (.dup, 1)) (hv : v.category = 1) (hp : pc + 1 = pc') (q : Goes p e below T (mkF m pc' L (v :: v :: S)) P) : Goes p e below T (mkF m pc L (v :: S)) P := by
  subst hp; exact Goes.via (fun _ u => Jvm.Free.XS.dup X.here hx rfl hd rfl hv u) q
theorem G.pop (X : Stand p l e R s m args below meth c T locs cells slots) (hx : p.tables.exec = Jvm.exec) {v : Value} (hd : decode c.code pc = .ok (.pop, 1)) (hv : v.category = 1) (hp : pc + 1 = pc') (q : Goes p e below T (mkF m pc' L (S)) P) : Goes p e below T (mkF m pc L (v :: S)) P := by
  subst hp; exact Goes.via (fun _ u => Jvm.Free.XT.pop X.here hx rfl hd rfl hv u) q
theorem G.dupX1 (X : Stand p l e R s m args below meth c T locs cells slots) (hx : p.tables.exec = Jvm.exec) {v w : Value} (hd : decode c.code pc = .ok (.dup_x1, 1)) (hv : v.category = 1) (hw : w.category = 1) (hp : pc + 1 = pc') (q : Goes p e below T (mkF m pc' L (v :: w :: v :: S)) P) : Goes p e below T (mkF m pc L (v :: w :: S)) P := by
  subst hp; exact Goes.via (fun _ u => Jvm.Free.XT.dupX1 X.here hx rfl hd rfl hv hw u) q
theorem G.dup2 (X : Stand p l e R s m args below meth c T locs cells slots) (hx : p.tables.exec = Jvm.exec) {v w : Value} (hd : decode c.code pc = .ok (.dup2, 1)) (hv : v.category = 1) (hw : w.category = 1) (hp : pc + 1 = pc') (q : Goes p e below T (mkF m pc' L (v :: w :: v :: w :: S)) P) : Goes p e below T (mkF m pc L (v :: w :: S)) P := by
  subst hp; exact Goes.via (fun _ u => Jvm.Free.XT.dup2 X.here hx rfl hd rfl hv hw u) q
theorem G.goto (X : Stand p l e R s m args below meth c T locs cells slots) (hx : p.tables.exec = Jvm.exec) {o : Int} (hd : decode c.code pc = .ok (.goto o, 3)) (ho : 0 ≤ (pc : Int) + o) (hp : ((pc : Int) + o).toNat = pc') (q : Goes p e below T (mkF m pc' L S) P) : Goes p e below T (mkF m pc L S) P :=
  Goes.via (fun _ u => Jvm.Free.XS.goto X.here hx rfl rfl hd ho hp u) q
theorem G.icmpT (X : Stand p l e R s m args below meth c T locs cells slots) (hx : p.tables.exec = Jvm.exec) {cd : ClassFile.Cond} {x y : Int32} {o : Int} (hd : decode c.code pc = .ok (.if_icmp cd o, 3)) (hc : if_icmp.holds cd x y = true) (ho : 0 ≤ (pc : Int) + o) (hp : ((pc : Int) + o).toNat = pc') (q : Goes p e below T (mkF m pc' L S) P) : Goes p e below T (mkF m pc L (.int y :: .int x :: S)) P :=
  Goes.via (fun _ u => Jvm.Free.XS.icmpYes X.here hx rfl rfl hd rfl hc ho hp u) q
theorem G.icmpF (X : Stand p l e R s m args below meth c T locs cells slots) (hx : p.tables.exec = Jvm.exec) {cd : ClassFile.Cond} {x y : Int32} {o : Int} (hd : decode c.code pc = .ok (.if_icmp cd o, 3)) (hc : if_icmp.holds cd x y = false) (hp : pc + 3 = pc') (q : Goes p e below T (mkF m pc' L S) P) : Goes p e below T (mkF m pc L (.int y :: .int x :: S)) P := by
  subst hp; exact Goes.via (fun _ u => Jvm.Free.XS.icmpNo X.here hx rfl hd rfl hc u) q
theorem G.ifT (X : Stand p l e R s m args below meth c T locs cells slots) (hx : p.tables.exec = Jvm.exec) {cd : ClassFile.Cond} {x : Int32} {o : Int} (hd : decode c.code pc = .ok (.ifCond cd o, 3)) (hc : ifCond.holds cd x = true) (ho : 0 ≤ (pc : Int) + o) (hp : ((pc : Int) + o).toNat = pc') (q : Goes p e below T (mkF m pc' L S) P) : Goes p e below T (mkF m pc L (.int x :: S)) P :=
  Goes.via (fun _ u => Jvm.Free.XS.ifYes X.here hx rfl rfl hd rfl hc ho hp u) q
theorem G.ifF (X : Stand p l e R s m args below meth c T locs cells slots) (hx : p.tables.exec = Jvm.exec) {cd : ClassFile.Cond} {x : Int32} {o : Int} (hd : decode c.code pc = .ok (.ifCond cd o, 3)) (hc : ifCond.holds cd x = false) (hp : pc + 3 = pc') (q : Goes p e below T (mkF m pc' L S) P) : Goes p e below T (mkF m pc L (.int x :: S)) P := by
  subst hp; exact Goes.via (fun _ u => Jvm.Free.XS.ifNo X.here hx rfl hd rfl hc u) q
theorem G.nullT (X : Stand p l e R s m args below meth c T locs cells slots) (hx : p.tables.exec = Jvm.exec) {o : Int} (hd : decode c.code pc = .ok (.ifnull o, 3)) (ho : 0 ≤ (pc : Int) + o) (hp : ((pc : Int) + o).toNat = pc') (q : Goes p e below T (mkF m pc' L S) P) : Goes p e below T (mkF m pc L (.null :: S)) P :=
  Goes.via (fun _ u => Jvm.Free.XS.ifnullYes X.here hx rfl rfl hd rfl ho hp u) q
theorem G.nullF (X : Stand p l e R s m args below meth c T locs cells slots) (hx : p.tables.exec = Jvm.exec) {b : Addr} {o : Int} (hd : decode c.code pc = .ok (.ifnull o, 3)) (hp : pc + 3 = pc') (q : Goes p e below T (mkF m pc' L S) P) : Goes p e below T (mkF m pc L (.ref b :: S)) P := by
  subst hp; exact Goes.via (fun _ u => Jvm.Free.XS.ifnullNo X.here hx rfl hd rfl u) q
theorem G.nonnullT (X : Stand p l e R s m args below meth c T locs cells slots) (hx : p.tables.exec = Jvm.exec) {b : Addr} {o : Int} (hd : decode c.code pc = .ok (.ifnonnull o, 3)) (ho : 0 ≤ (pc : Int) + o) (hp : ((pc : Int) + o).toNat = pc') (q : Goes p e below T (mkF m pc' L S) P) : Goes p e below T (mkF m pc L (.ref b :: S)) P :=
  Goes.via (fun _ u => Jvm.Free.XS.ifnonnullYes X.here hx rfl rfl hd rfl ho hp u) q
theorem G.nonnullF (X : Stand p l e R s m args below meth c T locs cells slots) (hx : p.tables.exec = Jvm.exec) {o : Int} (hd : decode c.code pc = .ok (.ifnonnull o, 3)) (hp : pc + 3 = pc') (q : Goes p e below T (mkF m pc' L S) P) : Goes p e below T (mkF m pc L (.null :: S)) P := by
  subst hp; exact Goes.via (fun _ u => Jvm.Free.XS.ifnonnullNo X.here hx rfl hd rfl u) q
theorem G.acmpT (X : Stand p l e R s m args below meth c T locs cells slots) (hx : p.tables.exec = Jvm.exec) {cd : ACond} {x y : Value} {o : Int} (hd : decode c.code pc = .ok (.if_acmp cd o, 3)) (h1 : x.isRef = true) (h2 : y.isRef = true) {same : Bool} (hq : decide (x = y) = same) (ho : 0 ≤ (pc : Int) + o) (hp : pc' = if acV cd same = true then ((pc : Int) + o).toNat else pc + 3) (q : Goes p e below T (mkF m pc' L S) P) : Goes p e below T (mkF m pc L (y :: x :: S)) P :=
  Goes.via (fun _ u => Jvm.RoadKit.acmp X hx rfl h1 h2 rfl hd rfl hq ho hp u) q
theorem G.ldcInt (X : Stand p l e R s m args below meth c T locs cells slots) (hx : p.tables.exec = Jvm.exec) (hZ : Z.Warmed39 s.vm) {own : String} {index : Nat} {v : Int32} (hown : s.vm.findClass own = some m.cls) (w : (Cond.constant own index v).before a0 Z = true) (hd : decode c.code pc = .ok (.ldc index, 2)) (hp : pc + 2 = pc') (q : Goes p e below T (mkF m pc' L (.int v :: S)) P) : Goes p e below T (mkF m pc L S) P := by
  subst hp; exact Goes.via (X.ldcInt hx hown (mvT hZ w) (g := mkF m pc L S) rfl hd) q
theorem G.ldcLong (X : Stand p l e R s m args below meth c T locs cells slots) (hx : p.tables.exec = Jvm.exec) (hZ : Z.Warmed39 s.vm) {own : String} {index : Nat} {v : Int64} (hown : s.vm.findClass own = some m.cls) (w : (Cond.constantLong own index v).before a0 Z = true) (hd : decode c.code pc = .ok (.ldc2_w index, 3)) (hp : pc + 3 = pc') (q : Goes p e below T (mkF m pc' L (.long v :: S)) P) : Goes p e below T (mkF m pc L S) P := by
  subst hp; exact Goes.via (X.ldc2Long hx hown (mvT hZ w) (g := mkF m pc L S) rfl hd) q
theorem G.getF (X : Stand p l e R s m args below meth c T locs cells slots) (hx : p.tables.exec = Jvm.exec) (hZ : Z.Warmed39 s.vm) {own R0 O n d : String} {index : Nat} (hown : s.vm.findClass own = some m.cls) (w : (Cond.fieldLink own index R0 n d).before a0 Z = true) (via : Via Z R0 O n d) (eT : T.heap = h) (F : Fld Z h a O n d v) (hd : decode c.code pc = .ok (.getfield index, 3)) (hp : pc + 3 = pc')
    (q : ∀ T', Stand p l e R s m args below meth c T' locs cells slots → T'.heap = h → Goes p e below T' (mkF m pc' L (v :: S)) P) : Goes p e below T (mkF m pc L (.ref a :: S)) P := by
  subst hp
  obtain ⟨T', X', e', st⟩ := Jvm.RoadKit.getF X hx hZ hown (host := "") (Or.inl w) via eT F (g := mkF m pc L (.ref a :: S)) rfl rfl hd
  exact Goes.via st (q T' X' e')
theorem G.getS (X : Stand p l e R s m args below meth c T locs cells slots) (hx : p.tables.exec = Jvm.exec) (hZ : Z.Warmed39 s.vm) {own R0 O n d : String} {index : Nat} (hown : s.vm.findClass own = some m.cls) (w : (Cond.fieldLink own index R0 n d).before a0 Z = true) (via : Via Z R0 O n d) (eT : T.heap = h) (F : Sta Z h O n d v) (hd : decode c.code pc = .ok (.getstatic index, 3)) (hp : pc + 3 = pc')
    (q : ∀ T', Stand p l e R s m args below meth c T' locs cells slots → T'.heap = h → Goes p e below T' (mkF m pc' L (v :: S)) P) : Goes p e below T (mkF m pc L S) P := by
  subst hp
  obtain ⟨T', X', e', st⟩ := Jvm.RoadKit.getS2 X hx hZ hown (host := "") (Or.inl w) via eT F (g := mkF m pc L S) rfl hd
  exact Goes.via st (q T' X' e')
theorem G.putF (X : Stand p l e R s m args below meth c T locs cells slots) (hx : p.tables.exec = Jvm.exec) (hZ : Z.Warmed39 s.vm) {own R0 O n d C : String} {index kk : Nat} {ty : FieldType} {old : Value} (hown : s.vm.findClass own = some m.cls) (w : (Cond.fieldLink own index R0 n d).before a0 Z = true) (via : Via Z R0 O n d) (eT : T.heap = h) (F : Fld Z h a O n d old) (E : Exa Z h a C) (Ly : (Cond.lays C O n d).before a0 Z = true ∨ ((Cond.laysFinal C O n d).before a0 Z = true ∧ own = O ∧ meth.name = "<init>")) (wi : (Cond.instantiable C kk).before a0 Z = true)
    (hty : parseFieldDescriptor d = some ty) (hn : narrow ty v = v) (hf : fits ty v = true) (hd : decode c.code pc = .ok (.putfield index, 3)) (hp : pc + 3 = pc')
    (q : ∀ T' h', Stand p l e R s m args below meth c T' (locs ++ [⟨a, Jvm.RoadKit.slotOf Z O n d⟩]) cells slots → T'.heap = h' → Wr h h' a (Jvm.RoadKit.slotOf Z O n d) v → Goes p e below T' (mkF m pc' L S) P) : Goes p e below T (mkF m pc L (v :: .ref a :: S)) P := by
  subst hp
  obtain ⟨T', h', X', e', W', st⟩ := Jvm.RoadKit.putF X hx hZ hown (host := "") (Or.inl w) via eT F E Ly wi hty hn hf (g := mkF m pc L (v :: .ref a :: S)) rfl rfl hd
  exact Goes.via st (q T' h' X' e' W')
theorem G.putFN (X : Stand p l e R s m args below meth c T locs cells slots) (hx : p.tables.exec = Jvm.exec) (hZ : Z.Warmed39 s.vm) {own R0 O n d C : String} {index kk : Nat} {ty : FieldType} {old v' : Value} (hown : s.vm.findClass own = some m.cls) (w : (Cond.fieldLink own index R0 n d).before a0 Z = true) (via : Via Z R0 O n d) (eT : T.heap = h) (F : Fld Z h a O n d old) (E : Exa Z h a C) (Ly : (Cond.lays C O n d).before a0 Z = true ∨ ((Cond.laysFinal C O n d).before a0 Z = true ∧ own = O ∧ meth.name = "<init>")) (wi : (Cond.instantiable C kk).before a0 Z = true)
    (hty : parseFieldDescriptor d = some ty) (hn : narrow ty v = v') (hf : fits ty v' = true) (hd : decode c.code pc = .ok (.putfield index, 3)) (hp : pc + 3 = pc')
    (q : ∀ T' h', Stand p l e R s m args below meth c T' (locs ++ [⟨a, Jvm.RoadKit.slotOf Z O n d⟩]) cells slots → T'.heap = h' → Wr h h' a (Jvm.RoadKit.slotOf Z O n d) v' → Goes p e below T' (mkF m pc' L S) P) : Goes p e below T (mkF m pc L (v :: .ref a :: S)) P := by
  subst hp
  obtain ⟨T', h', X', e', W', st⟩ := Jvm.RoadKit.putFN X hx hZ hown w via eT F E Ly wi hty hn hf (g := mkF m pc L (v :: .ref a :: S)) rfl rfl hd
  exact Goes.via st (q T' h' X' e' W')
theorem G.newO (X : Stand p l e R s m args below meth c T locs cells slots) (hx : p.tables.exec = Jvm.exec) (hZ : Z.Warmed39 s.vm) {own C : String} {index n : Nat} (hown : s.vm.findClass own = some m.cls) (w : (Cond.classLink own index C).before a0 Z = true) (wi : (Cond.instantiable C n).before a0 Z = true) (wz : (Cond.initialized C).before a0 Z = true) (eT : T.heap = h) (hd : decode c.code pc = .ok (.new index, 3)) (hc : cells + 1 ≤ R.cells) (hl : slots + n ≤ R.slots) (hp : pc + 3 = pc')
    (q : ∀ T' h' a, a = h.size → Stand p l e R s m args below meth c T' locs (cells + 1) (slots + n) → T'.heap = h' → Ext h h' → Exa Z h' a C → (∀ {O nm d : String} {ty : FieldType}, Laid Z a0 C O nm d → parseFieldDescriptor d = some ty → Fld Z h' a O nm d (defaultValue ty)) → Goes p e below T' (mkF m pc' L (.ref a :: S)) P) : Goes p e below T (mkF m pc L S) P := by
  subst hp
  obtain ⟨T', h', X', e', E', A', D', -, st⟩ := Jvm.RoadKit.newO X hx hZ hown w wi wz eT (g := mkF m pc L S) rfl hd hc hl
  exact Goes.via st (q T' h' _ rfl X' e' E' A' D')
theorem G.initO (X : Stand p l e R s m args below meth c T locs cells slots) (hx : p.tables.exec = Jvm.exec) (hZ : Z.Warmed39 s.vm) {own : String} {idx : Nat} (hown : s.vm.findClass own = some m.cls) (w1 : (Cond.methodLink own idx Lib.objectInit).before a0 Z = true) (w2 : (Cond.instanceMethod Lib.objectInit).before a0 Z = true) (w3 : (Cond.code Lib.objectInit ⟨#[0xb1]⟩ 1 none).before a0 Z = true) (eT : T.heap = h) (hsz : L.size = c.maxLocals) (hd : decode c.code pc = .ok (.invokespecial idx, 3)) (hf : 1 ≤ R.frames) {W : Nat} (hW : (S.map fun v => v.category).sum ≤ W) (hl : W + 12 ≤ R.locals) (hp : pc + 3 = pc')
    (q : ∀ T', Stand p l e R s m args below meth c T' locs cells slots → T'.heap = h → Goes p e below T' (mkF m pc' L S) P) : Goes p e below T (mkF m pc L (.ref a :: S)) P := by
  subst hp
  obtain ⟨T', X', e', st⟩ := Jvm.RoadKit.initO X hx hZ hown w1 w2 w3 eT (g := mkF m pc L (.ref a :: S)) rfl hsz rfl hd hf (W := W) (by show 2 * 0 + _ ≤ _; omega) hl
  exact Goes.via st (q T' X' e')
/-- an array's components, in order -/
def Seq (Z : State) (h : Heap) (a : Addr) (ty : FieldType) (vs : List Value) : Prop := ∃ cl : Cell, Arr Z h a cl ty ∧ cl.slots.toList = vs ∧ vs.length < 2 ^ 31
variable {vs : List Value} {ty : FieldType} {j : Int32}
theorem Seq.lt (F : Seq Z h a ty vs) : a < h.size := by obtain ⟨_, A, -⟩ := F; exact A.lt
theorem Seq.ext (F : Seq Z h a ty vs) (E : Ext h h') : Seq Z h' a ty vs := by obtain ⟨cl, A, r⟩ := F; exact ⟨cl, A.ext E, r⟩
theorem Seq.other {w : Value} (F : Seq Z h b ty vs) (W : Wr h h' a sl w) (q : b ≠ a) : Seq Z h' b ty vs := by obtain ⟨cl, A, r⟩ := F; exact ⟨cl, A.other W q, r⟩
theorem Seq.keep (F : Seq Z h a ty vs) (K : Keep h h' ws) (q : a ∉ ws) : Seq Z h' a ty vs := by obtain ⟨cl, A, r⟩ := F; exact ⟨cl, ⟨K.2.1 a cl A.1 q, A.2⟩, r⟩
theorem Seq.new {k : ClassId} {z : Int32} (A : Arr Z h a (newA k ty z) ty) (n : Nat) (hn : z.toNatClampNeg = n) : Seq Z h a ty (List.replicate n (defaultValue ty)) := by
  refine ⟨_, A, by rw [← hn]; simp [newA], ?_⟩
  rw [List.length_replicate, ← hn]
  have := Int32.toInt_lt z
  simp only [Int32.toNatClampNeg]
  omega
theorem Seq.at (F : Seq Z h a ty vs) (hj : ¬ j < 0) (hv : vs[j.toNatClampNeg]? = some v) : ∃ cl : Cell, h[a]? = some cl ∧ Z.isArrayOf cl ty ∧ cl.vm ≠ .unknown ∧ ¬ (j < 0 ∨ cl.slots.size ≤ j.toNatClampNeg) ∧ cl.slots[j.toNatClampNeg]? = some v := by
  obtain ⟨cl, A, rfl, hl⟩ := F
  rw [Array.getElem?_toList] at hv
  exact ⟨cl, A.1, A.2.1, A.2.2, fun q => q.elim hj fun q => by have := (Array.getElem?_eq_some_iff.mp hv).1; omega, hv⟩
theorem Seq.set (F : Seq Z h a ty vs) (W : Wr h h' a j.toNatClampNeg v) : Seq Z h' a ty (vs.set j.toNatClampNeg v) := by
  obtain ⟨cl, A, rfl, hl⟩ := F
  exact ⟨_, A.same W, by simp [Cell.setSlot], by simpa using hl⟩
theorem Seq.inb (F : Seq Z h a ty vs) (hj : ¬ j < 0) (hi : j.toNatClampNeg < vs.length) : ∃ cl : Cell, Arr Z h a cl ty ∧ ¬ (j < 0 ∨ cl.slots.size ≤ j.toNatClampNeg) := by
  obtain ⟨cl, A, rfl, hl⟩ := F
  exact ⟨cl, A, fun q => q.elim hj fun q => by rw [Array.length_toList] at hi; omega⟩
theorem G.newP (X : Stand p l e R s m args below meth c T locs cells slots) (hx : p.tables.exec = Jvm.exec) (hZ : Z.Warmed39 s.vm) {aty : ArrayType} (w : (Cond.arrayClass (newarray.typeOf aty)).before a0 Z = true) (eT : T.heap = h) (hd : decode c.code pc = .ok (.newarray aty, 2)) {z : Int32} (hz : ¬ z < 0) {cap n : Nat} (hn : z.toNatClampNeg = n) (hcap : n ≤ cap) (hb : cap * 8 ≤ 536870912) (hc : cells + 1 ≤ R.cells) (hl : slots + cap ≤ R.slots) (hp : pc + 2 = pc')
    (q : ∀ T' h' a, a = h.size → Stand p l e R s m args below meth c T' locs (cells + 1) (slots + cap) → T'.heap = h' → Ext h h' → Seq Z h' a (newarray.typeOf aty) (List.replicate n (defaultValue (newarray.typeOf aty))) → Goes p e below T' (mkF m pc' L (.ref a :: S)) P) : Goes p e below T (mkF m pc L (.int z :: S)) P := by
  subst hp
  obtain ⟨T', h', k, X', e', E', A', st⟩ := Jvm.RoadKit.newP X hx hZ w eT (g := mkF m pc L (.int z :: S)) rfl hd rfl hz (cap := cap) (hn ▸ hcap) hb hc hl
  exact Goes.via st (q T' h' _ rfl X' e' E' (Seq.new A' n hn))
theorem G.arraylength (X : Stand p l e R s m args below meth c T locs cells slots) (hx : p.tables.exec = Jvm.exec) (hZ : Z.Warmed39 s.vm) (eT : T.heap = h) (F : Seq Z h a ty vs) (hd : decode c.code pc = .ok (.arraylength, 1)) {z : Int32} (hz : vs.length.toInt32 = z) (hp : pc + 1 = pc') (q : Goes p e below T (mkF m pc' L (.int z :: S)) P) : Goes p e below T (mkF m pc L (.ref a :: S)) P := by
  subst hp
  obtain ⟨cl, A, rfl, hl⟩ := F
  rw [Array.length_toList] at hz
  subst hz
  exact Goes.via (fun t u => X.arraylength hx (by rw [eT]; exact A.1) (State.isArrayOf_alike hZ.alike A.2.1) (g := mkF m pc L (.ref a :: S)) rfl rfl hd t u) q
theorem G.iaload (X : Stand p l e R s m args below meth c T locs cells slots) (hx : p.tables.exec = Jvm.exec) (hZ : Z.Warmed39 s.vm) (eT : T.heap = h) (F : Seq Z h a .int vs) (hd : decode c.code pc = .ok (.iaload, 1)) (hj : ¬ j < 0) (hv : vs[j.toNatClampNeg]? = some v) (hp : pc + 1 = pc') (q : Goes p e below T (mkF m pc' L (v :: S)) P) : Goes p e below T (mkF m pc L (.int j :: .ref a :: S)) P := by
  subst hp
  obtain ⟨cl, q1, q2, q3, q4, q5⟩ := F.at hj hv
  exact Goes.via (fun t u => X.iaload hx (by rw [eT]; exact q1) (State.isArrayOf_alike hZ.alike q2) q3 q4 q5 (g := mkF m pc L (.int j :: .ref a :: S)) rfl rfl hd t u) q
theorem G.laload (X : Stand p l e R s m args below meth c T locs cells slots) (hx : p.tables.exec = Jvm.exec) (hZ : Z.Warmed39 s.vm) (eT : T.heap = h) (F : Seq Z h a .long vs) (hd : decode c.code pc = .ok (.laload, 1)) (hj : ¬ j < 0) (hv : vs[j.toNatClampNeg]? = some v) (hp : pc + 1 = pc') (q : Goes p e below T (mkF m pc' L (v :: S)) P) : Goes p e below T (mkF m pc L (.int j :: .ref a :: S)) P := by
  subst hp
  obtain ⟨cl, q1, q2, q3, q4, q5⟩ := F.at hj hv
  exact Goes.via (fun t u => X.laload hx (by rw [eT]; exact q1) (State.isArrayOf_alike hZ.alike q2) q3 q4 q5 (g := mkF m pc L (.int j :: .ref a :: S)) rfl rfl hd t u) q
theorem G.baload (X : Stand p l e R s m args below meth c T locs cells slots) (hx : p.tables.exec = Jvm.exec) (hZ : Z.Warmed39 s.vm) (eT : T.heap = h) (F : Seq Z h a .byte vs) (hd : decode c.code pc = .ok (.baload, 1)) (hj : ¬ j < 0) (hv : vs[j.toNatClampNeg]? = some v) (hp : pc + 1 = pc') (q : Goes p e below T (mkF m pc' L (v :: S)) P) : Goes p e below T (mkF m pc L (.int j :: .ref a :: S)) P := by
  subst hp
  obtain ⟨cl, q1, q2, q3, q4, q5⟩ := F.at hj hv
  exact Goes.via (fun t u => X.baloadBytes hx (by rw [eT]; exact q1) (State.isArrayOf_alike hZ.alike q2) q3 q4 q5 (g := mkF m pc L (.int j :: .ref a :: S)) rfl rfl hd t u) q
theorem G.zaload (X : Stand p l e R s m args below meth c T locs cells slots) (hx : p.tables.exec = Jvm.exec) (hZ : Z.Warmed39 s.vm) (eT : T.heap = h) (F : Seq Z h a .boolean vs) (hd : decode c.code pc = .ok (.baload, 1)) (hj : ¬ j < 0) (hv : vs[j.toNatClampNeg]? = some v) (hp : pc + 1 = pc') (q : Goes p e below T (mkF m pc' L (v :: S)) P) : Goes p e below T (mkF m pc L (.int j :: .ref a :: S)) P := by
  subst hp
  obtain ⟨cl, q1, q2, q3, q4, q5⟩ := F.at hj hv
  exact Goes.via (fun t u => X.baloadBooleans hx (by rw [eT]; exact q1) (State.isArrayOf_alike hZ.alike q2) q3 q4 q5 (g := mkF m pc L (.int j :: .ref a :: S)) rfl rfl hd t u) q
theorem G.caload (X : Stand p l e R s m args below meth c T locs cells slots) (hx : p.tables.exec = Jvm.exec) (hZ : Z.Warmed39 s.vm) (eT : T.heap = h) (F : Seq Z h a .char vs) (hd : decode c.code pc = .ok (.caload, 1)) (hj : ¬ j < 0) (hv : vs[j.toNatClampNeg]? = some v) (hp : pc + 1 = pc') (q : Goes p e below T (mkF m pc' L (v :: S)) P) : Goes p e below T (mkF m pc L (.int j :: .ref a :: S)) P := by
  subst hp
  obtain ⟨cl, q1, q2, q3, q4, q5⟩ := F.at hj hv
  exact Goes.via (fun t u => X.caload hx (by rw [eT]; exact q1) (State.isArrayOf_alike hZ.alike q2) q3 q4 q5 (g := mkF m pc L (.int j :: .ref a :: S)) rfl rfl hd t u) q
theorem G.aaload (X : Stand p l e R s m args below meth c T locs cells slots) (hx : p.tables.exec = Jvm.exec) (hZ : Z.Warmed39 s.vm) (eT : T.heap = h) (F : Seq Z h a ty vs) (hty : ty.isReference = true) (hd : decode c.code pc = .ok (.aaload, 1)) (hj : ¬ j < 0) (hv : vs[j.toNatClampNeg]? = some v) (hp : pc + 1 = pc') (q : Goes p e below T (mkF m pc' L (v :: S)) P) : Goes p e below T (mkF m pc L (.int j :: .ref a :: S)) P := by
  subst hp
  obtain ⟨cl, q1, q2, q3, q4, q5⟩ := F.at hj hv
  exact Goes.via (fun t u => X.aaload hx (by rw [eT]; exact q1) (State.isArrayOf_alike hZ.alike q2) hty q3 q4 q5 (g := mkF m pc L (.int j :: .ref a :: S)) rfl rfl hd t u) q
theorem G.iastore (X : Stand p l e R s m args below meth c T locs cells slots) (hx : p.tables.exec = Jvm.exec) (hZ : Z.Warmed39 s.vm) (eT : T.heap = h) (F : Seq Z h a .int vs) {x : Int32} (hd : decode c.code pc = .ok (.iastore, 1)) (hj : ¬ j < 0) (hi : j.toNatClampNeg < vs.length) (hp : pc + 1 = pc')
    (q : ∀ T' h', Stand p l e R s m args below meth c T' (locs ++ [⟨a, j.toNatClampNeg⟩]) cells slots → T'.heap = h' → Wr h h' a j.toNatClampNeg (.int x) → Seq Z h' a .int (vs.set j.toNatClampNeg (.int x)) → Goes p e below T' (mkF m pc' L S) P) : Goes p e below T (mkF m pc L (.int x :: .int j :: .ref a :: S)) P := by
  subst hp
  obtain ⟨cl, A, hj'⟩ := F.inb hj hi
  obtain ⟨T', h', X', e', W', st⟩ := Jvm.RoadKit.stI X hx hZ eT A hj' (g := mkF m pc L (.int x :: .int j :: .ref a :: S)) rfl rfl hd
  exact Goes.via st (q T' h' X' e' W' (F.set W'))
theorem G.lastore (X : Stand p l e R s m args below meth c T locs cells slots) (hx : p.tables.exec = Jvm.exec) (hZ : Z.Warmed39 s.vm) (eT : T.heap = h) (F : Seq Z h a .long vs) {x : Int64} (hd : decode c.code pc = .ok (.lastore, 1)) (hj : ¬ j < 0) (hi : j.toNatClampNeg < vs.length) (hp : pc + 1 = pc')
    (q : ∀ T' h', Stand p l e R s m args below meth c T' (locs ++ [⟨a, j.toNatClampNeg⟩]) cells slots → T'.heap = h' → Wr h h' a j.toNatClampNeg (.long x) → Seq Z h' a .long (vs.set j.toNatClampNeg (.long x)) → Goes p e below T' (mkF m pc' L S) P) : Goes p e below T (mkF m pc L (.long x :: .int j :: .ref a :: S)) P := by
  subst hp
  obtain ⟨cl, A, hj'⟩ := F.inb hj hi
  obtain ⟨T', h', X', e', W', st⟩ := Jvm.RoadKit.stJ X hx hZ eT A hj' (g := mkF m pc L (.long x :: .int j :: .ref a :: S)) rfl rfl hd
  exact Goes.via st (q T' h' X' e' W' (F.set W'))
theorem G.bastore (X : Stand p l e R s m args below meth c T locs cells slots) (hx : p.tables.exec = Jvm.exec) (hZ : Z.Warmed39 s.vm) (eT : T.heap = h) (F : Seq Z h a .byte vs) {x : Int32} (hd : decode c.code pc = .ok (.bastore, 1)) (hj : ¬ j < 0) (hi : j.toNatClampNeg < vs.length) (hp : pc + 1 = pc')
    (q : ∀ T' h', Stand p l e R s m args below meth c T' (locs ++ [⟨a, j.toNatClampNeg⟩]) cells slots → T'.heap = h' → Wr h h' a j.toNatClampNeg (.int (nar .byte x)) → Seq Z h' a .byte (vs.set j.toNatClampNeg (.int (nar .byte x))) → Goes p e below T' (mkF m pc' L S) P) : Goes p e below T (mkF m pc L (.int x :: .int j :: .ref a :: S)) P := by
  subst hp
  obtain ⟨cl, A, hj'⟩ := F.inb hj hi
  obtain ⟨T', h', X', e', W', st⟩ := Jvm.RoadKit.stB X hx hZ eT A hj' (g := mkF m pc L (.int x :: .int j :: .ref a :: S)) rfl rfl hd
  exact Goes.via st (q T' h' X' e' W' (F.set W'))
theorem G.zastore (X : Stand p l e R s m args below meth c T locs cells slots) (hx : p.tables.exec = Jvm.exec) (hZ : Z.Warmed39 s.vm) (eT : T.heap = h) (F : Seq Z h a .boolean vs) {x : Int32} (hd : decode c.code pc = .ok (.bastore, 1)) (hj : ¬ j < 0) (hi : j.toNatClampNeg < vs.length) (hp : pc + 1 = pc')
    (q : ∀ T' h', Stand p l e R s m args below meth c T' (locs ++ [⟨a, j.toNatClampNeg⟩]) cells slots → T'.heap = h' → Wr h h' a j.toNatClampNeg (.int (nar .boolean x)) → Seq Z h' a .boolean (vs.set j.toNatClampNeg (.int (nar .boolean x))) → Goes p e below T' (mkF m pc' L S) P) : Goes p e below T (mkF m pc L (.int x :: .int j :: .ref a :: S)) P := by
  subst hp
  obtain ⟨cl, A, hj'⟩ := F.inb hj hi
  obtain ⟨T', h', X', e', W', st⟩ := Jvm.RoadKit.stZ X hx hZ eT A hj' (g := mkF m pc L (.int x :: .int j :: .ref a :: S)) rfl rfl hd
  exact Goes.via st (q T' h' X' e' W' (F.set W'))
theorem G.castore (X : Stand p l e R s m args below meth c T locs cells slots) (hx : p.tables.exec = Jvm.exec) (hZ : Z.Warmed39 s.vm) (eT : T.heap = h) (F : Seq Z h a .char vs) {x : Int32} (hd : decode c.code pc = .ok (.castore, 1)) (hj : ¬ j < 0) (hi : j.toNatClampNeg < vs.length) (hp : pc + 1 = pc')
    (q : ∀ T' h', Stand p l e R s m args below meth c T' (locs ++ [⟨a, j.toNatClampNeg⟩]) cells slots → T'.heap = h' → Wr h h' a j.toNatClampNeg (.int (nar .char x)) → Seq Z h' a .char (vs.set j.toNatClampNeg (.int (nar .char x))) → Goes p e below T' (mkF m pc' L S) P) : Goes p e below T (mkF m pc L (.int x :: .int j :: .ref a :: S)) P := by
  subst hp
  obtain ⟨cl, A, hj'⟩ := F.inb hj hi
  obtain ⟨T', h', X', e', W', st⟩ := Jvm.RoadKit.stC X hx hZ eT A hj' (g := mkF m pc L (.int x :: .int j :: .ref a :: S)) rfl rfl hd
  exact Goes.via st (q T' h' X' e' W' (F.set W'))
variable {y : MethodName} {bytes : ByteArray} {maxL : Nat} {ret : Option FieldType} {rm : Room} {argsL S0 : List Value} {W : Nat} {QQ : Option Value → Heap → List Loc → Prop}
theorem G.callS (X : Stand p l e R s m args below meth c T locs cells slots) (hx : p.tables.exec = Jvm.exec) (hZ : Z.Warmed39 s.vm) {own : String} {index : Nat} (hown : s.vm.findClass own = some m.cls) (w1 : (Cond.methodLink own index y).before a0 Z = true) (w2 : (Cond.static y).before a0 Z = true) (w3 : (Cond.initialized y.cls).before a0 Z = true) (w4 : (Cond.code y bytes maxL ret).before a0 Z = true)
    (hy : y.cls ≠ "java/lang/invoke/MethodHandle" ∧ y.cls ≠ "java/lang/invoke/VarHandle") (eT : T.heap = h) (hC : Con l y bytes maxL ret rm Z argsL.toArray h QQ) (hlen : ∀ sig, parseMethodDescriptor y.desc = some sig → argsL.length = sig.parameters.length) (hst : S0 = argsL.reverse ++ S) (hW : (S.map fun v => v.category).sum ≤ W)
    (hf : rm.frames + 1 ≤ R.frames) (hl : W + (maxL + 11) + rm.locals ≤ R.locals) (hc : cells + rm.cells ≤ R.cells) (hs : slots + rm.slots ≤ R.slots) (hsz : L.size = c.maxLocals) (hd : decode c.code pc = .ok (.invokestatic index, 3)) (hp : pc + 3 = pc')
    (q : ∀ T' v Lc, QQ v T'.heap Lc → Stand p l e R s m args below meth c T' (locs ++ Lc) (cells + rm.cells) (slots + rm.slots) → Goes p e below T' (mkF m pc' L (v.toList ++ S)) P) : Goes p e below T (mkF m pc L S0) P := by
  subst hp
  obtain ⟨v, vm1, ⟨T', L1, k1, n1⟩, hw1, X', ⟨Lc, hQ, l1, y1, z1⟩, st⟩ := Jvm.LawKit.callS X hx (y := y) hown (mvT hZ w1) (mvT hZ w2) (mvT hZ w3) (mvT hZ w4) hy (hC.back (W := W) hZ w4 w3 hf hl) (g := mkF m pc L S0) rfl hsz (argsL := argsL) (rest := S) hlen hst (by show 2 * 0 + _ ≤ _; omega) hd (fun _ _ => ⟨rfl, eT, hc, hs⟩)
  dsimp only [Pt.U, Pt.locs, Pt.cells, Pt.slots] at X' l1 y1 z1 st hQ
  subst l1 y1 z1
  exact Goes.via st (q T' v Lc hQ X')
theorem G.callI (X : Stand p l e R s m args below meth c T locs cells slots) (hx : p.tables.exec = Jvm.exec) (hZ : Z.Warmed39 s.vm) {own : String} {index : Nat} (hy1 : y.name = "<init>") (hown : s.vm.findClass own = some m.cls) (w1 : (Cond.methodLink own index y).before a0 Z = true) (w2 : (Cond.instanceMethod y).before a0 Z = true) (w3 : (Cond.initialized y.cls).before a0 Z = true) (w4 : (Cond.code y bytes maxL none).before a0 Z = true)
    (hy : y.cls ≠ "java/lang/invoke/MethodHandle" ∧ y.cls ≠ "java/lang/invoke/VarHandle") (eT : T.heap = h) (hC : Con l y bytes maxL none rm Z (.ref a :: argsL).toArray h QQ) (hlen : ∀ sig, parseMethodDescriptor y.desc = some sig → argsL.length = sig.parameters.length) (hst : S0 = argsL.reverse ++ .ref a :: S) (hW : (S.map fun v => v.category).sum ≤ W)
    (hf : rm.frames + 1 ≤ R.frames) (hl : W + (maxL + 11) + rm.locals ≤ R.locals) (hc : cells + rm.cells ≤ R.cells) (hs : slots + rm.slots ≤ R.slots) (hsz : L.size = c.maxLocals) (hd : decode c.code pc = .ok (.invokespecial index, 3)) (hp : pc + 3 = pc')
    (q : ∀ T' v Lc, QQ v T'.heap Lc → Stand p l e R s m args below meth c T' (locs ++ Lc) (cells + rm.cells) (slots + rm.slots) → Goes p e below T' (mkF m pc' L (v.toList ++ S)) P) : Goes p e below T (mkF m pc L S0) P := by
  subst hp
  obtain ⟨v, vm1, ⟨T', L1, k1, n1⟩, hw1, X', ⟨Lc, hQ, l1, y1, z1⟩, st⟩ := X.specialBack hx (y := y) hy1 hown (mvT hZ w1) (mvT hZ w2) (mvT hZ w4) hy (hC.back (W := W) hZ w4 w3 hf hl) (g := mkF m pc L S0) rfl hsz (Steps.refl _) (a := a) (argsL := argsL) (rest := S) hlen hst (by show 2 * 0 + _ ≤ _; omega) hd (fun _ _ => ⟨rfl, eT, hc, hs⟩)
  dsimp only [Pt.U, Pt.locs, Pt.cells, Pt.slots] at X' l1 y1 z1 st hQ
  subst l1 y1 z1
  exact Goes.thru st (q T' v Lc hQ X')
theorem G.callV (X : Stand p l e R s m args below meth c T locs cells slots) (hx : p.tables.exec = Jvm.exec) (hZ : Z.Warmed39 s.vm) {own C : String} {index : Nat} {y0 : MethodName} (hown : s.vm.findClass own = some m.cls) (w1 : (Cond.methodLink own index y0).before a0 Z = true) (w2 : (Cond.declares y0).before a0 Z = true) (hnf : NotFace s y0) (w3 : (Cond.selects C y0 y).before a0 Z = true) (w4 : (Cond.instanceMethod y).before a0 Z = true) (w5 : (Cond.initialized y.cls).before a0 Z = true) (w6 : (Cond.code y bytes maxL ret).before a0 Z = true)
    (hy : y0.cls ≠ "java/lang/invoke/MethodHandle" ∧ y0.cls ≠ "java/lang/invoke/VarHandle") (eT : T.heap = h) (E : Exa Z h a C) (hC : Con l y bytes maxL ret rm Z (.ref a :: argsL).toArray h QQ) (hlen : ∀ sig, parseMethodDescriptor y0.desc = some sig → argsL.length = sig.parameters.length) (hst : S0 = argsL.reverse ++ .ref a :: S) (hW : (S.map fun v => v.category).sum ≤ W)
    (hf : rm.frames + 1 ≤ R.frames) (hl : W + (maxL + 11) + rm.locals ≤ R.locals) (hc : cells + rm.cells ≤ R.cells) (hs : slots + rm.slots ≤ R.slots) (hsz : L.size = c.maxLocals) (hd : decode c.code pc = .ok (.invokevirtual index, 3)) (hp : pc + 3 = pc')
    (q : ∀ T' v Lc, QQ v T'.heap Lc → Stand p l e R s m args below meth c T' (locs ++ Lc) (cells + rm.cells) (slots + rm.slots) → Goes p e below T' (mkF m pc' L (v.toList ++ S)) P) : Goes p e below T (mkF m pc L S0) P := by
  subst hp
  obtain ⟨cB, kB, i1, i2, i3⟩ := isOf hZ eT E
  obtain ⟨v, vm1, ⟨T', L1, k1, n1⟩, hw1, X', ⟨Lc, hQ, l1, y1, z1⟩, st⟩ := X.virtualBack hx (y := y0) (z := y) hown (mvT hZ w1) (mvT hZ w2) hnf (mvT hZ w3) (mvT hZ w4) hy (hC.back (W := W) hZ w6 w5 hf hl) i1 i3 (g := mkF m pc L S0) rfl hsz (Steps.refl _) (argsL := argsL) (rest := S) hlen hst (by show 2 * 0 + _ ≤ _; omega) hd (fun _ _ => ⟨rfl, eT, hc, hs⟩)
  dsimp only [Pt.U, Pt.locs, Pt.cells, Pt.slots] at X' l1 y1 z1 st hQ
  subst l1 y1 z1
  exact Goes.thru st (q T' v Lc hQ X')
def Pur (v0 : Option Value) (h0 : Heap) (v : Option Value) (h : Heap) (L : List Loc) : Prop := v = v0 ∧ h = h0 ∧ L = []
theorem Seq.arv (F : Seq Z h a ty vs) (hf : ∀ v ∈ vs, fits ty v = true) {z : Int32} (hz : z.toNatClampNeg = vs.length) (hz0 : ¬ z < 0) (dv : Value) : ∃ k, Arv Z h a k ty z vs dv := by
  obtain ⟨cl, A, rfl, hl⟩ := F
  rw [Array.length_toList] at hz
  have hg : ∀ i, i < cl.slots.size → cl.slots[i]? = some (cl.slots.toList.getD i dv) := fun i hi => by
    rw [List.getD_eq_getElem?_getD, Array.getElem?_toList, Array.getElem?_eq_getElem hi]; rfl
  refine ⟨cl.cls, cl, A, rfl, hz.symm, hz0, hg, fun i hi => hf _ ?_⟩
  have := hg i hi
  rw [Array.getElem?_eq_getElem hi] at this
  rw [← Option.some.inj this]
  exact Array.mem_toList_iff.mpr (Array.getElem_mem hi)
theorem Arv.seq {k : ClassId} {z : Int32} {dv : Value} (F : Arv Z h a k ty z vs dv) (hl : vs.length = z.toNatClampNeg) : Seq Z h a ty vs := by
  obtain ⟨cl, A, -, S, hz, H, -⟩ := F
  refine ⟨cl, A, ?_, ?_⟩
  · apply List.ext_getElem?
    intro i
    rw [Array.getElem?_toList]
    by_cases hi : i < cl.slots.size
    · rw [H i hi, List.getD_eq_getElem?_getD, List.getElem?_eq_getElem (by omega)]; rfl
    · rw [Array.getElem?_eq_none (by omega), List.getElem?_eq_none (by omega)]
  · have := Int32.toInt_lt z
    rw [hl]; simp only [Int32.toNatClampNeg]; omega
/-- System.arraycopy of the whole int[] a into the head of the int[] b -/
theorem G.copyInts (X : Stand p l e R s m args below meth c T locs cells slots) (hx : p.tables.exec = Jvm.exec) (hZ : Z.Warmed39 s.vm) {own : String} {index : Nat} (hown : s.vm.findClass own = some m.cls) (w1 : (Cond.methodLink own index Jvm.Stand.acN).before a0 Z = true) (w2 : (Cond.native Jvm.Stand.acN).before a0 Z = true) (w3 : (Cond.static Jvm.Stand.acN).before a0 Z = true) (w4 : (Cond.initialized "java/lang/System").before a0 Z = true) (eT : T.heap = h)
    {xs ys : List Value} (A : Seq Z h a .int xs) (B : Seq Z h b .int ys) (hfx : ∀ v ∈ xs, fits .int v = true) (hfy : ∀ v ∈ ys, fits .int v = true) {z z' : Int32} (hz : z.toNatClampNeg = xs.length) (hz0 : ¬ z < 0) (hz' : z'.toNatClampNeg = ys.length) (hz0' : ¬ z' < 0) (hle : xs.length ≤ ys.length) {n0 : Nat} (N : Fr n0 locs) (ge : n0 ≤ b)
    (hsz : L.size = c.maxLocals) (hd : decode c.code pc = .ok (.invokestatic index, 3)) (hf : 1 ≤ R.frames) {W : Nat} (hW : (S.map fun v => v.category).sum ≤ W) (hlo : W + (nativeFrameWords "java/lang/System" "arraycopy" 5 + 11) ≤ R.locals) (hp : pc + 3 = pc')
    (q : ∀ T' h' L', Stand p l e R s m args below meth c T' L' cells slots → T'.heap = h' → Fr n0 L' → Keep h h' [b] → Seq Z h' b .int (xs ++ ys.drop xs.length) → Goes p e below T' (mkF m pc' L S) P) : Goes p e below T (mkF m pc L (.int z :: .int (0 : Int32) :: .ref b :: .int (0 : Int32) :: .ref a :: S)) P := by
  subst hp
  obtain ⟨ka, FA⟩ := A.arv hfx hz hz0 (.int 0)
  obtain ⟨kb, FB⟩ := B.arv hfy hz' hz0' (.int 0)
  have e0 : (0 : Int32).toNatClampNeg = 0 := rfl
  have hus : xs = (List.range z.toNatClampNeg).map fun i => xs.getD ((0 : Int32).toNatClampNeg + i) (.int 0) := by
    refine List.ext_getElem (by simp [hz]) fun i h1 h2 => ?_
    simp [List.getD_eq_getElem?_getD, h1, e0]
  obtain ⟨T', h', L', X', e', N', K', F', st⟩ := Jvm.RoadKit.cpA X hx hZ hown w1 w2 w3 w4 eT (us := xs) FA FB (Or.inl ⟨rfl, rfl⟩) (sp := 0) (dp := 0) (nn := z) (by decide) (by decide) hz0 (by rw [e0]; omega) (by rw [e0]; omega) hus (by rw [e0]; omega) N ge (g := mkF m pc L (.int z :: .int (0 : Int32) :: .ref b :: .int (0 : Int32) :: .ref a :: S)) rfl hsz rfl hd hf (W := W) (by show 2 * 0 + _ ≤ _; omega) hlo
  refine Goes.via st (q T' h' L' X' e' N' K' ?_)
  have := Arv.seq F' (by rw [e0]; simp; omega)
  rw [e0, hz] at this
  simpa using this
theorem sel_priv {s : State} {args : Array Value} {n : Nat} (hins : (Cond.instantiable y.cls n).before args s = true) (hpriv : (Cond.privateMethod y).before args s = true) (hinst : (Cond.instanceMethod y).before args s = true) (hy : y.cls ≠ "java/lang/invoke/MethodHandle" ∧ y.cls ≠ "java/lang/invoke/VarHandle") : (Cond.selects y.cls y y).before args s = true := by
  obtain ⟨c, k, hc, hk, -, hniab, -, -⟩ := Cond.instantiable_spec hins
  have hni : k.isInterface = false := (Bool.or_eq_false_iff.mp hniab).1
  obtain ⟨mk, methM, hnamed, hmethM, -, -⟩ := Cond.instanceMethod_spec hinst
  have hfound : s.methodFound? y.cls y.name y.desc = some mk := State.methodFound?_of_named hnamed hy
  have hcls : mk.cls = c := Option.some.inj ((findClass_of_methodNamed hnamed).symm.trans hc)
  have hsel : selectMethod {} s.vm c mk = .method mk := selectMethod_private hmethM (Cond.privateMethod_at hpriv mk methM hnamed hmethM)
  simp only [Cond.before, Cond.holds, Cond.value, hc, hfound, hnamed, hsel, hcls, hk]
  simp; exact hni
theorem G.callP (X : Stand p l e R s m args below meth c T locs cells slots) (hx : p.tables.exec = Jvm.exec) (hZ : Z.Warmed39 s.vm) {own : String} {index : Nat} (hown : s.vm.findClass own = some m.cls) (w1 : (Cond.methodLink own index y).before a0 Z = true) (w2 : (Cond.instanceMethod y).before a0 Z = true) {kk : Nat} (w3 : (Cond.instantiable y.cls kk).before a0 Z = true) (w4 : (Cond.privateMethod y).before a0 Z = true) (w5 : (Cond.initialized y.cls).before a0 Z = true) (w6 : (Cond.code y bytes maxL ret).before a0 Z = true)
    (hy : y.cls ≠ "java/lang/invoke/MethodHandle" ∧ y.cls ≠ "java/lang/invoke/VarHandle") (eT : T.heap = h) {C : String} (E : Exa Z h a C) (hC : Con l y bytes maxL ret rm Z (.ref a :: argsL).toArray h QQ) (hlen : ∀ sig, parseMethodDescriptor y.desc = some sig → argsL.length = sig.parameters.length) (hst : S0 = argsL.reverse ++ .ref a :: S) (hW : (S.map fun v => v.category).sum ≤ W)
    (hf : rm.frames + 1 ≤ R.frames) (hl : W + (maxL + 11) + rm.locals ≤ R.locals) (hc : cells + rm.cells ≤ R.cells) (hs : slots + rm.slots ≤ R.slots) (hsz : L.size = c.maxLocals) (hd : decode c.code pc = .ok (.invokevirtual index, 3)) (hp : pc + 3 = pc')
    (q : ∀ T' v Lc, QQ v T'.heap Lc → Stand p l e R s m args below meth c T' (locs ++ Lc) (cells + rm.cells) (slots + rm.slots) → Goes p e below T' (mkF m pc' L (v.toList ++ S)) P) : Goes p e below T (mkF m pc L S0) P := by
  subst hp
  obtain ⟨cl, i1, i2⟩ := E.cell
  obtain ⟨v, vm1, ⟨T', L1, k1, n1⟩, hw1, X', ⟨Lc, hQ, l1, y1, z1⟩, st⟩ := X.privateBack hx (y := y) hown (mvT hZ w1) (mvT hZ w2) (sel_priv (mvT hZ w3) (mvP hZ w4) (mvT hZ w2) hy) (Cond.privateMethod_at (mvP hZ w4 (args := #[]))) (mvT hZ w6) hy (hC.back (W := W) hZ w6 w5 hf hl) (g := mkF m pc L S0) rfl hsz (Steps.refl _) (a := a) (by rw [eT]; exact i1) i2 (argsL := argsL) (rest := S) hlen hst (by show 2 * 0 + _ ≤ _; omega) hd (fun _ _ => ⟨rfl, eT, hc, hs⟩)
  dsimp only [Pt.U, Pt.locs, Pt.cells, Pt.slots] at X' l1 y1 z1 st hQ
  subst l1 y1 z1
  exact Goes.thru st (q T' v Lc hQ X')
theorem Sta.keep0 {C n d : String} (F : Sta Z h C n d v) (K : Keep h h' []) : Sta Z h' C n d v := by
  obtain ⟨cf, i, k, f, st, cell, h1, h2, h3, h4, h5, r⟩ := F
  exact ⟨cf, i, k, f, st, cell, h1, h2, h3, h4, K.2.1 _ _ h5 nin0, r⟩
theorem Goes.join {α : Type} {F : α → JFrame} (k : (∀ z, Goes p e below T (F z) P) → Goes p e below T f P) (hj : ∀ z, Goes p e below T (F z) P) : Goes p e below T f P := k hj
theorem Goes.to (k : Goes p e below T f' P → Goes p e below T f P) (q : Goes p e below T f' P) : Goes p e below T f P := k q
theorem Goes.toT (Φ : State → Prop) (k : (∀ T', Φ T' → Goes p e below T' f' P) → Goes p e below T f P) (q : ∀ T', Φ T' → Goes p e below T' f' P) : Goes p e below T f P := k q
theorem ns_root {O K : String} {n : Nat} (w : (Cond.noSuperclass O).before a0 Z = true) (wk : (Cond.instantiable K n).before a0 Z = true) (hn : O ≠ K) : NS Z O K := by
  obtain ⟨c, k, h1, h2, h3, -, -⟩ := Cond.noSuperclass_spec w
  obtain ⟨t, kt, g1, -⟩ := Cond.instantiable_spec wk
  have ne := ids_ne h1 g1 hn
  refine ⟨c, t, h1, g1, fun fuel => ?_⟩
  cases fuel with
  | zero => rfl
  | succ f => simp [Vm.isSubclassAux, ne, h2, h3]
theorem ns_no {C K S : String} {n : Nat} (w : (Cond.superclass C S).before a0 Z = true) (wk : (Cond.instantiable K n).before a0 Z = true) (N : NS Z C K) (hn : C ≠ K) : ∃ c t, Z.vm.findClass C = some c ∧ Z.vm.findClass K = some t ∧ Z.vm.assignable c t = false := by
  obtain ⟨c, t, h0, g0, n3⟩ := N
  obtain ⟨p, k, kp, h1, h2, h3, h4, h5, -, h7⟩ := Cond.superclass_spec h0 w
  obtain ⟨t', k', g1, g2, g3, g4, -⟩ := Cond.instantiable_spec wk
  cases g0.symm.trans g1
  have g7 : k'.isInterface = false := (Bool.or_eq_false_iff.mp g4).1
  have ne := ids_ne h0 g0 hn
  refine ⟨c, t, h0, g0, ?_⟩
  show Z.vm.assignableAux (255 + 1) c t = false
  simp [Vm.assignableAux, ne, h2, g2, h5, g3, g7, Vm.isSubclass, n3]
theorem G.instY (X : Stand p l e R s m args below meth c T locs cells slots) (hx : p.tables.exec = Jvm.exec) (hZ : Z.Warmed39 s.vm) {own K : String} {index : Nat} (hown : s.vm.findClass own = some m.cls) (w : (Cond.classLink own index K).before a0 Z = true) (eT : T.heap = h) (F : Ins Z h a K true) (hd : decode c.code pc = .ok (.instanceof index, 3)) (hp : pc + 3 = pc')
    (q : ∀ T', Stand p l e R s m args below meth c T' locs cells slots → T'.heap = h → Goes p e below T' (mkF m pc' L (.int (1 : Int32) :: S)) P) : Goes p e below T (mkF m pc L (.ref a :: S)) P := by
  subst hp
  obtain ⟨T', X', e', st⟩ := Jvm.RoadKit.instY X hx hZ hown w eT F (g := mkF m pc L (.ref a :: S)) rfl rfl hd
  exact Goes.via st (q T' X' e')
theorem G.castY (X : Stand p l e R s m args below meth c T locs cells slots) (hx : p.tables.exec = Jvm.exec) (hZ : Z.Warmed39 s.vm) {own K : String} {index : Nat} (hown : s.vm.findClass own = some m.cls) (w : (Cond.classLink own index K).before a0 Z = true) (eT : T.heap = h) (F : Ins Z h a K true) (hd : decode c.code pc = .ok (.checkcast index, 3)) (hp : pc + 3 = pc')
    (q : ∀ T', Stand p l e R s m args below meth c T' locs cells slots → T'.heap = h → Goes p e below T' (mkF m pc' L (.ref a :: S)) P) : Goes p e below T (mkF m pc L (.ref a :: S)) P := by
  subst hp
  obtain ⟨T', X', e', st⟩ := Jvm.RoadKit.castY X hx hZ hown w eT F (g := mkF m pc L (.ref a :: S)) rfl rfl hd
  exact Goes.via st (q T' X' e')
theorem G.instNo (X : Stand p l e R s m args below meth c T locs cells slots) (hx : p.tables.exec = Jvm.exec) (hZ : Z.Warmed39 s.vm) {own K C : String} {index : Nat} (hown : s.vm.findClass own = some m.cls) (w : (Cond.classLink own index K).before a0 Z = true) (eT : T.heap = h) (E : Exa Z h a C) (F : ∃ c t, Z.vm.findClass C = some c ∧ Z.vm.findClass K = some t ∧ Z.vm.assignable c t = false) (hd : decode c.code pc = .ok (.instanceof index, 3)) (hp : pc + 3 = pc')
    (q : ∀ T', Stand p l e R s m args below meth c T' locs cells slots → T'.heap = h → Goes p e below T' (mkF m pc' L (.int (0 : Int32) :: S)) P) : Goes p e below T (mkF m pc L (.ref a :: S)) P := by
  subst hp
  obtain ⟨T', X', e', st⟩ := Jvm.RoadKit.instNo X hx hZ hown w eT E F (g := mkF m pc L (.ref a :: S)) rfl rfl hd
  exact Goes.via st (q T' X' e')
theorem G.instNull (X : Stand p l e R s m args below meth c T locs cells slots) (hx : p.tables.exec = Jvm.exec) {index : Nat} (hd : decode c.code pc = .ok (.instanceof index, 3)) (hp : pc + 3 = pc') (q : Goes p e below T (mkF m pc' L (.int (0 : Int32) :: S)) P) : Goes p e below T (mkF m pc L (.null :: S)) P := by
  subst hp
  exact Goes.via (X.instanceofNull hx (g := mkF m pc L (.null :: S)) rfl rfl hd) q
end G
end Jvm.OwnKit
namespace Jvm.Pilot.@@N@@
open Jvm Jvm.ClassFile Sem Op Lib Jvm.Free Jvm.Stand Jvm.LawKit Jvm.RoadKit Jvm.OwnKit Bundle Jvm.Pilot.@@N@@.Jvm.D
theorem d2_0 : decode jdk_30_method_1_code 0 = .ok (.aload_n 0, 1) := by decide +kernel
theorem d2_1 : decode jdk_30_method_1_code 1 = .ok (.invokespecial 1, 3) := by decide +kernel
theorem d2_4 : decode jdk_30_method_1_code 4 = .ok (.return_, 1) := by decide +kernel
theorem ef2_R (m : MethodId) (x0 : Addr) : entryFrame m #[(.ref x0)] 1 = mkF m 0 #[.val (.ref x0)] [] := by first | (simp [entryFrame, mkF, argsToLocals, Value.category]; done) | rfl
theorem pn_0 : plainName "java/lang/Record" = true := by first | (simp [plainName, overriddenIn]; done) | decide +kernel
theorem d7_0 : decode jdk_18_method_1_code 0 = .ok (.aload_n 0, 1) := by decide +kernel
theorem d7_1 : decode jdk_18_method_1_code 1 = .ok (.invokespecial 1, 3) := by decide +kernel
theorem d7_4 : decode jdk_18_method_1_code 4 = .ok (.return_, 1) := by decide +kernel
theorem ef7_R (m : MethodId) (x0 : Addr) : entryFrame m #[(.ref x0)] 1 = mkF m 0 #[.val (.ref x0)] [] := by first | (simp [entryFrame, mkF, argsToLocals, Value.category]; done) | rfl
theorem pn_1 : plainName "java/lang/Number" = true := by first | (simp [plainName, overriddenIn]; done) | decide +kernel
theorem d6_0 : decode jdk_35_method_26_code 0 = .ok (.aload_n 0, 1) := by decide +kernel
theorem pd_2 : parseMethodDescriptor "()V" = some ⟨[], none⟩ := by decide +kernel
theorem d6_1 : decode jdk_35_method_26_code 1 = .ok (.invokespecial 270, 3) := by decide +kernel
theorem d6_4 : decode jdk_35_method_26_code 4 = .ok (.aload_n 0, 1) := by decide +kernel
theorem d6_5 : decode jdk_35_method_26_code 5 = .ok (.lload_n 1, 1) := by decide +kernel
theorem d6_6 : decode jdk_35_method_26_code 6 = .ok (.putfield 273, 3) := by decide +kernel
theorem d6_9 : decode jdk_35_method_26_code 9 = .ok (.return_, 1) := by decide +kernel
theorem ef6_RJ (m : MethodId) (x0 : Addr) (x1 : Int64) : entryFrame m #[(.ref x0), (.long x1)] 3 = mkF m 0 #[.val (.ref x0), .val (.long x1), .second] [] := by first | (simp [entryFrame, mkF, argsToLocals, Value.category]; done) | rfl
theorem pn_3 : plainName "java/lang/Long" = true := by first | (simp [plainName, overriddenIn]; done) | decide +kernel
theorem d5_0 : decode jdk_35_method_24_code 0 = .ok (.sipush 128, 3) := by decide +kernel
theorem d5_3 : decode jdk_35_method_24_code 3 = .ok (.istore_n 2, 1) := by decide +kernel
theorem d5_4 : decode jdk_35_method_24_code 4 = .ok (.lload_n 0, 1) := by decide +kernel
theorem d5_5 : decode jdk_35_method_24_code 5 = .ok (.ldc2_w 230, 3) := by decide +kernel
theorem d5_8 : decode jdk_35_method_24_code 8 = .ok (.lcmp, 1) := by decide +kernel
theorem d5_9 : decode jdk_35_method_24_code 9 = .ok (.ifCond .lt 22, 3) := by decide +kernel
theorem d5_31 : decode jdk_35_method_24_code 31 = .ok (.new 1, 3) := by decide +kernel
theorem d5_34 : decode jdk_35_method_24_code 34 = .ok (.dup, 1) := by decide +kernel
theorem d5_35 : decode jdk_35_method_24_code 35 = .ok (.lload_n 0, 1) := by decide +kernel
theorem pd_4 : parseMethodDescriptor "(J)V" = some ⟨[.long], none⟩ := by decide +kernel
theorem d5_36 : decode jdk_35_method_24_code 36 = .ok (.invokespecial 240, 3) := by decide +kernel
theorem d5_39 : decode jdk_35_method_24_code 39 = .ok (.areturn, 1) := by decide +kernel
theorem d5_12 : decode jdk_35_method_24_code 12 = .ok (.lload_n 0, 1) := by decide +kernel
theorem d5_13 : decode jdk_35_method_24_code 13 = .ok (.ldc2_w 232, 3) := by decide +kernel
theorem d5_16 : decode jdk_35_method_24_code 16 = .ok (.lcmp, 1) := by decide +kernel
theorem d5_17 : decode jdk_35_method_24_code 17 = .ok (.ifCond .gt 14, 3) := by decide +kernel
theorem d5_20 : decode jdk_35_method_24_code 20 = .ok (.getstatic 234, 3) := by decide +kernel
theorem d5_23 : decode jdk_35_method_24_code 23 = .ok (.lload_n 0, 1) := by decide +kernel
theorem d5_24 : decode jdk_35_method_24_code 24 = .ok (.l2i, 1) := by decide +kernel
theorem d5_25 : decode jdk_35_method_24_code 25 = .ok (.sipush 128, 3) := by decide +kernel
theorem d5_28 : decode jdk_35_method_24_code 28 = .ok (.iadd, 1) := by decide +kernel
theorem d5_29 : decode jdk_35_method_24_code 29 = .ok (.aaload, 1) := by decide +kernel
theorem d5_30 : decode jdk_35_method_24_code 30 = .ok (.areturn, 1) := by decide +kernel
theorem ef5_J (m : MethodId) (x0 : Int64) : entryFrame m #[(.long x0)] 3 = mkF m 0 #[.val (.long x0), .second, .unset] [] := by first | (simp [entryFrame, mkF, argsToLocals, Value.category]; done) | rfl
theorem d1_0 : decode prog_2_method_1_code 0 = .ok (.aload_n 0, 1) := by decide +kernel
theorem d1_1 : decode prog_2_method_1_code 1 = .ok (.invokespecial 1, 3) := by decide +kernel
theorem d1_4 : decode prog_2_method_1_code 4 = .ok (.aload_n 0, 1) := by decide +kernel
theorem d1_5 : decode prog_2_method_1_code 5 = .ok (.lload_n 1, 1) := by decide +kernel
theorem d1_6 : decode prog_2_method_1_code 6 = .ok (.putfield 7, 3) := by decide +kernel
theorem d1_9 : decode prog_2_method_1_code 9 = .ok (.aload_n 0, 1) := by decide +kernel
theorem d1_10 : decode prog_2_method_1_code 10 = .ok (.lload_n 3, 1) := by decide +kernel
theorem d1_11 : decode prog_2_method_1_code 11 = .ok (.putfield 13, 3) := by decide +kernel
theorem d1_14 : decode prog_2_method_1_code 14 = .ok (.return_, 1) := by decide +kernel
theorem ef1_RJJ (m : MethodId) (x0 : Addr) (x1 : Int64) (x2 : Int64) : entryFrame m #[(.ref x0), (.long x1), (.long x2)] 5 = mkF m 0 #[.val (.ref x0), .val (.long x1), .second, .val (.long x2), .second] [] := by first | (simp [entryFrame, mkF, argsToLocals, Value.category]; done) | rfl
theorem pn_5 : plainName "com/example/flowt/flowt/UInt128" = true := by first | (simp [plainName, overriddenIn]; done) | decide +kernel
theorem d4_0 : decode prog_2_method_7_code 0 = .ok (.aload_n 1, 1) := by decide +kernel
theorem d4_1 : decode prog_2_method_7_code 1 = .ok (.instanceof 8, 3) := by decide +kernel
theorem d4_4 : decode prog_2_method_7_code 4 = .ok (.ifCond .eq 36, 3) := by decide +kernel
theorem d4_7 : decode prog_2_method_7_code 7 = .ok (.aload_n 1, 1) := by decide +kernel
theorem d4_8 : decode prog_2_method_7_code 8 = .ok (.checkcast 8, 3) := by decide +kernel
theorem d4_11 : decode prog_2_method_7_code 11 = .ok (.astore_n 2, 1) := by decide +kernel
theorem d4_12 : decode prog_2_method_7_code 12 = .ok (.aload_n 2, 1) := by decide +kernel
theorem d4_13 : decode prog_2_method_7_code 13 = .ok (.getfield 7, 3) := by decide +kernel
theorem d4_16 : decode prog_2_method_7_code 16 = .ok (.aload_n 0, 1) := by decide +kernel
theorem d4_17 : decode prog_2_method_7_code 17 = .ok (.getfield 7, 3) := by decide +kernel
theorem d4_20 : decode prog_2_method_7_code 20 = .ok (.lcmp, 1) := by decide +kernel
theorem d4_21 : decode prog_2_method_7_code 21 = .ok (.ifCond .ne 19, 3) := by decide +kernel
theorem d4_24 : decode prog_2_method_7_code 24 = .ok (.aload_n 2, 1) := by decide +kernel
theorem d4_25 : decode prog_2_method_7_code 25 = .ok (.getfield 13, 3) := by decide +kernel
theorem d4_28 : decode prog_2_method_7_code 28 = .ok (.aload_n 0, 1) := by decide +kernel
theorem d4_29 : decode prog_2_method_7_code 29 = .ok (.getfield 13, 3) := by decide +kernel
theorem d4_32 : decode prog_2_method_7_code 32 = .ok (.lcmp, 1) := by decide +kernel
theorem d4_33 : decode prog_2_method_7_code 33 = .ok (.ifCond .ne 7, 3) := by decide +kernel
theorem d4_36 : decode prog_2_method_7_code 36 = .ok (.iconst 1, 1) := by decide +kernel
theorem d4_37 : decode prog_2_method_7_code 37 = .ok (.goto 4, 3) := by decide +kernel
theorem d4_41 : decode prog_2_method_7_code 41 = .ok (.ireturn, 1) := by decide +kernel
theorem d4_40 : decode prog_2_method_7_code 40 = .ok (.iconst 0, 1) := by decide +kernel
theorem ef4_RR (m : MethodId) (x0 : Addr) (x1 : Addr) : entryFrame m #[(.ref x0), (.ref x1)] 3 = mkF m 0 #[.val (.ref x0), .val (.ref x1), .unset] [] := by first | (simp [entryFrame, mkF, argsToLocals, Value.category]; done) | rfl
theorem ef4_RN (m : MethodId) (x0 : Addr) : entryFrame m #[(.ref x0), .null] 3 = mkF m 0 #[.val (.ref x0), .val .null, .unset] [] := by first | (simp [entryFrame, mkF, argsToLocals, Value.category]; done) | rfl
theorem pd_6 : parseMethodDescriptor "(JJ)V" = some ⟨[.long, .long], none⟩ := by decide +kernel
theorem pd_7 : parseMethodDescriptor "(Ljava/lang/Object;)Z" = some ⟨[(.object "java/lang/Object")], some .boolean⟩ := by decide +kernel
theorem pd_8 : parseMethodDescriptor "(J)Ljava/lang/Long;" = some ⟨[.long], some (.object "java/lang/Long")⟩ := by decide +kernel
theorem ef0_JJJJI (m : MethodId) (x0 : Int64) (x1 : Int64) (x2 : Int64) (x3 : Int64) (x4 : Int32) : entryFrame m #[(.long x0), (.long x1), (.long x2), (.long x3), (.int x4)] maxLocals = mkF m 0 #[.val (.long x0), .second, .val (.long x1), .second, .val (.long x2), .second, .val (.long x3), .second, .val (.int x4), .unset, .unset, .unset, .unset, .unset, .unset, .unset, .unset, .unset, .unset] [] := by first | (simp [entryFrame, mkF, argsToLocals, Value.category, maxLocals]; done) | rfl
theorem pn_9 : plainName "com/example/flowt/flowt/UInt128EqualsPinLaw" = true := by first | (simp [plainName, overriddenIn]; done) | decide +kernel
def eqv (h1 l1 h2 l2 : Int64) : Int32 := if h2 = h1 ∧ l2 = l1 then 1 else 0
theorem own_len_at {args : Array Value} {first s : State} {o : Option Outcome} {idx : List Nat} {t : Term} {cl : Cell} {a : Addr} {v : Value} (ht : t.eval args first o idx s = some (.ref a)) (ha : s.arrayAt? a = some cl) (hl : (Term.length t).eval args first o idx s = some v) : cl.slots.size < 2 ^ 31 := by
  by_cases q : cl.slots.size < 2 ^ 31
  · exact q
  · simp [Term.eval, ht, ha, q] at hl
theorem own_subi {args : Array Value} {first s : State} {o : Option Outcome} {idx : List Nat} {a b : Term} {x y : Int32} (ha : a.eval args first o idx s = some (.int x)) (hb : b.eval args first o idx s = some (.int y)) : (Term.sub a b).eval args first o idx s = some (.int (x - y)) := by
  simp [Term.eval, ha, hb]
theorem own_box (x : Int64) (h1 : ¬ x < (-128 : Int64)) (h2 : ¬ (127 : Int64) < x) : ¬ (x.toInt32 + (128 : Int32)) < 0 ∧ (x.toInt32 + (128 : Int32)) < (256 : Int32) := by
  have z1 : (-128 : Int64).toInt = -128 := rfl
  have z2 : (127 : Int64).toInt = 127 := rfl
  have z3 : (128 : Int32).toInt = 128 := rfl
  have z4 : (256 : Int32).toInt = 256 := rfl
  have z5 : (0 : Int32).toInt = 0 := rfl
  have e1 := c_l2i x
  have e2 := c_iadd x.toInt32 128
  have r1 := rng32 x.toInt32
  have r2 := rng32 (x.toInt32 + 128)
  rw [Int64.lt_iff_toInt_lt] at h1 h2
  rw [Int32.lt_iff_toInt_lt, Int32.lt_iff_toInt_lt]
  omega
set_option maxRecDepth 65536 in
set_option maxHeartbeats 40000000 in
theorem rm_rec (l : Launch) (Z : State) (a0 : Array Value) (hw : ∀ d ∈ tables_1, d.before a0 Z = true) (a1 : Addr) (h0 : Heap)  :
    Con l (⟨"java/lang/Record", "<init>", "()V"⟩ : MethodName) jdk_30_method_1_code 1 none ({ frames := 1, cells := 0, slots := 0, locals := 12 } : Room) Z #[(.ref a1)] h0 (Pur none h0) := by
  refine Con.of_body (plainFor_of_name pn_0) ?_
  intro p e s m below meth c T0 X0 hx hby hml hZ hown hnm hret hlk e0
  have hown : s.vm.findClass "java/lang/Record" = some m.cls := hown
  have hml : c.maxLocals = 1 := hml
  refine Goes.cast (ef2_R m a1) ?_
  refine G.aloadN X0 hx (pc' := 1) (hb hby d2_0) rfl rfl rfl ?_
  refine G.initO X0 hx hZ hown (hw _ (List.mem_of_getElem? (i := 11) rfl)) (hw _ (List.mem_of_getElem? (i := 12) rfl)) (hw _ (List.mem_of_getElem? (i := 13) rfl)) e0 (by rw [hml]; rfl) (hb hby d2_1) (by decide) (W := 0) (Nat.le_of_eq rfl) (by decide) (pc' := 4) rfl fun T1 X1 e1 => ?_
  refine Goes.retV X1 hx hret hlk (hb hby d2_4) (by decide) (by decide) ⟨rfl, e1, rfl⟩
set_option maxRecDepth 65536 in
set_option maxHeartbeats 40000000 in
theorem rm_num (l : Launch) (Z : State) (a0 : Array Value) (hw : ∀ d ∈ tables_1, d.before a0 Z = true) (a1 : Addr) (h0 : Heap)  :
    Con l (⟨"java/lang/Number", "<init>", "()V"⟩ : MethodName) jdk_18_method_1_code 1 none ({ frames := 1, cells := 0, slots := 0, locals := 12 } : Room) Z #[(.ref a1)] h0 (Pur none h0) := by
  refine Con.of_body (plainFor_of_name pn_1) ?_
  intro p e s m below meth c T0 X0 hx hby hml hZ hown hnm hret hlk e0
  have hown : s.vm.findClass "java/lang/Number" = some m.cls := hown
  have hml : c.maxLocals = 1 := hml
  refine Goes.cast (ef7_R m a1) ?_
  refine G.aloadN X0 hx (pc' := 1) (hb hby d7_0) rfl rfl rfl ?_
  refine G.initO X0 hx hZ hown (hw _ (List.mem_of_getElem? (i := 42) rfl)) (hw _ (List.mem_of_getElem? (i := 12) rfl)) (hw _ (List.mem_of_getElem? (i := 13) rfl)) e0 (by rw [hml]; rfl) (hb hby d7_1) (by decide) (W := 0) (Nat.le_of_eq rfl) (by decide) (pc' := 4) rfl fun T1 X1 e1 => ?_
  refine Goes.retV X1 hx hret hlk (hb hby d7_4) (by decide) (by decide) ⟨rfl, e1, rfl⟩
set_option maxRecDepth 65536 in
set_option maxHeartbeats 40000000 in
theorem rm_linit (l : Launch) (Z : State) (a0 : Array Value) (hw : ∀ d ∈ tables_1, d.before a0 Z = true) (a1 : Addr) (q1 : Int64) (h0 : Heap) (Ea : Exa Z h0 a1 "java/lang/Long") (Fv : Fld Z h0 a1 "java/lang/Long" "value" "J" (.long (0 : Int64))) :
    Con l (⟨"java/lang/Long", "<init>", "(J)V"⟩ : MethodName) jdk_35_method_26_code 3 none ({ frames := 2, cells := 0, slots := 0, locals := 24 } : Room) Z #[(.ref a1), (.long q1)] h0 (fun v h L => v = none ∧ Kp h0 h [a1] L) := by
  refine Con.of_body (plainFor_of_name pn_3) ?_
  intro p e s m below meth c T0 X0 hx hby hml hZ hown hnm hret hlk e0
  have hown : s.vm.findClass "java/lang/Long" = some m.cls := hown
  have hml : c.maxLocals = 3 := hml
  refine Goes.cast (ef6_RJ m a1 q1) ?_
  have K0 := Kp.refl h0 [a1]
  refine G.aloadN X0 hx (pc' := 1) (hb hby d6_0) rfl rfl rfl ?_
  refine G.callI X0 hx hZ (y := (⟨"java/lang/Number", "<init>", "()V"⟩ : MethodName)) rfl hown (hw _ (List.mem_of_getElem? (i := 36) rfl)) (hw _ (List.mem_of_getElem? (i := 37) rfl)) (hw _ (List.mem_of_getElem? (i := 40) rfl)) (hw _ (List.mem_of_getElem? (i := 41) rfl)) (by decide) e0 (rm := ({ frames := 1, cells := 0, slots := 0, locals := 12 } : Room)) (argsL := []) (S := []) (W := 0) (a := a1) (rm_num l Z a0 hw a1 h0) (lenOf pd_2 rfl) rfl (Nat.le_of_eq rfl) (by decide) (by decide) (by decide) (by decide) (by rw [hml]; rfl) (hb hby d6_1) (pc' := 4) rfl ?_
  rintro T1 _ _ ⟨rfl, e1, rfl⟩ X1
  rw [List.append_nil] at X1
  show Goes p e below T1 (mkF m 4 #[.val (.ref a1), .val (.long q1), .second] []) _
  refine G.aloadN X1 hx (pc' := 5) (hb hby d6_4) rfl rfl rfl ?_
  refine G.lloadN X1 hx (pc' := 6) (hb hby d6_5) rfl rfl ?_
  refine G.putF X1 hx hZ hown (hw _ (List.mem_of_getElem? (i := 43) rfl)) Via.refl e1 Fv Ea (Or.inr ⟨(hw _ (List.mem_of_getElem? (i := 44) rfl)), rfl, hnm⟩) (hw _ (List.mem_of_getElem? (i := 31) rfl)) (ty := .long) (by decide) rfl rfl (pc' := 9) (hb hby d6_6) rfl fun T2 h2 X2 e2 W2 => ?_
  have E2_a1 := Exa.wr W2 Ea
  have K2 := Kp.wr K0 W2 (Or.inl (List.mem_of_getElem? (i := 0) rfl))
  have F2_a1_value := Fld.same W2 Fv
  refine Goes.retV X2 hx hret hlk (hb hby d6_9) (by decide) (by decide) ⟨rfl, e2 ▸ K2⟩
set_option maxRecDepth 65536 in
set_option maxHeartbeats 40000000 in
theorem rm_box (l : Launch) (Z : State) (a0 : Array Value) (hw : ∀ d ∈ tables_1, d.before a0 Z = true) (q0 : Int64) (ca : Addr) (xs : List Value) (h0 : Heap) (S0 : Sta Z h0 "java/lang/Long$LongCache" "cache" "[Ljava/lang/Long;" (.ref ca)) (A0 : Seq Z h0 ca (.object "java/lang/Long") xs) (hxc : ∀ j : Int32, ¬ j < 0 → j < (256 : Int32) → ∃ b, xs[j.toNatClampNeg]? = some (.ref b) ∧ Exa Z h0 b "java/lang/Long") :
    Con l (⟨"java/lang/Long", "valueOf", "(J)Ljava/lang/Long;"⟩ : MethodName) jdk_35_method_24_code 3 (some (.object "java/lang/Long")) ({ frames := 3, cells := 1, slots := 1, locals := 39 } : Room) Z #[(.long q0)] h0 (fun v h L => ∃ b, v = some (.ref b) ∧ Kp h0 h [] L ∧ Exa Z h b "java/lang/Long") := by
  refine Con.of_body (plainFor_of_name pn_3) ?_
  intro p e s m below meth c T0 X0 hx hby hml hZ hown hnm hret hlk e0
  have hown : s.vm.findClass "java/lang/Long" = some m.cls := hown
  have hml : c.maxLocals = 3 := hml
  refine Goes.cast (ef5_J m q0) ?_
  have K0 := Kp.refl h0 []
  refine G.sipush X0 hx (pc' := 3) (hb hby d5_0) (z := (128 : Int32)) rfl rfl ?_
  refine G.istoreN X0 hx (pc' := 4) (hb hby d5_3) (L' := #[.val (.long q0), .second, .val (.int (128 : Int32))]) rfl rfl ?_
  refine G.lloadN X0 hx (pc' := 5) (hb hby d5_4) rfl rfl ?_
  refine G.ldcLong X0 hx hZ hown (hw _ (List.mem_of_getElem? (i := 29) rfl)) (pc' := 8) (hb hby d5_5) rfl ?_
  refine G.lcmp X0 hx (pc' := 9) (hb hby d5_8) rfl ?_
  by_cases c1 : q0 < (-128 : Int64)
  · refine G.ifT X0 hx (pc' := 31) (hb hby d5_9) (Jvm.Free.XT.ll_lt_t c1) (by decide) (by decide) ?_
    refine G.newO X0 hx hZ hown (hw _ (List.mem_of_getElem? (i := 30) rfl)) (hw _ (List.mem_of_getElem? (i := 31) rfl)) (hw _ (List.mem_of_getElem? (i := 27) rfl)) e0 (hb hby d5_31) (by decide) (by decide) (pc' := 34) rfl fun T1 h1 b g1 X1 e1 Ex1 Ea1 D1 => ?_
    have ne_ca_b : ca ≠ b := Nat.ne_of_lt (Nat.lt_of_lt_of_le A0.lt (Nat.le_of_eq g1.symm))
    have sz_b : h0.size ≤ b := Nat.le_trans K0.size (Nat.le_of_eq g1.symm)
    have A1_ca := Seq.ext A0 Ex1
    have S1_cache := Sta.ext Ex1 S0
    have K1 := Kp.ext K0 Ex1
    have F1_b_value : Fld Z h1 b "java/lang/Long" "value" "J" (.long (0 : Int64)) := D1 (Or.inr (hw _ (List.mem_of_getElem? (i := 44) rfl))) (ty := .long) (by decide)
    refine G.dup X1 hx (pc' := 35) (hb hby d5_34) rfl rfl ?_
    refine G.lloadN X1 hx (pc' := 36) (hb hby d5_35) rfl rfl ?_
    refine G.callI X1 hx hZ (y := (⟨"java/lang/Long", "<init>", "(J)V"⟩ : MethodName)) rfl hown (hw _ (List.mem_of_getElem? (i := 32) rfl)) (hw _ (List.mem_of_getElem? (i := 33) rfl)) (hw _ (List.mem_of_getElem? (i := 27) rfl)) (hw _ (List.mem_of_getElem? (i := 35) rfl)) (by decide) e1 (rm := ({ frames := 2, cells := 0, slots := 0, locals := 24 } : Room)) (argsL := [(.long q0)]) (S := [(.ref b)]) (W := 1) (a := b) (rm_linit l Z a0 hw b q0 h1 Ea1 F1_b_value) (lenOf pd_4 rfl) rfl (Nat.le_of_eq rfl) (by decide) (by decide) (by decide) (by decide) (by rw [hml]; rfl) (hb hby d5_36) (pc' := 39) rfl ?_
    rintro T2 _ L2 ⟨rfl, Kq2⟩ X2
    have E2_b := Exa.keep Ea1 Kq2.1
    have A2_ca := Seq.keep A1_ca Kq2.1 (ninS ne_ca_b nin0)
    have K2 := Kp.call K1 Kq2 (allS (Or.inr sz_b) all0)
    show Goes p e below T2 (mkF m 39 #[.val (.long q0), .second, .val (.int (128 : Int32))] [(.ref b)]) _
    refine Goes.retA X2 hx hret rfl hlk rfl rfl (hb hby d5_39) (by decide) (by decide) ⟨b, rfl, K2, E2_b⟩
  · refine G.ifF X0 hx (pc' := 12) (hb hby d5_9) (Jvm.Free.XT.ll_lt_f c1) rfl ?_
    refine G.lloadN X0 hx (pc' := 13) (hb hby d5_12) rfl rfl ?_
    refine G.ldcLong X0 hx hZ hown (hw _ (List.mem_of_getElem? (i := 48) rfl)) (pc' := 16) (hb hby d5_13) rfl ?_
    refine G.lcmp X0 hx (pc' := 17) (hb hby d5_16) rfl ?_
    by_cases c2 : (127 : Int64) < q0
    · refine G.ifT X0 hx (pc' := 31) (hb hby d5_17) (Jvm.Free.XT.ll_gt_t c2) (by decide) (by decide) ?_
      refine G.newO X0 hx hZ hown (hw _ (List.mem_of_getElem? (i := 30) rfl)) (hw _ (List.mem_of_getElem? (i := 31) rfl)) (hw _ (List.mem_of_getElem? (i := 27) rfl)) e0 (hb hby d5_31) (by decide) (by decide) (pc' := 34) rfl fun T3 h3 b g3 X3 e3 Ex3 Ea3 D3 => ?_
      have ne_ca_b : ca ≠ b := Nat.ne_of_lt (Nat.lt_of_lt_of_le A0.lt (Nat.le_of_eq g3.symm))
      have sz_b : h0.size ≤ b := Nat.le_trans K0.size (Nat.le_of_eq g3.symm)
      have A3_ca := Seq.ext A0 Ex3
      have S3_cache := Sta.ext Ex3 S0
      have K3 := Kp.ext K0 Ex3
      have F3_b_value : Fld Z h3 b "java/lang/Long" "value" "J" (.long (0 : Int64)) := D3 (Or.inr (hw _ (List.mem_of_getElem? (i := 44) rfl))) (ty := .long) (by decide)
      refine G.dup X3 hx (pc' := 35) (hb hby d5_34) rfl rfl ?_
      refine G.lloadN X3 hx (pc' := 36) (hb hby d5_35) rfl rfl ?_
      refine G.callI X3 hx hZ (y := (⟨"java/lang/Long", "<init>", "(J)V"⟩ : MethodName)) rfl hown (hw _ (List.mem_of_getElem? (i := 32) rfl)) (hw _ (List.mem_of_getElem? (i := 33) rfl)) (hw _ (List.mem_of_getElem? (i := 27) rfl)) (hw _ (List.mem_of_getElem? (i := 35) rfl)) (by decide) e3 (rm := ({ frames := 2, cells := 0, slots := 0, locals := 24 } : Room)) (argsL := [(.long q0)]) (S := [(.ref b)]) (W := 1) (a := b) (rm_linit l Z a0 hw b q0 h3 Ea3 F3_b_value) (lenOf pd_4 rfl) rfl (Nat.le_of_eq rfl) (by decide) (by decide) (by decide) (by decide) (by rw [hml]; rfl) (hb hby d5_36) (pc' := 39) rfl ?_
      rintro T4 _ L4 ⟨rfl, Kq4⟩ X4
      have E4_b := Exa.keep Ea3 Kq4.1
      have A4_ca := Seq.keep A3_ca Kq4.1 (ninS ne_ca_b nin0)
      have K4 := Kp.call K3 Kq4 (allS (Or.inr sz_b) all0)
      show Goes p e below T4 (mkF m 39 #[.val (.long q0), .second, .val (.int (128 : Int32))] [(.ref b)]) _
      refine Goes.retA X4 hx hret rfl hlk rfl rfl (hb hby d5_39) (by decide) (by decide) ⟨b, rfl, K4, E4_b⟩
    · refine G.ifF X0 hx (pc' := 20) (hb hby d5_17) (Jvm.Free.XT.ll_gt_f c2) rfl ?_
      refine G.getS X0 hx hZ hown (hw _ (List.mem_of_getElem? (i := 49) rfl)) Via.refl e0 S0 (pc' := 23) (hb hby d5_20) rfl fun T5 X5 e5 => ?_
      refine G.lloadN X5 hx (pc' := 24) (hb hby d5_23) rfl rfl ?_
      refine G.l2i X5 hx (pc' := 25) (hb hby d5_24) rfl ?_
      refine G.sipush X5 hx (pc' := 28) (hb hby d5_25) (z := (128 : Int32)) rfl rfl ?_
      refine G.iadd X5 hx (pc' := 29) (hb hby d5_28) rfl ?_
      obtain ⟨b, hb1, hb2⟩ := hxc _ (own_box q0 c1 c2).1 (own_box q0 c1 c2).2
      refine G.aaload X5 hx hZ e5 A0 rfl (pc' := 30) (v := (.ref b)) (hb hby d5_29) (own_box q0 c1 c2).1 hb1 rfl ?_
      refine Goes.retA X5 hx hret rfl hlk rfl rfl (hb hby d5_30) (by decide) (by decide) ⟨b, rfl, e5 ▸ K0, e5 ▸ hb2⟩
set_option maxRecDepth 65536 in
set_option maxHeartbeats 40000000 in
theorem rm_init (l : Launch) (Z : State) (a0 : Array Value) (hw : ∀ d ∈ tables_1, d.before a0 Z = true) (a1 : Addr) (q1 q2 : Int64) (h0 : Heap) (Ea : Exa Z h0 a1 "com/example/flowt/flowt/UInt128") (Fh : Fld Z h0 a1 "com/example/flowt/flowt/UInt128" "high" "J" (.long (0 : Int64))) (Fl : Fld Z h0 a1 "com/example/flowt/flowt/UInt128" "low" "J" (.long (0 : Int64))) :
    Con l (⟨"com/example/flowt/flowt/UInt128", "<init>", "(JJ)V"⟩ : MethodName) prog_2_method_1_code 5 none ({ frames := 2, cells := 0, slots := 0, locals := 24 } : Room) Z #[(.ref a1), (.long q1), (.long q2)] h0 (fun v h L => v = none ∧ Kp h0 h [a1] L ∧ Fld Z h a1 "com/example/flowt/flowt/UInt128" "high" "J" (.long q1) ∧ Fld Z h a1 "com/example/flowt/flowt/UInt128" "low" "J" (.long q2)) := by
  refine Con.of_body (plainFor_of_name pn_5) ?_
  intro p e s m below meth c T0 X0 hx hby hml hZ hown hnm hret hlk e0
  have hown : s.vm.findClass "com/example/flowt/flowt/UInt128" = some m.cls := hown
  have hml : c.maxLocals = 5 := hml
  refine Goes.cast (ef1_RJJ m a1 q1 q2) ?_
  have K0 := Kp.refl h0 [a1]
  refine G.aloadN X0 hx (pc' := 1) (hb hby d1_0) rfl rfl rfl ?_
  refine G.callI X0 hx hZ (y := (⟨"java/lang/Record", "<init>", "()V"⟩ : MethodName)) rfl hown (hw _ (List.mem_of_getElem? (i := 6) rfl)) (hw _ (List.mem_of_getElem? (i := 7) rfl)) (hw _ (List.mem_of_getElem? (i := 9) rfl)) (hw _ (List.mem_of_getElem? (i := 10) rfl)) (by decide) e0 (rm := ({ frames := 1, cells := 0, slots := 0, locals := 12 } : Room)) (argsL := []) (S := []) (W := 0) (a := a1) (rm_rec l Z a0 hw a1 h0) (lenOf pd_2 rfl) rfl (Nat.le_of_eq rfl) (by decide) (by decide) (by decide) (by decide) (by rw [hml]; rfl) (hb hby d1_1) (pc' := 4) rfl ?_
  rintro T1 _ _ ⟨rfl, e1, rfl⟩ X1
  rw [List.append_nil] at X1
  show Goes p e below T1 (mkF m 4 #[.val (.ref a1), .val (.long q1), .second, .val (.long q2), .second] []) _
  refine G.aloadN X1 hx (pc' := 5) (hb hby d1_4) rfl rfl rfl ?_
  refine G.lloadN X1 hx (pc' := 6) (hb hby d1_5) rfl rfl ?_
  refine G.putF X1 hx hZ hown (hw _ (List.mem_of_getElem? (i := 14) rfl)) Via.refl e1 Fh Ea (Or.inr ⟨(hw _ (List.mem_of_getElem? (i := 15) rfl)), rfl, hnm⟩) (hw _ (List.mem_of_getElem? (i := 1) rfl)) (ty := .long) (by decide) rfl rfl (pc' := 9) (hb hby d1_6) rfl fun T2 h2 X2 e2 W2 => ?_
  have F2_a1_low := Fld.other W2 Fl (Or.inr (slot_ne (Or.inr (hw _ (List.mem_of_getElem? (i := 17) rfl))) (Or.inr (hw _ (List.mem_of_getElem? (i := 15) rfl))) (by decide) (t := .long) (t' := .long) (by decide) (by decide)))
  have E2_a1 := Exa.wr W2 Ea
  have K2 := Kp.wr K0 W2 (Or.inl (List.mem_of_getElem? (i := 0) rfl))
  have F2_a1_high := Fld.same W2 Fh
  refine G.aloadN X2 hx (pc' := 10) (hb hby d1_9) rfl rfl rfl ?_
  refine G.lloadN X2 hx (pc' := 11) (hb hby d1_10) rfl rfl ?_
  refine G.putF X2 hx hZ hown (hw _ (List.mem_of_getElem? (i := 16) rfl)) Via.refl e2 F2_a1_low E2_a1 (Or.inr ⟨(hw _ (List.mem_of_getElem? (i := 17) rfl)), rfl, hnm⟩) (hw _ (List.mem_of_getElem? (i := 1) rfl)) (ty := .long) (by decide) rfl rfl (pc' := 14) (hb hby d1_11) rfl fun T3 h3 X3 e3 W3 => ?_
  have F3_a1_high := Fld.other W3 F2_a1_high (Or.inr (slot_ne (Or.inr (hw _ (List.mem_of_getElem? (i := 15) rfl))) (Or.inr (hw _ (List.mem_of_getElem? (i := 17) rfl))) (by decide) (t := .long) (t' := .long) (by decide) (by decide)))
  have E3_a1 := Exa.wr W3 E2_a1
  have K3 := Kp.wr K2 W3 (Or.inl (List.mem_of_getElem? (i := 0) rfl))
  have F3_a1_low := Fld.same W3 F2_a1_low
  refine Goes.retV X3 hx hret hlk (hb hby d1_14) (by decide) (by decide) ⟨rfl, e3 ▸ K3, e3 ▸ F3_a1_high, e3 ▸ F3_a1_low⟩
set_option maxRecDepth 65536 in
set_option maxHeartbeats 40000000 in
theorem rm_eq (l : Launch) (Z : State) (a0 : Array Value) (hw : ∀ d ∈ tables_1, d.before a0 Z = true) (a1 b : Addr) (hv1 lv1 hv2 lv2 : Int64) (h0 : Heap) (Eb : Exa Z h0 b "com/example/flowt/flowt/UInt128") (Fh1 : Fld Z h0 a1 "com/example/flowt/flowt/UInt128" "high" "J" (.long hv1)) (Fl1 : Fld Z h0 a1 "com/example/flowt/flowt/UInt128" "low" "J" (.long lv1)) (Fh2 : Fld Z h0 b "com/example/flowt/flowt/UInt128" "high" "J" (.long hv2)) (Fl2 : Fld Z h0 b "com/example/flowt/flowt/UInt128" "low" "J" (.long lv2)) :
    Con l (⟨"com/example/flowt/flowt/UInt128", "equals", "(Ljava/lang/Object;)Z"⟩ : MethodName) prog_2_method_7_code 3 (some .boolean) ({ frames := 0, cells := 0, slots := 0, locals := 0 } : Room) Z #[(.ref a1), (.ref b)] h0 (Pur (some (.int (eqv hv1 lv1 hv2 lv2))) h0) := by
  refine Con.of_body (plainFor_of_name pn_5) ?_
  intro p e s m below meth c T0 X0 hx hby hml hZ hown hnm hret hlk e0
  have hown : s.vm.findClass "com/example/flowt/flowt/UInt128" = some m.cls := hown
  have hml : c.maxLocals = 3 := hml
  refine Goes.cast (ef4_RR m a1 b) ?_
  refine G.aloadN X0 hx (pc' := 1) (hb hby d4_0) rfl rfl rfl ?_
  refine G.instY X0 hx hZ hown (hw _ (List.mem_of_getElem? (i := 23) rfl)) e0 (Ins.self Eb) (hb hby d4_1) (pc' := 4) rfl fun T1 X1 e1 => ?_
  refine G.ifF X1 hx (pc' := 7) (hb hby d4_4) (Jvm.Free.XT.i0_eq_f (by decide)) rfl ?_
  refine G.aloadN X1 hx (pc' := 8) (hb hby d4_7) rfl rfl rfl ?_
  refine G.castY X1 hx hZ hown (hw _ (List.mem_of_getElem? (i := 23) rfl)) e1 (Ins.self Eb) (hb hby d4_8) (pc' := 11) rfl fun T2 X2 e2 => ?_
  refine G.astoreN X2 hx (pc' := 12) (hb hby d4_11) rfl (L' := #[.val (.ref a1), .val (.ref b), .val (.ref b)]) rfl rfl ?_
  refine G.aloadN X2 hx (pc' := 13) (hb hby d4_12) rfl rfl rfl ?_
  refine G.getF X2 hx hZ hown (hw _ (List.mem_of_getElem? (i := 14) rfl)) Via.refl e2 Fh2 (pc' := 16) (hb hby d4_13) rfl fun T3 X3 e3 => ?_
  refine G.aloadN X3 hx (pc' := 17) (hb hby d4_16) rfl rfl rfl ?_
  refine G.getF X3 hx hZ hown (hw _ (List.mem_of_getElem? (i := 14) rfl)) Via.refl e3 Fh1 (pc' := 20) (hb hby d4_17) rfl fun T4 X4 e4 => ?_
  refine G.lcmp X4 hx (pc' := 21) (hb hby d4_20) rfl ?_
  by_cases c1 : hv2 = hv1
  · refine G.ifF X4 hx (pc' := 24) (hb hby d4_21) (Jvm.Free.XT.ll_ne_f c1) rfl ?_
    refine G.aloadN X4 hx (pc' := 25) (hb hby d4_24) rfl rfl rfl ?_
    refine G.getF X4 hx hZ hown (hw _ (List.mem_of_getElem? (i := 16) rfl)) Via.refl e4 Fl2 (pc' := 28) (hb hby d4_25) rfl fun T5 X5 e5 => ?_
    refine G.aloadN X5 hx (pc' := 29) (hb hby d4_28) rfl rfl rfl ?_
    refine G.getF X5 hx hZ hown (hw _ (List.mem_of_getElem? (i := 16) rfl)) Via.refl e5 Fl1 (pc' := 32) (hb hby d4_29) rfl fun T6 X6 e6 => ?_
    refine G.lcmp X6 hx (pc' := 33) (hb hby d4_32) rfl ?_
    by_cases c2 : lv2 = lv1
    · refine G.ifF X6 hx (pc' := 36) (hb hby d4_33) (Jvm.Free.XT.ll_ne_f c2) rfl ?_
      refine G.iconst X6 hx (pc' := 37) (hb hby d4_36) (z := (1 : Int32)) rfl rfl ?_
      refine G.goto X6 hx (pc' := 41) (hb hby d4_37) (by decide) (by decide) ?_
      refine Goes.retN X6 hx hret (by simp) hlk (hb hby d4_41) (by decide) (by decide) ⟨by rw [eqv, if_pos ⟨c1, c2⟩]; rfl, e6, rfl⟩
    · refine G.ifT X6 hx (pc' := 40) (hb hby d4_33) (Jvm.Free.XT.ll_ne_t c2) (by decide) (by decide) ?_
      refine G.iconst X6 hx (pc' := 41) (hb hby d4_40) (z := (0 : Int32)) rfl rfl ?_
      refine Goes.retN X6 hx hret (by simp) hlk (hb hby d4_41) (by decide) (by decide) ⟨by rw [eqv, if_neg (fun q => c2 q.2)]; rfl, e6, rfl⟩
  · refine G.ifT X4 hx (pc' := 40) (hb hby d4_21) (Jvm.Free.XT.ll_ne_t c1) (by decide) (by decide) ?_
    refine G.iconst X4 hx (pc' := 41) (hb hby d4_40) (z := (0 : Int32)) rfl rfl ?_
    refine Goes.retN X4 hx hret (by simp) hlk (hb hby d4_41) (by decide) (by decide) ⟨by rw [eqv, if_neg (fun q => c1 q.1)]; rfl, e4, rfl⟩
set_option maxRecDepth 65536 in
set_option maxHeartbeats 40000000 in
theorem rm_eqn (l : Launch) (Z : State) (a0 : Array Value) (hw : ∀ d ∈ tables_1, d.before a0 Z = true) (a1 : Addr) (h0 : Heap)  :
    Con l (⟨"com/example/flowt/flowt/UInt128", "equals", "(Ljava/lang/Object;)Z"⟩ : MethodName) prog_2_method_7_code 3 (some .boolean) ({ frames := 0, cells := 0, slots := 0, locals := 0 } : Room) Z #[(.ref a1), .null] h0 (Pur (some (.int (0 : Int32))) h0) := by
  refine Con.of_body (plainFor_of_name pn_5) ?_
  intro p e s m below meth c T0 X0 hx hby hml hZ hown hnm hret hlk e0
  have hown : s.vm.findClass "com/example/flowt/flowt/UInt128" = some m.cls := hown
  have hml : c.maxLocals = 3 := hml
  refine Goes.cast (ef4_RN m a1) ?_
  refine G.aloadN X0 hx (pc' := 1) (hb hby d4_0) rfl rfl rfl ?_
  refine G.instNull X0 hx (hb hby d4_1) (pc' := 4) rfl ?_
  refine G.ifT X0 hx (pc' := 40) (hb hby d4_4) (Jvm.Free.XT.i0_eq_t rfl) (by decide) (by decide) ?_
  refine G.iconst X0 hx (pc' := 41) (hb hby d4_40) (z := (0 : Int32)) rfl rfl ?_
  refine Goes.retN X0 hx hret (by simp) hlk (hb hby d4_41) (by decide) (by decide) ⟨rfl, e0, rfl⟩
set_option maxRecDepth 65536 in
set_option maxHeartbeats 40000000 in
theorem rm_eql (l : Launch) (Z : State) (a0 : Array Value) (hw : ∀ d ∈ tables_1, d.before a0 Z = true) (a1 b : Addr) (h0 : Heap) (Eb : Exa Z h0 b "java/lang/Long") :
    Con l (⟨"com/example/flowt/flowt/UInt128", "equals", "(Ljava/lang/Object;)Z"⟩ : MethodName) prog_2_method_7_code 3 (some .boolean) ({ frames := 0, cells := 0, slots := 0, locals := 0 } : Room) Z #[(.ref a1), (.ref b)] h0 (Pur (some (.int (0 : Int32))) h0) := by
  refine Con.of_body (plainFor_of_name pn_5) ?_
  intro p e s m below meth c T0 X0 hx hby hml hZ hown hnm hret hlk e0
  have hown : s.vm.findClass "com/example/flowt/flowt/UInt128" = some m.cls := hown
  have hml : c.maxLocals = 3 := hml
  refine Goes.cast (ef4_RR m a1 b) ?_
  refine G.aloadN X0 hx (pc' := 1) (hb hby d4_0) rfl rfl rfl ?_
  refine G.instNo X0 hx hZ hown (hw _ (List.mem_of_getElem? (i := 23) rfl)) e0 Eb (ns_no (hw _ (List.mem_of_getElem? (i := 45) rfl)) (hw _ (List.mem_of_getElem? (i := 1) rfl)) (NS.step (hw _ (List.mem_of_getElem? (i := 45) rfl)) (NS.step (hw _ (List.mem_of_getElem? (i := 46) rfl)) (ns_root (hw _ (List.mem_of_getElem? (i := 47) rfl)) (hw _ (List.mem_of_getElem? (i := 1) rfl)) (by decide)) (by decide)) (by decide)) (by decide)) (hb hby d4_1) (pc' := 4) rfl fun T1 X1 e1 => ?_
  refine G.ifT X1 hx (pc' := 40) (hb hby d4_4) (Jvm.Free.XT.i0_eq_t rfl) (by decide) (by decide) ?_
  refine G.iconst X1 hx (pc' := 41) (hb hby d4_40) (z := (0 : Int32)) rfl rfl ?_
  refine Goes.retN X1 hx hret (by simp) hlk (hb hby d4_41) (by decide) (by decide) ⟨rfl, e1, rfl⟩
set_option maxRecDepth 65536 in
set_option maxHeartbeats 40000000 in
theorem rm0 (l : Launch) (Z : State) (a0 : Array Value) (hw : ∀ d ∈ tables_1, d.before a0 Z = true) (q0 q1 q2 q3 : Int64) (p4 : Int32) (ca : Addr) (xs : List Value) (h0 : Heap) (S0 : Sta Z h0 "java/lang/Long$LongCache" "cache" "[Ljava/lang/Long;" (.ref ca)) (A0 : Seq Z h0 ca (.object "java/lang/Long") xs) (hxc : ∀ j : Int32, ¬ j < 0 → j < (256 : Int32) → ∃ b, xs[j.toNatClampNeg]? = some (.ref b) ∧ Exa Z h0 b "java/lang/Long") :
    Con l x code maxLocals ret room_1 Z #[(.long q0), (.long q1), (.long q2), (.long q3), (.int p4)] h0 (fun v _ L => v = some (.int 1) ∧ Fr h0.size L) := by
  refine Con.of_body (plainFor_of_name pn_9) ?_
  intro p e s m below meth c T0 X0 hx hby hml hZ hown hnm hret hlk e0
  have hown : s.vm.findClass "com/example/flowt/flowt/UInt128EqualsPinLaw" = some m.cls := hown
  have hml : c.maxLocals = 19 := hml
  refine Goes.cast (ef0_JJJJI m q0 q1 q2 q3 p4) ?_
  have K0 := Kp.refl h0 []
  refine G.iload X0 hx (pc' := 2) (hb hby at_0) rfl rfl ?_
  refine G.iconst X0 hx (pc' := 3) (hb hby at_2) (z := (1 : Int32)) rfl rfl ?_
  refine G.iand X0 hx (pc' := 4) (hb hby at_3) rfl ?_
  refine Goes.join (F := fun (v1 : Int64) => (mkF m 13 #[.val (.long q0), .second, .val (.long q1), .second, .val (.long q2), .second, .val (.long q3), .second, .val (.int p4), .unset, .unset, .unset, .unset, .unset, .unset, .unset, .unset, .unset, .unset] [(.long v1)])) (fun hj => ?_) (fun v1 => ?_)
  · by_cases c1 : (p4 &&& (1 : Int32)) = (0 : Int32)
    · refine G.ifT X0 hx (pc' := 11) (hb hby at_4) (Jvm.Free.XT.i0_eq_t c1) (by decide) (by decide) ?_
      refine G.lload X0 hx (pc' := 13) (hb hby at_11) rfl rfl ?_
      exact hj q2
    · refine G.ifF X0 hx (pc' := 7) (hb hby at_4) (Jvm.Free.XT.i0_eq_f c1) rfl ?_
      refine G.lloadN X0 hx (pc' := 8) (hb hby at_7) rfl rfl ?_
      refine G.goto X0 hx (pc' := 13) (hb hby at_8) (by decide) (by decide) ?_
      exact hj q0
  · refine G.lstore X0 hx (pc' := 15) (hb hby at_13) (L' := #[.val (.long q0), .second, .val (.long q1), .second, .val (.long q2), .second, .val (.long q3), .second, .val (.int p4), .val (.long v1), .second, .unset, .unset, .unset, .unset, .unset, .unset, .unset, .unset]) rfl rfl ?_
    refine G.iload X0 hx (pc' := 17) (hb hby at_15) rfl rfl ?_
    refine G.iconst X0 hx (pc' := 18) (hb hby at_17) (z := (2 : Int32)) rfl rfl ?_
    refine G.iand X0 hx (pc' := 19) (hb hby at_18) rfl ?_
    refine Goes.join (F := fun (v2 : Int64) => (mkF m 28 #[.val (.long q0), .second, .val (.long q1), .second, .val (.long q2), .second, .val (.long q3), .second, .val (.int p4), .val (.long v1), .second, .unset, .unset, .unset, .unset, .unset, .unset, .unset, .unset] [(.long v2)])) (fun hj => ?_) (fun v2 => ?_)
    · by_cases c2 : (p4 &&& (2 : Int32)) = (0 : Int32)
      · refine G.ifT X0 hx (pc' := 26) (hb hby at_19) (Jvm.Free.XT.i0_eq_t c2) (by decide) (by decide) ?_
        refine G.lload X0 hx (pc' := 28) (hb hby at_26) rfl rfl ?_
        exact hj q3
      · refine G.ifF X0 hx (pc' := 22) (hb hby at_19) (Jvm.Free.XT.i0_eq_f c2) rfl ?_
        refine G.lloadN X0 hx (pc' := 23) (hb hby at_22) rfl rfl ?_
        refine G.goto X0 hx (pc' := 28) (hb hby at_23) (by decide) (by decide) ?_
        exact hj q1
    · refine G.lstore X0 hx (pc' := 30) (hb hby at_28) (L' := #[.val (.long q0), .second, .val (.long q1), .second, .val (.long q2), .second, .val (.long q3), .second, .val (.int p4), .val (.long v1), .second, .val (.long v2), .second, .unset, .unset, .unset, .unset, .unset, .unset]) rfl rfl ?_
      refine G.newO X0 hx hZ hown (hw _ (List.mem_of_getElem? (i := 0) rfl)) (hw _ (List.mem_of_getElem? (i := 1) rfl)) (hw _ (List.mem_of_getElem? (i := 2) rfl)) e0 (hb hby at_30) (by decide) (by decide) (pc' := 33) rfl fun T1 h1 a g1 X1 e1 Ex1 Ea1 D1 => ?_
      have sz_a : h0.size ≤ a := Nat.le_trans K0.size (Nat.le_of_eq g1.symm)
      have K1 := Kp.ext K0 Ex1
      have F1_a_high : Fld Z h1 a "com/example/flowt/flowt/UInt128" "high" "J" (.long (0 : Int64)) := D1 (Or.inr (hw _ (List.mem_of_getElem? (i := 15) rfl))) (ty := .long) (by decide)
      have F1_a_low : Fld Z h1 a "com/example/flowt/flowt/UInt128" "low" "J" (.long (0 : Int64)) := D1 (Or.inr (hw _ (List.mem_of_getElem? (i := 17) rfl))) (ty := .long) (by decide)
      refine G.dup X1 hx (pc' := 34) (hb hby at_33) rfl rfl ?_
      refine G.lloadN X1 hx (pc' := 35) (hb hby at_34) rfl rfl ?_
      refine G.lloadN X1 hx (pc' := 36) (hb hby at_35) rfl rfl ?_
      refine G.callI X1 hx hZ (y := (⟨"com/example/flowt/flowt/UInt128", "<init>", "(JJ)V"⟩ : MethodName)) rfl hown (hw _ (List.mem_of_getElem? (i := 3) rfl)) (hw _ (List.mem_of_getElem? (i := 4) rfl)) (hw _ (List.mem_of_getElem? (i := 2) rfl)) (hw _ (List.mem_of_getElem? (i := 5) rfl)) (by decide) e1 (rm := ({ frames := 2, cells := 0, slots := 0, locals := 24 } : Room)) (argsL := [(.long q0), (.long q1)]) (S := [(.ref a)]) (W := 1) (a := a) (rm_init l Z a0 hw a q0 q1 h1 Ea1 F1_a_high F1_a_low) (lenOf pd_6 rfl) rfl (Nat.le_of_eq rfl) (by decide) (by decide) (by decide) (by decide) (by rw [hml]; rfl) (hb hby at_36) (pc' := 39) rfl ?_
      rintro T2 _ L2 ⟨rfl, Kq2, Fh2, Fl2⟩ X2
      have E2_a := Exa.keep Ea1 Kq2.1
      have K2 := Kp.call K1 Kq2 (allS (Or.inr sz_a) all0)
      show Goes p e below T2 (mkF m 39 #[.val (.long q0), .second, .val (.long q1), .second, .val (.long q2), .second, .val (.long q3), .second, .val (.int p4), .val (.long v1), .second, .val (.long v2), .second, .unset, .unset, .unset, .unset, .unset, .unset] [(.ref a)]) _
      refine G.astore X2 hx (pc' := 41) (hb hby at_39) rfl (L' := #[.val (.long q0), .second, .val (.long q1), .second, .val (.long q2), .second, .val (.long q3), .second, .val (.int p4), .val (.long v1), .second, .val (.long v2), .second, .val (.ref a), .unset, .unset, .unset, .unset, .unset]) rfl rfl ?_
      refine G.newO X2 hx hZ hown (hw _ (List.mem_of_getElem? (i := 0) rfl)) (hw _ (List.mem_of_getElem? (i := 1) rfl)) (hw _ (List.mem_of_getElem? (i := 2) rfl)) rfl (hb hby at_41) (by decide) (by decide) (pc' := 44) rfl fun T3 h3 b g3 X3 e3 Ex3 Ea3 D3 => ?_
      have ne_a_b : a ≠ b := Nat.ne_of_lt (Nat.lt_of_lt_of_le Fh2.lt (Nat.le_of_eq g3.symm))
      have sz_b : h0.size ≤ b := Nat.le_trans K2.size (Nat.le_of_eq g3.symm)
      have F3_a_high := Fld.ext  Ex3 Fh2
      have F3_a_low := Fld.ext  Ex3 Fl2
      have E3_a := Exa.ext  Ex3 E2_a
      have K3 := Kp.ext K2 Ex3
      have F3_b_high : Fld Z h3 b "com/example/flowt/flowt/UInt128" "high" "J" (.long (0 : Int64)) := D3 (Or.inr (hw _ (List.mem_of_getElem? (i := 15) rfl))) (ty := .long) (by decide)
      have F3_b_low : Fld Z h3 b "com/example/flowt/flowt/UInt128" "low" "J" (.long (0 : Int64)) := D3 (Or.inr (hw _ (List.mem_of_getElem? (i := 17) rfl))) (ty := .long) (by decide)
      refine G.dup X3 hx (pc' := 45) (hb hby at_44) rfl rfl ?_
      refine G.lload X3 hx (pc' := 47) (hb hby at_45) rfl rfl ?_
      refine G.lload X3 hx (pc' := 49) (hb hby at_47) rfl rfl ?_
      refine G.callI X3 hx hZ (y := (⟨"com/example/flowt/flowt/UInt128", "<init>", "(JJ)V"⟩ : MethodName)) rfl hown (hw _ (List.mem_of_getElem? (i := 3) rfl)) (hw _ (List.mem_of_getElem? (i := 4) rfl)) (hw _ (List.mem_of_getElem? (i := 2) rfl)) (hw _ (List.mem_of_getElem? (i := 5) rfl)) (by decide) e3 (rm := ({ frames := 2, cells := 0, slots := 0, locals := 24 } : Room)) (argsL := [(.long v1), (.long v2)]) (S := [(.ref b)]) (W := 1) (a := b) (rm_init l Z a0 hw b v1 v2 h3 Ea3 F3_b_high F3_b_low) (lenOf pd_6 rfl) rfl (Nat.le_of_eq rfl) (by decide) (by decide) (by decide) (by decide) (by rw [hml]; rfl) (hb hby at_49) (pc' := 52) rfl ?_
      rintro T4 _ L4 ⟨rfl, Kq4, Fh4, Fl4⟩ X4
      have F4_a_high := Fld.keep F3_a_high Kq4.1 (ninS ne_a_b nin0)
      have F4_a_low := Fld.keep F3_a_low Kq4.1 (ninS ne_a_b nin0)
      have E4_a := Exa.keep E3_a Kq4.1
      have E4_b := Exa.keep Ea3 Kq4.1
      have K4 := Kp.call K3 Kq4 (allS (Or.inr sz_b) all0)
      show Goes p e below T4 (mkF m 52 #[.val (.long q0), .second, .val (.long q1), .second, .val (.long q2), .second, .val (.long q3), .second, .val (.int p4), .val (.long v1), .second, .val (.long v2), .second, .val (.ref a), .unset, .unset, .unset, .unset, .unset] [(.ref b)]) _
      refine G.astore X4 hx (pc' := 54) (hb hby at_52) rfl (L' := #[.val (.long q0), .second, .val (.long q1), .second, .val (.long q2), .second, .val (.long q3), .second, .val (.int p4), .val (.long v1), .second, .val (.long v2), .second, .val (.ref a), .val (.ref b), .unset, .unset, .unset, .unset]) rfl rfl ?_
      refine G.iload X4 hx (pc' := 56) (hb hby at_54) rfl rfl ?_
      refine G.iconst X4 hx (pc' := 57) (hb hby at_56) (z := (2 : Int32)) rfl rfl ?_
      refine G.iushr X4 hx (pc' := 58) (hb hby at_57) rfl ?_
      refine G.iconst X4 hx (pc' := 59) (hb hby at_58) (z := (3 : Int32)) rfl rfl ?_
      refine G.iand X4 hx (pc' := 60) (hb hby at_59) rfl ?_
      refine G.istore X4 hx (pc' := 62) (hb hby at_60) (L' := #[.val (.long q0), .second, .val (.long q1), .second, .val (.long q2), .second, .val (.long q3), .second, .val (.int p4), .val (.long v1), .second, .val (.long v2), .second, .val (.ref a), .val (.ref b), .val (.int ((Jvm.Free.XT.ushr p4 (2 : Int32)) &&& (3 : Int32))), .unset, .unset, .unset]) rfl rfl ?_
      refine G.iload X4 hx (pc' := 64) (hb hby at_62) rfl rfl ?_
      by_cases d0 : ((Jvm.Free.XT.ushr p4 (2 : Int32)) &&& (3 : Int32)) = (0 : Int32)
      · refine G.ifF X4 hx (pc' := 67) (hb hby at_64) (Jvm.Free.XT.i0_ne_f d0) rfl ?_
        refine G.aload X4 hx (pc' := 69) (hb hby at_67) rfl rfl rfl ?_
        refine G.astore X4 hx (pc' := 71) (hb hby at_69) rfl (L' := #[.val (.long q0), .second, .val (.long q1), .second, .val (.long q2), .second, .val (.long q3), .second, .val (.int p4), .val (.long v1), .second, .val (.long v2), .second, .val (.ref a), .val (.ref b), .val (.int ((Jvm.Free.XT.ushr p4 (2 : Int32)) &&& (3 : Int32))), .val (.ref b), .unset, .unset]) rfl rfl ?_
        refine G.lload X4 hx (pc' := 73) (hb hby at_71) rfl rfl ?_
        refine G.lloadN X4 hx (pc' := 74) (hb hby at_73) rfl rfl ?_
        refine G.lcmp X4 hx (pc' := 75) (hb hby at_74) rfl ?_
        by_cases d1 : v1 = q0
        · refine G.ifF X4 hx (pc' := 78) (hb hby at_75) (Jvm.Free.XT.ll_ne_f d1) rfl ?_
          refine G.lload X4 hx (pc' := 80) (hb hby at_78) rfl rfl ?_
          refine G.lloadN X4 hx (pc' := 81) (hb hby at_80) rfl rfl ?_
          refine G.lcmp X4 hx (pc' := 82) (hb hby at_81) rfl ?_
          by_cases d2 : v2 = q1
          · refine G.ifF X4 hx (pc' := 85) (hb hby at_82) (Jvm.Free.XT.ll_ne_f d2) rfl ?_
            refine G.iconst X4 hx (pc' := 86) (hb hby at_85) (z := (1 : Int32)) rfl rfl ?_
            refine G.goto X4 hx (pc' := 90) (hb hby at_86) (by decide) (by decide) ?_
            refine G.istore X4 hx (pc' := 92) (hb hby at_90) (L' := #[.val (.long q0), .second, .val (.long q1), .second, .val (.long q2), .second, .val (.long q3), .second, .val (.int p4), .val (.long v1), .second, .val (.long v2), .second, .val (.ref a), .val (.ref b), .val (.int ((Jvm.Free.XT.ushr p4 (2 : Int32)) &&& (3 : Int32))), .val (.ref b), .val (.int (1 : Int32)), .unset]) rfl rfl ?_
            refine G.goto X4 hx (pc' := 135) (hb hby at_92) (by decide) (by decide) ?_
            refine G.aload X4 hx (pc' := 137) (hb hby at_135) rfl rfl rfl ?_
            refine G.aload X4 hx (pc' := 139) (hb hby at_137) rfl rfl rfl ?_
            refine G.callV X4 hx hZ (y0 := (⟨"com/example/flowt/flowt/UInt128", "equals", "(Ljava/lang/Object;)Z"⟩ : MethodName)) (y := (⟨"com/example/flowt/flowt/UInt128", "equals", "(Ljava/lang/Object;)Z"⟩ : MethodName)) hown (hw _ (List.mem_of_getElem? (i := 18) rfl)) (hw _ (List.mem_of_getElem? (i := 19) rfl)) (notFace_of_selects (args := #[]) (mvT hZ (hw _ (List.mem_of_getElem? (i := 21) rfl)))) (hw _ (List.mem_of_getElem? (i := 21) rfl)) (hw _ (List.mem_of_getElem? (i := 20) rfl)) (hw _ (List.mem_of_getElem? (i := 2) rfl)) (hw _ (List.mem_of_getElem? (i := 22) rfl)) (by decide) rfl (rm := ({ frames := 0, cells := 0, slots := 0, locals := 0 } : Room)) (argsL := [(.ref b)]) (S := []) (W := 0) (a := a) E4_a (rm_eq l Z a0 hw a b q0 q1 v1 v2 T4.heap E4_b F4_a_high F4_a_low Fh4 Fl4 ) (lenOf pd_7 rfl) rfl (Nat.le_of_eq rfl) (by decide) (by decide) (by decide) (by decide) (by rw [hml]; rfl) (hb hby at_139) (pc' := 142) rfl ?_
            rintro T5 _ _ ⟨rfl, e5, rfl⟩ X5
            rw [List.append_nil] at X5
            show Goes p e below T5 (mkF m 142 #[.val (.long q0), .second, .val (.long q1), .second, .val (.long q2), .second, .val (.long q3), .second, .val (.int p4), .val (.long v1), .second, .val (.long v2), .second, .val (.ref a), .val (.ref b), .val (.int ((Jvm.Free.XT.ushr p4 (2 : Int32)) &&& (3 : Int32))), .val (.ref b), .val (.int (1 : Int32)), .unset] [(.int (eqv q0 q1 v1 v2))]) _
            refine G.istore X5 hx (pc' := 144) (hb hby at_142) (L' := #[.val (.long q0), .second, .val (.long q1), .second, .val (.long q2), .second, .val (.long q3), .second, .val (.int p4), .val (.long v1), .second, .val (.long v2), .second, .val (.ref a), .val (.ref b), .val (.int ((Jvm.Free.XT.ushr p4 (2 : Int32)) &&& (3 : Int32))), .val (.ref b), .val (.int (1 : Int32)), .val (.int (eqv q0 q1 v1 v2))]) rfl rfl ?_
            refine G.iload X5 hx (pc' := 146) (hb hby at_144) rfl rfl ?_
            refine G.iload X5 hx (pc' := 148) (hb hby at_146) rfl rfl ?_
            refine G.icmpT X5 hx (pc' := 153) (hb hby at_148) (Jvm.Free.XT.ii_eq_t (by rw [eqv, if_pos ⟨d1, d2⟩])) (by decide) (by decide) ?_
            refine G.iload X5 hx (pc' := 155) (hb hby at_153) rfl rfl ?_
            refine G.ifF X5 hx (pc' := 158) (hb hby at_155) (Jvm.Free.XT.i0_ne_f d0) rfl ?_
            refine G.aload X5 hx (pc' := 160) (hb hby at_158) rfl rfl rfl ?_
            refine G.aload X5 hx (pc' := 162) (hb hby at_160) rfl rfl rfl ?_
            refine G.callV X5 hx hZ (y0 := (⟨"com/example/flowt/flowt/UInt128", "equals", "(Ljava/lang/Object;)Z"⟩ : MethodName)) (y := (⟨"com/example/flowt/flowt/UInt128", "equals", "(Ljava/lang/Object;)Z"⟩ : MethodName)) hown (hw _ (List.mem_of_getElem? (i := 18) rfl)) (hw _ (List.mem_of_getElem? (i := 19) rfl)) (notFace_of_selects (args := #[]) (mvT hZ (hw _ (List.mem_of_getElem? (i := 21) rfl)))) (hw _ (List.mem_of_getElem? (i := 21) rfl)) (hw _ (List.mem_of_getElem? (i := 20) rfl)) (hw _ (List.mem_of_getElem? (i := 2) rfl)) (hw _ (List.mem_of_getElem? (i := 22) rfl)) (by decide) e5 (rm := ({ frames := 0, cells := 0, slots := 0, locals := 0 } : Room)) (argsL := [(.ref a)]) (S := []) (W := 0) (a := b) E4_b (rm_eq l Z a0 hw b a v1 v2 q0 q1 T4.heap E4_a Fh4 Fl4 F4_a_high F4_a_low ) (lenOf pd_7 rfl) rfl (Nat.le_of_eq rfl) (by decide) (by decide) (by decide) (by decide) (by rw [hml]; rfl) (hb hby at_162) (pc' := 165) rfl ?_
            rintro T6 _ _ ⟨rfl, e6, rfl⟩ X6
            rw [List.append_nil] at X6
            show Goes p e below T6 (mkF m 165 #[.val (.long q0), .second, .val (.long q1), .second, .val (.long q2), .second, .val (.long q3), .second, .val (.int p4), .val (.long v1), .second, .val (.long v2), .second, .val (.ref a), .val (.ref b), .val (.int ((Jvm.Free.XT.ushr p4 (2 : Int32)) &&& (3 : Int32))), .val (.ref b), .val (.int (1 : Int32)), .val (.int (eqv q0 q1 v1 v2))] [(.int (eqv v1 v2 q0 q1))]) _
            refine G.iload X6 hx (pc' := 167) (hb hby at_165) rfl rfl ?_
            refine G.icmpF X6 hx (pc' := 170) (hb hby at_167) (Jvm.Free.XT.ii_ne_f (by rw [eqv, if_pos ⟨d1.symm, d2.symm⟩])) rfl ?_
            refine G.iconst X6 hx (pc' := 171) (hb hby at_170) (z := (1 : Int32)) rfl rfl ?_
            refine G.goto X6 hx (pc' := 175) (hb hby at_171) (by decide) (by decide) ?_
            refine Goes.retN X6 hx hret (by simp) hlk (hb hby at_175) (by decide) (by decide) ⟨rfl, K4.fr⟩
          · refine G.ifT X4 hx (pc' := 89) (hb hby at_82) (Jvm.Free.XT.ll_ne_t d2) (by decide) (by decide) ?_
            refine G.iconst X4 hx (pc' := 90) (hb hby at_89) (z := (0 : Int32)) rfl rfl ?_
            refine G.istore X4 hx (pc' := 92) (hb hby at_90) (L' := #[.val (.long q0), .second, .val (.long q1), .second, .val (.long q2), .second, .val (.long q3), .second, .val (.int p4), .val (.long v1), .second, .val (.long v2), .second, .val (.ref a), .val (.ref b), .val (.int ((Jvm.Free.XT.ushr p4 (2 : Int32)) &&& (3 : Int32))), .val (.ref b), .val (.int (0 : Int32)), .unset]) rfl rfl ?_
            refine G.goto X4 hx (pc' := 135) (hb hby at_92) (by decide) (by decide) ?_
            refine G.aload X4 hx (pc' := 137) (hb hby at_135) rfl rfl rfl ?_
            refine G.aload X4 hx (pc' := 139) (hb hby at_137) rfl rfl rfl ?_
            refine G.callV X4 hx hZ (y0 := (⟨"com/example/flowt/flowt/UInt128", "equals", "(Ljava/lang/Object;)Z"⟩ : MethodName)) (y := (⟨"com/example/flowt/flowt/UInt128", "equals", "(Ljava/lang/Object;)Z"⟩ : MethodName)) hown (hw _ (List.mem_of_getElem? (i := 18) rfl)) (hw _ (List.mem_of_getElem? (i := 19) rfl)) (notFace_of_selects (args := #[]) (mvT hZ (hw _ (List.mem_of_getElem? (i := 21) rfl)))) (hw _ (List.mem_of_getElem? (i := 21) rfl)) (hw _ (List.mem_of_getElem? (i := 20) rfl)) (hw _ (List.mem_of_getElem? (i := 2) rfl)) (hw _ (List.mem_of_getElem? (i := 22) rfl)) (by decide) rfl (rm := ({ frames := 0, cells := 0, slots := 0, locals := 0 } : Room)) (argsL := [(.ref b)]) (S := []) (W := 0) (a := a) E4_a (rm_eq l Z a0 hw a b q0 q1 v1 v2 T4.heap E4_b F4_a_high F4_a_low Fh4 Fl4 ) (lenOf pd_7 rfl) rfl (Nat.le_of_eq rfl) (by decide) (by decide) (by decide) (by decide) (by rw [hml]; rfl) (hb hby at_139) (pc' := 142) rfl ?_
            rintro T7 _ _ ⟨rfl, e7, rfl⟩ X7
            rw [List.append_nil] at X7
            show Goes p e below T7 (mkF m 142 #[.val (.long q0), .second, .val (.long q1), .second, .val (.long q2), .second, .val (.long q3), .second, .val (.int p4), .val (.long v1), .second, .val (.long v2), .second, .val (.ref a), .val (.ref b), .val (.int ((Jvm.Free.XT.ushr p4 (2 : Int32)) &&& (3 : Int32))), .val (.ref b), .val (.int (0 : Int32)), .unset] [(.int (eqv q0 q1 v1 v2))]) _
            refine G.istore X7 hx (pc' := 144) (hb hby at_142) (L' := #[.val (.long q0), .second, .val (.long q1), .second, .val (.long q2), .second, .val (.long q3), .second, .val (.int p4), .val (.long v1), .second, .val (.long v2), .second, .val (.ref a), .val (.ref b), .val (.int ((Jvm.Free.XT.ushr p4 (2 : Int32)) &&& (3 : Int32))), .val (.ref b), .val (.int (0 : Int32)), .val (.int (eqv q0 q1 v1 v2))]) rfl rfl ?_
            refine G.iload X7 hx (pc' := 146) (hb hby at_144) rfl rfl ?_
            refine G.iload X7 hx (pc' := 148) (hb hby at_146) rfl rfl ?_
            refine G.icmpT X7 hx (pc' := 153) (hb hby at_148) (Jvm.Free.XT.ii_eq_t (by rw [eqv, if_neg (fun q => d2 q.2)])) (by decide) (by decide) ?_
            refine G.iload X7 hx (pc' := 155) (hb hby at_153) rfl rfl ?_
            refine G.ifF X7 hx (pc' := 158) (hb hby at_155) (Jvm.Free.XT.i0_ne_f d0) rfl ?_
            refine G.aload X7 hx (pc' := 160) (hb hby at_158) rfl rfl rfl ?_
            refine G.aload X7 hx (pc' := 162) (hb hby at_160) rfl rfl rfl ?_
            refine G.callV X7 hx hZ (y0 := (⟨"com/example/flowt/flowt/UInt128", "equals", "(Ljava/lang/Object;)Z"⟩ : MethodName)) (y := (⟨"com/example/flowt/flowt/UInt128", "equals", "(Ljava/lang/Object;)Z"⟩ : MethodName)) hown (hw _ (List.mem_of_getElem? (i := 18) rfl)) (hw _ (List.mem_of_getElem? (i := 19) rfl)) (notFace_of_selects (args := #[]) (mvT hZ (hw _ (List.mem_of_getElem? (i := 21) rfl)))) (hw _ (List.mem_of_getElem? (i := 21) rfl)) (hw _ (List.mem_of_getElem? (i := 20) rfl)) (hw _ (List.mem_of_getElem? (i := 2) rfl)) (hw _ (List.mem_of_getElem? (i := 22) rfl)) (by decide) e7 (rm := ({ frames := 0, cells := 0, slots := 0, locals := 0 } : Room)) (argsL := [(.ref a)]) (S := []) (W := 0) (a := b) E4_b (rm_eq l Z a0 hw b a v1 v2 q0 q1 T4.heap E4_a Fh4 Fl4 F4_a_high F4_a_low ) (lenOf pd_7 rfl) rfl (Nat.le_of_eq rfl) (by decide) (by decide) (by decide) (by decide) (by rw [hml]; rfl) (hb hby at_162) (pc' := 165) rfl ?_
            rintro T8 _ _ ⟨rfl, e8, rfl⟩ X8
            rw [List.append_nil] at X8
            show Goes p e below T8 (mkF m 165 #[.val (.long q0), .second, .val (.long q1), .second, .val (.long q2), .second, .val (.long q3), .second, .val (.int p4), .val (.long v1), .second, .val (.long v2), .second, .val (.ref a), .val (.ref b), .val (.int ((Jvm.Free.XT.ushr p4 (2 : Int32)) &&& (3 : Int32))), .val (.ref b), .val (.int (0 : Int32)), .val (.int (eqv q0 q1 v1 v2))] [(.int (eqv v1 v2 q0 q1))]) _
            refine G.iload X8 hx (pc' := 167) (hb hby at_165) rfl rfl ?_
            refine G.icmpF X8 hx (pc' := 170) (hb hby at_167) (Jvm.Free.XT.ii_ne_f (by rw [eqv, if_neg (fun q => d2 q.2.symm)])) rfl ?_
            refine G.iconst X8 hx (pc' := 171) (hb hby at_170) (z := (1 : Int32)) rfl rfl ?_
            refine G.goto X8 hx (pc' := 175) (hb hby at_171) (by decide) (by decide) ?_
            refine Goes.retN X8 hx hret (by simp) hlk (hb hby at_175) (by decide) (by decide) ⟨rfl, K4.fr⟩
        · refine G.ifT X4 hx (pc' := 89) (hb hby at_75) (Jvm.Free.XT.ll_ne_t d1) (by decide) (by decide) ?_
          refine G.iconst X4 hx (pc' := 90) (hb hby at_89) (z := (0 : Int32)) rfl rfl ?_
          refine G.istore X4 hx (pc' := 92) (hb hby at_90) (L' := #[.val (.long q0), .second, .val (.long q1), .second, .val (.long q2), .second, .val (.long q3), .second, .val (.int p4), .val (.long v1), .second, .val (.long v2), .second, .val (.ref a), .val (.ref b), .val (.int ((Jvm.Free.XT.ushr p4 (2 : Int32)) &&& (3 : Int32))), .val (.ref b), .val (.int (0 : Int32)), .unset]) rfl rfl ?_
          refine G.goto X4 hx (pc' := 135) (hb hby at_92) (by decide) (by decide) ?_
          refine G.aload X4 hx (pc' := 137) (hb hby at_135) rfl rfl rfl ?_
          refine G.aload X4 hx (pc' := 139) (hb hby at_137) rfl rfl rfl ?_
          refine G.callV X4 hx hZ (y0 := (⟨"com/example/flowt/flowt/UInt128", "equals", "(Ljava/lang/Object;)Z"⟩ : MethodName)) (y := (⟨"com/example/flowt/flowt/UInt128", "equals", "(Ljava/lang/Object;)Z"⟩ : MethodName)) hown (hw _ (List.mem_of_getElem? (i := 18) rfl)) (hw _ (List.mem_of_getElem? (i := 19) rfl)) (notFace_of_selects (args := #[]) (mvT hZ (hw _ (List.mem_of_getElem? (i := 21) rfl)))) (hw _ (List.mem_of_getElem? (i := 21) rfl)) (hw _ (List.mem_of_getElem? (i := 20) rfl)) (hw _ (List.mem_of_getElem? (i := 2) rfl)) (hw _ (List.mem_of_getElem? (i := 22) rfl)) (by decide) rfl (rm := ({ frames := 0, cells := 0, slots := 0, locals := 0 } : Room)) (argsL := [(.ref b)]) (S := []) (W := 0) (a := a) E4_a (rm_eq l Z a0 hw a b q0 q1 v1 v2 T4.heap E4_b F4_a_high F4_a_low Fh4 Fl4 ) (lenOf pd_7 rfl) rfl (Nat.le_of_eq rfl) (by decide) (by decide) (by decide) (by decide) (by rw [hml]; rfl) (hb hby at_139) (pc' := 142) rfl ?_
          rintro T9 _ _ ⟨rfl, e9, rfl⟩ X9
          rw [List.append_nil] at X9
          show Goes p e below T9 (mkF m 142 #[.val (.long q0), .second, .val (.long q1), .second, .val (.long q2), .second, .val (.long q3), .second, .val (.int p4), .val (.long v1), .second, .val (.long v2), .second, .val (.ref a), .val (.ref b), .val (.int ((Jvm.Free.XT.ushr p4 (2 : Int32)) &&& (3 : Int32))), .val (.ref b), .val (.int (0 : Int32)), .unset] [(.int (eqv q0 q1 v1 v2))]) _
          refine G.istore X9 hx (pc' := 144) (hb hby at_142) (L' := #[.val (.long q0), .second, .val (.long q1), .second, .val (.long q2), .second, .val (.long q3), .second, .val (.int p4), .val (.long v1), .second, .val (.long v2), .second, .val (.ref a), .val (.ref b), .val (.int ((Jvm.Free.XT.ushr p4 (2 : Int32)) &&& (3 : Int32))), .val (.ref b), .val (.int (0 : Int32)), .val (.int (eqv q0 q1 v1 v2))]) rfl rfl ?_
          refine G.iload X9 hx (pc' := 146) (hb hby at_144) rfl rfl ?_
          refine G.iload X9 hx (pc' := 148) (hb hby at_146) rfl rfl ?_
          refine G.icmpT X9 hx (pc' := 153) (hb hby at_148) (Jvm.Free.XT.ii_eq_t (by rw [eqv, if_neg (fun q => d1 q.1)])) (by decide) (by decide) ?_
          refine G.iload X9 hx (pc' := 155) (hb hby at_153) rfl rfl ?_
          refine G.ifF X9 hx (pc' := 158) (hb hby at_155) (Jvm.Free.XT.i0_ne_f d0) rfl ?_
          refine G.aload X9 hx (pc' := 160) (hb hby at_158) rfl rfl rfl ?_
          refine G.aload X9 hx (pc' := 162) (hb hby at_160) rfl rfl rfl ?_
          refine G.callV X9 hx hZ (y0 := (⟨"com/example/flowt/flowt/UInt128", "equals", "(Ljava/lang/Object;)Z"⟩ : MethodName)) (y := (⟨"com/example/flowt/flowt/UInt128", "equals", "(Ljava/lang/Object;)Z"⟩ : MethodName)) hown (hw _ (List.mem_of_getElem? (i := 18) rfl)) (hw _ (List.mem_of_getElem? (i := 19) rfl)) (notFace_of_selects (args := #[]) (mvT hZ (hw _ (List.mem_of_getElem? (i := 21) rfl)))) (hw _ (List.mem_of_getElem? (i := 21) rfl)) (hw _ (List.mem_of_getElem? (i := 20) rfl)) (hw _ (List.mem_of_getElem? (i := 2) rfl)) (hw _ (List.mem_of_getElem? (i := 22) rfl)) (by decide) e9 (rm := ({ frames := 0, cells := 0, slots := 0, locals := 0 } : Room)) (argsL := [(.ref a)]) (S := []) (W := 0) (a := b) E4_b (rm_eq l Z a0 hw b a v1 v2 q0 q1 T4.heap E4_a Fh4 Fl4 F4_a_high F4_a_low ) (lenOf pd_7 rfl) rfl (Nat.le_of_eq rfl) (by decide) (by decide) (by decide) (by decide) (by rw [hml]; rfl) (hb hby at_162) (pc' := 165) rfl ?_
          rintro T10 _ _ ⟨rfl, e10, rfl⟩ X10
          rw [List.append_nil] at X10
          show Goes p e below T10 (mkF m 165 #[.val (.long q0), .second, .val (.long q1), .second, .val (.long q2), .second, .val (.long q3), .second, .val (.int p4), .val (.long v1), .second, .val (.long v2), .second, .val (.ref a), .val (.ref b), .val (.int ((Jvm.Free.XT.ushr p4 (2 : Int32)) &&& (3 : Int32))), .val (.ref b), .val (.int (0 : Int32)), .val (.int (eqv q0 q1 v1 v2))] [(.int (eqv v1 v2 q0 q1))]) _
          refine G.iload X10 hx (pc' := 167) (hb hby at_165) rfl rfl ?_
          refine G.icmpF X10 hx (pc' := 170) (hb hby at_167) (Jvm.Free.XT.ii_ne_f (by rw [eqv, if_neg (fun q => d1 q.1.symm)])) rfl ?_
          refine G.iconst X10 hx (pc' := 171) (hb hby at_170) (z := (1 : Int32)) rfl rfl ?_
          refine G.goto X10 hx (pc' := 175) (hb hby at_171) (by decide) (by decide) ?_
          refine Goes.retN X10 hx hret (by simp) hlk (hb hby at_175) (by decide) (by decide) ⟨rfl, K4.fr⟩
      · refine G.ifT X4 hx (pc' := 95) (hb hby at_64) (Jvm.Free.XT.i0_ne_t d0) (by decide) (by decide) ?_
        refine G.iload X4 hx (pc' := 97) (hb hby at_95) rfl rfl ?_
        refine G.iconst X4 hx (pc' := 98) (hb hby at_97) (z := (1 : Int32)) rfl rfl ?_
        by_cases d1 : ((Jvm.Free.XT.ushr p4 (2 : Int32)) &&& (3 : Int32)) = (1 : Int32)
        · refine G.icmpF X4 hx (pc' := 101) (hb hby at_98) (Jvm.Free.XT.ii_ne_f d1) rfl ?_
          refine G.aconstNull X4 hx (pc' := 102) (hb hby at_101) rfl ?_
          refine G.astore X4 hx (pc' := 104) (hb hby at_102) rfl (L' := #[.val (.long q0), .second, .val (.long q1), .second, .val (.long q2), .second, .val (.long q3), .second, .val (.int p4), .val (.long v1), .second, .val (.long v2), .second, .val (.ref a), .val (.ref b), .val (.int ((Jvm.Free.XT.ushr p4 (2 : Int32)) &&& (3 : Int32))), .val .null, .unset, .unset]) rfl rfl ?_
          refine G.iconst X4 hx (pc' := 105) (hb hby at_104) (z := (0 : Int32)) rfl rfl ?_
          refine G.istore X4 hx (pc' := 107) (hb hby at_105) (L' := #[.val (.long q0), .second, .val (.long q1), .second, .val (.long q2), .second, .val (.long q3), .second, .val (.int p4), .val (.long v1), .second, .val (.long v2), .second, .val (.ref a), .val (.ref b), .val (.int ((Jvm.Free.XT.ushr p4 (2 : Int32)) &&& (3 : Int32))), .val .null, .val (.int (0 : Int32)), .unset]) rfl rfl ?_
          refine G.goto X4 hx (pc' := 135) (hb hby at_107) (by decide) (by decide) ?_
          refine G.aload X4 hx (pc' := 137) (hb hby at_135) rfl rfl rfl ?_
          refine G.aload X4 hx (pc' := 139) (hb hby at_137) rfl rfl rfl ?_
          refine G.callV X4 hx hZ (y0 := (⟨"com/example/flowt/flowt/UInt128", "equals", "(Ljava/lang/Object;)Z"⟩ : MethodName)) (y := (⟨"com/example/flowt/flowt/UInt128", "equals", "(Ljava/lang/Object;)Z"⟩ : MethodName)) hown (hw _ (List.mem_of_getElem? (i := 18) rfl)) (hw _ (List.mem_of_getElem? (i := 19) rfl)) (notFace_of_selects (args := #[]) (mvT hZ (hw _ (List.mem_of_getElem? (i := 21) rfl)))) (hw _ (List.mem_of_getElem? (i := 21) rfl)) (hw _ (List.mem_of_getElem? (i := 20) rfl)) (hw _ (List.mem_of_getElem? (i := 2) rfl)) (hw _ (List.mem_of_getElem? (i := 22) rfl)) (by decide) rfl (rm := ({ frames := 0, cells := 0, slots := 0, locals := 0 } : Room)) (argsL := [.null]) (S := []) (W := 0) (a := a) E4_a (rm_eqn l Z a0 hw a T4.heap) (lenOf pd_7 rfl) rfl (Nat.le_of_eq rfl) (by decide) (by decide) (by decide) (by decide) (by rw [hml]; rfl) (hb hby at_139) (pc' := 142) rfl ?_
          rintro T11 _ _ ⟨rfl, e11, rfl⟩ X11
          rw [List.append_nil] at X11
          show Goes p e below T11 (mkF m 142 #[.val (.long q0), .second, .val (.long q1), .second, .val (.long q2), .second, .val (.long q3), .second, .val (.int p4), .val (.long v1), .second, .val (.long v2), .second, .val (.ref a), .val (.ref b), .val (.int ((Jvm.Free.XT.ushr p4 (2 : Int32)) &&& (3 : Int32))), .val .null, .val (.int (0 : Int32)), .unset] [(.int (0 : Int32))]) _
          refine G.istore X11 hx (pc' := 144) (hb hby at_142) (L' := #[.val (.long q0), .second, .val (.long q1), .second, .val (.long q2), .second, .val (.long q3), .second, .val (.int p4), .val (.long v1), .second, .val (.long v2), .second, .val (.ref a), .val (.ref b), .val (.int ((Jvm.Free.XT.ushr p4 (2 : Int32)) &&& (3 : Int32))), .val .null, .val (.int (0 : Int32)), .val (.int (0 : Int32))]) rfl rfl ?_
          refine G.iload X11 hx (pc' := 146) (hb hby at_144) rfl rfl ?_
          refine G.iload X11 hx (pc' := 148) (hb hby at_146) rfl rfl ?_
          refine G.icmpT X11 hx (pc' := 153) (hb hby at_148) (Jvm.Free.XT.ii_eq_t rfl) (by decide) (by decide) ?_
          refine G.iload X11 hx (pc' := 155) (hb hby at_153) rfl rfl ?_
          refine G.ifT X11 hx (pc' := 176) (hb hby at_155) (Jvm.Free.XT.i0_ne_t d0) (by decide) (by decide) ?_
          refine G.iconst X11 hx (pc' := 177) (hb hby at_176) (z := (1 : Int32)) rfl rfl ?_
          refine Goes.retN X11 hx hret (by simp) hlk (hb hby at_177) (by decide) (by decide) ⟨rfl, K4.fr⟩
        · refine G.icmpT X4 hx (pc' := 110) (hb hby at_98) (Jvm.Free.XT.ii_ne_t d1) (by decide) (by decide) ?_
          refine G.iload X4 hx (pc' := 112) (hb hby at_110) rfl rfl ?_
          refine G.iconst X4 hx (pc' := 113) (hb hby at_112) (z := (2 : Int32)) rfl rfl ?_
          by_cases d2 : ((Jvm.Free.XT.ushr p4 (2 : Int32)) &&& (3 : Int32)) = (2 : Int32)
          · refine G.icmpF X4 hx (pc' := 116) (hb hby at_113) (Jvm.Free.XT.ii_ne_f d2) rfl ?_
            refine G.lloadN X4 hx (pc' := 117) (hb hby at_116) rfl rfl ?_
            have hx' : ∀ j : Int32, ¬ j < 0 → j < (256 : Int32) → ∃ b, xs[j.toNatClampNeg]? = some (.ref b) ∧ Exa Z T4.heap b "java/lang/Long" := fun j u1 u2 => by
              obtain ⟨b', v1, v2⟩ := hxc j u1 u2
              exact ⟨b', v1, v2.keep K4.1⟩
            refine G.callS X4 hx hZ (y := (⟨"java/lang/Long", "valueOf", "(J)Ljava/lang/Long;"⟩ : MethodName)) hown (hw _ (List.mem_of_getElem? (i := 25) rfl)) (hw _ (List.mem_of_getElem? (i := 26) rfl)) (hw _ (List.mem_of_getElem? (i := 27) rfl)) (hw _ (List.mem_of_getElem? (i := 28) rfl)) (by decide) rfl (rm := ({ frames := 3, cells := 1, slots := 1, locals := 39 } : Room)) (argsL := [(.long q0)]) (S := []) (W := 0) (rm_box l Z a0 hw q0 ca xs T4.heap (Sta.keep0 S0 K4.1) (Seq.keep A0 K4.1 nin0) hx') (lenOf pd_8 rfl) rfl (Nat.le_of_eq rfl) (by decide) (by decide) (by decide) (by decide) (by rw [hml]; rfl) (hb hby at_117) (pc' := 120) rfl ?_
            rintro T12 _ L12 ⟨lb, rfl, Kq12, El12⟩ X12
            have F12_a_high := Fld.keep F4_a_high Kq12.1 nin0
            have F12_a_low := Fld.keep F4_a_low Kq12.1 nin0
            have F12_b_high := Fld.keep Fh4 Kq12.1 nin0
            have F12_b_low := Fld.keep Fl4 Kq12.1 nin0
            have E12_a := Exa.keep E4_a Kq12.1
            have E12_b := Exa.keep E4_b Kq12.1
            have K12 := Kp.call K4 Kq12 all0
            show Goes p e below T12 (mkF m 120 #[.val (.long q0), .second, .val (.long q1), .second, .val (.long q2), .second, .val (.long q3), .second, .val (.int p4), .val (.long v1), .second, .val (.long v2), .second, .val (.ref a), .val (.ref b), .val (.int ((Jvm.Free.XT.ushr p4 (2 : Int32)) &&& (3 : Int32))), .unset, .unset, .unset] [(.ref lb)]) _
            refine G.astore X12 hx (pc' := 122) (hb hby at_120) rfl (L' := #[.val (.long q0), .second, .val (.long q1), .second, .val (.long q2), .second, .val (.long q3), .second, .val (.int p4), .val (.long v1), .second, .val (.long v2), .second, .val (.ref a), .val (.ref b), .val (.int ((Jvm.Free.XT.ushr p4 (2 : Int32)) &&& (3 : Int32))), .val (.ref lb), .unset, .unset]) rfl rfl ?_
            refine G.iconst X12 hx (pc' := 123) (hb hby at_122) (z := (0 : Int32)) rfl rfl ?_
            refine G.istore X12 hx (pc' := 125) (hb hby at_123) (L' := #[.val (.long q0), .second, .val (.long q1), .second, .val (.long q2), .second, .val (.long q3), .second, .val (.int p4), .val (.long v1), .second, .val (.long v2), .second, .val (.ref a), .val (.ref b), .val (.int ((Jvm.Free.XT.ushr p4 (2 : Int32)) &&& (3 : Int32))), .val (.ref lb), .val (.int (0 : Int32)), .unset]) rfl rfl ?_
            refine G.goto X12 hx (pc' := 135) (hb hby at_125) (by decide) (by decide) ?_
            refine G.aload X12 hx (pc' := 137) (hb hby at_135) rfl rfl rfl ?_
            refine G.aload X12 hx (pc' := 139) (hb hby at_137) rfl rfl rfl ?_
            refine G.callV X12 hx hZ (y0 := (⟨"com/example/flowt/flowt/UInt128", "equals", "(Ljava/lang/Object;)Z"⟩ : MethodName)) (y := (⟨"com/example/flowt/flowt/UInt128", "equals", "(Ljava/lang/Object;)Z"⟩ : MethodName)) hown (hw _ (List.mem_of_getElem? (i := 18) rfl)) (hw _ (List.mem_of_getElem? (i := 19) rfl)) (notFace_of_selects (args := #[]) (mvT hZ (hw _ (List.mem_of_getElem? (i := 21) rfl)))) (hw _ (List.mem_of_getElem? (i := 21) rfl)) (hw _ (List.mem_of_getElem? (i := 20) rfl)) (hw _ (List.mem_of_getElem? (i := 2) rfl)) (hw _ (List.mem_of_getElem? (i := 22) rfl)) (by decide) rfl (rm := ({ frames := 0, cells := 0, slots := 0, locals := 0 } : Room)) (argsL := [(.ref lb)]) (S := []) (W := 0) (a := a) E12_a (rm_eql l Z a0 hw a lb T12.heap El12) (lenOf pd_7 rfl) rfl (Nat.le_of_eq rfl) (by decide) (by decide) (by decide) (by decide) (by rw [hml]; rfl) (hb hby at_139) (pc' := 142) rfl ?_
            rintro T13 _ _ ⟨rfl, e13, rfl⟩ X13
            rw [List.append_nil] at X13
            show Goes p e below T13 (mkF m 142 #[.val (.long q0), .second, .val (.long q1), .second, .val (.long q2), .second, .val (.long q3), .second, .val (.int p4), .val (.long v1), .second, .val (.long v2), .second, .val (.ref a), .val (.ref b), .val (.int ((Jvm.Free.XT.ushr p4 (2 : Int32)) &&& (3 : Int32))), .val (.ref lb), .val (.int (0 : Int32)), .unset] [(.int (0 : Int32))]) _
            refine G.istore X13 hx (pc' := 144) (hb hby at_142) (L' := #[.val (.long q0), .second, .val (.long q1), .second, .val (.long q2), .second, .val (.long q3), .second, .val (.int p4), .val (.long v1), .second, .val (.long v2), .second, .val (.ref a), .val (.ref b), .val (.int ((Jvm.Free.XT.ushr p4 (2 : Int32)) &&& (3 : Int32))), .val (.ref lb), .val (.int (0 : Int32)), .val (.int (0 : Int32))]) rfl rfl ?_
            refine G.iload X13 hx (pc' := 146) (hb hby at_144) rfl rfl ?_
            refine G.iload X13 hx (pc' := 148) (hb hby at_146) rfl rfl ?_
            refine G.icmpT X13 hx (pc' := 153) (hb hby at_148) (Jvm.Free.XT.ii_eq_t rfl) (by decide) (by decide) ?_
            refine G.iload X13 hx (pc' := 155) (hb hby at_153) rfl rfl ?_
            refine G.ifT X13 hx (pc' := 176) (hb hby at_155) (Jvm.Free.XT.i0_ne_t d0) (by decide) (by decide) ?_
            refine G.iconst X13 hx (pc' := 177) (hb hby at_176) (z := (1 : Int32)) rfl rfl ?_
            refine Goes.retN X13 hx hret (by simp) hlk (hb hby at_177) (by decide) (by decide) ⟨rfl, K12.fr⟩
          · refine G.icmpT X4 hx (pc' := 128) (hb hby at_113) (Jvm.Free.XT.ii_ne_t d2) (by decide) (by decide) ?_
            refine G.aload X4 hx (pc' := 130) (hb hby at_128) rfl rfl rfl ?_
            refine G.astore X4 hx (pc' := 132) (hb hby at_130) rfl (L' := #[.val (.long q0), .second, .val (.long q1), .second, .val (.long q2), .second, .val (.long q3), .second, .val (.int p4), .val (.long v1), .second, .val (.long v2), .second, .val (.ref a), .val (.ref b), .val (.int ((Jvm.Free.XT.ushr p4 (2 : Int32)) &&& (3 : Int32))), .val (.ref a), .unset, .unset]) rfl rfl ?_
            refine G.iconst X4 hx (pc' := 133) (hb hby at_132) (z := (1 : Int32)) rfl rfl ?_
            refine G.istore X4 hx (pc' := 135) (hb hby at_133) (L' := #[.val (.long q0), .second, .val (.long q1), .second, .val (.long q2), .second, .val (.long q3), .second, .val (.int p4), .val (.long v1), .second, .val (.long v2), .second, .val (.ref a), .val (.ref b), .val (.int ((Jvm.Free.XT.ushr p4 (2 : Int32)) &&& (3 : Int32))), .val (.ref a), .val (.int (1 : Int32)), .unset]) rfl rfl ?_
            refine G.aload X4 hx (pc' := 137) (hb hby at_135) rfl rfl rfl ?_
            refine G.aload X4 hx (pc' := 139) (hb hby at_137) rfl rfl rfl ?_
            refine G.callV X4 hx hZ (y0 := (⟨"com/example/flowt/flowt/UInt128", "equals", "(Ljava/lang/Object;)Z"⟩ : MethodName)) (y := (⟨"com/example/flowt/flowt/UInt128", "equals", "(Ljava/lang/Object;)Z"⟩ : MethodName)) hown (hw _ (List.mem_of_getElem? (i := 18) rfl)) (hw _ (List.mem_of_getElem? (i := 19) rfl)) (notFace_of_selects (args := #[]) (mvT hZ (hw _ (List.mem_of_getElem? (i := 21) rfl)))) (hw _ (List.mem_of_getElem? (i := 21) rfl)) (hw _ (List.mem_of_getElem? (i := 20) rfl)) (hw _ (List.mem_of_getElem? (i := 2) rfl)) (hw _ (List.mem_of_getElem? (i := 22) rfl)) (by decide) rfl (rm := ({ frames := 0, cells := 0, slots := 0, locals := 0 } : Room)) (argsL := [(.ref a)]) (S := []) (W := 0) (a := a) E4_a (rm_eq l Z a0 hw a a q0 q1 q0 q1 T4.heap E4_a F4_a_high F4_a_low F4_a_high F4_a_low ) (lenOf pd_7 rfl) rfl (Nat.le_of_eq rfl) (by decide) (by decide) (by decide) (by decide) (by rw [hml]; rfl) (hb hby at_139) (pc' := 142) rfl ?_
            rintro T14 _ _ ⟨rfl, e14, rfl⟩ X14
            rw [List.append_nil] at X14
            show Goes p e below T14 (mkF m 142 #[.val (.long q0), .second, .val (.long q1), .second, .val (.long q2), .second, .val (.long q3), .second, .val (.int p4), .val (.long v1), .second, .val (.long v2), .second, .val (.ref a), .val (.ref b), .val (.int ((Jvm.Free.XT.ushr p4 (2 : Int32)) &&& (3 : Int32))), .val (.ref a), .val (.int (1 : Int32)), .unset] [(.int (eqv q0 q1 q0 q1))]) _
            refine G.istore X14 hx (pc' := 144) (hb hby at_142) (L' := #[.val (.long q0), .second, .val (.long q1), .second, .val (.long q2), .second, .val (.long q3), .second, .val (.int p4), .val (.long v1), .second, .val (.long v2), .second, .val (.ref a), .val (.ref b), .val (.int ((Jvm.Free.XT.ushr p4 (2 : Int32)) &&& (3 : Int32))), .val (.ref a), .val (.int (1 : Int32)), .val (.int (eqv q0 q1 q0 q1))]) rfl rfl ?_
            refine G.iload X14 hx (pc' := 146) (hb hby at_144) rfl rfl ?_
            refine G.iload X14 hx (pc' := 148) (hb hby at_146) rfl rfl ?_
            refine G.icmpT X14 hx (pc' := 153) (hb hby at_148) (Jvm.Free.XT.ii_eq_t (by rw [eqv, if_pos ⟨rfl, rfl⟩])) (by decide) (by decide) ?_
            refine G.iload X14 hx (pc' := 155) (hb hby at_153) rfl rfl ?_
            refine G.ifT X14 hx (pc' := 176) (hb hby at_155) (Jvm.Free.XT.i0_ne_t d0) (by decide) (by decide) ?_
            refine G.iconst X14 hx (pc' := 177) (hb hby at_176) (z := (1 : Int32)) rfl rfl ?_
            refine Goes.retN X14 hx hret (by simp) hlk (hb hby at_177) (by decide) (by decide) ⟨rfl, K4.fr⟩
set_option maxRecDepth 65536 in
set_option maxHeartbeats 40000000 in
theorem comes_1 {Post : Tables → Env → Array Value → State → Outcome → State → Prop} (hpost : ∀ tb e args s v u, (limb_1_1.after args s (.returned v) u = true ∧ limb_1_2.after args s (.returned v) u = true ∧ True) → FrameEnd s (.returned v) u (Jvm.fieldLocs frame_1_writes args s ++ Jvm.arrayLocs frame_1_arrays args s ++ Jvm.staticLocs frame_1_statics s) 16 128 → Post tb e args s (.returned v) u) :
    ArmFor flags0 classFile x code maxLocals ret World_1 tables_1 room_1 Calls_1 rest_1 Pre_1 Post := by
  intro l hfl _ _ p e ha hc hk s m args below hf hA hF happ hP
  obtain ⟨hcalls, hrest, hpre⟩ := hP
  obtain ⟨-, -, -, hnamed, -, -, -, hat⟩ := (Spec.applies_iff hf).mp happ
  obtain ⟨hg, hn⟩ := and_e (Cond.before_iff.mp (show (Jvm.Cond.and given_1 narrow_1).before args s = true from hpre))
  obtain ⟨hg0, hg1⟩ := and_e hg
  obtain ⟨hb1, hg2⟩ := and_e hg1
  obtain ⟨hb2, hg3⟩ := and_e hg2
  obtain ⟨hb3, hg4⟩ := and_e hg3
  obtain ⟨hb4, hg5⟩ := and_e hg4
  obtain ⟨w0, w1, w2, w3, w4, rfl⟩ : ∃ w0 w1 w2 w3 w4 : Value, args = #[w0, w1, w2, w3, w4] := by
    have hs : args.size = 5 := by simpa [Cond.value, given_1] using hg0
    obtain ⟨L⟩ := args
    match L, hs with
    | [w0, w1, w2, w3, w4], _ => exact ⟨w0, w1, w2, w3, w4, rfl⟩
  have hw := fun d (hd : d ∈ tables_1) => atoms_spec (ws := Jvm.Cond.code x code maxLocals ret :: tables_1) hat d (List.mem_cons_of_mem _ hd)
  have hfit : Fit s := fun {y c} hc i hi => by
    obtain ⟨ha, rfl⟩ := Array.getElem?_eq_some_iff.mp hc
    have q := List.all_eq_true.mp ((Array.all_eq_true_iff_forall_mem.mp hF) _ (Array.getElem_mem ha)) i (List.mem_range.mpr hi)
    simpa [Array.getElem?_eq_getElem hi] using q
  obtain ⟨i0, ea0⟩ := isL_v hb1
  obtain rfl : w0 = (.long i0) := Option.some.inj ea0
  obtain ⟨i1, ea1⟩ := isL_v hb2
  obtain rfl : w1 = (.long i1) := Option.some.inj ea1
  obtain ⟨i2, ea2⟩ := isL_v hb3
  obtain rfl : w2 = (.long i2) := Option.some.inj ea2
  obtain ⟨i3, ea3⟩ := isL_v hb4
  obtain rfl : w3 = (.long i3) := Option.some.inj ea3
  obtain ⟨i4, ea4⟩ := is_v hg5
  obtain rfl : w4 = (.int i4) := Option.some.inj ea4
  obtain ⟨hsets, -⟩ := atoms_of jdkStatics_1 (show (jdkStatics_1.foldr Jvm.Cond.and restOwn_1).before #[Value.long i0, Value.long i1, Value.long i2, Value.long i3, Value.int i4] s = true from rest_1_c_eq ▸ hrest)
  have n1 := Cond.before_iff.mp (hsets _ (List.mem_of_getElem? (i := 2) rfl))
  have n2 := Cond.before_iff.mp (hsets _ (List.mem_of_getElem? (i := 4) rfl))
  have n3 := Cond.before_iff.mp (hsets _ (List.mem_of_getElem? (i := 5) rfl))
  obtain ⟨ca, ev⟩ := arr_v n1
  obtain ⟨cl, A⟩ := Arr.start ev n1
  have S0 := Sta.start ev (Or.inl (hsets _ (List.mem_of_getElem? (i := 1) rfl)))
  have hat' := A.fin (Vm.Alike.refl _)
  obtain ⟨xl, yl, el1, el2, -, -⟩ := cmp_v (Or.inl n2)
  have hsz : cl.slots.size < 2 ^ 31 ∧ cl.slots.size.toInt32 = 256 := by
    have q := (own_len_at ev hat' el1)
    exact ⟨q, gotT (Cond.eq_ints (len_f ev hat' q) (Term.int_eval 256)) n2⟩
  have hbx := Bxs.start (fun _ => ev) A hsz.1 hsz.2 (by decide) n3 (val := fun j => .long (j - 128).toInt64) (fun X j nn u => eqv_l (i2l_at (by first | exact (own_subi (idx_at nn) (Term.int_eval 128)) | simp [Term.eval, idx_at nn])) u)
  have hxc : ∀ j : Int32, ¬ j < 0 → j < (256 : Int32) → ∃ b, cl.slots.toList[j.toNatClampNeg]? = some (.ref b) ∧ Exa s s.heap b "java/lang/Long" := by
    intro j hj hj2
    have z : (256 : Int32).toInt = 256 := rfl
    rw [Int32.lt_iff_toInt_lt] at hj2
    have z0 : (0 : Int32).toInt = 0 := rfl
    have hin : ¬ (j < 0 ∨ cl.slots.size ≤ j.toNatClampNeg) := fun q => q.elim hj fun q => by rw [hbx.2.1] at q; simp only [Int32.toNatClampNeg] at q; omega
    obtain ⟨b, g1, g2, -⟩ := hbx.2.2.2 j hin
    exact ⟨b, by rw [Array.getElem?_toList]; exact g1, g2⟩
  obtain ⟨n, o, h1, h2, h3, _, L, rfl, ⟨rfl, N⟩, hq⟩ := rm0 l s _ hw i0 i1 i2 i3 i4 ca cl.slots.toList s.heap S0 ⟨cl, A, rfl, by rw [Array.length_toList]; exact hsz.1⟩ hxc tables_1 p e ha hc hk s m _ below hf ((Spec.applies_iff_loose hf).mp happ).1 ⟨rfl, State.Warmed39.refl s, rfl⟩ trivial
  refine ⟨n, _, h1, h2, h3, hpost _ _ _ _ _ _ ⟨Cond.after_iff.mpr rfl, Cond.after_iff.mpr (eq_i res_at (Term.int_eval (1)) rfl), trivial⟩ ⟨hq.1, hq.2.1, (hq.2.2.sift fun y hy => Or.inr (N y hy)).mono (by decide) (by decide)⟩⟩
theorem main_1_1 : Claimed_1_1 := comes_1 fun _ _ _ _ _ _ h hF => ⟨h.1, hF⟩
theorem main_1_2 : Claimed_1_2 := comes_1 fun _ _ _ _ _ _ h hF => ⟨h.2.1, hF⟩

end Jvm.Pilot.@@N@@
namespace Jvm.Pilot.@@N@@
open Jvm Jvm.ClassFile Sem Op Lib Jvm.Free Jvm.Stand Jvm.Pilot.@@N@@.Jvm.D
/-! MADE BY PROGRAM (witnessworld.py) out of the Statement's table words and the real class files: 17 classes; the members and pool entries that the words name. The judged class is class 1, her method 1. -/
namespace start1
open Jvm.ClassFile
def u (s : String) : CpInfo := .utf8 (stringToUtf16 s)
/-- a pool by its gaps: so many unusable entries, then the entry; so many at the end -/
def gap : Nat → List CpInfo → List CpInfo
  | 0, r => r
  | n + 1, r => .unusable :: gap n r
def poolList (es : List (Nat × CpInfo)) (last : Nat) : List CpInfo := es.foldr (fun e r => gap e.1 (e.2 :: r)) (gap last [])
def pool (es : List (Nat × CpInfo)) (last : Nat) : Array CpInfo := ⟨poolList es last⟩
def fileOf (pool : Array CpInfo) (this : Nat) (attrs : Array Attribute := #[]) (ms : Array MethodInfo := #[]) (fl : Nat := 33) (sup : Nat := 0) (ifs : Array Nat := #[]) (fds : Array FieldInfo := #[]) : ClassFile where
  minorVersion := 0
  majorVersion := 65
  constantPool := pool
  accessFlags := fl
  thisClass := this
  superClass := sup
  interfaces := ifs
  fields := fds
  methods := ms
  attributes := attrs
def plain (name : String) (sup : Option ClassId) : Class where
  name := name
  kind := .ordinary
  loader := none
  accessFlags := 33
  super := sup
  interfaces := #[]
  cf := none
  fields := #[]
  methods := #[]
  instanceTypes := #[]
  staticTypes := #[]
  resolved := #[]
  callSites := []
  init := .initialized
  statics := none
  mirror := none

def pool0 : Array CpInfo := pool [(5, u "<init>"), (0, u "()V"), (1, .class_ 10), (1, u "java/lang/Object")] 113

def k0c0 : Code := { maxStack := 0, maxLocals := 1, code := object_method_1_code, exceptionTable := #[], attributes := #[] }
def k0m0 : Method := { name := "<init>", desc := "()V", sig := { parameters := [], returnType := none }, accessFlags := 1, code := some k0c0 }
/-- java/lang/Object -/
def k0 : Class := { plain "java/lang/Object" none with
  accessFlags := 33
  interfaces := #[]
  cf := some (fileOf pool0 8 #[] #[{ accessFlags := 1, nameIndex := 5, descriptorIndex := 6, attributes := #[] }] 33 0 #[] #[])
  fields := #[]
  methods := #[k0m0]
  instanceTypes := #[]
  staticTypes := #[]
  resolved := Array.replicate 124 none
  statics := none }

def pool1 : Array CpInfo := pool [(2, .class_ 4), (1, u "java/lang/Object"), (0, u "<init>"), (0, u "()V"), (0, .class_ 8), (0, u "com/example/flowt/flowt/UInt128"), (0, .methodref 7 10), (0, .nameAndType 5 11), (0, u "(JJ)V"), (0, .methodref 13 14), (0, .class_ 15), (0, .nameAndType 16 17), (0, u "java/lang/Long"), (0, u "valueOf"), (0, u "(J)Ljava/lang/Long;"), (0, .methodref 7 19), (0, .nameAndType 20 21), (0, u "equals"), (0, u "(Ljava/lang/Object;)Z"), (0, .class_ 23), (0, u "com/example/flowt/flowt/UInt128EqualsPinLaw"), (2, u "law"), (0, u "(JJJJI)Z")] 3

def k1m0 : Method := { name := "<init>", desc := "()V", sig := { parameters := [], returnType := none }, accessFlags := 2, code := none }
def k1c1 : Code := { maxStack := 6, maxLocals := 19, code := code, exceptionTable := #[], attributes := #[] }
def k1m1 : Method := { name := "law", desc := "(JJJJI)Z", sig := { parameters := [.long, .long, .long, .long, .int], returnType := some .boolean }, accessFlags := 9, code := some k1c1 }
/-- com/example/flowt/flowt/UInt128EqualsPinLaw -/
def k1 : Class := { plain "com/example/flowt/flowt/UInt128EqualsPinLaw" (some 0) with
  accessFlags := 49
  interfaces := #[]
  cf := some (fileOf pool1 22 #[] #[{ accessFlags := 2, nameIndex := 5, descriptorIndex := 6, attributes := #[] }, { accessFlags := 9, nameIndex := 26, descriptorIndex := 27, attributes := #[] }] 49 2 #[] #[])
  fields := #[]
  methods := #[k1m0, k1m1]
  instanceTypes := #[]
  staticTypes := #[]
  resolved := Array.replicate 31 none
  statics := none }

def pool2 : Array CpInfo := pool [(1, .methodref 2 3), (0, .class_ 4), (0, .nameAndType 5 6), (0, u "java/lang/Object"), (0, u "<init>"), (0, u "()V"), (0, .class_ 8), (0, u "java/lang/Record")] 13

def k2c0 : Code := { maxStack := 1, maxLocals := 1, code := jdk_30_method_1_code, exceptionTable := #[], attributes := #[] }
def k2m0 : Method := { name := "<init>", desc := "()V", sig := { parameters := [], returnType := none }, accessFlags := 4, code := some k2c0 }
/-- java/lang/Record -/
def k2 : Class := { plain "java/lang/Record" (some 0) with
  accessFlags := 1057
  interfaces := #[]
  cf := some (fileOf pool2 7 #[] #[{ accessFlags := 4, nameIndex := 5, descriptorIndex := 6, attributes := #[] }] 1057 2 #[] #[])
  fields := #[]
  methods := #[k2m0]
  instanceTypes := #[]
  staticTypes := #[]
  resolved := Array.replicate 22 none
  statics := none }

def pool3 : Array CpInfo := pool [(1, .class_ 2), (0, u "java/lang/Comparable"), (0, .class_ 4), (0, u "java/lang/Object")] 7

/-- java/lang/Comparable -/
def k3 : Class := { plain "java/lang/Comparable" (some 0) with
  accessFlags := 1537
  interfaces := #[]
  cf := some (fileOf pool3 1 #[] #[] 1537 3 #[] #[])
  fields := #[]
  methods := #[]
  instanceTypes := #[]
  staticTypes := #[]
  resolved := Array.replicate 12 none
  statics := none }

def pool4 : Array CpInfo := pool [(1, .methodref 2 3), (0, .class_ 4), (0, .nameAndType 5 6), (0, u "java/lang/Record"), (0, u "<init>"), (0, u "()V"), (0, .fieldref 8 9), (0, .class_ 10), (0, .nameAndType 11 12), (0, u "com/example/flowt/flowt/UInt128"), (0, u "high"), (0, u "J"), (0, .fieldref 8 14), (0, .nameAndType 15 12), (0, u "low"), (37, u "HIGH_TIMES_TEN_LIMIT"), (16, u "ZERO"), (0, u "Lcom/example/flowt/flowt/UInt128;"), (2, u "(JJ)V"), (93, u "MAX"), (3, .class_ 173), (0, u "java/lang/Comparable"), (0, u "WIDTH"), (0, u "I"), (2, u "LONG_SAFE_DIGITS"), (1, u "WORD_MASK"), (0, u "GROUP_BASE"), (0, u "GROUP_DIGITS"), (1, u "MAX_GROUPS"), (11, u "equals"), (0, u "(Ljava/lang/Object;)Z")] 35

def k4c0 : Code := { maxStack := 3, maxLocals := 5, code := prog_2_method_1_code, exceptionTable := #[], attributes := #[] }
def k4m0 : Method := { name := "<init>", desc := "(JJ)V", sig := { parameters := [.long, .long], returnType := none }, accessFlags := 1, code := some k4c0 }
def k4c1 : Code := { maxStack := 4, maxLocals := 3, code := prog_2_method_7_code, exceptionTable := #[], attributes := #[] }
def k4m1 : Method := { name := "equals", desc := "(Ljava/lang/Object;)Z", sig := { parameters := [(.object "java/lang/Object")], returnType := some .boolean }, accessFlags := 1, code := some k4c1 }
/-- com/example/flowt/flowt/UInt128 -/
def k4 : Class := { plain "com/example/flowt/flowt/UInt128" (some 2) with
  accessFlags := 49
  interfaces := #[3]
  cf := some (fileOf pool4 8 #[] #[{ accessFlags := 1, nameIndex := 5, descriptorIndex := 74, attributes := #[] }, { accessFlags := 1, nameIndex := 196, descriptorIndex := 197, attributes := #[] }] 49 2 #[172] #[{ accessFlags := 18, nameIndex := 11, descriptorIndex := 12, attributes := #[] }, { accessFlags := 18, nameIndex := 15, descriptorIndex := 12, attributes := #[] }, { accessFlags := 25, nameIndex := 70, descriptorIndex := 71, attributes := #[] }, { accessFlags := 25, nameIndex := 168, descriptorIndex := 71, attributes := #[] }, { accessFlags := 26, nameIndex := 174, descriptorIndex := 175, attributes := #[] }, { accessFlags := 26, nameIndex := 178, descriptorIndex := 175, attributes := #[] }, { accessFlags := 26, nameIndex := 53, descriptorIndex := 12, attributes := #[] }, { accessFlags := 26, nameIndex := 180, descriptorIndex := 12, attributes := #[] }, { accessFlags := 26, nameIndex := 181, descriptorIndex := 12, attributes := #[] }, { accessFlags := 26, nameIndex := 182, descriptorIndex := 175, attributes := #[] }, { accessFlags := 26, nameIndex := 184, descriptorIndex := 175, attributes := #[] }])
  fields := #[{ name := "high", type := .long, accessFlags := 18, slot := 0, constantValue := 0 }, { name := "low", type := .long, accessFlags := 18, slot := 1, constantValue := 0 }, { name := "ZERO", type := (.object "com/example/flowt/flowt/UInt128"), accessFlags := 25, slot := 0, constantValue := 0 }, { name := "MAX", type := (.object "com/example/flowt/flowt/UInt128"), accessFlags := 25, slot := 1, constantValue := 0 }, { name := "WIDTH", type := .int, accessFlags := 26, slot := 2, constantValue := 0 }, { name := "LONG_SAFE_DIGITS", type := .int, accessFlags := 26, slot := 3, constantValue := 0 }, { name := "HIGH_TIMES_TEN_LIMIT", type := .long, accessFlags := 26, slot := 4, constantValue := 0 }, { name := "WORD_MASK", type := .long, accessFlags := 26, slot := 5, constantValue := 0 }, { name := "GROUP_BASE", type := .long, accessFlags := 26, slot := 6, constantValue := 0 }, { name := "GROUP_DIGITS", type := .int, accessFlags := 26, slot := 7, constantValue := 0 }, { name := "MAX_GROUPS", type := .int, accessFlags := 26, slot := 8, constantValue := 0 }]
  methods := #[k4m0, k4m1]
  instanceTypes := #[.long, .long]
  staticTypes := #[(.object "com/example/flowt/flowt/UInt128"), (.object "com/example/flowt/flowt/UInt128"), .int, .int, .long, .long, .long, .int, .int]
  resolved := Array.replicate 233 none
  statics := none }

def pool5 : Array CpInfo := pool [(1, .class_ 2), (0, u "java/io/Serializable"), (0, .class_ 4), (0, u "java/lang/Object")] 2

/-- java/io/Serializable -/
def k5 : Class := { plain "java/io/Serializable" (some 0) with
  accessFlags := 1537
  interfaces := #[]
  cf := some (fileOf pool5 1 #[] #[] 1537 3 #[] #[])
  fields := #[]
  methods := #[]
  instanceTypes := #[]
  staticTypes := #[]
  resolved := Array.replicate 7 none
  statics := none }

def pool6 : Array CpInfo := pool [(1, .methodref 2 3), (0, .class_ 4), (0, .nameAndType 5 6), (0, u "java/lang/Object"), (0, u "<init>"), (0, u "()V"), (1, .class_ 10), (1, u "java/lang/Number"), (2, .class_ 14), (0, u "java/io/Serializable"), (0, u "serialVersionUID"), (0, u "J")] 20

def k6c0 : Code := { maxStack := 1, maxLocals := 1, code := jdk_18_method_1_code, exceptionTable := #[], attributes := #[] }
def k6m0 : Method := { name := "<init>", desc := "()V", sig := { parameters := [], returnType := none }, accessFlags := 1, code := some k6c0 }
/-- java/lang/Number -/
def k6 : Class := { plain "java/lang/Number" (some 0) with
  accessFlags := 1057
  interfaces := #[5]
  cf := some (fileOf pool6 8 #[] #[{ accessFlags := 1, nameIndex := 5, descriptorIndex := 6, attributes := #[] }] 1057 2 #[13] #[{ accessFlags := 26, nameIndex := 15, descriptorIndex := 16, attributes := #[] }])
  fields := #[{ name := "serialVersionUID", type := .long, accessFlags := 26, slot := 0, constantValue := 0 }]
  methods := #[k6m0]
  instanceTypes := #[]
  staticTypes := #[.long]
  resolved := Array.replicate 37 none
  statics := none }

def pool7 : Array CpInfo := pool [(1, .class_ 2), (0, u "java/lang/constant/Constable"), (0, .class_ 4), (0, u "java/lang/Object")] 6

/-- java/lang/constant/Constable -/
def k7 : Class := { plain "java/lang/constant/Constable" (some 0) with
  accessFlags := 1537
  interfaces := #[]
  cf := some (fileOf pool7 1 #[] #[] 1537 3 #[] #[])
  fields := #[]
  methods := #[]
  instanceTypes := #[]
  staticTypes := #[]
  resolved := Array.replicate 11 none
  statics := none }

def pool8 : Array CpInfo := pool [(1, .class_ 2), (0, u "java/lang/constant/ConstantDesc"), (0, .class_ 4), (0, u "java/lang/Object")] 32

/-- java/lang/constant/ConstantDesc -/
def k8 : Class := { plain "java/lang/constant/ConstantDesc" (some 0) with
  accessFlags := 1537
  interfaces := #[]
  cf := some (fileOf pool8 1 #[] #[] 1537 3 #[] #[])
  fields := #[]
  methods := #[]
  instanceTypes := #[]
  staticTypes := #[]
  resolved := Array.replicate 37 none
  statics := none }

def pool9 : Array CpInfo := pool [(1, .class_ 2), (0, u "java/lang/Long"), (55, .nameAndType 59 60), (0, u "<init>"), (0, u "()V"), (24, u "valueOf"), (143, u "(J)Ljava/lang/Long;"), (0, .long 18446744073709551488), (1, .long 127), (1, .fieldref 235 236), (0, .class_ 237), (0, .nameAndType 238 239), (0, u "java/lang/Long$LongCache"), (0, u "cache"), (0, u "[Ljava/lang/Long;"), (0, .methodref 1 241), (0, .nameAndType 59 242), (0, u "(J)V"), (27, .methodref 271 58), (0, .class_ 272), (0, u "java/lang/Number"), (0, .fieldref 1 274), (0, .nameAndType 275 276), (0, u "value"), (0, u "J"), (84, u "TYPE"), (0, u "Ljava/lang/Class;"), (0, .class_ 364), (0, u "java/lang/Comparable"), (0, .class_ 366), (0, u "java/lang/constant/Constable"), (0, .class_ 368), (0, u "java/lang/constant/ConstantDesc"), (0, u "MIN_VALUE"), (1, u "MAX_VALUE"), (4, u "SIZE"), (0, u "I"), (1, u "BYTES"), (1, u "serialVersionUID")] 142

def k9c0 : Code := { maxStack := 4, maxLocals := 3, code := jdk_35_method_24_code, exceptionTable := #[], attributes := #[] }
def k9m0 : Method := { name := "valueOf", desc := "(J)Ljava/lang/Long;", sig := { parameters := [.long], returnType := some (.object "java/lang/Long") }, accessFlags := 9, code := some k9c0 }
def k9c1 : Code := { maxStack := 3, maxLocals := 3, code := jdk_35_method_26_code, exceptionTable := #[], attributes := #[] }
def k9m1 : Method := { name := "<init>", desc := "(J)V", sig := { parameters := [.long], returnType := none }, accessFlags := 1, code := some k9c1 }
/-- java/lang/Long -/
def k9 : Class := { plain "java/lang/Long" (some 6) with
  accessFlags := 49
  interfaces := #[3, 7, 8]
  cf := some (fileOf pool9 1 #[.nestMembers #[235]] #[{ accessFlags := 9, nameIndex := 85, descriptorIndex := 229, attributes := #[] }, { accessFlags := 1, nameIndex := 59, descriptorIndex := 242, attributes := #[] }] 49 271 #[363, 365, 367] #[{ accessFlags := 25, nameIndex := 369, descriptorIndex := 276, attributes := #[] }, { accessFlags := 25, nameIndex := 371, descriptorIndex := 276, attributes := #[] }, { accessFlags := 25, nameIndex := 361, descriptorIndex := 362, attributes := #[] }, { accessFlags := 18, nameIndex := 275, descriptorIndex := 276, attributes := #[] }, { accessFlags := 25, nameIndex := 376, descriptorIndex := 377, attributes := #[] }, { accessFlags := 25, nameIndex := 379, descriptorIndex := 377, attributes := #[] }, { accessFlags := 26, nameIndex := 381, descriptorIndex := 276, attributes := #[] }])
  fields := #[{ name := "MIN_VALUE", type := .long, accessFlags := 25, slot := 0, constantValue := 0 }, { name := "MAX_VALUE", type := .long, accessFlags := 25, slot := 1, constantValue := 0 }, { name := "TYPE", type := (.object "java/lang/Class"), accessFlags := 25, slot := 2, constantValue := 0 }, { name := "value", type := .long, accessFlags := 18, slot := 0, constantValue := 0 }, { name := "SIZE", type := .int, accessFlags := 25, slot := 3, constantValue := 0 }, { name := "BYTES", type := .int, accessFlags := 25, slot := 4, constantValue := 0 }, { name := "serialVersionUID", type := .long, accessFlags := 26, slot := 5, constantValue := 0 }]
  methods := #[k9m0, k9m1]
  instanceTypes := #[.long]
  staticTypes := #[.long, .long, (.object "java/lang/Class"), .int, .int, .long]
  resolved := Array.replicate 524 none
  statics := none }

def pool10 : Array CpInfo := pool [(2, .class_ 4), (1, u "java/lang/Object"), (0, u "<init>"), (0, u "()V"), (0, .class_ 8), (0, u "java/lang/Long"), (7, .class_ 18), (1, u "java/lang/Long$LongCache"), (0, u "$assertionsDisabled"), (0, u "Z"), (8, u "archivedCache"), (0, u "[Ljava/lang/Long;"), (7, u "cache")] 24

def k10m0 : Method := { name := "<init>", desc := "()V", sig := { parameters := [], returnType := none }, accessFlags := 2, code := none }
/-- java/lang/Long$LongCache -/
def k10 : Class := { plain "java/lang/Long$LongCache" (some 0) with
  accessFlags := 48
  interfaces := #[]
  cf := some (fileOf pool10 16 #[.nestHost 7] #[{ accessFlags := 2, nameIndex := 5, descriptorIndex := 6, attributes := #[] }] 48 2 #[] #[{ accessFlags := 24, nameIndex := 38, descriptorIndex := 30, attributes := #[] }, { accessFlags := 8, nameIndex := 29, descriptorIndex := 30, attributes := #[] }, { accessFlags := 4120, nameIndex := 19, descriptorIndex := 20, attributes := #[] }])
  fields := #[{ name := "cache", type := (.array (.object "java/lang/Long")), accessFlags := 24, slot := 0, constantValue := 0 }, { name := "archivedCache", type := (.array (.object "java/lang/Long")), accessFlags := 8, slot := 1, constantValue := 0 }, { name := "$assertionsDisabled", type := .boolean, accessFlags := 4120, slot := 2, constantValue := 0 }]
  methods := #[k10m0]
  instanceTypes := #[]
  staticTypes := #[(.array (.object "java/lang/Long")), (.array (.object "java/lang/Long")), .boolean]
  resolved := Array.replicate 63 none
  statics := some 0 }

def pool11 : Array CpInfo := pool [(1, u "java/lang/Cloneable"), (0, .class_ 1), (0, u "java/lang/Object"), (0, .class_ 3)] 3

/-- java/lang/Cloneable -/
def k11 : Class := { plain "java/lang/Cloneable" (some 0) with
  accessFlags := 1537
  interfaces := #[]
  cf := some (fileOf pool11 2 #[] #[] 1537 4 #[] #[])
  fields := #[]
  methods := #[]
  instanceTypes := #[]
  staticTypes := #[]
  resolved := Array.replicate 8 none
  statics := none }

/-- the primitive byte -/
def k12 : Class := { plain "byte" none with kind := .primitive 'B', accessFlags := 0x411 }
/-- [B -/
def k13 : Class := { plain "[B" (some 0) with kind := .array 12 .byte, interfaces := #[11, 5], accessFlags := 1041 }

/-- the primitive int -/
def k14 : Class := { plain "int" none with kind := .primitive 'I', accessFlags := 0x411 }
/-- [I -/
def k15 : Class := { plain "[I" (some 0) with kind := .array 14 .int, interfaces := #[11, 5], accessFlags := 1041 }

/-- [Ljava/lang/Long; -/
def k16 : Class := { plain "[Ljava/lang/Long;" (some 0) with kind := .array 9 (.object "java/lang/Long"), interfaces := #[11, 5], accessFlags := 1041 }

def heap : Heap := #[{ cls := 10, slots := #[.ref 1, .null, .int 0], vm := .statics 10 },
  { cls := 16, slots := #[.ref 2, .ref 3, .ref 4, .ref 5, .ref 6, .ref 7, .ref 8, .ref 9, .ref 10, .ref 11, .ref 12, .ref 13, .ref 14, .ref 15, .ref 16, .ref 17, .ref 18, .ref 19, .ref 20, .ref 21, .ref 22, .ref 23, .ref 24, .ref 25, .ref 26, .ref 27, .ref 28, .ref 29, .ref 30, .ref 31, .ref 32, .ref 33, .ref 34, .ref 35, .ref 36, .ref 37, .ref 38, .ref 39, .ref 40, .ref 41, .ref 42, .ref 43, .ref 44, .ref 45, .ref 46, .ref 47, .ref 48, .ref 49, .ref 50, .ref 51, .ref 52, .ref 53, .ref 54, .ref 55, .ref 56, .ref 57, .ref 58, .ref 59, .ref 60, .ref 61, .ref 62, .ref 63, .ref 64, .ref 65, .ref 66, .ref 67, .ref 68, .ref 69, .ref 70, .ref 71, .ref 72, .ref 73, .ref 74, .ref 75, .ref 76, .ref 77, .ref 78, .ref 79, .ref 80, .ref 81, .ref 82, .ref 83, .ref 84, .ref 85, .ref 86, .ref 87, .ref 88, .ref 89, .ref 90, .ref 91, .ref 92, .ref 93, .ref 94, .ref 95, .ref 96, .ref 97, .ref 98, .ref 99, .ref 100, .ref 101, .ref 102, .ref 103, .ref 104, .ref 105, .ref 106, .ref 107, .ref 108, .ref 109, .ref 110, .ref 111, .ref 112, .ref 113, .ref 114, .ref 115, .ref 116, .ref 117, .ref 118, .ref 119, .ref 120, .ref 121, .ref 122, .ref 123, .ref 124, .ref 125, .ref 126, .ref 127, .ref 128, .ref 129, .ref 130, .ref 131, .ref 132, .ref 133, .ref 134, .ref 135, .ref 136, .ref 137, .ref 138, .ref 139, .ref 140, .ref 141, .ref 142, .ref 143, .ref 144, .ref 145, .ref 146, .ref 147, .ref 148, .ref 149, .ref 150, .ref 151, .ref 152, .ref 153, .ref 154, .ref 155, .ref 156, .ref 157, .ref 158, .ref 159, .ref 160, .ref 161, .ref 162, .ref 163, .ref 164, .ref 165, .ref 166, .ref 167, .ref 168, .ref 169, .ref 170, .ref 171, .ref 172, .ref 173, .ref 174, .ref 175, .ref 176, .ref 177, .ref 178, .ref 179, .ref 180, .ref 181, .ref 182, .ref 183, .ref 184, .ref 185, .ref 186, .ref 187, .ref 188, .ref 189, .ref 190, .ref 191, .ref 192, .ref 193, .ref 194, .ref 195, .ref 196, .ref 197, .ref 198, .ref 199, .ref 200, .ref 201, .ref 202, .ref 203, .ref 204, .ref 205, .ref 206, .ref 207, .ref 208, .ref 209, .ref 210, .ref 211, .ref 212, .ref 213, .ref 214, .ref 215, .ref 216, .ref 217, .ref 218, .ref 219, .ref 220, .ref 221, .ref 222, .ref 223, .ref 224, .ref 225, .ref 226, .ref 227, .ref 228, .ref 229, .ref 230, .ref 231, .ref 232, .ref 233, .ref 234, .ref 235, .ref 236, .ref 237, .ref 238, .ref 239, .ref 240, .ref 241, .ref 242, .ref 243, .ref 244, .ref 245, .ref 246, .ref 247, .ref 248, .ref 249, .ref 250, .ref 251, .ref 252, .ref 253, .ref 254, .ref 255, .ref 256, .ref 257], vm := .none },
  { cls := 9, slots := #[.long (-128)], vm := .none },
  { cls := 9, slots := #[.long (-127)], vm := .none },
  { cls := 9, slots := #[.long (-126)], vm := .none },
  { cls := 9, slots := #[.long (-125)], vm := .none },
  { cls := 9, slots := #[.long (-124)], vm := .none },
  { cls := 9, slots := #[.long (-123)], vm := .none },
  { cls := 9, slots := #[.long (-122)], vm := .none },
  { cls := 9, slots := #[.long (-121)], vm := .none },
  { cls := 9, slots := #[.long (-120)], vm := .none },
  { cls := 9, slots := #[.long (-119)], vm := .none },
  { cls := 9, slots := #[.long (-118)], vm := .none },
  { cls := 9, slots := #[.long (-117)], vm := .none },
  { cls := 9, slots := #[.long (-116)], vm := .none },
  { cls := 9, slots := #[.long (-115)], vm := .none },
  { cls := 9, slots := #[.long (-114)], vm := .none },
  { cls := 9, slots := #[.long (-113)], vm := .none },
  { cls := 9, slots := #[.long (-112)], vm := .none },
  { cls := 9, slots := #[.long (-111)], vm := .none },
  { cls := 9, slots := #[.long (-110)], vm := .none },
  { cls := 9, slots := #[.long (-109)], vm := .none },
  { cls := 9, slots := #[.long (-108)], vm := .none },
  { cls := 9, slots := #[.long (-107)], vm := .none },
  { cls := 9, slots := #[.long (-106)], vm := .none },
  { cls := 9, slots := #[.long (-105)], vm := .none },
  { cls := 9, slots := #[.long (-104)], vm := .none },
  { cls := 9, slots := #[.long (-103)], vm := .none },
  { cls := 9, slots := #[.long (-102)], vm := .none },
  { cls := 9, slots := #[.long (-101)], vm := .none },
  { cls := 9, slots := #[.long (-100)], vm := .none },
  { cls := 9, slots := #[.long (-99)], vm := .none },
  { cls := 9, slots := #[.long (-98)], vm := .none },
  { cls := 9, slots := #[.long (-97)], vm := .none },
  { cls := 9, slots := #[.long (-96)], vm := .none },
  { cls := 9, slots := #[.long (-95)], vm := .none },
  { cls := 9, slots := #[.long (-94)], vm := .none },
  { cls := 9, slots := #[.long (-93)], vm := .none },
  { cls := 9, slots := #[.long (-92)], vm := .none },
  { cls := 9, slots := #[.long (-91)], vm := .none },
  { cls := 9, slots := #[.long (-90)], vm := .none },
  { cls := 9, slots := #[.long (-89)], vm := .none },
  { cls := 9, slots := #[.long (-88)], vm := .none },
  { cls := 9, slots := #[.long (-87)], vm := .none },
  { cls := 9, slots := #[.long (-86)], vm := .none },
  { cls := 9, slots := #[.long (-85)], vm := .none },
  { cls := 9, slots := #[.long (-84)], vm := .none },
  { cls := 9, slots := #[.long (-83)], vm := .none },
  { cls := 9, slots := #[.long (-82)], vm := .none },
  { cls := 9, slots := #[.long (-81)], vm := .none },
  { cls := 9, slots := #[.long (-80)], vm := .none },
  { cls := 9, slots := #[.long (-79)], vm := .none },
  { cls := 9, slots := #[.long (-78)], vm := .none },
  { cls := 9, slots := #[.long (-77)], vm := .none },
  { cls := 9, slots := #[.long (-76)], vm := .none },
  { cls := 9, slots := #[.long (-75)], vm := .none },
  { cls := 9, slots := #[.long (-74)], vm := .none },
  { cls := 9, slots := #[.long (-73)], vm := .none },
  { cls := 9, slots := #[.long (-72)], vm := .none },
  { cls := 9, slots := #[.long (-71)], vm := .none },
  { cls := 9, slots := #[.long (-70)], vm := .none },
  { cls := 9, slots := #[.long (-69)], vm := .none },
  { cls := 9, slots := #[.long (-68)], vm := .none },
  { cls := 9, slots := #[.long (-67)], vm := .none },
  { cls := 9, slots := #[.long (-66)], vm := .none },
  { cls := 9, slots := #[.long (-65)], vm := .none },
  { cls := 9, slots := #[.long (-64)], vm := .none },
  { cls := 9, slots := #[.long (-63)], vm := .none },
  { cls := 9, slots := #[.long (-62)], vm := .none },
  { cls := 9, slots := #[.long (-61)], vm := .none },
  { cls := 9, slots := #[.long (-60)], vm := .none },
  { cls := 9, slots := #[.long (-59)], vm := .none },
  { cls := 9, slots := #[.long (-58)], vm := .none },
  { cls := 9, slots := #[.long (-57)], vm := .none },
  { cls := 9, slots := #[.long (-56)], vm := .none },
  { cls := 9, slots := #[.long (-55)], vm := .none },
  { cls := 9, slots := #[.long (-54)], vm := .none },
  { cls := 9, slots := #[.long (-53)], vm := .none },
  { cls := 9, slots := #[.long (-52)], vm := .none },
  { cls := 9, slots := #[.long (-51)], vm := .none },
  { cls := 9, slots := #[.long (-50)], vm := .none },
  { cls := 9, slots := #[.long (-49)], vm := .none },
  { cls := 9, slots := #[.long (-48)], vm := .none },
  { cls := 9, slots := #[.long (-47)], vm := .none },
  { cls := 9, slots := #[.long (-46)], vm := .none },
  { cls := 9, slots := #[.long (-45)], vm := .none },
  { cls := 9, slots := #[.long (-44)], vm := .none },
  { cls := 9, slots := #[.long (-43)], vm := .none },
  { cls := 9, slots := #[.long (-42)], vm := .none },
  { cls := 9, slots := #[.long (-41)], vm := .none },
  { cls := 9, slots := #[.long (-40)], vm := .none },
  { cls := 9, slots := #[.long (-39)], vm := .none },
  { cls := 9, slots := #[.long (-38)], vm := .none },
  { cls := 9, slots := #[.long (-37)], vm := .none },
  { cls := 9, slots := #[.long (-36)], vm := .none },
  { cls := 9, slots := #[.long (-35)], vm := .none },
  { cls := 9, slots := #[.long (-34)], vm := .none },
  { cls := 9, slots := #[.long (-33)], vm := .none },
  { cls := 9, slots := #[.long (-32)], vm := .none },
  { cls := 9, slots := #[.long (-31)], vm := .none },
  { cls := 9, slots := #[.long (-30)], vm := .none },
  { cls := 9, slots := #[.long (-29)], vm := .none },
  { cls := 9, slots := #[.long (-28)], vm := .none },
  { cls := 9, slots := #[.long (-27)], vm := .none },
  { cls := 9, slots := #[.long (-26)], vm := .none },
  { cls := 9, slots := #[.long (-25)], vm := .none },
  { cls := 9, slots := #[.long (-24)], vm := .none },
  { cls := 9, slots := #[.long (-23)], vm := .none },
  { cls := 9, slots := #[.long (-22)], vm := .none },
  { cls := 9, slots := #[.long (-21)], vm := .none },
  { cls := 9, slots := #[.long (-20)], vm := .none },
  { cls := 9, slots := #[.long (-19)], vm := .none },
  { cls := 9, slots := #[.long (-18)], vm := .none },
  { cls := 9, slots := #[.long (-17)], vm := .none },
  { cls := 9, slots := #[.long (-16)], vm := .none },
  { cls := 9, slots := #[.long (-15)], vm := .none },
  { cls := 9, slots := #[.long (-14)], vm := .none },
  { cls := 9, slots := #[.long (-13)], vm := .none },
  { cls := 9, slots := #[.long (-12)], vm := .none },
  { cls := 9, slots := #[.long (-11)], vm := .none },
  { cls := 9, slots := #[.long (-10)], vm := .none },
  { cls := 9, slots := #[.long (-9)], vm := .none },
  { cls := 9, slots := #[.long (-8)], vm := .none },
  { cls := 9, slots := #[.long (-7)], vm := .none },
  { cls := 9, slots := #[.long (-6)], vm := .none },
  { cls := 9, slots := #[.long (-5)], vm := .none },
  { cls := 9, slots := #[.long (-4)], vm := .none },
  { cls := 9, slots := #[.long (-3)], vm := .none },
  { cls := 9, slots := #[.long (-2)], vm := .none },
  { cls := 9, slots := #[.long (-1)], vm := .none },
  { cls := 9, slots := #[.long 0], vm := .none },
  { cls := 9, slots := #[.long 1], vm := .none },
  { cls := 9, slots := #[.long 2], vm := .none },
  { cls := 9, slots := #[.long 3], vm := .none },
  { cls := 9, slots := #[.long 4], vm := .none },
  { cls := 9, slots := #[.long 5], vm := .none },
  { cls := 9, slots := #[.long 6], vm := .none },
  { cls := 9, slots := #[.long 7], vm := .none },
  { cls := 9, slots := #[.long 8], vm := .none },
  { cls := 9, slots := #[.long 9], vm := .none },
  { cls := 9, slots := #[.long 10], vm := .none },
  { cls := 9, slots := #[.long 11], vm := .none },
  { cls := 9, slots := #[.long 12], vm := .none },
  { cls := 9, slots := #[.long 13], vm := .none },
  { cls := 9, slots := #[.long 14], vm := .none },
  { cls := 9, slots := #[.long 15], vm := .none },
  { cls := 9, slots := #[.long 16], vm := .none },
  { cls := 9, slots := #[.long 17], vm := .none },
  { cls := 9, slots := #[.long 18], vm := .none },
  { cls := 9, slots := #[.long 19], vm := .none },
  { cls := 9, slots := #[.long 20], vm := .none },
  { cls := 9, slots := #[.long 21], vm := .none },
  { cls := 9, slots := #[.long 22], vm := .none },
  { cls := 9, slots := #[.long 23], vm := .none },
  { cls := 9, slots := #[.long 24], vm := .none },
  { cls := 9, slots := #[.long 25], vm := .none },
  { cls := 9, slots := #[.long 26], vm := .none },
  { cls := 9, slots := #[.long 27], vm := .none },
  { cls := 9, slots := #[.long 28], vm := .none },
  { cls := 9, slots := #[.long 29], vm := .none },
  { cls := 9, slots := #[.long 30], vm := .none },
  { cls := 9, slots := #[.long 31], vm := .none },
  { cls := 9, slots := #[.long 32], vm := .none },
  { cls := 9, slots := #[.long 33], vm := .none },
  { cls := 9, slots := #[.long 34], vm := .none },
  { cls := 9, slots := #[.long 35], vm := .none },
  { cls := 9, slots := #[.long 36], vm := .none },
  { cls := 9, slots := #[.long 37], vm := .none },
  { cls := 9, slots := #[.long 38], vm := .none },
  { cls := 9, slots := #[.long 39], vm := .none },
  { cls := 9, slots := #[.long 40], vm := .none },
  { cls := 9, slots := #[.long 41], vm := .none },
  { cls := 9, slots := #[.long 42], vm := .none },
  { cls := 9, slots := #[.long 43], vm := .none },
  { cls := 9, slots := #[.long 44], vm := .none },
  { cls := 9, slots := #[.long 45], vm := .none },
  { cls := 9, slots := #[.long 46], vm := .none },
  { cls := 9, slots := #[.long 47], vm := .none },
  { cls := 9, slots := #[.long 48], vm := .none },
  { cls := 9, slots := #[.long 49], vm := .none },
  { cls := 9, slots := #[.long 50], vm := .none },
  { cls := 9, slots := #[.long 51], vm := .none },
  { cls := 9, slots := #[.long 52], vm := .none },
  { cls := 9, slots := #[.long 53], vm := .none },
  { cls := 9, slots := #[.long 54], vm := .none },
  { cls := 9, slots := #[.long 55], vm := .none },
  { cls := 9, slots := #[.long 56], vm := .none },
  { cls := 9, slots := #[.long 57], vm := .none },
  { cls := 9, slots := #[.long 58], vm := .none },
  { cls := 9, slots := #[.long 59], vm := .none },
  { cls := 9, slots := #[.long 60], vm := .none },
  { cls := 9, slots := #[.long 61], vm := .none },
  { cls := 9, slots := #[.long 62], vm := .none },
  { cls := 9, slots := #[.long 63], vm := .none },
  { cls := 9, slots := #[.long 64], vm := .none },
  { cls := 9, slots := #[.long 65], vm := .none },
  { cls := 9, slots := #[.long 66], vm := .none },
  { cls := 9, slots := #[.long 67], vm := .none },
  { cls := 9, slots := #[.long 68], vm := .none },
  { cls := 9, slots := #[.long 69], vm := .none },
  { cls := 9, slots := #[.long 70], vm := .none },
  { cls := 9, slots := #[.long 71], vm := .none },
  { cls := 9, slots := #[.long 72], vm := .none },
  { cls := 9, slots := #[.long 73], vm := .none },
  { cls := 9, slots := #[.long 74], vm := .none },
  { cls := 9, slots := #[.long 75], vm := .none },
  { cls := 9, slots := #[.long 76], vm := .none },
  { cls := 9, slots := #[.long 77], vm := .none },
  { cls := 9, slots := #[.long 78], vm := .none },
  { cls := 9, slots := #[.long 79], vm := .none },
  { cls := 9, slots := #[.long 80], vm := .none },
  { cls := 9, slots := #[.long 81], vm := .none },
  { cls := 9, slots := #[.long 82], vm := .none },
  { cls := 9, slots := #[.long 83], vm := .none },
  { cls := 9, slots := #[.long 84], vm := .none },
  { cls := 9, slots := #[.long 85], vm := .none },
  { cls := 9, slots := #[.long 86], vm := .none },
  { cls := 9, slots := #[.long 87], vm := .none },
  { cls := 9, slots := #[.long 88], vm := .none },
  { cls := 9, slots := #[.long 89], vm := .none },
  { cls := 9, slots := #[.long 90], vm := .none },
  { cls := 9, slots := #[.long 91], vm := .none },
  { cls := 9, slots := #[.long 92], vm := .none },
  { cls := 9, slots := #[.long 93], vm := .none },
  { cls := 9, slots := #[.long 94], vm := .none },
  { cls := 9, slots := #[.long 95], vm := .none },
  { cls := 9, slots := #[.long 96], vm := .none },
  { cls := 9, slots := #[.long 97], vm := .none },
  { cls := 9, slots := #[.long 98], vm := .none },
  { cls := 9, slots := #[.long 99], vm := .none },
  { cls := 9, slots := #[.long 100], vm := .none },
  { cls := 9, slots := #[.long 101], vm := .none },
  { cls := 9, slots := #[.long 102], vm := .none },
  { cls := 9, slots := #[.long 103], vm := .none },
  { cls := 9, slots := #[.long 104], vm := .none },
  { cls := 9, slots := #[.long 105], vm := .none },
  { cls := 9, slots := #[.long 106], vm := .none },
  { cls := 9, slots := #[.long 107], vm := .none },
  { cls := 9, slots := #[.long 108], vm := .none },
  { cls := 9, slots := #[.long 109], vm := .none },
  { cls := 9, slots := #[.long 110], vm := .none },
  { cls := 9, slots := #[.long 111], vm := .none },
  { cls := 9, slots := #[.long 112], vm := .none },
  { cls := 9, slots := #[.long 113], vm := .none },
  { cls := 9, slots := #[.long 114], vm := .none },
  { cls := 9, slots := #[.long 115], vm := .none },
  { cls := 9, slots := #[.long 116], vm := .none },
  { cls := 9, slots := #[.long 117], vm := .none },
  { cls := 9, slots := #[.long 118], vm := .none },
  { cls := 9, slots := #[.long 119], vm := .none },
  { cls := 9, slots := #[.long 120], vm := .none },
  { cls := 9, slots := #[.long 121], vm := .none },
  { cls := 9, slots := #[.long 122], vm := .none },
  { cls := 9, slots := #[.long 123], vm := .none },
  { cls := 9, slots := #[.long 124], vm := .none },
  { cls := 9, slots := #[.long 125], vm := .none },
  { cls := 9, slots := #[.long 126], vm := .none },
  { cls := 9, slots := #[.long 127], vm := .none }]
def classes : Array Class := #[k0, k1, k2, k3, k4, k5, k6, k7, k8, k9, k10, k11, k12, k13, k14, k15, k16]
def interned : List (Array UInt16 × Addr) := []
def slotsUsed : Nat := 515
def theMethod : MethodId := ⟨1, 1⟩
def args0 : Array Value := #[.long 1, .long 2, .long 3, .long 4, .int 2]
def aboutOver (below : List Frame) : State where
  vm := { classes := classes, interned := interned.toArray }
  heap := heap
  slotsUsed := slotsUsed
  threads := #[{ frames := .invoking theMethod args0 :: below }]
def below0 : List Frame := [.native { method := ⟨0, 0⟩, args := #[] }]
def about1 : State := aboutOver below0
def p0 : Program := .bare "" "" ""
def e0 : Env := launch0.env 0 0 0
theorem w_frames : about1.frames = Frame.invoking theMethod args0 :: below0 := rfl
set_option maxRecDepth 65536 in
theorem w_args : argsFit about1.vm theMethod args0 = true := by decide +kernel
set_option maxRecDepth 65536 in
theorem w_heap : heapFits about1 = true := by decide +kernel
set_option maxRecDepth 65536 in
theorem w_runnable : about1.curStatus? = some .runnable := by decide +kernel
set_option maxRecDepth 65536 in
theorem w_alone : about1.alone = true := by decide +kernel
set_option maxRecDepth 65536 in
theorem w_named : about1.methodNamed? x = some theMethod := by decide +kernel
set_option maxRecDepth 65536 in
theorem w_hears : about1.hears theMethod below0 = true := by decide +kernel
set_option maxRecDepth 65536 in
theorem w_ripe : about1.ripe theMethod args0 below0 = true := by decide +kernel
theorem w_running : about1.status = .running := rfl
set_option maxRecDepth 65536 in
theorem w_room : about1.hasRoom e0.platform room_1 = true :=
  launch0.hasRoom_least _ room_1 (by decide +kernel) (by decide +kernel) (by decide +kernel) (by decide +kernel) (by decide +kernel) (by decide +kernel)
theorem allAtoms_all (ts : List Jvm.Cond) (a : Array Jvm.Value) (st : Jvm.State) : (allAtoms ts).before a st = ts.all (fun c => c.before a st) := by
  induction ts with
  | nil => rfl
  | cons c t ih =>
    show (Jvm.Cond.and c (allAtoms t)).before a st = _
    rw [Jvm.Cond.before_and, ih, List.all_cons]
def words1 : List Jvm.Cond := Jvm.Cond.code x code maxLocals ret :: tables_1
/-- a 'code' word, met by the world's own term for the bytes: nothing is compared byte by byte -/
theorem code_word {y : MethodName} {bytes : ByteArray} {mx : Nat} {rt : Option FieldType} {a : Array Value} {s : State} {m : MethodId} {meth : Method} {c : Code} (h1 : s.methodNamed? y = some m) (h2 : s.vm.method? m = some meth) (h3 : meth.code = some c) (h4 : c.code = bytes)
    (h5 : (c.maxLocals == mx && c.exceptionTable.isEmpty && decide (c.maxStack ≤ mostOperands) && decide (meth.sig.returnType = rt) && !meth.locks && decide (parseMethodDescriptor y.desc = some meth.sig)) = true) : (Jvm.Cond.code y bytes mx rt).before a s = true := by
  simp only [Bool.and_eq_true, beq_iff_eq, Bool.not_eq_true', decide_eq_true_eq] at h5
  obtain ⟨⟨⟨⟨⟨g1, g2⟩, g3⟩, g4⟩, g5⟩, g6⟩ := h5
  simp [Cond.before, Cond.holds, Cond.value, h1, h2, h3, h4, g1, g2, g3, g4, g5, g6]
def isCode : Jvm.Cond → Bool
  | .code _ _ _ _ => true
  | _ => false
theorem all_split {L : List Jvm.Cond} {P : Jvm.Cond → Bool} (h1 : L.all (fun c => isCode c || P c) = true) (h2 : ∀ c ∈ L.filter isCode, P c = true) : L.all P = true := by
  refine List.all_eq_true.mpr fun c hc => ?_
  have h := List.all_eq_true.mp h1 c hc
  rcases Bool.eq_false_or_eq_true (isCode c) with hi | hi
  · exact h2 c (List.mem_filter.mpr ⟨hc, hi⟩)
  · simpa [hi] using h
set_option maxRecDepth 65536 in
theorem w_c0 : (Jvm.Cond.code x code maxLocals ret).before args0 about1 = true := code_word (m := ⟨1, 1⟩) (meth := k1m1) (c := k1c1) (by decide +kernel) rfl rfl rfl (by decide +kernel)
set_option maxRecDepth 65536 in
theorem w_c1 : (Jvm.Cond.code ({ cls := "com/example/flowt/flowt/UInt128", name := "<init>", desc := "(JJ)V" } : Jvm.MethodName) prog_2_method_1_code (5 : Nat) (Option.none : Option Jvm.ClassFile.FieldType)).before args0 about1 = true := code_word (m := ⟨4, 0⟩) (meth := k4m0) (c := k4c0) (by decide +kernel) rfl rfl rfl (by decide +kernel)
set_option maxRecDepth 65536 in
theorem w_c2 : (Jvm.Cond.code ({ cls := "java/lang/Record", name := "<init>", desc := "()V" } : Jvm.MethodName) jdk_30_method_1_code (1 : Nat) (Option.none : Option Jvm.ClassFile.FieldType)).before args0 about1 = true := code_word (m := ⟨2, 0⟩) (meth := k2m0) (c := k2c0) (by decide +kernel) rfl rfl rfl (by decide +kernel)
set_option maxRecDepth 65536 in
theorem w_c3 : (Jvm.Cond.code ({ cls := "java/lang/Object", name := "<init>", desc := "()V" } : Jvm.MethodName) object_method_1_code (1 : Nat) (Option.none : Option Jvm.ClassFile.FieldType)).before args0 about1 = true := code_word (m := ⟨0, 0⟩) (meth := k0m0) (c := k0c0) (by decide +kernel) rfl rfl rfl (by decide +kernel)
set_option maxRecDepth 65536 in
theorem w_c4 : (Jvm.Cond.code ({ cls := "com/example/flowt/flowt/UInt128", name := "equals", desc := "(Ljava/lang/Object;)Z" } : Jvm.MethodName) prog_2_method_7_code (3 : Nat) (Option.some Jvm.ClassFile.FieldType.boolean)).before args0 about1 = true := code_word (m := ⟨4, 1⟩) (meth := k4m1) (c := k4c1) (by decide +kernel) rfl rfl rfl (by decide +kernel)
set_option maxRecDepth 65536 in
theorem w_c5 : (Jvm.Cond.code ({ cls := "java/lang/Long", name := "valueOf", desc := "(J)Ljava/lang/Long;" } : Jvm.MethodName) jdk_35_method_24_code (3 : Nat) (Option.some (Jvm.ClassFile.FieldType.object "java/lang/Long"))).before args0 about1 = true := code_word (m := ⟨9, 0⟩) (meth := k9m0) (c := k9c0) (by decide +kernel) rfl rfl rfl (by decide +kernel)
set_option maxRecDepth 65536 in
theorem w_c6 : (Jvm.Cond.code ({ cls := "java/lang/Long", name := "<init>", desc := "(J)V" } : Jvm.MethodName) jdk_35_method_26_code (3 : Nat) (Option.none : Option Jvm.ClassFile.FieldType)).before args0 about1 = true := code_word (m := ⟨9, 1⟩) (meth := k9m1) (c := k9c1) (by decide +kernel) rfl rfl rfl (by decide +kernel)
set_option maxRecDepth 65536 in
theorem w_c7 : (Jvm.Cond.code ({ cls := "java/lang/Number", name := "<init>", desc := "()V" } : Jvm.MethodName) jdk_18_method_1_code (1 : Nat) (Option.none : Option Jvm.ClassFile.FieldType)).before args0 about1 = true := code_word (m := ⟨6, 0⟩) (meth := k6m0) (c := k6c0) (by decide +kernel) rfl rfl rfl (by decide +kernel)
def codes1 : List Jvm.Cond := [Jvm.Cond.code x code maxLocals ret, Jvm.Cond.code ({ cls := "com/example/flowt/flowt/UInt128", name := "<init>", desc := "(JJ)V" } : Jvm.MethodName) prog_2_method_1_code (5 : Nat) (Option.none : Option Jvm.ClassFile.FieldType), Jvm.Cond.code ({ cls := "java/lang/Record", name := "<init>", desc := "()V" } : Jvm.MethodName) jdk_30_method_1_code (1 : Nat) (Option.none : Option Jvm.ClassFile.FieldType), Jvm.Cond.code ({ cls := "java/lang/Object", name := "<init>", desc := "()V" } : Jvm.MethodName) object_method_1_code (1 : Nat) (Option.none : Option Jvm.ClassFile.FieldType), Jvm.Cond.code ({ cls := "com/example/flowt/flowt/UInt128", name := "equals", desc := "(Ljava/lang/Object;)Z" } : Jvm.MethodName) prog_2_method_7_code (3 : Nat) (Option.some Jvm.ClassFile.FieldType.boolean), Jvm.Cond.code ({ cls := "java/lang/Long", name := "valueOf", desc := "(J)Ljava/lang/Long;" } : Jvm.MethodName) jdk_35_method_24_code (3 : Nat) (Option.some (Jvm.ClassFile.FieldType.object "java/lang/Long")), Jvm.Cond.code ({ cls := "java/lang/Long", name := "<init>", desc := "(J)V" } : Jvm.MethodName) jdk_35_method_26_code (3 : Nat) (Option.none : Option Jvm.ClassFile.FieldType), Jvm.Cond.code ({ cls := "java/lang/Number", name := "<init>", desc := "()V" } : Jvm.MethodName) jdk_18_method_1_code (1 : Nat) (Option.none : Option Jvm.ClassFile.FieldType)]
set_option maxRecDepth 65536 in
theorem codes_eq : words1.filter isCode = codes1 := rfl
theorem w_codes : ∀ c ∈ words1.filter isCode, c.before args0 about1 = true := by
  rw [codes_eq]
  intro c hc
  simp only [codes1, List.mem_cons, List.not_mem_nil, or_false] at hc
  rcases hc with rfl | rfl | rfl | rfl | rfl | rfl | rfl | rfl
  · exact w_c0
  · exact w_c1
  · exact w_c2
  · exact w_c3
  · exact w_c4
  · exact w_c5
  · exact w_c6
  · exact w_c7
set_option maxRecDepth 65536 in
theorem w_t1 : (words1.take 24).all (fun c => isCode c || c.before args0 about1) = true := by decide +kernel
set_option maxRecDepth 65536 in
theorem w_t2 : ((words1.drop 24).take 24).all (fun c => isCode c || c.before args0 about1) = true := by decide +kernel
set_option maxRecDepth 65536 in
theorem w_t3 : ((words1.drop 24).drop 24).all (fun c => isCode c || c.before args0 about1) = true := by decide +kernel
theorem w_tables : (allAtoms (Jvm.Cond.code x code maxLocals ret :: tables_1)).before args0 about1 = true := by
  rw [allAtoms_all]
  show words1.all (fun c => c.before args0 about1) = true
  refine all_split ?_ w_codes
  rw [← List.take_append_drop 24 words1, List.all_append, w_t1, ← List.take_append_drop 24 (words1.drop 24), List.all_append, w_t2, w_t3]
  rfl
set_option maxRecDepth 65536 in
theorem w_rest : rest_1_c.before args0 about1 = true := by decide +kernel
set_option maxRecDepth 65536 in
theorem w_case : (Jvm.Cond.and given_1 narrow_1).before args0 about1 = true := by decide +kernel
theorem w_applies : (headSpec (Jvm.Cond.code x code maxLocals ret :: tables_1) room_1).applies x e0.platform about1 = true :=
  (Spec.applies_iff w_frames).mpr ⟨w_running, w_runnable, w_alone, w_named, w_hears, w_ripe, w_room, w_tables⟩
theorem atStart : AtStart classFile x code maxLocals ret World_1 tables_1 room_1 Calls_1 rest_1 Pre_1 launch0 p0 e0 about1 theMethod args0 below0 :=
  ⟨lists_1, trivial, launch0.admits_env _ _ _, launch0.least_env, fairChoices_fair.cas, fairChoices_fair.clock, w_frames, w_args, w_heap, w_applies, trivial, w_rest, w_case⟩
end start1
theorem witness_1 : WitnessClaimed_1 := ⟨start1.p0, start1.e0, start1.about1, start1.theMethod, start1.args0, start1.below0, start1.atStart⟩
end Jvm.Pilot.@@N@@
