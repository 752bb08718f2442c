import JvmDerived
import JvmDerived.Pilot.@@N@@Statement
import JvmDerived.Pilot.@@N@@Code
set_option linter.unusedVariables false
set_option linter.unusedSimpArgs false
namespace Jvm.OwnKit
open Sem ClassFile Op Lib Jvm.Stand Jvm.Free Jvm.LawKit Jvm.RoadKit
/-- from the frame f over the state T the run ends within P -/
def Goes (p : Program) (e : Env) (below : List Frame) (T : State) (f : JFrame) (P : State → Outcome → Prop) : Prop := ∃ U o, Steps p.tables e below (T.setTop f) U ∧ U.status = .running ∧ Ended U below o ∧ P U o
/-- only places of ws or of new cells -/
def Only (h0 : Heap) (ws : List Addr) (L : List Loc) : Prop := ∀ y ∈ L, y.base ∈ ws ∨ h0.size ≤ y.base
def Kp (h0 h : Heap) (ws : List Addr) (L : List Loc) : Prop := Keep h0 h ws ∧ Only h0 ws L
/-- Q, kept from being reduced -/
def Ap (Q : Option Value → Heap → List Loc → Prop) (v : Option Value) (h : Heap) (L : List Loc) : Prop := Q v h L
/-- a contract: called with 'as' over the heap h0, the method returns within Q -/
def Con (l : Launch) (y : MethodName) (bytes : ByteArray) (maxL : Nat) (ret : Option FieldType) (rm : Room) (Z : State) (as : Array Value) (h0 : Heap) (Q : Option Value → Heap → List Loc → Prop) : Prop :=
  ∀ ws, MetFree l y (head1 (Cond.code y bytes maxL ret :: ws) rm) (fun a U => a = as ∧ Z.Warmed39 U.vm ∧ U.heap = h0) (fun _ _ _ _ _ => True) (fun _ U o U' => ∃ v L, o = .returned v ∧ Ap Q v U'.heap L ∧ FrameEnd U o U' L rm.cells rm.slots)
section G
variable {p : Program} {l : Launch} {e : Env} {R : Room} {s : State} {m : MethodId} {args : Array Value} {below : List Frame} {meth : Method} {c : Code} {T T' : State} {locs : List Loc} {cells slots : Nat} {P : State → Outcome → Prop} {f f' : JFrame} {Z : State} {a0 : Array Value} {h h' h0 : Heap} {a b : Addr} {ws ws' : List Addr} {Lc Lc' : List Loc} {sl : Nat} {v : Value}
theorem Goes.via (q : ∀ t, Steps p.tables e below (T'.setTop f') t → Steps p.tables e below (T.setTop f) t) (k : Goes p e below T' f' P) : Goes p e below T f P := by
  obtain ⟨U, o, h1, h2⟩ := k
  exact ⟨U, o, q U h1, h2⟩
theorem Goes.thru (q : Steps p.tables e below (T.setTop f) (T'.setTop f')) (k : Goes p e below T' f' P) : Goes p e below T f P := by
  obtain ⟨U, o, h1, h2⟩ := k
  exact ⟨U, o, q.trans h1, h2⟩
theorem Goes.ite {c : Prop} [Decidable c] {F : Int32 → JFrame} {a b : Int32} (h1 : c → Goes p e below T (F a) P → Goes p e below T f P) (h2 : ¬ c → Goes p e below T (F b) P → Goes p e below T f P) (k : Goes p e below T (F (if c then a else b)) P) : Goes p e below T f P := by
  by_cases hc : c
  · rw [if_pos hc] at k; exact h1 hc k
  · rw [if_neg hc] at k; exact h2 hc k
theorem Goes.cast (q : f = f') (k : Goes p e below T f' P) : Goes p e below T f P := q ▸ k
theorem Kp.refl (h : Heap) (ws : List Addr) : Kp h h ws [] := ⟨Keep.refl h ws, fun _ q => nomatch q⟩
theorem Kp.ext (K : Kp h0 h ws Lc) (E : Ext h h') : Kp h0 h' ws Lc := ⟨K.1.ext E, K.2⟩
theorem Kp.wr (K : Kp h0 h ws Lc) (W : Wr h h' a sl v) (q : a ∈ ws ∨ h0.size ≤ a) : Kp h0 h' ws (Lc ++ [⟨a, sl⟩]) :=
  ⟨K.1.wr W q, fun y hy => (List.mem_append.mp hy).elim (K.2 y) fun z => by cases List.mem_singleton.mp z; exact q⟩
theorem Kp.call (K : Kp h0 h ws Lc) (K' : Kp h h' ws' Lc') (q : ∀ x ∈ ws', x ∈ ws ∨ h0.size ≤ x) : Kp h0 h' ws (Lc ++ Lc') :=
  ⟨K.1.trans K'.1 q, fun y hy => (List.mem_append.mp hy).elim (K.2 y) fun z => (K'.2 y z).elim (q _) fun u => Or.inr (Nat.le_trans K.1.1 u)⟩
theorem Kp.size (K : Kp h0 h ws Lc) : h0.size ≤ h.size := K.1.1
theorem Kp.fr (K : Kp h0 h [] Lc) : Fr h0.size Lc := fun y hy => (K.2 y hy).elim (fun z => nomatch z) id
theorem Con.of_body {l : Launch} {y : MethodName} {bytes : ByteArray} {maxL : Nat} {ret : Option FieldType} {rm : Room} {Z : State} {as : Array Value} {h0 : Heap} {Q : Option Value → Heap → List Loc → Prop} (hn : plainFor y = true)
    (body : ∀ (p : Program) (e : Env) (s : State) (m : MethodId) (below : List Frame) (meth : Method) (c : Code) (T : State), Stand p l e rm s m as below meth c T [] 0 0 → p.tables.exec = Jvm.exec → c.code = bytes → c.maxLocals = maxL → Z.Warmed39 s.vm → s.vm.findClass y.cls = some m.cls → meth.name = y.name → meth.sig.returnType = ret → meth.locks = false → T.heap = h0 →
      Goes p e below T (entryFrame m as maxL) (fun U o => ∃ v L, o = .returned v ∧ Ap Q v U.heap L ∧ FrameEnd s o U L rm.cells rm.slots)) : Con l y bytes maxL ret rm Z as h0 Q := by
  intro ws
  refine MetFree.of_bodySF hn hisR ?_
  intro p e s m args below meth c s₁ Bd hml hP _
  obtain ⟨rfl, hZ, hh⟩ := hP
  exact body p e s m below meth c s₁ (Stand.of_body Bd) Bd.exec Bd.bytes hml hZ (findClass_of_methodNamed Bd.named) (name_of_methodNamed Bd.named Bd.method).1 Bd.returns (BodyLoose.notSynchronized Bd) (by rw [← hh, Bd.state]; rfl)
theorem Con.back {y : MethodName} {bytes : ByteArray} {maxL : Nat} {ret : Option FieldType} {rm : Room} {len W : Nat} {as' : Array Value} {Q : Option Value → Heap → List Loc → Prop} (hM : Con l y bytes maxL ret rm Z as' h Q)
    (hZ : Z.Warmed39 s.vm) (wc : (Cond.code y bytes maxL ret).before a0 Z = true) (wz : (Cond.initialized y.cls).before a0 Z = true) (hf : rm.frames + 1 ≤ R.frames) (hl : W + (maxL + 11) + rm.locals ≤ R.locals) :
    Back l R p e below s args y len W (fun A a => a = as' ∧ A.U.heap = h ∧ A.cells + rm.cells ≤ R.cells ∧ A.slots + rm.slots ≤ R.slots)
      (fun A _ v B => ∃ L, Q v B.U.heap L ∧ B.locs = A.locs ++ L ∧ B.cells = A.cells + rm.cells ∧ B.slots = A.slots + rm.slots) := backOf (hM []) hZ wc wz hf hl
/-- the end of a walk, for any of the returning instructions -/
theorem Goes.end (X : Stand p l e R s m args below meth c T locs cells slots) (hlk : meth.locks = false) {v : Option Value} (hv : meth.sig.returnType = none → v = none)
    (hs : ∀ fs, (∀ (f : JFrame) (acts : List Action), f.method = m → f.locked = none → f.entered = [] → (doReturn e (T.setTop f) acts v).1 = T.setFrames fs) → Steps p.tables e below (T.setTop f) (T.setFrames fs))
    {Q : Option Value → Heap → List Loc → Prop} {k n : Nat} (hk : cells ≤ k) (hn : slots ≤ n) (q : Q v T.heap locs) : Goes p e below T f (fun U o => ∃ v L, o = .returned v ∧ Ap Q v U.heap L ∧ FrameEnd s o U L k n) := by
  obtain ⟨fs, hr, hrun, hended, hW, hsame⟩ := X.leave hv hlk
  exact ⟨_, _, hs fs hr, hrun, hended, v, locs, rfl, q, ⟨_, rfl⟩, hW, hsame.mono hk hn⟩
theorem retI' (X : Stand p l e R s m args below meth c T locs cells slots) (hx : p.tables.exec = Jvm.exec) {pc : Nat} {Ls : Array Slot} {z : Int32} {rest : List Value} (hret : meth.sig.returnType = some .int) (hd : decode c.code pc = .ok (.ireturn, 1)) {fs : List Frame}
    (hl : ∀ (f : JFrame) (acts : List Action), f.method = m → f.locked = none → f.entered = [] → (doReturn e (T.setTop f) acts (some (.int z))).1 = T.setFrames fs) : Steps p.tables e below (T.setTop (mkF m pc Ls (.int z :: rest))) (T.setFrames fs) :=
  retOut X hx hret rfl (Or.inl ⟨rfl, Or.inl rfl, z, rfl⟩) hd hl
variable {pc pc' : Nat} {L L' : Array Slot} {S : List Value}
variable {Q : Option Value → Heap → List Loc → Prop} {k n : Nat}
theorem Goes.retI (X : Stand p l e R s m args below meth c T locs cells slots) (hx : p.tables.exec = Jvm.exec) (hret : meth.sig.returnType = some .int) (hlk : meth.locks = false) {z : Int32} (hd : decode c.code pc = .ok (.ireturn, 1)) (hk : cells ≤ k) (hn : slots ≤ n) (q : Q (some (.int z)) T.heap locs) :
    Goes p e below T (mkF m pc L (.int z :: S)) (fun U o => ∃ v L, o = .returned v ∧ Ap Q v U.heap L ∧ FrameEnd s o U L k n) :=
  Goes.end X hlk (fun h => by rw [hret] at h; cases h) (fun _ hr => retOut X hx hret rfl (Or.inl ⟨rfl, Or.inl rfl, z, rfl⟩) hd hr) hk hn q
theorem Goes.retN (X : Stand p l e R s m args below meth c T locs cells slots) (hx : p.tables.exec = Jvm.exec) {t : FieldType} (hret : meth.sig.returnType = some t) (ht : t = .boolean ∨ t = .byte ∨ t = .char ∨ t = .short) (hlk : meth.locks = false) {z : Int32} (hd : decode c.code pc = .ok (.ireturn, 1)) (hk : cells ≤ k) (hn : slots ≤ n) (q : Q (some (.int (nar t z))) T.heap locs) :
    Goes p e below T (mkF m pc L (.int z :: S)) (fun U o => ∃ v L, o = .returned v ∧ Ap Q v U.heap L ∧ FrameEnd s o U L k n) :=
  Goes.end X hlk (fun h => by rw [hret] at h; cases h) (fun _ hr => Jvm.RoadKit.retN X hx hret ht hd hr) hk hn q
theorem Goes.retJ (X : Stand p l e R s m args below meth c T locs cells slots) (hx : p.tables.exec = Jvm.exec) (hret : meth.sig.returnType = some .long) (hlk : meth.locks = false) {z : Int64} (hd : decode c.code pc = .ok (.lreturn, 1)) (hk : cells ≤ k) (hn : slots ≤ n) (q : Q (some (.long z)) T.heap locs) :
    Goes p e below T (mkF m pc L (.long z :: S)) (fun U o => ∃ v L, o = .returned v ∧ Ap Q v U.heap L ∧ FrameEnd s o U L k n) :=
  Goes.end X hlk (fun h => by rw [hret] at h; cases h) (fun _ hr => retOut X hx hret rfl (Or.inr (Or.inl ⟨rfl, rfl, z, rfl⟩)) hd hr) hk hn q
theorem Goes.retA (X : Stand p l e R s m args below meth c T locs cells slots) (hx : p.tables.exec = Jvm.exec) {t : FieldType} (hret : meth.sig.returnType = some t) (ht : t.isReference = true) (hlk : meth.locks = false) {z : Value} (hz : z.isRef = true) (hnr : narrow t z = z) (hd : decode c.code pc = .ok (.areturn, 1)) (hk : cells ≤ k) (hn : slots ≤ n) (q : Q (some z) T.heap locs) :
    Goes p e below T (mkF m pc L (z :: S)) (fun U o => ∃ v L, o = .returned v ∧ Ap Q v U.heap L ∧ FrameEnd s o U L k n) :=
  Goes.end X hlk (fun h => by rw [hret] at h; cases h) (fun _ hr => retOut X hx hret hnr (Or.inr (Or.inr (Or.inr (Or.inr ⟨rfl, ht, hz⟩)))) hd hr) hk hn q
theorem Goes.retV (X : Stand p l e R s m args below meth c T locs cells slots) (hx : p.tables.exec = Jvm.exec) (hret : meth.sig.returnType = none) (hlk : meth.locks = false) (hd : decode c.code pc = .ok (.return_, 1)) (hk : cells ≤ k) (hn : slots ≤ n) (q : Q none T.heap locs) :
    Goes p e below T (mkF m pc L []) (fun U o => ∃ v L, o = .returned v ∧ Ap Q v U.heap L ∧ FrameEnd s o U L k n) :=
  Goes.end X hlk (fun _ => rfl) (fun _ hr => X.returnOut hx hret hd hr) hk hn q
theorem G.aload (X : Stand p l e R s m args below meth c T locs cells slots) (hx : p.tables.exec = Jvm.exec) {k : Nat} {v : Value} (hd : decode c.code pc = .ok (.aload k, 2)) (hl : L[k]? = some (.val v)) (hv : v.isRef = true) (hp : pc + 2 = pc') (q : Goes p e below T (mkF m pc' L (v :: S)) P) : Goes p e below T (mkF m pc L (S)) P := by
  subst hp; exact Goes.via (fun _ u => Jvm.Free.XS.aload X.here hx rfl hd hl hv u) q
theorem G.aloadN (X : Stand p l e R s m args below meth c T locs cells slots) (hx : p.tables.exec = Jvm.exec) {k : Fin 4} {v : Value} (hd : decode c.code pc = .ok (.aload_n k, 1)) (hl : L[k.val]? = some (.val v)) (hv : v.isRef = true) (hp : pc + 1 = pc') (q : Goes p e below T (mkF m pc' L (v :: S)) P) : Goes p e below T (mkF m pc L (S)) P := by
  subst hp; exact Goes.via (fun _ u => Jvm.Free.XS.aloadN X.here hx rfl hd hl hv u) q
theorem G.iload (X : Stand p l e R s m args below meth c T locs cells slots) (hx : p.tables.exec = Jvm.exec) {k : Nat} {v : Int32} (hd : decode c.code pc = .ok (.iload k, 2)) (hl : L[k]? = some (.val (.int v))) (hp : pc + 2 = pc') (q : Goes p e below T (mkF m pc' L (.int v :: S)) P) : Goes p e below T (mkF m pc L (S)) P := by
  subst hp; exact Goes.via (fun _ u => Jvm.Free.XS.iload X.here hx rfl hd hl u) q
theorem G.iloadN (X : Stand p l e R s m args below meth c T locs cells slots) (hx : p.tables.exec = Jvm.exec) {k : Fin 4} {v : Int32} (hd : decode c.code pc = .ok (.iload_n k, 1)) (hl : L[k.val]? = some (.val (.int v))) (hp : pc + 1 = pc') (q : Goes p e below T (mkF m pc' L (.int v :: S)) P) : Goes p e below T (mkF m pc L (S)) P := by
  subst hp; exact Goes.via (fun _ u => Jvm.Free.XS.iloadN X.here hx rfl hd hl u) q
theorem G.lload (X : Stand p l e R s m args below meth c T locs cells slots) (hx : p.tables.exec = Jvm.exec) {k : Nat} {v : Int64} (hd : decode c.code pc = .ok (.lload k, 2)) (hl : L[k]? = some (.val (.long v))) (hp : pc + 2 = pc') (q : Goes p e below T (mkF m pc' L (.long v :: S)) P) : Goes p e below T (mkF m pc L (S)) P := by
  subst hp; exact Goes.via (fun _ u => Jvm.Free.XT.lload X.here hx rfl hd hl u) q
theorem G.lloadN (X : Stand p l e R s m args below meth c T locs cells slots) (hx : p.tables.exec = Jvm.exec) {k : Fin 4} {v : Int64} (hd : decode c.code pc = .ok (.lload_n k, 1)) (hl : L[k.val]? = some (.val (.long v))) (hp : pc + 1 = pc') (q : Goes p e below T (mkF m pc' L (.long v :: S)) P) : Goes p e below T (mkF m pc L (S)) P := by
  subst hp; exact Goes.via (fun _ u => Jvm.Free.XT.lloadN X.here hx rfl hd hl u) q
theorem G.istore (X : Stand p l e R s m args below meth c T locs cells slots) (hx : p.tables.exec = Jvm.exec) {k : Nat} {v : Int32} (hd : decode c.code pc = .ok (.istore k, 2)) (hl : storeLocals L k (.int v) = some L') (hp : pc + 2 = pc') (q : Goes p e below T (mkF m pc' L' (S)) P) : Goes p e below T (mkF m pc L (.int v :: S)) P := by
  subst hp; exact Goes.via (fun _ u => Jvm.Free.XS.istore X.here hx rfl hd rfl hl u) q
theorem G.istoreN (X : Stand p l e R s m args below meth c T locs cells slots) (hx : p.tables.exec = Jvm.exec) {k : Fin 4} {v : Int32} (hd : decode c.code pc = .ok (.istore_n k, 1)) (hl : storeLocals L k.val (.int v) = some L') (hp : pc + 1 = pc') (q : Goes p e below T (mkF m pc' L' (S)) P) : Goes p e below T (mkF m pc L (.int v :: S)) P := by
  subst hp; exact Goes.via (fun _ u => Jvm.Free.XS.istoreN X.here hx rfl hd rfl hl u) q
theorem G.lstore (X : Stand p l e R s m args below meth c T locs cells slots) (hx : p.tables.exec = Jvm.exec) {k : Nat} {v : Int64} (hd : decode c.code pc = .ok (.lstore k, 2)) (hl : storeLocals L k (.long v) = some L') (hp : pc + 2 = pc') (q : Goes p e below T (mkF m pc' L' (S)) P) : Goes p e below T (mkF m pc L (.long v :: S)) P := by
  subst hp; exact Goes.via (fun _ u => Jvm.Free.XT.lstore X.here hx rfl hd rfl hl u) q
theorem G.lstoreN (X : Stand p l e R s m args below meth c T locs cells slots) (hx : p.tables.exec = Jvm.exec) {k : Fin 4} {v : Int64} (hd : decode c.code pc = .ok (.lstore_n k, 1)) (hl : storeLocals L k.val (.long v) = some L') (hp : pc + 1 = pc') (q : Goes p e below T (mkF m pc' L' (S)) P) : Goes p e below T (mkF m pc L (.long v :: S)) P := by
  subst hp; exact Goes.via (fun _ u => Jvm.Free.XT.lstoreN X.here hx rfl hd rfl hl u) q
theorem G.astore (X : Stand p l e R s m args below meth c T locs cells slots) (hx : p.tables.exec = Jvm.exec) {k : Nat} {v : Value} (hd : decode c.code pc = .ok (.astore k, 2)) (hv : v.isRef = true) (hl : storeLocals L k v = some L') (hp : pc + 2 = pc') (q : Goes p e below T (mkF m pc' L' (S)) P) : Goes p e below T (mkF m pc L (v :: S)) P := by
  subst hp; exact Goes.via (fun _ u => Jvm.Free.XS.astore X.here hx rfl hd rfl hv hl u) q
theorem G.astoreN (X : Stand p l e R s m args below meth c T locs cells slots) (hx : p.tables.exec = Jvm.exec) {k : Fin 4} {v : Value} (hd : decode c.code pc = .ok (.astore_n k, 1)) (hv : v.isRef = true) (hl : storeLocals L k.val v = some L') (hp : pc + 1 = pc') (q : Goes p e below T (mkF m pc' L' (S)) P) : Goes p e below T (mkF m pc L (v :: S)) P := by
  subst hp; exact Goes.via (fun _ u => Jvm.Free.XS.astoreN X.here hx rfl hd rfl hv hl u) q
theorem G.iinc (X : Stand p l e R s m args below meth c T locs cells slots) (hx : p.tables.exec = Jvm.exec) {k : Nat} {cst : Int} {v : Int32} (hd : decode c.code pc = .ok (.iinc k cst, 3)) (hl : L[k]? = some (.val (.int v))) (hl' : storeLocals L k (.int (v + Int32.ofInt cst)) = some L') (hp : pc + 3 = pc') (q : Goes p e below T (mkF m pc' L' (S)) P) : Goes p e below T (mkF m pc L (S)) P := by
  subst hp; exact Goes.via (fun _ u => Jvm.Free.XS.iinc X.here hx rfl hd hl hl' u) q
theorem G.iconst (X : Stand p l e R s m args below meth c T locs cells slots) (hx : p.tables.exec = Jvm.exec) {i : Int} {z : Int32} (hd : decode c.code pc = .ok (.iconst i, 1)) (hz : Int32.ofInt i = z) (hp : pc + 1 = pc') (q : Goes p e below T (mkF m pc' L (.int z :: S)) P) : Goes p e below T (mkF m pc L S) P := by
  subst hp hz; exact Goes.via (fun _ u => Jvm.Free.XS.iconst X.here hx rfl hd u) q
theorem G.bipush (X : Stand p l e R s m args below meth c T locs cells slots) (hx : p.tables.exec = Jvm.exec) {i : Int} {z : Int32} (hd : decode c.code pc = .ok (.bipush i, 2)) (hz : (Int8.ofInt i).toInt32 = z) (hp : pc + 2 = pc') (q : Goes p e below T (mkF m pc' L (.int z :: S)) P) : Goes p e below T (mkF m pc L S) P := by
  subst hp hz; exact Goes.via (fun _ u => Jvm.Free.XS.bipush X.here hx rfl hd u) q
theorem G.sipush (X : Stand p l e R s m args below meth c T locs cells slots) (hx : p.tables.exec = Jvm.exec) {i : Int} {z : Int32} (hd : decode c.code pc = .ok (.sipush i, 3)) (hz : (Int16.ofInt i).toInt32 = z) (hp : pc + 3 = pc') (q : Goes p e below T (mkF m pc' L (.int z :: S)) P) : Goes p e below T (mkF m pc L S) P := by
  subst hp hz; exact Goes.via (fun _ u => Jvm.Free.XS.sipush X.here hx rfl hd u) q
theorem G.lconst (X : Stand p l e R s m args below meth c T locs cells slots) (hx : p.tables.exec = Jvm.exec) {k : Fin 2} {z : Int64} (hd : decode c.code pc = .ok (.lconst k, 1)) (hz : Int64.ofNat k = z) (hp : pc + 1 = pc') (q : Goes p e below T (mkF m pc' L (.long z :: S)) P) : Goes p e below T (mkF m pc L S) P := by
  subst hp hz; exact Goes.via (fun _ u => Jvm.Free.XT.lconst X.here hx rfl hd u) q
theorem G.aconstNull (X : Stand p l e R s m args below meth c T locs cells slots) (hx : p.tables.exec = Jvm.exec) (hd : decode c.code pc = .ok (.aconst_null, 1)) (hp : pc + 1 = pc') (q : Goes p e below T (mkF m pc' L (.null :: S)) P) : Goes p e below T (mkF m pc L (S)) P := by
  subst hp; exact Goes.via (fun _ u => Jvm.Free.XS.aconstNull X.here hx rfl hd u) q
theorem G.iadd (X : Stand p l e R s m args below meth c T locs cells slots) (hx : p.tables.exec = Jvm.exec) {x y : Int32} (hd : decode c.code pc = .ok (.iadd, 1)) (hp : pc + 1 = pc') (q : Goes p e below T (mkF m pc' L (.int (x + y) :: S)) P) : Goes p e below T (mkF m pc L (.int y :: .int x :: S)) P := by
  subst hp; exact Goes.via (fun _ u => Jvm.Free.XS.iadd X.here hx rfl hd rfl u) q
theorem G.isub (X : Stand p l e R s m args below meth c T locs cells slots) (hx : p.tables.exec = Jvm.exec) {x y : Int32} (hd : decode c.code pc = .ok (.isub, 1)) (hp : pc + 1 = pc') (q : Goes p e below T (mkF m pc' L (.int (x - y) :: S)) P) : Goes p e below T (mkF m pc L (.int y :: .int x :: S)) P := by
  subst hp; exact Goes.via (fun _ u => Jvm.Free.XS.isub X.here hx rfl hd rfl u) q
theorem G.iand (X : Stand p l e R s m args below meth c T locs cells slots) (hx : p.tables.exec = Jvm.exec) {x y : Int32} (hd : decode c.code pc = .ok (.iand, 1)) (hp : pc + 1 = pc') (q : Goes p e below T (mkF m pc' L (.int (x &&& y) :: S)) P) : Goes p e below T (mkF m pc L (.int y :: .int x :: S)) P := by
  subst hp; exact Goes.via (fun _ u => Jvm.Free.XS.iand X.here hx rfl hd rfl u) q
theorem G.imul (X : Stand p l e R s m args below meth c T locs cells slots) (hx : p.tables.exec = Jvm.exec) {x y : Int32} (hd : decode c.code pc = .ok (.imul, 1)) (hp : pc + 1 = pc') (q : Goes p e below T (mkF m pc' L (.int (x * y) :: S)) P) : Goes p e below T (mkF m pc L (.int y :: .int x :: S)) P := by
  subst hp; exact Goes.via (fun _ u => Jvm.Free.XS.imul X.here hx rfl hd rfl u) q
theorem G.ior (X : Stand p l e R s m args below meth c T locs cells slots) (hx : p.tables.exec = Jvm.exec) {x y : Int32} (hd : decode c.code pc = .ok (.ior, 1)) (hp : pc + 1 = pc') (q : Goes p e below T (mkF m pc' L (.int (x ||| y) :: S)) P) : Goes p e below T (mkF m pc L (.int y :: .int x :: S)) P := by
  subst hp; exact Goes.via (fun _ u => Jvm.Free.XT.ior X.here hx rfl hd rfl u) q
theorem G.ixor (X : Stand p l e R s m args below meth c T locs cells slots) (hx : p.tables.exec = Jvm.exec) {x y : Int32} (hd : decode c.code pc = .ok (.ixor, 1)) (hp : pc + 1 = pc') (q : Goes p e below T (mkF m pc' L (.int (x ^^^ y) :: S)) P) : Goes p e below T (mkF m pc L (.int y :: .int x :: S)) P := by
  subst hp; exact Goes.via (fun _ u => Jvm.Free.XT.ixor X.here hx rfl hd rfl u) q
theorem G.ishl (X : Stand p l e R s m args below meth c T locs cells slots) (hx : p.tables.exec = Jvm.exec) {x y : Int32} (hd : decode c.code pc = .ok (.ishl, 1)) (hp : pc + 1 = pc') (q : Goes p e below T (mkF m pc' L (.int (x <<< (y &&& 31)) :: S)) P) : Goes p e below T (mkF m pc L (.int y :: .int x :: S)) P := by
  subst hp; exact Goes.via (fun _ u => Jvm.Free.XT.ishl X.here hx rfl hd rfl u) q
theorem G.ishr (X : Stand p l e R s m args below meth c T locs cells slots) (hx : p.tables.exec = Jvm.exec) {x y : Int32} (hd : decode c.code pc = .ok (.ishr, 1)) (hp : pc + 1 = pc') (q : Goes p e below T (mkF m pc' L (.int (x >>> (y &&& 31)) :: S)) P) : Goes p e below T (mkF m pc L (.int y :: .int x :: S)) P := by
  subst hp; exact Goes.via (fun _ u => Jvm.Free.XT.ishr X.here hx rfl hd rfl u) q
theorem G.iushr (X : Stand p l e R s m args below meth c T locs cells slots) (hx : p.tables.exec = Jvm.exec) {x y : Int32} (hd : decode c.code pc = .ok (.iushr, 1)) (hp : pc + 1 = pc') (q : Goes p e below T (mkF m pc' L (.int (Jvm.Free.XT.ushr x y) :: S)) P) : Goes p e below T (mkF m pc L (.int y :: .int x :: S)) P := by
  subst hp; exact Goes.via (fun _ u => Jvm.Free.XT.iushr X.here hx rfl hd rfl u) q
theorem G.idiv (X : Stand p l e R s m args below meth c T locs cells slots) (hx : p.tables.exec = Jvm.exec) {x y : Int32} (hd : decode c.code pc = .ok (.idiv, 1)) (hy : y ≠ 0) (hp : pc + 1 = pc') (q : Goes p e below T (mkF m pc' L (.int (x / y) :: S)) P) : Goes p e below T (mkF m pc L (.int y :: .int x :: S)) P := by
  subst hp; exact Goes.via (fun _ u => Jvm.Free.XS.idiv X.here hx rfl hd rfl hy u) q
theorem G.irem (X : Stand p l e R s m args below meth c T locs cells slots) (hx : p.tables.exec = Jvm.exec) {x y : Int32} (hd : decode c.code pc = .ok (.irem, 1)) (hy : y ≠ 0) (hp : pc + 1 = pc') (q : Goes p e below T (mkF m pc' L (.int (x % y) :: S)) P) : Goes p e below T (mkF m pc L (.int y :: .int x :: S)) P := by
  subst hp; exact Goes.via (fun _ u => Jvm.RoadKit.iremM X hx rfl hd rfl hy u) q
theorem G.ineg (X : Stand p l e R s m args below meth c T locs cells slots) (hx : p.tables.exec = Jvm.exec) {x : Int32} (hd : decode c.code pc = .ok (.ineg, 1)) (hp : pc + 1 = pc') (q : Goes p e below T (mkF m pc' L (.int (-x) :: S)) P) : Goes p e below T (mkF m pc L (.int x :: S)) P := by
  subst hp; exact Goes.via (fun _ u => Jvm.Free.XS.ineg X.here hx rfl hd rfl u) q
theorem G.ladd (X : Stand p l e R s m args below meth c T locs cells slots) (hx : p.tables.exec = Jvm.exec) {x y : Int64} (hd : decode c.code pc = .ok (.ladd, 1)) (hp : pc + 1 = pc') (q : Goes p e below T (mkF m pc' L (.long (x + y) :: S)) P) : Goes p e below T (mkF m pc L (.long y :: .long x :: S)) P := by
  subst hp; exact Goes.via (fun _ u => Jvm.Free.XT.ladd X.here hx rfl hd rfl u) q
theorem G.lsub (X : Stand p l e R s m args below meth c T locs cells slots) (hx : p.tables.exec = Jvm.exec) {x y : Int64} (hd : decode c.code pc = .ok (.lsub, 1)) (hp : pc + 1 = pc') (q : Goes p e below T (mkF m pc' L (.long (x - y) :: S)) P) : Goes p e below T (mkF m pc L (.long y :: .long x :: S)) P := by
  subst hp; exact Goes.via (fun _ u => Jvm.Free.XT.lsub X.here hx rfl hd rfl u) q
theorem G.lmul (X : Stand p l e R s m args below meth c T locs cells slots) (hx : p.tables.exec = Jvm.exec) {x y : Int64} (hd : decode c.code pc = .ok (.lmul, 1)) (hp : pc + 1 = pc') (q : Goes p e below T (mkF m pc' L (.long (x * y) :: S)) P) : Goes p e below T (mkF m pc L (.long y :: .long x :: S)) P := by
  subst hp; exact Goes.via (fun _ u => Jvm.Free.XT.lmul X.here hx rfl hd rfl u) q
theorem G.land (X : Stand p l e R s m args below meth c T locs cells slots) (hx : p.tables.exec = Jvm.exec) {x y : Int64} (hd : decode c.code pc = .ok (.land, 1)) (hp : pc + 1 = pc') (q : Goes p e below T (mkF m pc' L (.long (x &&& y) :: S)) P) : Goes p e below T (mkF m pc L (.long y :: .long x :: S)) P := by
  subst hp; exact Goes.via (fun _ u => Jvm.Free.XT.land X.here hx rfl hd rfl u) q
theorem G.lor (X : Stand p l e R s m args below meth c T locs cells slots) (hx : p.tables.exec = Jvm.exec) {x y : Int64} (hd : decode c.code pc = .ok (.lor, 1)) (hp : pc + 1 = pc') (q : Goes p e below T (mkF m pc' L (.long (x ||| y) :: S)) P) : Goes p e below T (mkF m pc L (.long y :: .long x :: S)) P := by
  subst hp; exact Goes.via (fun _ u => Jvm.Free.XT.lor X.here hx rfl hd rfl u) q
theorem G.lxor (X : Stand p l e R s m args below meth c T locs cells slots) (hx : p.tables.exec = Jvm.exec) {x y : Int64} (hd : decode c.code pc = .ok (.lxor, 1)) (hp : pc + 1 = pc') (q : Goes p e below T (mkF m pc' L (.long (x ^^^ y) :: S)) P) : Goes p e below T (mkF m pc L (.long y :: .long x :: S)) P := by
  subst hp; exact Goes.via (fun _ u => Jvm.Free.XT.lxor X.here hx rfl hd rfl u) q
theorem G.lshl (X : Stand p l e R s m args below meth c T locs cells slots) (hx : p.tables.exec = Jvm.exec) {x : Int64} {y : Int32} (hd : decode c.code pc = .ok (.lshl, 1)) (hp : pc + 1 = pc') (q : Goes p e below T (mkF m pc' L (.long (x <<< (y.toInt64 &&& 63)) :: S)) P) : Goes p e below T (mkF m pc L (.int y :: .long x :: S)) P := by
  subst hp; exact Goes.via (fun _ u => Jvm.Free.XT.lshl X.here hx rfl hd rfl u) q
theorem G.lshr (X : Stand p l e R s m args below meth c T locs cells slots) (hx : p.tables.exec = Jvm.exec) {x : Int64} {y : Int32} (hd : decode c.code pc = .ok (.lshr, 1)) (hp : pc + 1 = pc') (q : Goes p e below T (mkF m pc' L (.long (x >>> (y.toInt64 &&& 63)) :: S)) P) : Goes p e below T (mkF m pc L (.int y :: .long x :: S)) P := by
  subst hp; exact Goes.via (fun _ u => Jvm.Free.XT.lshr X.here hx rfl hd rfl u) q
theorem G.lushr (X : Stand p l e R s m args below meth c T locs cells slots) (hx : p.tables.exec = Jvm.exec) {x : Int64} {y : Int32} (hd : decode c.code pc = .ok (.lushr, 1)) (hp : pc + 1 = pc') (q : Goes p e below T (mkF m pc' L (.long (Jvm.Free.XT.ushrL x y) :: S)) P) : Goes p e below T (mkF m pc L (.int y :: .long x :: S)) P := by
  subst hp; exact Goes.via (fun _ u => Jvm.Free.XT.lushr X.here hx rfl hd rfl u) q
theorem G.ldiv (X : Stand p l e R s m args below meth c T locs cells slots) (hx : p.tables.exec = Jvm.exec) {x y : Int64} (hd : decode c.code pc = .ok (.ldiv, 1)) (hy : y ≠ 0) (hp : pc + 1 = pc') (q : Goes p e below T (mkF m pc' L (.long (x / y) :: S)) P) : Goes p e below T (mkF m pc L (.long y :: .long x :: S)) P := by
  subst hp; exact Goes.via (fun _ u => Jvm.Free.XT.ldiv X.here hx rfl hd rfl hy u) q
theorem G.lrem (X : Stand p l e R s m args below meth c T locs cells slots) (hx : p.tables.exec = Jvm.exec) {x y : Int64} (hd : decode c.code pc = .ok (.lrem, 1)) (hy : y ≠ 0) (hp : pc + 1 = pc') (q : Goes p e below T (mkF m pc' L (.long (x % y) :: S)) P) : Goes p e below T (mkF m pc L (.long y :: .long x :: S)) P := by
  subst hp; exact Goes.via (fun _ u => Jvm.Free.XT.lrem X.here hx rfl hd rfl hy u) (by rw [lrem_mod]; exact q)
theorem G.lneg (X : Stand p l e R s m args below meth c T locs cells slots) (hx : p.tables.exec = Jvm.exec) {x : Int64} (hd : decode c.code pc = .ok (.lneg, 1)) (hp : pc + 1 = pc') (q : Goes p e below T (mkF m pc' L (.long (-x) :: S)) P) : Goes p e below T (mkF m pc L (.long x :: S)) P := by
  subst hp; exact Goes.via (fun _ u => Jvm.Free.XT.lneg X.here hx rfl hd rfl u) q
theorem G.i2l (X : Stand p l e R s m args below meth c T locs cells slots) (hx : p.tables.exec = Jvm.exec) {x : Int32} (hd : decode c.code pc = .ok (.i2l, 1)) (hp : pc + 1 = pc') (q : Goes p e below T (mkF m pc' L (.long (x.toInt64) :: S)) P) : Goes p e below T (mkF m pc L (.int x :: S)) P := by
  subst hp; exact Goes.via (fun _ u => Jvm.Free.XT.i2l X.here hx rfl hd rfl u) q
theorem G.i2b (X : Stand p l e R s m args below meth c T locs cells slots) (hx : p.tables.exec = Jvm.exec) {x : Int32} (hd : decode c.code pc = .ok (.i2b, 1)) (hp : pc + 1 = pc') (q : Goes p e below T (mkF m pc' L (.int (x.toInt8.toInt32) :: S)) P) : Goes p e below T (mkF m pc L (.int x :: S)) P := by
  subst hp; exact Goes.via (fun _ u => Jvm.Free.XT.i2b X.here hx rfl hd rfl u) q
theorem G.i2c (X : Stand p l e R s m args below meth c T locs cells slots) (hx : p.tables.exec = Jvm.exec) {x : Int32} (hd : decode c.code pc = .ok (.i2c, 1)) (hp : pc + 1 = pc') (q : Goes p e below T (mkF m pc' L (.int (x.toUInt32.toUInt16.toUInt32.toInt32) :: S)) P) : Goes p e below T (mkF m pc L (.int x :: S)) P := by
  subst hp; exact Goes.via (fun _ u => Jvm.Free.XT.i2c X.here hx rfl hd rfl u) q
theorem G.i2s (X : Stand p l e R s m args below meth c T locs cells slots) (hx : p.tables.exec = Jvm.exec) {x : Int32} (hd : decode c.code pc = .ok (.i2s, 1)) (hp : pc + 1 = pc') (q : Goes p e below T (mkF m pc' L (.int (x.toInt16.toInt32) :: S)) P) : Goes p e below T (mkF m pc L (.int x :: S)) P := by
  subst hp; exact Goes.via (fun _ u => Jvm.Free.XT.i2s X.here hx rfl hd rfl u) q
theorem G.l2i (X : Stand p l e R s m args below meth c T locs cells slots) (hx : p.tables.exec = Jvm.exec) {x : Int64} (hd : decode c.code pc = .ok (.l2i, 1)) (hp : pc + 1 = pc') (q : Goes p e below T (mkF m pc' L (.int (x.toInt32) :: S)) P) : Goes p e below T (mkF m pc L (.long x :: S)) P := by
  subst hp; exact Goes.via (fun _ u => Jvm.Free.XT.l2i X.here hx rfl hd rfl u) q
theorem G.lcmp (X : Stand p l e R s m args below meth c T locs cells slots) (hx : p.tables.exec = Jvm.exec) {x y : Int64} (hd : decode c.code pc = .ok (.lcmp, 1)) (hp : pc + 1 = pc') (q : Goes p e below T (mkF m pc' L (.int (Jvm.Free.XT.cmpL x y) :: S)) P) : Goes p e below T (mkF m pc L (.long y :: .long x :: S)) P := by
  subst hp; exact Goes.via (fun _ u => Jvm.Free.XT.lcmp X.here hx rfl hd rfl u) q
theorem G.dup (X : Stand p l e R s m args below meth c T locs cells slots) (hx : p.tables.exec = Jvm.exec) {v : Value} (hd : decode c.code pc = .ok (.dup, 1)) (hv : v.category = 1) (hp : pc + 1 = pc') (q : Goes p e below T (mkF m pc' L (v :: v :: S)) P) : Goes p e below T (mkF m pc L (v :: S)) P := by
  subst hp; exact Goes.via (fun _ u => Jvm.Free.XS.dup X.here hx rfl hd rfl hv u) q
theorem G.pop (X : Stand p l e R s m args below meth c T locs cells slots) (hx : p.tables.exec = Jvm.exec) {v : Value} (hd : decode c.code pc = .ok (.pop, 1)) (hv : v.category = 1) (hp : pc + 1 = pc') (q : Goes p e below T (mkF m pc' L (S)) P) : Goes p e below T (mkF m pc L (v :: S)) P := by
  subst hp; exact Goes.via (fun _ u => Jvm.Free.XT.pop X.here hx rfl hd rfl hv u) q
theorem G.dupX1 (X : Stand p l e R s m args below meth c T locs cells slots) (hx : p.tables.exec = Jvm.exec) {v w : Value} (hd : decode c.code pc = .ok (.dup_x1, 1)) (hv : v.category = 1) (hw : w.category = 1) (hp : pc + 1 = pc') (q : Goes p e below T (mkF m pc' L (v :: w :: v :: S)) P) : Goes p e below T (mkF m pc L (v :: w :: S)) P := by
  subst hp; exact Goes.via (fun _ u => Jvm.Free.XT.dupX1 X.here hx rfl hd rfl hv hw u) q
theorem G.dup2 (X : Stand p l e R s m args below meth c T locs cells slots) (hx : p.tables.exec = Jvm.exec) {v w : Value} (hd : decode c.code pc = .ok (.dup2, 1)) (hv : v.category = 1) (hw : w.category = 1) (hp : pc + 1 = pc') (q : Goes p e below T (mkF m pc' L (v :: w :: v :: w :: S)) P) : Goes p e below T (mkF m pc L (v :: w :: S)) P := by
  subst hp; exact Goes.via (fun _ u => Jvm.Free.XT.dup2 X.here hx rfl hd rfl hv hw u) q
theorem G.goto (X : Stand p l e R s m args below meth c T locs cells slots) (hx : p.tables.exec = Jvm.exec) {o : Int} (hd : decode c.code pc = .ok (.goto o, 3)) (ho : 0 ≤ (pc : Int) + o) (hp : ((pc : Int) + o).toNat = pc') (q : Goes p e below T (mkF m pc' L S) P) : Goes p e below T (mkF m pc L S) P :=
  Goes.via (fun _ u => Jvm.Free.XS.goto X.here hx rfl rfl hd ho hp u) q
theorem G.icmpT (X : Stand p l e R s m args below meth c T locs cells slots) (hx : p.tables.exec = Jvm.exec) {cd : ClassFile.Cond} {x y : Int32} {o : Int} (hd : decode c.code pc = .ok (.if_icmp cd o, 3)) (hc : if_icmp.holds cd x y = true) (ho : 0 ≤ (pc : Int) + o) (hp : ((pc : Int) + o).toNat = pc') (q : Goes p e below T (mkF m pc' L S) P) : Goes p e below T (mkF m pc L (.int y :: .int x :: S)) P :=
  Goes.via (fun _ u => Jvm.Free.XS.icmpYes X.here hx rfl rfl hd rfl hc ho hp u) q
theorem G.icmpF (X : Stand p l e R s m args below meth c T locs cells slots) (hx : p.tables.exec = Jvm.exec) {cd : ClassFile.Cond} {x y : Int32} {o : Int} (hd : decode c.code pc = .ok (.if_icmp cd o, 3)) (hc : if_icmp.holds cd x y = false) (hp : pc + 3 = pc') (q : Goes p e below T (mkF m pc' L S) P) : Goes p e below T (mkF m pc L (.int y :: .int x :: S)) P := by
  subst hp; exact Goes.via (fun _ u => Jvm.Free.XS.icmpNo X.here hx rfl hd rfl hc u) q
theorem G.ifT (X : Stand p l e R s m args below meth c T locs cells slots) (hx : p.tables.exec = Jvm.exec) {cd : ClassFile.Cond} {x : Int32} {o : Int} (hd : decode c.code pc = .ok (.ifCond cd o, 3)) (hc : ifCond.holds cd x = true) (ho : 0 ≤ (pc : Int) + o) (hp : ((pc : Int) + o).toNat = pc') (q : Goes p e below T (mkF m pc' L S) P) : Goes p e below T (mkF m pc L (.int x :: S)) P :=
  Goes.via (fun _ u => Jvm.Free.XS.ifYes X.here hx rfl rfl hd rfl hc ho hp u) q
theorem G.ifF (X : Stand p l e R s m args below meth c T locs cells slots) (hx : p.tables.exec = Jvm.exec) {cd : ClassFile.Cond} {x : Int32} {o : Int} (hd : decode c.code pc = .ok (.ifCond cd o, 3)) (hc : ifCond.holds cd x = false) (hp : pc + 3 = pc') (q : Goes p e below T (mkF m pc' L S) P) : Goes p e below T (mkF m pc L (.int x :: S)) P := by
  subst hp; exact Goes.via (fun _ u => Jvm.Free.XS.ifNo X.here hx rfl hd rfl hc u) q
theorem G.nullT (X : Stand p l e R s m args below meth c T locs cells slots) (hx : p.tables.exec = Jvm.exec) {o : Int} (hd : decode c.code pc = .ok (.ifnull o, 3)) (ho : 0 ≤ (pc : Int) + o) (hp : ((pc : Int) + o).toNat = pc') (q : Goes p e below T (mkF m pc' L S) P) : Goes p e below T (mkF m pc L (.null :: S)) P :=
  Goes.via (fun _ u => Jvm.Free.XS.ifnullYes X.here hx rfl rfl hd rfl ho hp u) q
theorem G.nullF (X : Stand p l e R s m args below meth c T locs cells slots) (hx : p.tables.exec = Jvm.exec) {b : Addr} {o : Int} (hd : decode c.code pc = .ok (.ifnull o, 3)) (hp : pc + 3 = pc') (q : Goes p e below T (mkF m pc' L S) P) : Goes p e below T (mkF m pc L (.ref b :: S)) P := by
  subst hp; exact Goes.via (fun _ u => Jvm.Free.XS.ifnullNo X.here hx rfl hd rfl u) q
theorem G.nonnullT (X : Stand p l e R s m args below meth c T locs cells slots) (hx : p.tables.exec = Jvm.exec) {b : Addr} {o : Int} (hd : decode c.code pc = .ok (.ifnonnull o, 3)) (ho : 0 ≤ (pc : Int) + o) (hp : ((pc : Int) + o).toNat = pc') (q : Goes p e below T (mkF m pc' L S) P) : Goes p e below T (mkF m pc L (.ref b :: S)) P :=
  Goes.via (fun _ u => Jvm.Free.XS.ifnonnullYes X.here hx rfl rfl hd rfl ho hp u) q
theorem G.nonnullF (X : Stand p l e R s m args below meth c T locs cells slots) (hx : p.tables.exec = Jvm.exec) {o : Int} (hd : decode c.code pc = .ok (.ifnonnull o, 3)) (hp : pc + 3 = pc') (q : Goes p e below T (mkF m pc' L S) P) : Goes p e below T (mkF m pc L (.null :: S)) P := by
  subst hp; exact Goes.via (fun _ u => Jvm.Free.XS.ifnonnullNo X.here hx rfl hd rfl u) q
theorem G.acmpT (X : Stand p l e R s m args below meth c T locs cells slots) (hx : p.tables.exec = Jvm.exec) {cd : ACond} {x y : Value} {o : Int} (hd : decode c.code pc = .ok (.if_acmp cd o, 3)) (h1 : x.isRef = true) (h2 : y.isRef = true) {same : Bool} (hq : decide (x = y) = same) (ho : 0 ≤ (pc : Int) + o) (hp : pc' = if acV cd same = true then ((pc : Int) + o).toNat else pc + 3) (q : Goes p e below T (mkF m pc' L S) P) : Goes p e below T (mkF m pc L (y :: x :: S)) P :=
  Goes.via (fun _ u => Jvm.RoadKit.acmp X hx rfl h1 h2 rfl hd rfl hq ho hp u) q
theorem G.ldcInt (X : Stand p l e R s m args below meth c T locs cells slots) (hx : p.tables.exec = Jvm.exec) (hZ : Z.Warmed39 s.vm) {own : String} {index : Nat} {v : Int32} (hown : s.vm.findClass own = some m.cls) (w : (Cond.constant own index v).before a0 Z = true) (hd : decode c.code pc = .ok (.ldc index, 2)) (hp : pc + 2 = pc') (q : Goes p e below T (mkF m pc' L (.int v :: S)) P) : Goes p e below T (mkF m pc L S) P := by
  subst hp; exact Goes.via (X.ldcInt hx hown (mvT hZ w) (g := mkF m pc L S) rfl hd) q
theorem G.ldcLong (X : Stand p l e R s m args below meth c T locs cells slots) (hx : p.tables.exec = Jvm.exec) (hZ : Z.Warmed39 s.vm) {own : String} {index : Nat} {v : Int64} (hown : s.vm.findClass own = some m.cls) (w : (Cond.constantLong own index v).before a0 Z = true) (hd : decode c.code pc = .ok (.ldc2_w index, 3)) (hp : pc + 3 = pc') (q : Goes p e below T (mkF m pc' L (.long v :: S)) P) : Goes p e below T (mkF m pc L S) P := by
  subst hp; exact Goes.via (X.ldc2Long hx hown (mvT hZ w) (g := mkF m pc L S) rfl hd) q
theorem G.getF (X : Stand p l e R s m args below meth c T locs cells slots) (hx : p.tables.exec = Jvm.exec) (hZ : Z.Warmed39 s.vm) {own R0 O n d : String} {index : Nat} (hown : s.vm.findClass own = some m.cls) (w : (Cond.fieldLink own index R0 n d).before a0 Z = true) (via : Via Z R0 O n d) (eT : T.heap = h) (F : Fld Z h a O n d v) (hd : decode c.code pc = .ok (.getfield index, 3)) (hp : pc + 3 = pc')
    (q : ∀ T', Stand p l e R s m args below meth c T' locs cells slots → T'.heap = h → Goes p e below T' (mkF m pc' L (v :: S)) P) : Goes p e below T (mkF m pc L (.ref a :: S)) P := by
  subst hp
  obtain ⟨T', X', e', st⟩ := Jvm.RoadKit.getF X hx hZ hown (host := "") (Or.inl w) via eT F (g := mkF m pc L (.ref a :: S)) rfl rfl hd
  exact Goes.via st (q T' X' e')
theorem G.getS (X : Stand p l e R s m args below meth c T locs cells slots) (hx : p.tables.exec = Jvm.exec) (hZ : Z.Warmed39 s.vm) {own R0 O n d : String} {index : Nat} (hown : s.vm.findClass own = some m.cls) (w : (Cond.fieldLink own index R0 n d).before a0 Z = true) (via : Via Z R0 O n d) (eT : T.heap = h) (F : Sta Z h O n d v) (hd : decode c.code pc = .ok (.getstatic index, 3)) (hp : pc + 3 = pc')
    (q : ∀ T', Stand p l e R s m args below meth c T' locs cells slots → T'.heap = h → Goes p e below T' (mkF m pc' L (v :: S)) P) : Goes p e below T (mkF m pc L S) P := by
  subst hp
  obtain ⟨T', X', e', st⟩ := Jvm.RoadKit.getS2 X hx hZ hown (host := "") (Or.inl w) via eT F (g := mkF m pc L S) rfl hd
  exact Goes.via st (q T' X' e')
theorem G.putF (X : Stand p l e R s m args below meth c T locs cells slots) (hx : p.tables.exec = Jvm.exec) (hZ : Z.Warmed39 s.vm) {own R0 O n d C : String} {index kk : Nat} {ty : FieldType} {old : Value} (hown : s.vm.findClass own = some m.cls) (w : (Cond.fieldLink own index R0 n d).before a0 Z = true) (via : Via Z R0 O n d) (eT : T.heap = h) (F : Fld Z h a O n d old) (E : Exa Z h a C) (Ly : (Cond.lays C O n d).before a0 Z = true ∨ ((Cond.laysFinal C O n d).before a0 Z = true ∧ own = O ∧ meth.name = "<init>")) (wi : (Cond.instantiable C kk).before a0 Z = true)
    (hty : parseFieldDescriptor d = some ty) (hn : narrow ty v = v) (hf : fits ty v = true) (hd : decode c.code pc = .ok (.putfield index, 3)) (hp : pc + 3 = pc')
    (q : ∀ T' h', Stand p l e R s m args below meth c T' (locs ++ [⟨a, Jvm.RoadKit.slotOf Z O n d⟩]) cells slots → T'.heap = h' → Wr h h' a (Jvm.RoadKit.slotOf Z O n d) v → Goes p e below T' (mkF m pc' L S) P) : Goes p e below T (mkF m pc L (v :: .ref a :: S)) P := by
  subst hp
  obtain ⟨T', h', X', e', W', st⟩ := Jvm.RoadKit.putF X hx hZ hown (host := "") (Or.inl w) via eT F E Ly wi hty hn hf (g := mkF m pc L (v :: .ref a :: S)) rfl rfl hd
  exact Goes.via st (q T' h' X' e' W')
theorem G.putFN (X : Stand p l e R s m args below meth c T locs cells slots) (hx : p.tables.exec = Jvm.exec) (hZ : Z.Warmed39 s.vm) {own R0 O n d C : String} {index kk : Nat} {ty : FieldType} {old v' : Value} (hown : s.vm.findClass own = some m.cls) (w : (Cond.fieldLink own index R0 n d).before a0 Z = true) (via : Via Z R0 O n d) (eT : T.heap = h) (F : Fld Z h a O n d old) (E : Exa Z h a C) (Ly : (Cond.lays C O n d).before a0 Z = true ∨ ((Cond.laysFinal C O n d).before a0 Z = true ∧ own = O ∧ meth.name = "<init>")) (wi : (Cond.instantiable C kk).before a0 Z = true)
    (hty : parseFieldDescriptor d = some ty) (hn : narrow ty v = v') (hf : fits ty v' = true) (hd : decode c.code pc = .ok (.putfield index, 3)) (hp : pc + 3 = pc')
    (q : ∀ T' h', Stand p l e R s m args below meth c T' (locs ++ [⟨a, Jvm.RoadKit.slotOf Z O n d⟩]) cells slots → T'.heap = h' → Wr h h' a (Jvm.RoadKit.slotOf Z O n d) v' → Goes p e below T' (mkF m pc' L S) P) : Goes p e below T (mkF m pc L (v :: .ref a :: S)) P := by
  subst hp
  obtain ⟨T', h', X', e', W', st⟩ := Jvm.RoadKit.putFN X hx hZ hown w via eT F E Ly wi hty hn hf (g := mkF m pc L (v :: .ref a :: S)) rfl rfl hd
  exact Goes.via st (q T' h' X' e' W')
theorem G.newO (X : Stand p l e R s m args below meth c T locs cells slots) (hx : p.tables.exec = Jvm.exec) (hZ : Z.Warmed39 s.vm) {own C : String} {index n : Nat} (hown : s.vm.findClass own = some m.cls) (w : (Cond.classLink own index C).before a0 Z = true) (wi : (Cond.instantiable C n).before a0 Z = true) (wz : (Cond.initialized C).before a0 Z = true) (eT : T.heap = h) (hd : decode c.code pc = .ok (.new index, 3)) (hc : cells + 1 ≤ R.cells) (hl : slots + n ≤ R.slots) (hp : pc + 3 = pc')
    (q : ∀ T' h' a, a = h.size → Stand p l e R s m args below meth c T' locs (cells + 1) (slots + n) → T'.heap = h' → Ext h h' → Exa Z h' a C → (∀ {O nm d : String} {ty : FieldType}, Laid Z a0 C O nm d → parseFieldDescriptor d = some ty → Fld Z h' a O nm d (defaultValue ty)) → Goes p e below T' (mkF m pc' L (.ref a :: S)) P) : Goes p e below T (mkF m pc L S) P := by
  subst hp
  obtain ⟨T', h', X', e', E', A', D', -, st⟩ := Jvm.RoadKit.newO X hx hZ hown w wi wz eT (g := mkF m pc L S) rfl hd hc hl
  exact Goes.via st (q T' h' _ rfl X' e' E' A' D')
theorem G.initO (X : Stand p l e R s m args below meth c T locs cells slots) (hx : p.tables.exec = Jvm.exec) (hZ : Z.Warmed39 s.vm) {own : String} {idx : Nat} (hown : s.vm.findClass own = some m.cls) (w1 : (Cond.methodLink own idx Lib.objectInit).before a0 Z = true) (w2 : (Cond.instanceMethod Lib.objectInit).before a0 Z = true) (w3 : (Cond.code Lib.objectInit ⟨#[0xb1]⟩ 1 none).before a0 Z = true) (eT : T.heap = h) (hsz : L.size = c.maxLocals) (hd : decode c.code pc = .ok (.invokespecial idx, 3)) (hf : 1 ≤ R.frames) {W : Nat} (hW : (S.map fun v => v.category).sum ≤ W) (hl : W + 12 ≤ R.locals) (hp : pc + 3 = pc')
    (q : ∀ T', Stand p l e R s m args below meth c T' locs cells slots → T'.heap = h → Goes p e below T' (mkF m pc' L S) P) : Goes p e below T (mkF m pc L (.ref a :: S)) P := by
  subst hp
  obtain ⟨T', X', e', st⟩ := Jvm.RoadKit.initO X hx hZ hown w1 w2 w3 eT (g := mkF m pc L (.ref a :: S)) rfl hsz rfl hd hf (W := W) (by show 2 * 0 + _ ≤ _; omega) hl
  exact Goes.via st (q T' X' e')
/-- an array's components, in order -/
def Seq (Z : State) (h : Heap) (a : Addr) (ty : FieldType) (vs : List Value) : Prop := ∃ cl : Cell, Arr Z h a cl ty ∧ cl.slots.toList = vs ∧ vs.length < 2 ^ 31
variable {vs : List Value} {ty : FieldType} {j : Int32}
theorem Seq.lt (F : Seq Z h a ty vs) : a < h.size := by obtain ⟨_, A, -⟩ := F; exact A.lt
theorem Seq.ext (F : Seq Z h a ty vs) (E : Ext h h') : Seq Z h' a ty vs := by obtain ⟨cl, A, r⟩ := F; exact ⟨cl, A.ext E, r⟩
theorem Seq.other {w : Value} (F : Seq Z h b ty vs) (W : Wr h h' a sl w) (q : b ≠ a) : Seq Z h' b ty vs := by obtain ⟨cl, A, r⟩ := F; exact ⟨cl, A.other W q, r⟩
theorem Seq.keep (F : Seq Z h a ty vs) (K : Keep h h' ws) (q : a ∉ ws) : Seq Z h' a ty vs := by obtain ⟨cl, A, r⟩ := F; exact ⟨cl, ⟨K.2.1 a cl A.1 q, A.2⟩, r⟩
theorem Seq.new {k : ClassId} {z : Int32} (A : Arr Z h a (newA k ty z) ty) (n : Nat) (hn : z.toNatClampNeg = n) : Seq Z h a ty (List.replicate n (defaultValue ty)) := by
  refine ⟨_, A, by rw [← hn]; simp [newA], ?_⟩
  rw [List.length_replicate, ← hn]
  have := Int32.toInt_lt z
  simp only [Int32.toNatClampNeg]
  omega
theorem Seq.at (F : Seq Z h a ty vs) (hj : ¬ j < 0) (hv : vs[j.toNatClampNeg]? = some v) : ∃ cl : Cell, h[a]? = some cl ∧ Z.isArrayOf cl ty ∧ cl.vm ≠ .unknown ∧ ¬ (j < 0 ∨ cl.slots.size ≤ j.toNatClampNeg) ∧ cl.slots[j.toNatClampNeg]? = some v := by
  obtain ⟨cl, A, rfl, hl⟩ := F
  rw [Array.getElem?_toList] at hv
  exact ⟨cl, A.1, A.2.1, A.2.2, fun q => q.elim hj fun q => by have := (Array.getElem?_eq_some_iff.mp hv).1; omega, hv⟩
theorem Seq.set (F : Seq Z h a ty vs) (W : Wr h h' a j.toNatClampNeg v) : Seq Z h' a ty (vs.set j.toNatClampNeg v) := by
  obtain ⟨cl, A, rfl, hl⟩ := F
  exact ⟨_, A.same W, by simp [Cell.setSlot], by simpa using hl⟩
theorem Seq.inb (F : Seq Z h a ty vs) (hj : ¬ j < 0) (hi : j.toNatClampNeg < vs.length) : ∃ cl : Cell, Arr Z h a cl ty ∧ ¬ (j < 0 ∨ cl.slots.size ≤ j.toNatClampNeg) := by
  obtain ⟨cl, A, rfl, hl⟩ := F
  exact ⟨cl, A, fun q => q.elim hj fun q => by rw [Array.length_toList] at hi; omega⟩
theorem G.newP (X : Stand p l e R s m args below meth c T locs cells slots) (hx : p.tables.exec = Jvm.exec) (hZ : Z.Warmed39 s.vm) {aty : ArrayType} (w : (Cond.arrayClass (newarray.typeOf aty)).before a0 Z = true) (eT : T.heap = h) (hd : decode c.code pc = .ok (.newarray aty, 2)) {z : Int32} (hz : ¬ z < 0) {cap n : Nat} (hn : z.toNatClampNeg = n) (hcap : n ≤ cap) (hb : cap * 8 ≤ 536870912) (hc : cells + 1 ≤ R.cells) (hl : slots + cap ≤ R.slots) (hp : pc + 2 = pc')
    (q : ∀ T' h' a, a = h.size → Stand p l e R s m args below meth c T' locs (cells + 1) (slots + cap) → T'.heap = h' → Ext h h' → Seq Z h' a (newarray.typeOf aty) (List.replicate n (defaultValue (newarray.typeOf aty))) → Goes p e below T' (mkF m pc' L (.ref a :: S)) P) : Goes p e below T (mkF m pc L (.int z :: S)) P := by
  subst hp
  obtain ⟨T', h', k, X', e', E', A', st⟩ := Jvm.RoadKit.newP X hx hZ w eT (g := mkF m pc L (.int z :: S)) rfl hd rfl hz (cap := cap) (hn ▸ hcap) hb hc hl
  exact Goes.via st (q T' h' _ rfl X' e' E' (Seq.new A' n hn))
theorem G.arraylength (X : Stand p l e R s m args below meth c T locs cells slots) (hx : p.tables.exec = Jvm.exec) (hZ : Z.Warmed39 s.vm) (eT : T.heap = h) (F : Seq Z h a ty vs) (hd : decode c.code pc = .ok (.arraylength, 1)) {z : Int32} (hz : vs.length.toInt32 = z) (hp : pc + 1 = pc') (q : Goes p e below T (mkF m pc' L (.int z :: S)) P) : Goes p e below T (mkF m pc L (.ref a :: S)) P := by
  subst hp
  obtain ⟨cl, A, rfl, hl⟩ := F
  rw [Array.length_toList] at hz
  subst hz
  exact Goes.via (fun t u => X.arraylength hx (by rw [eT]; exact A.1) (State.isArrayOf_alike hZ.alike A.2.1) (g := mkF m pc L (.ref a :: S)) rfl rfl hd t u) q
theorem G.iaload (X : Stand p l e R s m args below meth c T locs cells slots) (hx : p.tables.exec = Jvm.exec) (hZ : Z.Warmed39 s.vm) (eT : T.heap = h) (F : Seq Z h a .int vs) (hd : decode c.code pc = .ok (.iaload, 1)) (hj : ¬ j < 0) (hv : vs[j.toNatClampNeg]? = some v) (hp : pc + 1 = pc') (q : Goes p e below T (mkF m pc' L (v :: S)) P) : Goes p e below T (mkF m pc L (.int j :: .ref a :: S)) P := by
  subst hp
  obtain ⟨cl, q1, q2, q3, q4, q5⟩ := F.at hj hv
  exact Goes.via (fun t u => X.iaload hx (by rw [eT]; exact q1) (State.isArrayOf_alike hZ.alike q2) q3 q4 q5 (g := mkF m pc L (.int j :: .ref a :: S)) rfl rfl hd t u) q
theorem G.laload (X : Stand p l e R s m args below meth c T locs cells slots) (hx : p.tables.exec = Jvm.exec) (hZ : Z.Warmed39 s.vm) (eT : T.heap = h) (F : Seq Z h a .long vs) (hd : decode c.code pc = .ok (.laload, 1)) (hj : ¬ j < 0) (hv : vs[j.toNatClampNeg]? = some v) (hp : pc + 1 = pc') (q : Goes p e below T (mkF m pc' L (v :: S)) P) : Goes p e below T (mkF m pc L (.int j :: .ref a :: S)) P := by
  subst hp
  obtain ⟨cl, q1, q2, q3, q4, q5⟩ := F.at hj hv
  exact Goes.via (fun t u => X.laload hx (by rw [eT]; exact q1) (State.isArrayOf_alike hZ.alike q2) q3 q4 q5 (g := mkF m pc L (.int j :: .ref a :: S)) rfl rfl hd t u) q
theorem G.baload (X : Stand p l e R s m args below meth c T locs cells slots) (hx : p.tables.exec = Jvm.exec) (hZ : Z.Warmed39 s.vm) (eT : T.heap = h) (F : Seq Z h a .byte vs) (hd : decode c.code pc = .ok (.baload, 1)) (hj : ¬ j < 0) (hv : vs[j.toNatClampNeg]? = some v) (hp : pc + 1 = pc') (q : Goes p e below T (mkF m pc' L (v :: S)) P) : Goes p e below T (mkF m pc L (.int j :: .ref a :: S)) P := by
  subst hp
  obtain ⟨cl, q1, q2, q3, q4, q5⟩ := F.at hj hv
  exact Goes.via (fun t u => X.baloadBytes hx (by rw [eT]; exact q1) (State.isArrayOf_alike hZ.alike q2) q3 q4 q5 (g := mkF m pc L (.int j :: .ref a :: S)) rfl rfl hd t u) q
theorem G.zaload (X : Stand p l e R s m args below meth c T locs cells slots) (hx : p.tables.exec = Jvm.exec) (hZ : Z.Warmed39 s.vm) (eT : T.heap = h) (F : Seq Z h a .boolean vs) (hd : decode c.code pc = .ok (.baload, 1)) (hj : ¬ j < 0) (hv : vs[j.toNatClampNeg]? = some v) (hp : pc + 1 = pc') (q : Goes p e below T (mkF m pc' L (v :: S)) P) : Goes p e below T (mkF m pc L (.int j :: .ref a :: S)) P := by
  subst hp
  obtain ⟨cl, q1, q2, q3, q4, q5⟩ := F.at hj hv
  exact Goes.via (fun t u => X.baloadBooleans hx (by rw [eT]; exact q1) (State.isArrayOf_alike hZ.alike q2) q3 q4 q5 (g := mkF m pc L (.int j :: .ref a :: S)) rfl rfl hd t u) q
theorem G.caload (X : Stand p l e R s m args below meth c T locs cells slots) (hx : p.tables.exec = Jvm.exec) (hZ : Z.Warmed39 s.vm) (eT : T.heap = h) (F : Seq Z h a .char vs) (hd : decode c.code pc = .ok (.caload, 1)) (hj : ¬ j < 0) (hv : vs[j.toNatClampNeg]? = some v) (hp : pc + 1 = pc') (q : Goes p e below T (mkF m pc' L (v :: S)) P) : Goes p e below T (mkF m pc L (.int j :: .ref a :: S)) P := by
  subst hp
  obtain ⟨cl, q1, q2, q3, q4, q5⟩ := F.at hj hv
  exact Goes.via (fun t u => X.caload hx (by rw [eT]; exact q1) (State.isArrayOf_alike hZ.alike q2) q3 q4 q5 (g := mkF m pc L (.int j :: .ref a :: S)) rfl rfl hd t u) q
theorem G.aaload (X : Stand p l e R s m args below meth c T locs cells slots) (hx : p.tables.exec = Jvm.exec) (hZ : Z.Warmed39 s.vm) (eT : T.heap = h) (F : Seq Z h a ty vs) (hty : ty.isReference = true) (hd : decode c.code pc = .ok (.aaload, 1)) (hj : ¬ j < 0) (hv : vs[j.toNatClampNeg]? = some v) (hp : pc + 1 = pc') (q : Goes p e below T (mkF m pc' L (v :: S)) P) : Goes p e below T (mkF m pc L (.int j :: .ref a :: S)) P := by
  subst hp
  obtain ⟨cl, q1, q2, q3, q4, q5⟩ := F.at hj hv
  exact Goes.via (fun t u => X.aaload hx (by rw [eT]; exact q1) (State.isArrayOf_alike hZ.alike q2) hty q3 q4 q5 (g := mkF m pc L (.int j :: .ref a :: S)) rfl rfl hd t u) q
theorem G.iastore (X : Stand p l e R s m args below meth c T locs cells slots) (hx : p.tables.exec = Jvm.exec) (hZ : Z.Warmed39 s.vm) (eT : T.heap = h) (F : Seq Z h a .int vs) {x : Int32} (hd : decode c.code pc = .ok (.iastore, 1)) (hj : ¬ j < 0) (hi : j.toNatClampNeg < vs.length) (hp : pc + 1 = pc')
    (q : ∀ T' h', Stand p l e R s m args below meth c T' (locs ++ [⟨a, j.toNatClampNeg⟩]) cells slots → T'.heap = h' → Wr h h' a j.toNatClampNeg (.int x) → Seq Z h' a .int (vs.set j.toNatClampNeg (.int x)) → Goes p e below T' (mkF m pc' L S) P) : Goes p e below T (mkF m pc L (.int x :: .int j :: .ref a :: S)) P := by
  subst hp
  obtain ⟨cl, A, hj'⟩ := F.inb hj hi
  obtain ⟨T', h', X', e', W', st⟩ := Jvm.RoadKit.stI X hx hZ eT A hj' (g := mkF m pc L (.int x :: .int j :: .ref a :: S)) rfl rfl hd
  exact Goes.via st (q T' h' X' e' W' (F.set W'))
theorem G.lastore (X : Stand p l e R s m args below meth c T locs cells slots) (hx : p.tables.exec = Jvm.exec) (hZ : Z.Warmed39 s.vm) (eT : T.heap = h) (F : Seq Z h a .long vs) {x : Int64} (hd : decode c.code pc = .ok (.lastore, 1)) (hj : ¬ j < 0) (hi : j.toNatClampNeg < vs.length) (hp : pc + 1 = pc')
    (q : ∀ T' h', Stand p l e R s m args below meth c T' (locs ++ [⟨a, j.toNatClampNeg⟩]) cells slots → T'.heap = h' → Wr h h' a j.toNatClampNeg (.long x) → Seq Z h' a .long (vs.set j.toNatClampNeg (.long x)) → Goes p e below T' (mkF m pc' L S) P) : Goes p e below T (mkF m pc L (.long x :: .int j :: .ref a :: S)) P := by
  subst hp
  obtain ⟨cl, A, hj'⟩ := F.inb hj hi
  obtain ⟨T', h', X', e', W', st⟩ := Jvm.RoadKit.stJ X hx hZ eT A hj' (g := mkF m pc L (.long x :: .int j :: .ref a :: S)) rfl rfl hd
  exact Goes.via st (q T' h' X' e' W' (F.set W'))
theorem G.bastore (X : Stand p l e R s m args below meth c T locs cells slots) (hx : p.tables.exec = Jvm.exec) (hZ : Z.Warmed39 s.vm) (eT : T.heap = h) (F : Seq Z h a .byte vs) {x : Int32} (hd : decode c.code pc = .ok (.bastore, 1)) (hj : ¬ j < 0) (hi : j.toNatClampNeg < vs.length) (hp : pc + 1 = pc')
    (q : ∀ T' h', Stand p l e R s m args below meth c T' (locs ++ [⟨a, j.toNatClampNeg⟩]) cells slots → T'.heap = h' → Wr h h' a j.toNatClampNeg (.int (nar .byte x)) → Seq Z h' a .byte (vs.set j.toNatClampNeg (.int (nar .byte x))) → Goes p e below T' (mkF m pc' L S) P) : Goes p e below T (mkF m pc L (.int x :: .int j :: .ref a :: S)) P := by
  subst hp
  obtain ⟨cl, A, hj'⟩ := F.inb hj hi
  obtain ⟨T', h', X', e', W', st⟩ := Jvm.RoadKit.stB X hx hZ eT A hj' (g := mkF m pc L (.int x :: .int j :: .ref a :: S)) rfl rfl hd
  exact Goes.via st (q T' h' X' e' W' (F.set W'))
theorem G.zastore (X : Stand p l e R s m args below meth c T locs cells slots) (hx : p.tables.exec = Jvm.exec) (hZ : Z.Warmed39 s.vm) (eT : T.heap = h) (F : Seq Z h a .boolean vs) {x : Int32} (hd : decode c.code pc = .ok (.bastore, 1)) (hj : ¬ j < 0) (hi : j.toNatClampNeg < vs.length) (hp : pc + 1 = pc')
    (q : ∀ T' h', Stand p l e R s m args below meth c T' (locs ++ [⟨a, j.toNatClampNeg⟩]) cells slots → T'.heap = h' → Wr h h' a j.toNatClampNeg (.int (nar .boolean x)) → Seq Z h' a .boolean (vs.set j.toNatClampNeg (.int (nar .boolean x))) → Goes p e below T' (mkF m pc' L S) P) : Goes p e below T (mkF m pc L (.int x :: .int j :: .ref a :: S)) P := by
  subst hp
  obtain ⟨cl, A, hj'⟩ := F.inb hj hi
  obtain ⟨T', h', X', e', W', st⟩ := Jvm.RoadKit.stZ X hx hZ eT A hj' (g := mkF m pc L (.int x :: .int j :: .ref a :: S)) rfl rfl hd
  exact Goes.via st (q T' h' X' e' W' (F.set W'))
theorem G.castore (X : Stand p l e R s m args below meth c T locs cells slots) (hx : p.tables.exec = Jvm.exec) (hZ : Z.Warmed39 s.vm) (eT : T.heap = h) (F : Seq Z h a .char vs) {x : Int32} (hd : decode c.code pc = .ok (.castore, 1)) (hj : ¬ j < 0) (hi : j.toNatClampNeg < vs.length) (hp : pc + 1 = pc')
    (q : ∀ T' h', Stand p l e R s m args below meth c T' (locs ++ [⟨a, j.toNatClampNeg⟩]) cells slots → T'.heap = h' → Wr h h' a j.toNatClampNeg (.int (nar .char x)) → Seq Z h' a .char (vs.set j.toNatClampNeg (.int (nar .char x))) → Goes p e below T' (mkF m pc' L S) P) : Goes p e below T (mkF m pc L (.int x :: .int j :: .ref a :: S)) P := by
  subst hp
  obtain ⟨cl, A, hj'⟩ := F.inb hj hi
  obtain ⟨T', h', X', e', W', st⟩ := Jvm.RoadKit.stC X hx hZ eT A hj' (g := mkF m pc L (.int x :: .int j :: .ref a :: S)) rfl rfl hd
  exact Goes.via st (q T' h' X' e' W' (F.set W'))
variable {y : MethodName} {bytes : ByteArray} {maxL : Nat} {ret : Option FieldType} {rm : Room} {argsL S0 : List Value} {W : Nat} {QQ : Option Value → Heap → List Loc → Prop}
theorem G.callS (X : Stand p l e R s m args below meth c T locs cells slots) (hx : p.tables.exec = Jvm.exec) (hZ : Z.Warmed39 s.vm) {own : String} {index : Nat} (hown : s.vm.findClass own = some m.cls) (w1 : (Cond.methodLink own index y).before a0 Z = true) (w2 : (Cond.static y).before a0 Z = true) (w3 : (Cond.initialized y.cls).before a0 Z = true) (w4 : (Cond.code y bytes maxL ret).before a0 Z = true)
    (hy : y.cls ≠ "java/lang/invoke/MethodHandle" ∧ y.cls ≠ "java/lang/invoke/VarHandle") (eT : T.heap = h) (hC : Con l y bytes maxL ret rm Z argsL.toArray h QQ) (hlen : ∀ sig, parseMethodDescriptor y.desc = some sig → argsL.length = sig.parameters.length) (hst : S0 = argsL.reverse ++ S) (hW : (S.map fun v => v.category).sum ≤ W)
    (hf : rm.frames + 1 ≤ R.frames) (hl : W + (maxL + 11) + rm.locals ≤ R.locals) (hc : cells + rm.cells ≤ R.cells) (hs : slots + rm.slots ≤ R.slots) (hsz : L.size = c.maxLocals) (hd : decode c.code pc = .ok (.invokestatic index, 3)) (hp : pc + 3 = pc')
    (q : ∀ T' v Lc, QQ v T'.heap Lc → Stand p l e R s m args below meth c T' (locs ++ Lc) (cells + rm.cells) (slots + rm.slots) → Goes p e below T' (mkF m pc' L (v.toList ++ S)) P) : Goes p e below T (mkF m pc L S0) P := by
  subst hp
  obtain ⟨v, vm1, ⟨T', L1, k1, n1⟩, hw1, X', ⟨Lc, hQ, l1, y1, z1⟩, st⟩ := Jvm.LawKit.callS X hx (y := y) hown (mvT hZ w1) (mvT hZ w2) (mvT hZ w3) (mvT hZ w4) hy (hC.back (W := W) hZ w4 w3 hf hl) (g := mkF m pc L S0) rfl hsz (argsL := argsL) (rest := S) hlen hst (by show 2 * 0 + _ ≤ _; omega) hd (fun _ _ => ⟨rfl, eT, hc, hs⟩)
  dsimp only [Pt.U, Pt.locs, Pt.cells, Pt.slots] at X' l1 y1 z1 st hQ
  subst l1 y1 z1
  exact Goes.via st (q T' v Lc hQ X')
theorem G.callI (X : Stand p l e R s m args below meth c T locs cells slots) (hx : p.tables.exec = Jvm.exec) (hZ : Z.Warmed39 s.vm) {own : String} {index : Nat} (hy1 : y.name = "<init>") (hown : s.vm.findClass own = some m.cls) (w1 : (Cond.methodLink own index y).before a0 Z = true) (w2 : (Cond.instanceMethod y).before a0 Z = true) (w3 : (Cond.initialized y.cls).before a0 Z = true) (w4 : (Cond.code y bytes maxL none).before a0 Z = true)
    (hy : y.cls ≠ "java/lang/invoke/MethodHandle" ∧ y.cls ≠ "java/lang/invoke/VarHandle") (eT : T.heap = h) (hC : Con l y bytes maxL none rm Z (.ref a :: argsL).toArray h QQ) (hlen : ∀ sig, parseMethodDescriptor y.desc = some sig → argsL.length = sig.parameters.length) (hst : S0 = argsL.reverse ++ .ref a :: S) (hW : (S.map fun v => v.category).sum ≤ W)
    (hf : rm.frames + 1 ≤ R.frames) (hl : W + (maxL + 11) + rm.locals ≤ R.locals) (hc : cells + rm.cells ≤ R.cells) (hs : slots + rm.slots ≤ R.slots) (hsz : L.size = c.maxLocals) (hd : decode c.code pc = .ok (.invokespecial index, 3)) (hp : pc + 3 = pc')
    (q : ∀ T' v Lc, QQ v T'.heap Lc → Stand p l e R s m args below meth c T' (locs ++ Lc) (cells + rm.cells) (slots + rm.slots) → Goes p e below T' (mkF m pc' L (v.toList ++ S)) P) : Goes p e below T (mkF m pc L S0) P := by
  subst hp
  obtain ⟨v, vm1, ⟨T', L1, k1, n1⟩, hw1, X', ⟨Lc, hQ, l1, y1, z1⟩, st⟩ := X.specialBack hx (y := y) hy1 hown (mvT hZ w1) (mvT hZ w2) (mvT hZ w4) hy (hC.back (W := W) hZ w4 w3 hf hl) (g := mkF m pc L S0) rfl hsz (Steps.refl _) (a := a) (argsL := argsL) (rest := S) hlen hst (by show 2 * 0 + _ ≤ _; omega) hd (fun _ _ => ⟨rfl, eT, hc, hs⟩)
  dsimp only [Pt.U, Pt.locs, Pt.cells, Pt.slots] at X' l1 y1 z1 st hQ
  subst l1 y1 z1
  exact Goes.thru st (q T' v Lc hQ X')
theorem G.callV (X : Stand p l e R s m args below meth c T locs cells slots) (hx : p.tables.exec = Jvm.exec) (hZ : Z.Warmed39 s.vm) {own C : String} {index : Nat} {y0 : MethodName} (hown : s.vm.findClass own = some m.cls) (w1 : (Cond.methodLink own index y0).before a0 Z = true) (w2 : (Cond.declares y0).before a0 Z = true) (hnf : NotFace s y0) (w3 : (Cond.selects C y0 y).before a0 Z = true) (w4 : (Cond.instanceMethod y).before a0 Z = true) (w5 : (Cond.initialized y.cls).before a0 Z = true) (w6 : (Cond.code y bytes maxL ret).before a0 Z = true)
    (hy : y0.cls ≠ "java/lang/invoke/MethodHandle" ∧ y0.cls ≠ "java/lang/invoke/VarHandle") (eT : T.heap = h) (E : Exa Z h a C) (hC : Con l y bytes maxL ret rm Z (.ref a :: argsL).toArray h QQ) (hlen : ∀ sig, parseMethodDescriptor y0.desc = some sig → argsL.length = sig.parameters.length) (hst : S0 = argsL.reverse ++ .ref a :: S) (hW : (S.map fun v => v.category).sum ≤ W)
    (hf : rm.frames + 1 ≤ R.frames) (hl : W + (maxL + 11) + rm.locals ≤ R.locals) (hc : cells + rm.cells ≤ R.cells) (hs : slots + rm.slots ≤ R.slots) (hsz : L.size = c.maxLocals) (hd : decode c.code pc = .ok (.invokevirtual index, 3)) (hp : pc + 3 = pc')
    (q : ∀ T' v Lc, QQ v T'.heap Lc → Stand p l e R s m args below meth c T' (locs ++ Lc) (cells + rm.cells) (slots + rm.slots) → Goes p e below T' (mkF m pc' L (v.toList ++ S)) P) : Goes p e below T (mkF m pc L S0) P := by
  subst hp
  obtain ⟨cB, kB, i1, i2, i3⟩ := isOf hZ eT E
  obtain ⟨v, vm1, ⟨T', L1, k1, n1⟩, hw1, X', ⟨Lc, hQ, l1, y1, z1⟩, st⟩ := X.virtualBack hx (y := y0) (z := y) hown (mvT hZ w1) (mvT hZ w2) hnf (mvT hZ w3) (mvT hZ w4) hy (hC.back (W := W) hZ w6 w5 hf hl) i1 i3 (g := mkF m pc L S0) rfl hsz (Steps.refl _) (argsL := argsL) (rest := S) hlen hst (by show 2 * 0 + _ ≤ _; omega) hd (fun _ _ => ⟨rfl, eT, hc, hs⟩)
  dsimp only [Pt.U, Pt.locs, Pt.cells, Pt.slots] at X' l1 y1 z1 st hQ
  subst l1 y1 z1
  exact Goes.thru st (q T' v Lc hQ X')
def Pur (v0 : Option Value) (h0 : Heap) (v : Option Value) (h : Heap) (L : List Loc) : Prop := v = v0 ∧ h = h0 ∧ L = []
theorem Seq.arv (F : Seq Z h a ty vs) (hf : ∀ v ∈ vs, fits ty v = true) {z : Int32} (hz : z.toNatClampNeg = vs.length) (hz0 : ¬ z < 0) (dv : Value) : ∃ k, Arv Z h a k ty z vs dv := by
  obtain ⟨cl, A, rfl, hl⟩ := F
  rw [Array.length_toList] at hz
  have hg : ∀ i, i < cl.slots.size → cl.slots[i]? = some (cl.slots.toList.getD i dv) := fun i hi => by
    rw [List.getD_eq_getElem?_getD, Array.getElem?_toList, Array.getElem?_eq_getElem hi]; rfl
  refine ⟨cl.cls, cl, A, rfl, hz.symm, hz0, hg, fun i hi => hf _ ?_⟩
  have := hg i hi
  rw [Array.getElem?_eq_getElem hi] at this
  rw [← Option.some.inj this]
  exact Array.mem_toList_iff.mpr (Array.getElem_mem hi)
theorem Arv.seq {k : ClassId} {z : Int32} {dv : Value} (F : Arv Z h a k ty z vs dv) (hl : vs.length = z.toNatClampNeg) : Seq Z h a ty vs := by
  obtain ⟨cl, A, -, S, hz, H, -⟩ := F
  refine ⟨cl, A, ?_, ?_⟩
  · apply List.ext_getElem?
    intro i
    rw [Array.getElem?_toList]
    by_cases hi : i < cl.slots.size
    · rw [H i hi, List.getD_eq_getElem?_getD, List.getElem?_eq_getElem (by omega)]; rfl
    · rw [Array.getElem?_eq_none (by omega), List.getElem?_eq_none (by omega)]
  · have := Int32.toInt_lt z
    rw [hl]; simp only [Int32.toNatClampNeg]; omega
/-- System.arraycopy of the whole int[] a into the head of the int[] b -/
theorem G.copyInts (X : Stand p l e R s m args below meth c T locs cells slots) (hx : p.tables.exec = Jvm.exec) (hZ : Z.Warmed39 s.vm) {own : String} {index : Nat} (hown : s.vm.findClass own = some m.cls) (w1 : (Cond.methodLink own index Jvm.Stand.acN).before a0 Z = true) (w2 : (Cond.native Jvm.Stand.acN).before a0 Z = true) (w3 : (Cond.static Jvm.Stand.acN).before a0 Z = true) (w4 : (Cond.initialized "java/lang/System").before a0 Z = true) (eT : T.heap = h)
    {xs ys : List Value} (A : Seq Z h a .int xs) (B : Seq Z h b .int ys) (hfx : ∀ v ∈ xs, fits .int v = true) (hfy : ∀ v ∈ ys, fits .int v = true) {z z' : Int32} (hz : z.toNatClampNeg = xs.length) (hz0 : ¬ z < 0) (hz' : z'.toNatClampNeg = ys.length) (hz0' : ¬ z' < 0) (hle : xs.length ≤ ys.length) {n0 : Nat} (N : Fr n0 locs) (ge : n0 ≤ b)
    (hsz : L.size = c.maxLocals) (hd : decode c.code pc = .ok (.invokestatic index, 3)) (hf : 1 ≤ R.frames) {W : Nat} (hW : (S.map fun v => v.category).sum ≤ W) (hlo : W + (nativeFrameWords "java/lang/System" "arraycopy" 5 + 11) ≤ R.locals) (hp : pc + 3 = pc')
    (q : ∀ T' h' L', Stand p l e R s m args below meth c T' L' cells slots → T'.heap = h' → Fr n0 L' → Keep h h' [b] → Seq Z h' b .int (xs ++ ys.drop xs.length) → Goes p e below T' (mkF m pc' L S) P) : Goes p e below T (mkF m pc L (.int z :: .int (0 : Int32) :: .ref b :: .int (0 : Int32) :: .ref a :: S)) P := by
  subst hp
  obtain ⟨ka, FA⟩ := A.arv hfx hz hz0 (.int 0)
  obtain ⟨kb, FB⟩ := B.arv hfy hz' hz0' (.int 0)
  have e0 : (0 : Int32).toNatClampNeg = 0 := rfl
  have hus : xs = (List.range z.toNatClampNeg).map fun i => xs.getD ((0 : Int32).toNatClampNeg + i) (.int 0) := by
    refine List.ext_getElem (by simp [hz]) fun i h1 h2 => ?_
    simp [List.getD_eq_getElem?_getD, h1, e0]
  obtain ⟨T', h', L', X', e', N', K', F', st⟩ := Jvm.RoadKit.cpA X hx hZ hown w1 w2 w3 w4 eT (us := xs) FA FB (Or.inl ⟨rfl, rfl⟩) (sp := 0) (dp := 0) (nn := z) (by decide) (by decide) hz0 (by rw [e0]; omega) (by rw [e0]; omega) hus (by rw [e0]; omega) N ge (g := mkF m pc L (.int z :: .int (0 : Int32) :: .ref b :: .int (0 : Int32) :: .ref a :: S)) rfl hsz rfl hd hf (W := W) (by show 2 * 0 + _ ≤ _; omega) hlo
  refine Goes.via st (q T' h' L' X' e' N' K' ?_)
  have := Arv.seq F' (by rw [e0]; simp; omega)
  rw [e0, hz] at this
  simpa using this
theorem sel_priv {s : State} {args : Array Value} {n : Nat} (hins : (Cond.instantiable y.cls n).before args s = true) (hpriv : (Cond.privateMethod y).before args s = true) (hinst : (Cond.instanceMethod y).before args s = true) (hy : y.cls ≠ "java/lang/invoke/MethodHandle" ∧ y.cls ≠ "java/lang/invoke/VarHandle") : (Cond.selects y.cls y y).before args s = true := by
  obtain ⟨c, k, hc, hk, -, hniab, -, -⟩ := Cond.instantiable_spec hins
  have hni : k.isInterface = false := (Bool.or_eq_false_iff.mp hniab).1
  obtain ⟨mk, methM, hnamed, hmethM, -, -⟩ := Cond.instanceMethod_spec hinst
  have hfound : s.methodFound? y.cls y.name y.desc = some mk := State.methodFound?_of_named hnamed hy
  have hcls : mk.cls = c := Option.some.inj ((findClass_of_methodNamed hnamed).symm.trans hc)
  have hsel : selectMethod {} s.vm c mk = .method mk := selectMethod_private hmethM (Cond.privateMethod_at hpriv mk methM hnamed hmethM)
  simp only [Cond.before, Cond.holds, Cond.value, hc, hfound, hnamed, hsel, hcls, hk]
  simp; exact hni
theorem G.callP (X : Stand p l e R s m args below meth c T locs cells slots) (hx : p.tables.exec = Jvm.exec) (hZ : Z.Warmed39 s.vm) {own : String} {index : Nat} (hown : s.vm.findClass own = some m.cls) (w1 : (Cond.methodLink own index y).before a0 Z = true) (w2 : (Cond.instanceMethod y).before a0 Z = true) {kk : Nat} (w3 : (Cond.instantiable y.cls kk).before a0 Z = true) (w4 : (Cond.privateMethod y).before a0 Z = true) (w5 : (Cond.initialized y.cls).before a0 Z = true) (w6 : (Cond.code y bytes maxL ret).before a0 Z = true)
    (hy : y.cls ≠ "java/lang/invoke/MethodHandle" ∧ y.cls ≠ "java/lang/invoke/VarHandle") (eT : T.heap = h) {C : String} (E : Exa Z h a C) (hC : Con l y bytes maxL ret rm Z (.ref a :: argsL).toArray h QQ) (hlen : ∀ sig, parseMethodDescriptor y.desc = some sig → argsL.length = sig.parameters.length) (hst : S0 = argsL.reverse ++ .ref a :: S) (hW : (S.map fun v => v.category).sum ≤ W)
    (hf : rm.frames + 1 ≤ R.frames) (hl : W + (maxL + 11) + rm.locals ≤ R.locals) (hc : cells + rm.cells ≤ R.cells) (hs : slots + rm.slots ≤ R.slots) (hsz : L.size = c.maxLocals) (hd : decode c.code pc = .ok (.invokevirtual index, 3)) (hp : pc + 3 = pc')
    (q : ∀ T' v Lc, QQ v T'.heap Lc → Stand p l e R s m args below meth c T' (locs ++ Lc) (cells + rm.cells) (slots + rm.slots) → Goes p e below T' (mkF m pc' L (v.toList ++ S)) P) : Goes p e below T (mkF m pc L S0) P := by
  subst hp
  obtain ⟨cl, i1, i2⟩ := E.cell
  obtain ⟨v, vm1, ⟨T', L1, k1, n1⟩, hw1, X', ⟨Lc, hQ, l1, y1, z1⟩, st⟩ := X.privateBack hx (y := y) hown (mvT hZ w1) (mvT hZ w2) (sel_priv (mvT hZ w3) (mvP hZ w4) (mvT hZ w2) hy) (Cond.privateMethod_at (mvP hZ w4 (args := #[]))) (mvT hZ w6) hy (hC.back (W := W) hZ w6 w5 hf hl) (g := mkF m pc L S0) rfl hsz (Steps.refl _) (a := a) (by rw [eT]; exact i1) i2 (argsL := argsL) (rest := S) hlen hst (by show 2 * 0 + _ ≤ _; omega) hd (fun _ _ => ⟨rfl, eT, hc, hs⟩)
  dsimp only [Pt.U, Pt.locs, Pt.cells, Pt.slots] at X' l1 y1 z1 st hQ
  subst l1 y1 z1
  exact Goes.thru st (q T' v Lc hQ X')
theorem Sta.keep0 {C n d : String} (F : Sta Z h C n d v) (K : Keep h h' []) : Sta Z h' C n d v := by
  obtain ⟨cf, i, k, f, st, cell, h1, h2, h3, h4, h5, r⟩ := F
  exact ⟨cf, i, k, f, st, cell, h1, h2, h3, h4, K.2.1 _ _ h5 nin0, r⟩
theorem Goes.join {α : Type} {F : α → JFrame} (k : (∀ z, Goes p e below T (F z) P) → Goes p e below T f P) (hj : ∀ z, Goes p e below T (F z) P) : Goes p e below T f P := k hj
theorem Goes.to (k : Goes p e below T f' P → Goes p e below T f P) (q : Goes p e below T f' P) : Goes p e below T f P := k q
theorem Goes.toT (Φ : State → Prop) (k : (∀ T', Φ T' → Goes p e below T' f' P) → Goes p e below T f P) (q : ∀ T', Φ T' → Goes p e below T' f' P) : Goes p e below T f P := k q
end G
end Jvm.OwnKit
namespace Jvm.Pilot.@@N@@
open Jvm Jvm.ClassFile Sem Op Lib Jvm.Free Jvm.Stand Jvm.LawKit Jvm.RoadKit Jvm.OwnKit Bundle Jvm.Pilot.@@N@@.Jvm.D
theorem d1_0 : decode prog_6_method_1_code 0 = .ok (.aload_n 0, 1) := by decide +kernel
theorem d1_1 : decode prog_6_method_1_code 1 = .ok (.invokespecial 1, 3) := by decide +kernel
theorem d1_4 : decode prog_6_method_1_code 4 = .ok (.aload_n 0, 1) := by decide +kernel
theorem d1_5 : decode prog_6_method_1_code 5 = .ok (.bipush 16, 2) := by decide +kernel
theorem d1_7 : decode prog_6_method_1_code 7 = .ok (.newarray .int, 2) := by decide +kernel
theorem d1_9 : decode prog_6_method_1_code 9 = .ok (.putfield 7, 3) := by decide +kernel
theorem d1_12 : decode prog_6_method_1_code 12 = .ok (.return_, 1) := by decide +kernel
theorem ef1_R (m : MethodId) (x0 : Addr) : entryFrame m #[(.ref x0)] 1 = mkF m 0 #[.val (.ref x0)] [] := by first | (simp [entryFrame, mkF, argsToLocals, Value.category]; done) | rfl
theorem pn_0 : plainName "com/example/cevap/cevap/kg/IntList" = true := by first | (simp [plainName, overriddenIn]; done) | decide +kernel
theorem d3_0 : decode prog_6_method_4_code 0 = .ok (.aload_n 0, 1) := by decide +kernel
theorem d3_1 : decode prog_6_method_4_code 1 = .ok (.getfield 13, 3) := by decide +kernel
theorem d3_4 : decode prog_6_method_4_code 4 = .ok (.ireturn, 1) := by decide +kernel
theorem ef3_R (m : MethodId) (x0 : Addr) : entryFrame m #[(.ref x0)] 1 = mkF m 0 #[.val (.ref x0)] [] := by first | (simp [entryFrame, mkF, argsToLocals, Value.category]; done) | rfl
theorem d6_0 : decode prog_6_method_3_code 0 = .ok (.iload_n 1, 1) := by decide +kernel
theorem d6_1 : decode prog_6_method_3_code 1 = .ok (.aload_n 0, 1) := by decide +kernel
theorem d6_2 : decode prog_6_method_3_code 2 = .ok (.getfield 13, 3) := by decide +kernel
theorem d6_5 : decode prog_6_method_3_code 5 = .ok (.if_icmp .lt 12, 3) := by decide +kernel
theorem d6_17 : decode prog_6_method_3_code 17 = .ok (.aload_n 0, 1) := by decide +kernel
theorem d6_18 : decode prog_6_method_3_code 18 = .ok (.getfield 7, 3) := by decide +kernel
theorem d6_21 : decode prog_6_method_3_code 21 = .ok (.iload_n 1, 1) := by decide +kernel
theorem d6_22 : decode prog_6_method_3_code 22 = .ok (.iaload, 1) := by decide +kernel
theorem d6_23 : decode prog_6_method_3_code 23 = .ok (.ireturn, 1) := by decide +kernel
theorem ef6_RI (m : MethodId) (x0 : Addr) (x1 : Int32) : entryFrame m #[(.ref x0), (.int x1)] 2 = mkF m 0 #[.val (.ref x0), .val (.int x1)] [] := by first | (simp [entryFrame, mkF, argsToLocals, Value.category]; done) | rfl
theorem d5_0 : decode prog_6_method_2_code 0 = .ok (.aload_n 0, 1) := by decide +kernel
theorem d5_1 : decode prog_6_method_2_code 1 = .ok (.getfield 13, 3) := by decide +kernel
theorem d5_4 : decode prog_6_method_2_code 4 = .ok (.aload_n 0, 1) := by decide +kernel
theorem d5_5 : decode prog_6_method_2_code 5 = .ok (.getfield 7, 3) := by decide +kernel
theorem d5_8 : decode prog_6_method_2_code 8 = .ok (.arraylength, 1) := by decide +kernel
theorem d5_9 : decode prog_6_method_2_code 9 = .ok (.if_icmp .ne 27, 3) := by decide +kernel
theorem d5_36 : decode prog_6_method_2_code 36 = .ok (.aload_n 0, 1) := by decide +kernel
theorem d5_37 : decode prog_6_method_2_code 37 = .ok (.getfield 7, 3) := by decide +kernel
theorem d5_40 : decode prog_6_method_2_code 40 = .ok (.aload_n 0, 1) := by decide +kernel
theorem d5_41 : decode prog_6_method_2_code 41 = .ok (.dup, 1) := by decide +kernel
theorem d5_42 : decode prog_6_method_2_code 42 = .ok (.getfield 13, 3) := by decide +kernel
theorem d5_45 : decode prog_6_method_2_code 45 = .ok (.dup_x1, 1) := by decide +kernel
theorem d5_46 : decode prog_6_method_2_code 46 = .ok (.iconst 1, 1) := by decide +kernel
theorem d5_47 : decode prog_6_method_2_code 47 = .ok (.iadd, 1) := by decide +kernel
theorem d5_48 : decode prog_6_method_2_code 48 = .ok (.putfield 13, 3) := by decide +kernel
theorem d5_51 : decode prog_6_method_2_code 51 = .ok (.iload_n 1, 1) := by decide +kernel
theorem d5_52 : decode prog_6_method_2_code 52 = .ok (.iastore, 1) := by decide +kernel
theorem d5_53 : decode prog_6_method_2_code 53 = .ok (.return_, 1) := by decide +kernel
theorem ef5_RI (m : MethodId) (x0 : Addr) (x1 : Int32) : entryFrame m #[(.ref x0), (.int x1)] 2 = mkF m 0 #[.val (.ref x0), .val (.int x1)] [] := by first | (simp [entryFrame, mkF, argsToLocals, Value.category]; done) | rfl
theorem d4_0 : decode method_2_code 0 = .ok (.iload_n 0, 1) := by decide +kernel
theorem d4_1 : decode method_2_code 1 = .ok (.iload_n 2, 1) := by decide +kernel
theorem d4_2 : decode method_2_code 2 = .ok (.iload_n 1, 1) := by decide +kernel
theorem d4_3 : decode method_2_code 3 = .ok (.imul, 1) := by decide +kernel
theorem d4_4 : decode method_2_code 4 = .ok (.iadd, 1) := by decide +kernel
theorem d4_5 : decode method_2_code 5 = .ok (.ireturn, 1) := by decide +kernel
theorem ef4_III (m : MethodId) (x0 : Int32) (x1 : Int32) (x2 : Int32) : entryFrame m #[(.int x0), (.int x1), (.int x2)] 3 = mkF m 0 #[.val (.int x0), .val (.int x1), .val (.int x2)] [] := by first | (simp [entryFrame, mkF, argsToLocals, Value.category]; done) | rfl
theorem pn_1 : plainName "com/example/cevap/cevap/kg/IntListAddPinLaw" = true := by first | (simp [plainName, overriddenIn]; done) | decide +kernel
theorem d9_0 : decode jdk_29_method_69_code 0 = .ok (.iload_n 0, 1) := by decide +kernel
theorem d9_1 : decode jdk_29_method_69_code 1 = .ok (.iload_n 1, 1) := by decide +kernel
theorem d9_2 : decode jdk_29_method_69_code 2 = .ok (.if_icmp .gt 7, 3) := by decide +kernel
theorem d9_5 : decode jdk_29_method_69_code 5 = .ok (.iload_n 0, 1) := by decide +kernel
theorem d9_6 : decode jdk_29_method_69_code 6 = .ok (.goto 4, 3) := by decide +kernel
theorem d9_10 : decode jdk_29_method_69_code 10 = .ok (.ireturn, 1) := by decide +kernel
theorem ef9_II (m : MethodId) (x0 : Int32) (x1 : Int32) : entryFrame m #[(.int x0), (.int x1)] 2 = mkF m 0 #[.val (.int x0), .val (.int x1)] [] := by first | (simp [entryFrame, mkF, argsToLocals, Value.category]; done) | rfl
theorem d7_0 : decode jdk_29_method_24_code 0 = .ok (.iload_n 0, 1) := by decide +kernel
theorem d7_1 : decode jdk_29_method_24_code 1 = .ok (.iload_n 1, 1) := by decide +kernel
theorem d7_2 : decode jdk_29_method_24_code 2 = .ok (.iadd, 1) := by decide +kernel
theorem d7_3 : decode jdk_29_method_24_code 3 = .ok (.istore_n 2, 1) := by decide +kernel
theorem d7_4 : decode jdk_29_method_24_code 4 = .ok (.iload_n 0, 1) := by decide +kernel
theorem d7_5 : decode jdk_29_method_24_code 5 = .ok (.iload_n 2, 1) := by decide +kernel
theorem d7_6 : decode jdk_29_method_24_code 6 = .ok (.ixor, 1) := by decide +kernel
theorem d7_7 : decode jdk_29_method_24_code 7 = .ok (.iload_n 1, 1) := by decide +kernel
theorem d7_8 : decode jdk_29_method_24_code 8 = .ok (.iload_n 2, 1) := by decide +kernel
theorem d7_9 : decode jdk_29_method_24_code 9 = .ok (.ixor, 1) := by decide +kernel
theorem d7_10 : decode jdk_29_method_24_code 10 = .ok (.iand, 1) := by decide +kernel
theorem d7_11 : decode jdk_29_method_24_code 11 = .ok (.ifCond .ge 13, 3) := by decide +kernel
theorem d7_24 : decode jdk_29_method_24_code 24 = .ok (.iload_n 2, 1) := by decide +kernel
theorem d7_25 : decode jdk_29_method_24_code 25 = .ok (.ireturn, 1) := by decide +kernel
theorem ef7_II (m : MethodId) (x0 : Int32) (x1 : Int32) : entryFrame m #[(.int x0), (.int x1)] 3 = mkF m 0 #[.val (.int x0), .val (.int x1), .unset] [] := by first | (simp [entryFrame, mkF, argsToLocals, Value.category]; done) | rfl
theorem d8_0 : decode jdk_65_method_123_code 0 = .ok (.iload_n 1, 1) := by decide +kernel
theorem d8_1 : decode jdk_65_method_123_code 1 = .ok (.aload_n 0, 1) := by decide +kernel
theorem d8_2 : decode jdk_65_method_123_code 2 = .ok (.arraylength, 1) := by decide +kernel
theorem d8_3 : decode jdk_65_method_123_code 3 = .ok (.if_icmp .ne 11, 3) := by decide +kernel
theorem d8_14 : decode jdk_65_method_123_code 14 = .ok (.iload_n 1, 1) := by decide +kernel
theorem d8_15 : decode jdk_65_method_123_code 15 = .ok (.newarray .int, 2) := by decide +kernel
theorem d8_17 : decode jdk_65_method_123_code 17 = .ok (.astore_n 2, 1) := by decide +kernel
theorem d8_18 : decode jdk_65_method_123_code 18 = .ok (.aload_n 0, 1) := by decide +kernel
theorem d8_19 : decode jdk_65_method_123_code 19 = .ok (.iconst 0, 1) := by decide +kernel
theorem d8_20 : decode jdk_65_method_123_code 20 = .ok (.aload_n 2, 1) := by decide +kernel
theorem d8_21 : decode jdk_65_method_123_code 21 = .ok (.iconst 0, 1) := by decide +kernel
theorem d8_22 : decode jdk_65_method_123_code 22 = .ok (.aload_n 0, 1) := by decide +kernel
theorem d8_23 : decode jdk_65_method_123_code 23 = .ok (.arraylength, 1) := by decide +kernel
theorem d8_24 : decode jdk_65_method_123_code 24 = .ok (.iload_n 1, 1) := by decide +kernel
theorem pd_2 : parseMethodDescriptor "(II)I" = some ⟨[.int, .int], some .int⟩ := by decide +kernel
theorem d8_25 : decode jdk_65_method_123_code 25 = .ok (.invokestatic 304, 3) := by decide +kernel
theorem d8_28 : decode jdk_65_method_123_code 28 = .ok (.invokestatic 150, 3) := by decide +kernel
theorem d8_31 : decode jdk_65_method_123_code 31 = .ok (.aload_n 2, 1) := by decide +kernel
theorem d8_32 : decode jdk_65_method_123_code 32 = .ok (.areturn, 1) := by decide +kernel
theorem ef8_RI (m : MethodId) (x0 : Addr) (x1 : Int32) : entryFrame m #[(.ref x0), (.int x1)] 3 = mkF m 0 #[.val (.ref x0), .val (.int x1), .unset] [] := by first | (simp [entryFrame, mkF, argsToLocals, Value.category]; done) | rfl
theorem pn_3 : plainName "java/util/Arrays" = true := by first | (simp [plainName, overriddenIn]; done) | decide +kernel
theorem d5_12 : decode prog_6_method_2_code 12 = .ok (.aload_n 0, 1) := by decide +kernel
theorem d5_13 : decode prog_6_method_2_code 13 = .ok (.aload_n 0, 1) := by decide +kernel
theorem d5_14 : decode prog_6_method_2_code 14 = .ok (.getfield 7, 3) := by decide +kernel
theorem d5_17 : decode prog_6_method_2_code 17 = .ok (.aload_n 0, 1) := by decide +kernel
theorem d5_18 : decode prog_6_method_2_code 18 = .ok (.getfield 13, 3) := by decide +kernel
theorem d5_21 : decode prog_6_method_2_code 21 = .ok (.aload_n 0, 1) := by decide +kernel
theorem d5_22 : decode prog_6_method_2_code 22 = .ok (.getfield 13, 3) := by decide +kernel
theorem d5_25 : decode prog_6_method_2_code 25 = .ok (.iconst 1, 1) := by decide +kernel
theorem d5_26 : decode prog_6_method_2_code 26 = .ok (.ishr, 1) := by decide +kernel
theorem d5_27 : decode prog_6_method_2_code 27 = .ok (.invokestatic 17, 3) := by decide +kernel
theorem pd_4 : parseMethodDescriptor "([II)[I" = some ⟨[(.array .int), .int], some (.array .int)⟩ := by decide +kernel
theorem d5_30 : decode prog_6_method_2_code 30 = .ok (.invokestatic 23, 3) := by decide +kernel
theorem d5_33 : decode prog_6_method_2_code 33 = .ok (.putfield 7, 3) := by decide +kernel
theorem pd_5 : parseMethodDescriptor "()V" = some ⟨[], none⟩ := by decide +kernel
theorem pd_6 : parseMethodDescriptor "()I" = some ⟨[], some .int⟩ := by decide +kernel
theorem pd_7 : parseMethodDescriptor "(III)I" = some ⟨[.int, .int, .int], some .int⟩ := by decide +kernel
theorem pd_8 : parseMethodDescriptor "(I)V" = some ⟨[.int], none⟩ := by decide +kernel
theorem pd_9 : parseMethodDescriptor "(I)I" = some ⟨[.int], some .int⟩ := by decide +kernel
theorem ef0_III (m : MethodId) (x0 : Int32) (x1 : Int32) (x2 : Int32) : entryFrame m #[(.int x0), (.int x1), (.int x2)] maxLocals = mkF m 0 #[.val (.int x0), .val (.int x1), .val (.int x2), .unset, .unset, .unset, .unset] [] := by first | (simp [entryFrame, mkF, argsToLocals, Value.category, maxLocals]; done) | rfl
def vv (a b i : Int32) : Int32 := a + i * b
theorem own_vv0 (a b : Int32) : vv a b 0 = a := by simp [vv]
theorem own_k (x y : Int32) (N : Nat) (hN : y.toInt = N) (h0 : 0 < N) : ∃ i : Fin N, ((x &&& (2147483647 : Int32)) % y) = Int32.ofNat i.1 ∧ ((x &&& (2147483647 : Int32)) % y).toInt = i.1 := by
  have e1 : (x &&& (2147483647 : Int32)).toInt = x.toInt % (2 ^ 31 : Nat) := c_mask x 2147483647 31 (by decide) (by decide)
  have e2 := (c_iremV (x &&& (2147483647 : Int32)) y).1 (by omega) (by omega)
  have e3 := rng32 y
  refine ⟨⟨((x &&& (2147483647 : Int32)) % y).toInt.toNat, by omega⟩, ?_, ?_⟩
  · apply Int32.toInt_inj.mp
    rw [Int32.toInt_ofNat_small (by show ((x &&& (2147483647 : Int32)) % y).toInt.toNat < 2 ^ 31; omega)]
    show _ = ((((x &&& (2147483647 : Int32)) % y).toInt.toNat : Nat) : Int)
    omega
  · show _ = ((((x &&& (2147483647 : Int32)) % y).toInt.toNat : Nat) : Int)
    omega
theorem own_at (a b : Int32) (xs : List Value) (N : Nat) (hN : N < 2147483648) (hx : ∀ i : Fin N, xs[i.1]? = some (.int (vv a b (Int32.ofNat i.1)))) (k n : Int32) (hn : n.toInt = N) (i : Fin N) (hk : k = Int32.ofNat i.1) (hk' : k.toInt = i.1) : k < n ∧ ¬ k < 0 ∧ xs[k.toNatClampNeg]? = some (.int (vv a b k)) := by
  have z0 : (0 : Int32).toInt = 0 := rfl
  have := i.2
  refine ⟨by rw [Int32.lt_iff_toInt_lt]; omega, by rw [Int32.lt_iff_toInt_lt]; omega, ?_⟩
  have e : k.toNatClampNeg = i.1 := by simp only [Int32.toNatClampNeg]; omega
  rw [e, hx i, hk]
set_option maxRecDepth 65536 in
set_option maxHeartbeats 40000000 in
theorem rm_init (l : Launch) (Z : State) (a0 : Array Value) (hw : ∀ d ∈ tables_1, d.before a0 Z = true) (a1 : Addr) (h0 : Heap) (Ea : Exa Z h0 a1 "com/example/cevap/cevap/kg/IntList") (Fv : Fld Z h0 a1 "com/example/cevap/cevap/kg/IntList" "values" "[I" .null) (Fs : Fld Z h0 a1 "com/example/cevap/cevap/kg/IntList" "size" "I" (.int (0 : Int32))) :
    Con l (⟨"com/example/cevap/cevap/kg/IntList", "<init>", "()V"⟩ : MethodName) prog_6_method_1_code 1 none ({ frames := 1, cells := 1, slots := 16, locals := 12 } : Room) Z #[(.ref a1)] h0 (fun v h L => v = none ∧ Kp h0 h [a1] L ∧ ∃ b, Fld Z h a1 "com/example/cevap/cevap/kg/IntList" "values" "[I" (.ref b) ∧ Fld Z h a1 "com/example/cevap/cevap/kg/IntList" "size" "I" (.int (0 : Int32)) ∧ Seq Z h b .int [(.int (0 : Int32)), (.int (0 : Int32)), (.int (0 : Int32)), (.int (0 : Int32)), (.int (0 : Int32)), (.int (0 : Int32)), (.int (0 : Int32)), (.int (0 : Int32)), (.int (0 : Int32)), (.int (0 : Int32)), (.int (0 : Int32)), (.int (0 : Int32)), (.int (0 : Int32)), (.int (0 : Int32)), (.int (0 : Int32)), (.int (0 : Int32))] ∧ h0.size ≤ b) := by
  refine Con.of_body (plainFor_of_name pn_0) ?_
  intro p e s m below meth c T0 X0 hx hby hml hZ hown hnm hret hlk e0
  have hown : s.vm.findClass "com/example/cevap/cevap/kg/IntList" = some m.cls := hown
  have hml : c.maxLocals = 1 := hml
  refine Goes.cast (ef1_R m a1) ?_
  have K0 := Kp.refl h0 [a1]
  refine G.aloadN X0 hx (pc' := 1) (hb hby d1_0) rfl rfl rfl ?_
  refine G.initO X0 hx hZ hown (hw _ (List.mem_of_getElem? (i := 6) rfl)) (hw _ (List.mem_of_getElem? (i := 7) rfl)) (hw _ (List.mem_of_getElem? (i := 8) rfl)) e0 (by rw [hml]; rfl) (hb hby d1_1) (by decide) (W := 0) (Nat.le_of_eq rfl) (by decide) (pc' := 4) rfl fun T1 X1 e1 => ?_
  refine G.aloadN X1 hx (pc' := 5) (hb hby d1_4) rfl rfl rfl ?_
  refine G.bipush X1 hx (pc' := 7) (hb hby d1_5) (z := (16 : Int32)) rfl rfl ?_
  refine G.newP X1 hx hZ (hw _ (List.mem_of_getElem? (i := 9) rfl)) e1 (hb hby d1_7) (by decide) (n := 16) (cap := 16) rfl (by decide) (by decide) (by decide) (by decide) (pc' := 9) rfl fun T2 h2 b g2 X2 e2 Ex2 A2 => ?_
  have ne_a1_b : a1 ≠ b := Nat.ne_of_lt (Nat.lt_of_lt_of_le Fv.lt (Nat.le_of_eq g2.symm))
  have sz_b : h0.size ≤ b := Nat.le_trans K0.size (Nat.le_of_eq g2.symm)
  have F2_a1_values := Fld.ext  Ex2 Fv
  have F2_a1_size := Fld.ext  Ex2 Fs
  have E2_a1 := Exa.ext  Ex2 Ea
  have K2 := Kp.ext K0 Ex2
  have A2_b : Seq Z h2 b .int [(.int (0 : Int32)), (.int (0 : Int32)), (.int (0 : Int32)), (.int (0 : Int32)), (.int (0 : Int32)), (.int (0 : Int32)), (.int (0 : Int32)), (.int (0 : Int32)), (.int (0 : Int32)), (.int (0 : Int32)), (.int (0 : Int32)), (.int (0 : Int32)), (.int (0 : Int32)), (.int (0 : Int32)), (.int (0 : Int32)), (.int (0 : Int32))] := A2
  refine G.putF X2 hx hZ hown (hw _ (List.mem_of_getElem? (i := 10) rfl)) Via.refl e2 F2_a1_values E2_a1 (Or.inl (hw _ (List.mem_of_getElem? (i := 11) rfl))) (hw _ (List.mem_of_getElem? (i := 1) rfl)) (ty := (.array .int)) (by decide) rfl rfl (pc' := 12) (hb hby d1_9) rfl fun T3 h3 X3 e3 W3 => ?_
  have F3_a1_size := Fld.other W3 F2_a1_size (Or.inr (slot_ne (Or.inl (hw _ (List.mem_of_getElem? (i := 18) rfl))) (Or.inl (hw _ (List.mem_of_getElem? (i := 11) rfl))) (by decide) (t := .int) (t' := (.array .int)) (by decide) (by decide)))
  have E3_a1 := Exa.wr W3 E2_a1
  have A3_b := Seq.other A2_b W3 (Ne.symm ne_a1_b)
  have K3 := Kp.wr K2 W3 (Or.inl (List.mem_of_getElem? (i := 0) rfl))
  have F3_a1_values := Fld.same W3 F2_a1_values
  refine Goes.retV X3 hx hret hlk (hb hby d1_12) (by decide) (by decide) ⟨rfl, e3 ▸ K3, b, e3 ▸ F3_a1_values, e3 ▸ F3_a1_size, e3 ▸ A3_b, sz_b⟩
set_option maxRecDepth 65536 in
set_option maxHeartbeats 40000000 in
theorem rm_size (l : Launch) (Z : State) (a0 : Array Value) (hw : ∀ d ∈ tables_1, d.before a0 Z = true) (a1 : Addr) (n : Int32) (h0 : Heap) (Fs : Fld Z h0 a1 "com/example/cevap/cevap/kg/IntList" "size" "I" (.int n)) :
    Con l (⟨"com/example/cevap/cevap/kg/IntList", "size", "()I"⟩ : MethodName) prog_6_method_4_code 1 (some .int) ({ frames := 0, cells := 0, slots := 0, locals := 0 } : Room) Z #[(.ref a1)] h0 (Pur (some (.int n)) h0) := by
  refine Con.of_body (plainFor_of_name pn_0) ?_
  intro p e s m below meth c T0 X0 hx hby hml hZ hown hnm hret hlk e0
  have hown : s.vm.findClass "com/example/cevap/cevap/kg/IntList" = some m.cls := hown
  have hml : c.maxLocals = 1 := hml
  refine Goes.cast (ef3_R m a1) ?_
  refine G.aloadN X0 hx (pc' := 1) (hb hby d3_0) rfl rfl rfl ?_
  refine G.getF X0 hx hZ hown (hw _ (List.mem_of_getElem? (i := 17) rfl)) Via.refl e0 Fs (pc' := 4) (hb hby d3_1) rfl fun T1 X1 e1 => ?_
  refine Goes.retI X1 hx hret hlk (hb hby d3_4) (by decide) (by decide) ⟨rfl, e1, rfl⟩
set_option maxRecDepth 65536 in
set_option maxHeartbeats 40000000 in
theorem rm_get (l : Launch) (Z : State) (a0 : Array Value) (hw : ∀ d ∈ tables_1, d.before a0 Z = true) (a1 b : Addr) (p1 n z : Int32) (xs : List Value) (h0 : Heap) (Fs : Fld Z h0 a1 "com/example/cevap/cevap/kg/IntList" "size" "I" (.int n)) (Fv : Fld Z h0 a1 "com/example/cevap/cevap/kg/IntList" "values" "[I" (.ref b)) (A0 : Seq Z h0 b .int xs) (hlt : p1 < n) (hj : ¬ p1 < 0) (hv : xs[p1.toNatClampNeg]? = some (.int z)) :
    Con l (⟨"com/example/cevap/cevap/kg/IntList", "get", "(I)I"⟩ : MethodName) prog_6_method_3_code 2 (some .int) ({ frames := 0, cells := 0, slots := 0, locals := 0 } : Room) Z #[(.ref a1), (.int p1)] h0 (Pur (some (.int z)) h0) := by
  refine Con.of_body (plainFor_of_name pn_0) ?_
  intro p e s m below meth c T0 X0 hx hby hml hZ hown hnm hret hlk e0
  have hown : s.vm.findClass "com/example/cevap/cevap/kg/IntList" = some m.cls := hown
  have hml : c.maxLocals = 2 := hml
  refine Goes.cast (ef6_RI m a1 p1) ?_
  refine G.iloadN X0 hx (pc' := 1) (hb hby d6_0) rfl rfl ?_
  refine G.aloadN X0 hx (pc' := 2) (hb hby d6_1) rfl rfl rfl ?_
  refine G.getF X0 hx hZ hown (hw _ (List.mem_of_getElem? (i := 17) rfl)) Via.refl e0 Fs (pc' := 5) (hb hby d6_2) rfl fun T1 X1 e1 => ?_
  refine G.icmpT X1 hx (pc' := 17) (hb hby d6_5) (Jvm.Free.XT.ii_lt_t hlt) (by decide) (by decide) ?_
  refine G.aloadN X1 hx (pc' := 18) (hb hby d6_17) rfl rfl rfl ?_
  refine G.getF X1 hx hZ hown (hw _ (List.mem_of_getElem? (i := 10) rfl)) Via.refl e1 Fv (pc' := 21) (hb hby d6_18) rfl fun T2 X2 e2 => ?_
  refine G.iloadN X2 hx (pc' := 22) (hb hby d6_21) rfl rfl ?_
  refine G.iaload X2 hx hZ e2 A0 (pc' := 23) (v := (.int z)) (hb hby d6_22) hj hv rfl ?_
  refine Goes.retI X2 hx hret hlk (hb hby d6_23) (by decide) (by decide) ⟨rfl, e2, rfl⟩
set_option maxRecDepth 65536 in
set_option maxHeartbeats 40000000 in
theorem rm_add (l : Launch) (Z : State) (a0 : Array Value) (hw : ∀ d ∈ tables_1, d.before a0 Z = true) (a1 b : Addr) (p1 n : Int32) (xs : List Value) (h0 : Heap) (Ea : Exa Z h0 a1 "com/example/cevap/cevap/kg/IntList") (Fs : Fld Z h0 a1 "com/example/cevap/cevap/kg/IntList" "size" "I" (.int n)) (Fv : Fld Z h0 a1 "com/example/cevap/cevap/kg/IntList" "values" "[I" (.ref b)) (A0 : Seq Z h0 b .int xs) (nab : a1 ≠ b) (hz : xs.length = 16) (hne : ¬ n = (16 : Int32)) (hn0 : ¬ n < 0) (hn1 : n.toNatClampNeg < xs.length) :
    Con l (⟨"com/example/cevap/cevap/kg/IntList", "add", "(I)V"⟩ : MethodName) prog_6_method_2_code 2 none ({ frames := 0, cells := 0, slots := 0, locals := 0 } : Room) Z #[(.ref a1), (.int p1)] h0 (fun v h L => v = none ∧ Kp h0 h [a1, b] L ∧ Fld Z h a1 "com/example/cevap/cevap/kg/IntList" "values" "[I" (.ref b) ∧ Fld Z h a1 "com/example/cevap/cevap/kg/IntList" "size" "I" (.int (n + (1 : Int32))) ∧ Seq Z h b .int (xs.set n.toNatClampNeg (.int p1))) := by
  refine Con.of_body (plainFor_of_name pn_0) ?_
  intro p e s m below meth c T0 X0 hx hby hml hZ hown hnm hret hlk e0
  have hown : s.vm.findClass "com/example/cevap/cevap/kg/IntList" = some m.cls := hown
  have hml : c.maxLocals = 2 := hml
  refine Goes.cast (ef5_RI m a1 p1) ?_
  have K0 := Kp.refl h0 [a1, b]
  refine G.aloadN X0 hx (pc' := 1) (hb hby d5_0) rfl rfl rfl ?_
  refine G.getF X0 hx hZ hown (hw _ (List.mem_of_getElem? (i := 17) rfl)) Via.refl e0 Fs (pc' := 4) (hb hby d5_1) rfl fun T1 X1 e1 => ?_
  refine G.aloadN X1 hx (pc' := 5) (hb hby d5_4) rfl rfl rfl ?_
  refine G.getF X1 hx hZ hown (hw _ (List.mem_of_getElem? (i := 10) rfl)) Via.refl e1 Fv (pc' := 8) (hb hby d5_5) rfl fun T2 X2 e2 => ?_
  refine G.arraylength X2 hx hZ e2 A0 (pc' := 9) (hb hby d5_8) (z := (16 : Int32)) (by rw [hz]; rfl) rfl ?_
  refine G.icmpT X2 hx (pc' := 36) (hb hby d5_9) (Jvm.Free.XT.ii_ne_t hne) (by decide) (by decide) ?_
  refine G.aloadN X2 hx (pc' := 37) (hb hby d5_36) rfl rfl rfl ?_
  refine G.getF X2 hx hZ hown (hw _ (List.mem_of_getElem? (i := 10) rfl)) Via.refl e2 Fv (pc' := 40) (hb hby d5_37) rfl fun T3 X3 e3 => ?_
  refine G.aloadN X3 hx (pc' := 41) (hb hby d5_40) rfl rfl rfl ?_
  refine G.dup X3 hx (pc' := 42) (hb hby d5_41) rfl rfl ?_
  refine G.getF X3 hx hZ hown (hw _ (List.mem_of_getElem? (i := 17) rfl)) Via.refl e3 Fs (pc' := 45) (hb hby d5_42) rfl fun T4 X4 e4 => ?_
  refine G.dupX1 X4 hx (pc' := 46) (hb hby d5_45) rfl rfl rfl ?_
  refine G.iconst X4 hx (pc' := 47) (hb hby d5_46) (z := (1 : Int32)) rfl rfl ?_
  refine G.iadd X4 hx (pc' := 48) (hb hby d5_47) rfl ?_
  refine G.putF X4 hx hZ hown (hw _ (List.mem_of_getElem? (i := 17) rfl)) Via.refl e4 Fs Ea (Or.inl (hw _ (List.mem_of_getElem? (i := 18) rfl))) (hw _ (List.mem_of_getElem? (i := 1) rfl)) (ty := .int) (by decide) rfl rfl (pc' := 51) (hb hby d5_48) rfl fun T5 h5 X5 e5 W5 => ?_
  have F5_a1_values := Fld.other W5 Fv (Or.inr (slot_ne (Or.inl (hw _ (List.mem_of_getElem? (i := 11) rfl))) (Or.inl (hw _ (List.mem_of_getElem? (i := 18) rfl))) (by decide) (t := (.array .int)) (t' := .int) (by decide) (by decide)))
  have E5_a1 := Exa.wr W5 Ea
  have A5_b := Seq.other A0 W5 (Ne.symm nab)
  have K5 := Kp.wr K0 W5 (Or.inl (List.mem_of_getElem? (i := 0) rfl))
  have F5_a1_size := Fld.same W5 Fs
  refine G.iloadN X5 hx (pc' := 52) (hb hby d5_51) rfl rfl ?_
  refine G.iastore X5 hx hZ e5 A5_b (pc' := 53) (hb hby d5_52) hn0 hn1 rfl fun T6 h6 X6 e6 W6 A6 => ?_
  have F6_a1_size := Fld.other W6 F5_a1_size (Or.inl nab)
  have F6_a1_values := Fld.other W6 F5_a1_values (Or.inl nab)
  have E6_a1 := Exa.wr W6 E5_a1
  have K6 := Kp.wr K5 W6 (Or.inl (List.mem_of_getElem? (i := 1) rfl))
  refine Goes.retV X6 hx hret hlk (hb hby d5_53) (by decide) (by decide) ⟨rfl, e6 ▸ K6, e6 ▸ F6_a1_values, e6 ▸ F6_a1_size, e6 ▸ A6⟩
set_option maxRecDepth 65536 in
set_option maxHeartbeats 40000000 in
theorem rm_v (l : Launch) (Z : State) (a0 : Array Value) (hw : ∀ d ∈ tables_1, d.before a0 Z = true) (p0 p1 p2 : Int32) (h0 : Heap)  :
    Con l (⟨"com/example/cevap/cevap/kg/IntListAddPinLaw", "v", "(III)I"⟩ : MethodName) method_2_code 3 (some .int) ({ frames := 0, cells := 0, slots := 0, locals := 0 } : Room) Z #[(.int p0), (.int p1), (.int p2)] h0 (Pur (some (.int (vv p0 p1 p2))) h0) := by
  refine Con.of_body (plainFor_of_name pn_1) ?_
  intro p e s m below meth c T0 X0 hx hby hml hZ hown hnm hret hlk e0
  have hown : s.vm.findClass "com/example/cevap/cevap/kg/IntListAddPinLaw" = some m.cls := hown
  have hml : c.maxLocals = 3 := hml
  refine Goes.cast (ef4_III m p0 p1 p2) ?_
  refine G.iloadN X0 hx (pc' := 1) (hb hby d4_0) rfl rfl ?_
  refine G.iloadN X0 hx (pc' := 2) (hb hby d4_1) rfl rfl ?_
  refine G.iloadN X0 hx (pc' := 3) (hb hby d4_2) rfl rfl ?_
  refine G.imul X0 hx (pc' := 4) (hb hby d4_3) rfl ?_
  refine G.iadd X0 hx (pc' := 5) (hb hby d4_4) rfl ?_
  refine Goes.retI X0 hx hret hlk (hb hby d4_5) (by decide) (by decide) ⟨rfl, e0, rfl⟩
set_option maxRecDepth 65536 in
set_option maxHeartbeats 40000000 in
theorem rm_min (l : Launch) (Z : State) (a0 : Array Value) (hw : ∀ d ∈ tables_1, d.before a0 Z = true) (p0 p1 : Int32) (h0 : Heap) (hle : ¬ p1 < p0) :
    Con l (⟨"java/lang/Math", "min", "(II)I"⟩ : MethodName) jdk_29_method_69_code 2 (some .int) ({ frames := 0, cells := 0, slots := 0, locals := 0 } : Room) Z #[(.int p0), (.int p1)] h0 (Pur (some (.int p0)) h0) := by
  refine Con.of_body (Jvm.Free.JP.mathPlain rfl (by decide)) ?_
  intro p e s m below meth c T0 X0 hx hby hml hZ hown hnm hret hlk e0
  have hown : s.vm.findClass "java/lang/Math" = some m.cls := hown
  have hml : c.maxLocals = 2 := hml
  refine Goes.cast (ef9_II m p0 p1) ?_
  refine G.iloadN X0 hx (pc' := 1) (hb hby d9_0) rfl rfl ?_
  refine G.iloadN X0 hx (pc' := 2) (hb hby d9_1) rfl rfl ?_
  refine G.icmpF X0 hx (pc' := 5) (hb hby d9_2) (Jvm.Free.XT.ii_gt_f hle) rfl ?_
  refine G.iloadN X0 hx (pc' := 6) (hb hby d9_5) rfl rfl ?_
  refine G.goto X0 hx (pc' := 10) (hb hby d9_6) (by decide) (by decide) ?_
  refine Goes.retI X0 hx hret hlk (hb hby d9_10) (by decide) (by decide) ⟨rfl, e0, rfl⟩
set_option maxRecDepth 65536 in
set_option maxHeartbeats 40000000 in
theorem rm_addx (l : Launch) (Z : State) (a0 : Array Value) (hw : ∀ d ∈ tables_1, d.before a0 Z = true) (p0 p1 : Int32) (h0 : Heap) (hok : ¬ ((p0 ^^^ (p0 + p1)) &&& (p1 ^^^ (p0 + p1))) < 0) :
    Con l (⟨"java/lang/Math", "addExact", "(II)I"⟩ : MethodName) jdk_29_method_24_code 3 (some .int) ({ frames := 0, cells := 0, slots := 0, locals := 0 } : Room) Z #[(.int p0), (.int p1)] h0 (Pur (some (.int (p0 + p1))) h0) := by
  refine Con.of_body (Jvm.Free.JP.mathPlain rfl (by decide)) ?_
  intro p e s m below meth c T0 X0 hx hby hml hZ hown hnm hret hlk e0
  have hown : s.vm.findClass "java/lang/Math" = some m.cls := hown
  have hml : c.maxLocals = 3 := hml
  refine Goes.cast (ef7_II m p0 p1) ?_
  refine G.iloadN X0 hx (pc' := 1) (hb hby d7_0) rfl rfl ?_
  refine G.iloadN X0 hx (pc' := 2) (hb hby d7_1) rfl rfl ?_
  refine G.iadd X0 hx (pc' := 3) (hb hby d7_2) rfl ?_
  refine G.istoreN X0 hx (pc' := 4) (hb hby d7_3) (L' := #[.val (.int p0), .val (.int p1), .val (.int (p0 + p1))]) rfl rfl ?_
  refine G.iloadN X0 hx (pc' := 5) (hb hby d7_4) rfl rfl ?_
  refine G.iloadN X0 hx (pc' := 6) (hb hby d7_5) rfl rfl ?_
  refine G.ixor X0 hx (pc' := 7) (hb hby d7_6) rfl ?_
  refine G.iloadN X0 hx (pc' := 8) (hb hby d7_7) rfl rfl ?_
  refine G.iloadN X0 hx (pc' := 9) (hb hby d7_8) rfl rfl ?_
  refine G.ixor X0 hx (pc' := 10) (hb hby d7_9) rfl ?_
  refine G.iand X0 hx (pc' := 11) (hb hby d7_10) rfl ?_
  refine G.ifT X0 hx (pc' := 24) (hb hby d7_11) (Jvm.Free.XT.i0_ge_t hok) (by decide) (by decide) ?_
  refine G.iloadN X0 hx (pc' := 25) (hb hby d7_24) rfl rfl ?_
  refine Goes.retI X0 hx hret hlk (hb hby d7_25) (by decide) (by decide) ⟨rfl, e0, rfl⟩
set_option maxRecDepth 65536 in
set_option maxHeartbeats 40000000 in
theorem rm_copy (l : Launch) (Z : State) (a0 : Array Value) (hw : ∀ d ∈ tables_1, d.before a0 Z = true) (a1 : Addr) (xs : List Value) (h0 : Heap) (A0 : Seq Z h0 a1 .int xs) (hz : xs.length = 16) (hfx : ∀ v ∈ xs, fits .int v = true) :
    Con l (⟨"java/util/Arrays", "copyOf", "([II)[I"⟩ : MethodName) jdk_65_method_123_code 3 (some (.array .int)) ({ frames := 1, cells := 1, slots := 24, locals := 40 } : Room) Z #[(.ref a1), (.int (24 : Int32))] h0 (fun v h L => ∃ b, v = some (.ref b) ∧ Kp h0 h [] L ∧ Seq Z h b .int (xs ++ ([(.int (0 : Int32)), (.int (0 : Int32)), (.int (0 : Int32)), (.int (0 : Int32)), (.int (0 : Int32)), (.int (0 : Int32)), (.int (0 : Int32)), (.int (0 : Int32))] : List Value)) ∧ h0.size ≤ b) := by
  refine Con.of_body (plainFor_of_name pn_3) ?_
  intro p e s m below meth c T0 X0 hx hby hml hZ hown hnm hret hlk e0
  have hown : s.vm.findClass "java/util/Arrays" = some m.cls := hown
  have hml : c.maxLocals = 3 := hml
  refine Goes.cast (ef8_RI m a1 (24 : Int32)) ?_
  have K0 := Kp.refl h0 []
  refine G.iloadN X0 hx (pc' := 1) (hb hby d8_0) rfl rfl ?_
  refine G.aloadN X0 hx (pc' := 2) (hb hby d8_1) rfl rfl rfl ?_
  refine G.arraylength X0 hx hZ e0 A0 (pc' := 3) (hb hby d8_2) (z := (16 : Int32)) (by rw [hz]; rfl) rfl ?_
  refine G.icmpT X0 hx (pc' := 14) (hb hby d8_3) (Jvm.Free.XT.ii_ne_t (by decide)) (by decide) (by decide) ?_
  refine G.iloadN X0 hx (pc' := 15) (hb hby d8_14) rfl rfl ?_
  refine G.newP X0 hx hZ (hw _ (List.mem_of_getElem? (i := 9) rfl)) e0 (hb hby d8_15) (by decide) (n := 24) (cap := 24) rfl (by decide) (by decide) (by decide) (by decide) (pc' := 17) rfl fun T1 h1 b g1 X1 e1 Ex1 A1 => ?_
  have ne_a1_b : a1 ≠ b := Nat.ne_of_lt (Nat.lt_of_lt_of_le A0.lt (Nat.le_of_eq g1.symm))
  have sz_b : h0.size ≤ b := Nat.le_trans K0.size (Nat.le_of_eq g1.symm)
  have A1_a1 := Seq.ext A0 Ex1
  have K1 := Kp.ext K0 Ex1
  have A1_b : Seq Z h1 b .int [(.int (0 : Int32)), (.int (0 : Int32)), (.int (0 : Int32)), (.int (0 : Int32)), (.int (0 : Int32)), (.int (0 : Int32)), (.int (0 : Int32)), (.int (0 : Int32)), (.int (0 : Int32)), (.int (0 : Int32)), (.int (0 : Int32)), (.int (0 : Int32)), (.int (0 : Int32)), (.int (0 : Int32)), (.int (0 : Int32)), (.int (0 : Int32)), (.int (0 : Int32)), (.int (0 : Int32)), (.int (0 : Int32)), (.int (0 : Int32)), (.int (0 : Int32)), (.int (0 : Int32)), (.int (0 : Int32)), (.int (0 : Int32))] := A1
  refine G.astoreN X1 hx (pc' := 18) (hb hby d8_17) rfl (L' := #[.val (.ref a1), .val (.int (24 : Int32)), .val (.ref b)]) rfl rfl ?_
  refine G.aloadN X1 hx (pc' := 19) (hb hby d8_18) rfl rfl rfl ?_
  refine G.iconst X1 hx (pc' := 20) (hb hby d8_19) (z := (0 : Int32)) rfl rfl ?_
  refine G.aloadN X1 hx (pc' := 21) (hb hby d8_20) rfl rfl rfl ?_
  refine G.iconst X1 hx (pc' := 22) (hb hby d8_21) (z := (0 : Int32)) rfl rfl ?_
  refine G.aloadN X1 hx (pc' := 23) (hb hby d8_22) rfl rfl rfl ?_
  refine G.arraylength X1 hx hZ e1 A1_a1 (pc' := 24) (hb hby d8_23) (z := (16 : Int32)) (by rw [hz]; rfl) rfl ?_
  refine G.iloadN X1 hx (pc' := 25) (hb hby d8_24) rfl rfl ?_
  refine G.callS X1 hx hZ (y := (⟨"java/lang/Math", "min", "(II)I"⟩ : MethodName)) hown (hw _ (List.mem_of_getElem? (i := 42) rfl)) (hw _ (List.mem_of_getElem? (i := 43) rfl)) (hw _ (List.mem_of_getElem? (i := 36) rfl)) (hw _ (List.mem_of_getElem? (i := 44) rfl)) (by decide) e1 (rm := ({ frames := 0, cells := 0, slots := 0, locals := 0 } : Room)) (argsL := [(.int (16 : Int32)), (.int (24 : Int32))]) (S := [(.int (0 : Int32)), (.ref b), (.int (0 : Int32)), (.ref a1)]) (W := 4) (rm_min l Z a0 hw (16 : Int32) (24 : Int32) h1 (by decide)) (lenOf pd_2 rfl) rfl (Nat.le_of_eq rfl) (by decide) (by decide) (by decide) (by decide) (by rw [hml]; rfl) (hb hby d8_25) (pc' := 28) rfl ?_
  rintro T2 _ _ ⟨rfl, e2, rfl⟩ X2
  rw [List.append_nil] at X2
  show Goes p e below T2 (mkF m 28 #[.val (.ref a1), .val (.int (24 : Int32)), .val (.ref b)] [(.int (16 : Int32)), (.int (0 : Int32)), (.ref b), (.int (0 : Int32)), (.ref a1)]) _
  refine G.copyInts X2 hx hZ hown (hw _ (List.mem_of_getElem? (i := 45) rfl)) (hw _ (List.mem_of_getElem? (i := 48) rfl)) (hw _ (List.mem_of_getElem? (i := 46) rfl)) (hw _ (List.mem_of_getElem? (i := 47) rfl)) e2 A1_a1 A1_b hfx (by intro v hv; simp only [List.mem_cons, List.not_mem_nil, or_false, or_self] at hv; subst hv; rfl) (by rw [hz]; rfl) (by decide) (z' := 24) rfl (by decide) (by rw [hz]; decide) (Fr.nil _) sz_b (by rw [hml]; rfl) (hb hby d8_28) (by decide) (W := 0) (Nat.le_of_eq rfl) (by decide) (pc' := 31) rfl fun T9 h9 L9 X9 e9 N9 K9 A9 => ?_
  refine G.aloadN X9 hx (pc' := 32) (hb hby d8_31) rfl rfl rfl ?_
  refine Goes.retA X9 hx hret rfl hlk rfl rfl (hb hby d8_32) (by decide) (by decide) ⟨b, rfl, e9 ▸ ⟨K1.1.trans K9 (allS (Or.inr sz_b) all0), fun y hy => Or.inr (N9 y hy)⟩, e9 ▸ (by rw [hz] at A9; exact A9), sz_b⟩
set_option maxRecDepth 65536 in
set_option maxHeartbeats 40000000 in
theorem rm_grow (l : Launch) (Z : State) (a0 : Array Value) (hw : ∀ d ∈ tables_1, d.before a0 Z = true) (a1 b : Addr) (p1 : Int32) (xs : List Value) (h0 : Heap) (Ea : Exa Z h0 a1 "com/example/cevap/cevap/kg/IntList") (Fs : Fld Z h0 a1 "com/example/cevap/cevap/kg/IntList" "size" "I" (.int (16 : Int32))) (Fv : Fld Z h0 a1 "com/example/cevap/cevap/kg/IntList" "values" "[I" (.ref b)) (A0 : Seq Z h0 b .int xs) (nab : a1 ≠ b) (hz : xs.length = 16) (hfx : ∀ v ∈ xs, fits .int v = true) :
    Con l (⟨"com/example/cevap/cevap/kg/IntList", "add", "(I)V"⟩ : MethodName) prog_6_method_2_code 2 none ({ frames := 2, cells := 1, slots := 24, locals := 55 } : Room) Z #[(.ref a1), (.int p1)] h0 (fun v h L => v = none ∧ Kp h0 h [a1] L ∧ ∃ d, Fld Z h a1 "com/example/cevap/cevap/kg/IntList" "values" "[I" (.ref d) ∧ Fld Z h a1 "com/example/cevap/cevap/kg/IntList" "size" "I" (.int ((16 : Int32) + (1 : Int32))) ∧ Seq Z h d .int ((xs ++ ([(.int (0 : Int32)), (.int (0 : Int32)), (.int (0 : Int32)), (.int (0 : Int32)), (.int (0 : Int32)), (.int (0 : Int32)), (.int (0 : Int32)), (.int (0 : Int32))] : List Value)).set (16 : Int32).toNatClampNeg (.int p1)) ∧ h0.size ≤ d) := by
  refine Con.of_body (plainFor_of_name pn_0) ?_
  intro p e s m below meth c T0 X0 hx hby hml hZ hown hnm hret hlk e0
  have hown : s.vm.findClass "com/example/cevap/cevap/kg/IntList" = some m.cls := hown
  have hml : c.maxLocals = 2 := hml
  refine Goes.cast (ef5_RI m a1 p1) ?_
  have K0 := Kp.refl h0 [a1]
  refine G.aloadN X0 hx (pc' := 1) (hb hby d5_0) rfl rfl rfl ?_
  refine G.getF X0 hx hZ hown (hw _ (List.mem_of_getElem? (i := 17) rfl)) Via.refl e0 Fs (pc' := 4) (hb hby d5_1) rfl fun T1 X1 e1 => ?_
  refine G.aloadN X1 hx (pc' := 5) (hb hby d5_4) rfl rfl rfl ?_
  refine G.getF X1 hx hZ hown (hw _ (List.mem_of_getElem? (i := 10) rfl)) Via.refl e1 Fv (pc' := 8) (hb hby d5_5) rfl fun T2 X2 e2 => ?_
  refine G.arraylength X2 hx hZ e2 A0 (pc' := 9) (hb hby d5_8) (z := (16 : Int32)) (by rw [hz]; rfl) rfl ?_
  refine G.icmpF X2 hx (pc' := 12) (hb hby d5_9) (Jvm.Free.XT.ii_ne_f rfl) rfl ?_
  refine G.aloadN X2 hx (pc' := 13) (hb hby d5_12) rfl rfl rfl ?_
  refine G.aloadN X2 hx (pc' := 14) (hb hby d5_13) rfl rfl rfl ?_
  refine G.getF X2 hx hZ hown (hw _ (List.mem_of_getElem? (i := 10) rfl)) Via.refl e2 Fv (pc' := 17) (hb hby d5_14) rfl fun T3 X3 e3 => ?_
  refine G.aloadN X3 hx (pc' := 18) (hb hby d5_17) rfl rfl rfl ?_
  refine G.getF X3 hx hZ hown (hw _ (List.mem_of_getElem? (i := 17) rfl)) Via.refl e3 Fs (pc' := 21) (hb hby d5_18) rfl fun T4 X4 e4 => ?_
  refine G.aloadN X4 hx (pc' := 22) (hb hby d5_21) rfl rfl rfl ?_
  refine G.getF X4 hx hZ hown (hw _ (List.mem_of_getElem? (i := 17) rfl)) Via.refl e4 Fs (pc' := 25) (hb hby d5_22) rfl fun T5 X5 e5 => ?_
  refine G.iconst X5 hx (pc' := 26) (hb hby d5_25) (z := (1 : Int32)) rfl rfl ?_
  refine G.ishr X5 hx (pc' := 27) (hb hby d5_26) rfl ?_
  refine G.callS X5 hx hZ (y := (⟨"java/lang/Math", "addExact", "(II)I"⟩ : MethodName)) hown (hw _ (List.mem_of_getElem? (i := 34) rfl)) (hw _ (List.mem_of_getElem? (i := 35) rfl)) (hw _ (List.mem_of_getElem? (i := 36) rfl)) (hw _ (List.mem_of_getElem? (i := 37) rfl)) (by decide) e5 (rm := ({ frames := 0, cells := 0, slots := 0, locals := 0 } : Room)) (argsL := [(.int (16 : Int32)), (.int ((16 : Int32) >>> ((1 : Int32) &&& 31)))]) (S := [(.ref b), (.ref a1)]) (W := 2) (rm_addx l Z a0 hw (16 : Int32) ((16 : Int32) >>> ((1 : Int32) &&& 31)) h0 (by decide)) (lenOf pd_2 rfl) rfl (Nat.le_of_eq rfl) (by decide) (by decide) (by decide) (by decide) (by rw [hml]; rfl) (hb hby d5_27) (pc' := 30) rfl ?_
  rintro T6 _ _ ⟨rfl, e6, rfl⟩ X6
  rw [List.append_nil] at X6
  show Goes p e below T6 (mkF m 30 #[.val (.ref a1), .val (.int p1)] [(.int (24 : Int32)), (.ref b), (.ref a1)]) _
  refine G.callS X6 hx hZ (y := (⟨"java/util/Arrays", "copyOf", "([II)[I"⟩ : MethodName)) hown (hw _ (List.mem_of_getElem? (i := 38) rfl)) (hw _ (List.mem_of_getElem? (i := 39) rfl)) (hw _ (List.mem_of_getElem? (i := 40) rfl)) (hw _ (List.mem_of_getElem? (i := 41) rfl)) (by decide) e6 (rm := ({ frames := 1, cells := 1, slots := 24, locals := 40 } : Room)) (argsL := [(.ref b), (.int (24 : Int32))]) (S := [(.ref a1)]) (W := 1) (rm_copy l Z a0 hw b xs h0 A0 hz hfx) (lenOf pd_4 rfl) rfl (Nat.le_of_eq rfl) (by decide) (by decide) (by decide) (by decide) (by rw [hml]; rfl) (hb hby d5_30) (pc' := 33) rfl ?_
  rintro T7 _ L7 ⟨d, rfl, Kq7, A7, hd7⟩ X7
  have F7_a1_size := Fld.keep Fs Kq7.1 nin0
  have F7_a1_values := Fld.keep Fv Kq7.1 nin0
  have E7_a1 := Exa.keep Ea Kq7.1
  have A7_b := Seq.keep A0 Kq7.1 nin0
  have K7 := Kp.call K0 Kq7 all0
  have ne_a1_d : a1 ≠ d := Nat.ne_of_lt (Nat.lt_of_lt_of_le Ea.lt hd7)
  have ne_b_d : b ≠ d := Nat.ne_of_lt (Nat.lt_of_lt_of_le A0.lt hd7)
  have sz_d : h0.size ≤ d := Nat.le_trans K0.size hd7
  show Goes p e below T7 (mkF m 33 #[.val (.ref a1), .val (.int p1)] [(.ref d), (.ref a1)]) _
  refine G.putF X7 hx hZ hown (hw _ (List.mem_of_getElem? (i := 10) rfl)) Via.refl rfl F7_a1_values E7_a1 (Or.inl (hw _ (List.mem_of_getElem? (i := 11) rfl))) (hw _ (List.mem_of_getElem? (i := 1) rfl)) (ty := (.array .int)) (by decide) rfl rfl (pc' := 36) (hb hby d5_33) rfl fun T8 h8 X8 e8 W8 => ?_
  have F8_a1_size := Fld.other W8 F7_a1_size (Or.inr (slot_ne (Or.inl (hw _ (List.mem_of_getElem? (i := 18) rfl))) (Or.inl (hw _ (List.mem_of_getElem? (i := 11) rfl))) (by decide) (t := .int) (t' := (.array .int)) (by decide) (by decide)))
  have E8_a1 := Exa.wr W8 E7_a1
  have A8_b := Seq.other A7_b W8 (Ne.symm nab)
  have A8_d := Seq.other A7 W8 (Ne.symm ne_a1_d)
  have K8 := Kp.wr K7 W8 (Or.inl (List.mem_of_getElem? (i := 0) rfl))
  have F8_a1_values := Fld.same W8 F7_a1_values
  refine G.aloadN X8 hx (pc' := 37) (hb hby d5_36) rfl rfl rfl ?_
  refine G.getF X8 hx hZ hown (hw _ (List.mem_of_getElem? (i := 10) rfl)) Via.refl e8 F8_a1_values (pc' := 40) (hb hby d5_37) rfl fun T9 X9 e9 => ?_
  refine G.aloadN X9 hx (pc' := 41) (hb hby d5_40) rfl rfl rfl ?_
  refine G.dup X9 hx (pc' := 42) (hb hby d5_41) rfl rfl ?_
  refine G.getF X9 hx hZ hown (hw _ (List.mem_of_getElem? (i := 17) rfl)) Via.refl e9 F8_a1_size (pc' := 45) (hb hby d5_42) rfl fun T10 X10 e10 => ?_
  refine G.dupX1 X10 hx (pc' := 46) (hb hby d5_45) rfl rfl rfl ?_
  refine G.iconst X10 hx (pc' := 47) (hb hby d5_46) (z := (1 : Int32)) rfl rfl ?_
  refine G.iadd X10 hx (pc' := 48) (hb hby d5_47) rfl ?_
  refine G.putF X10 hx hZ hown (hw _ (List.mem_of_getElem? (i := 17) rfl)) Via.refl e10 F8_a1_size E8_a1 (Or.inl (hw _ (List.mem_of_getElem? (i := 18) rfl))) (hw _ (List.mem_of_getElem? (i := 1) rfl)) (ty := .int) (by decide) rfl rfl (pc' := 51) (hb hby d5_48) rfl fun T11 h11 X11 e11 W11 => ?_
  have F11_a1_values := Fld.other W11 F8_a1_values (Or.inr (slot_ne (Or.inl (hw _ (List.mem_of_getElem? (i := 11) rfl))) (Or.inl (hw _ (List.mem_of_getElem? (i := 18) rfl))) (by decide) (t := (.array .int)) (t' := .int) (by decide) (by decide)))
  have E11_a1 := Exa.wr W11 E8_a1
  have A11_b := Seq.other A8_b W11 (Ne.symm nab)
  have A11_d := Seq.other A8_d W11 (Ne.symm ne_a1_d)
  have K11 := Kp.wr K8 W11 (Or.inl (List.mem_of_getElem? (i := 0) rfl))
  have F11_a1_size := Fld.same W11 F8_a1_size
  refine G.iloadN X11 hx (pc' := 52) (hb hby d5_51) rfl rfl ?_
  refine G.iastore X11 hx hZ e11 A11_d (pc' := 53) (hb hby d5_52) (by decide) (by simp [hz]) rfl fun T12 h12 X12 e12 W12 A12 => ?_
  have F12_a1_size := Fld.other W12 F11_a1_size (Or.inl ne_a1_d)
  have F12_a1_values := Fld.other W12 F11_a1_values (Or.inl ne_a1_d)
  have E12_a1 := Exa.wr W12 E11_a1
  have A12_b := Seq.other A11_b W12 ne_b_d
  have K12 := Kp.wr K11 W12 (Or.inr sz_d)
  refine Goes.retV X12 hx hret hlk (hb hby d5_53) (by decide) (by decide) ⟨rfl, e12 ▸ K12, d, e12 ▸ F12_a1_values, e12 ▸ F12_a1_size, e12 ▸ A12, sz_d⟩
set_option maxRecDepth 65536 in
set_option maxHeartbeats 40000000 in
theorem rm0 (l : Launch) (Z : State) (a0 : Array Value) (hw : ∀ d ∈ tables_1, d.before a0 Z = true) (p0 p1 p2 : Int32) (h0 : Heap)  :
    Con l x code maxLocals ret room_1 Z #[(.int p0), (.int p1), (.int p2)] h0 (fun v _ L => v = some (.int 1) ∧ Fr h0.size L) := by
  refine Con.of_body (plainFor_of_name pn_1) ?_
  intro p e s m below meth c T0 X0 hx hby hml hZ hown hnm hret hlk e0
  have hown : s.vm.findClass "com/example/cevap/cevap/kg/IntListAddPinLaw" = some m.cls := hown
  have hml : c.maxLocals = 7 := hml
  refine Goes.cast (ef0_III m p0 p1 p2) ?_
  have K0 := Kp.refl h0 []
  refine G.newO X0 hx hZ hown (hw _ (List.mem_of_getElem? (i := 0) rfl)) (hw _ (List.mem_of_getElem? (i := 1) rfl)) (hw _ (List.mem_of_getElem? (i := 2) rfl)) e0 (hb hby at_0) (by decide) (by decide) (pc' := 3) rfl fun T1 h1 a g1 X1 e1 Ex1 Ea1 D1 => ?_
  have sz_a : h0.size ≤ a := Nat.le_trans K0.size (Nat.le_of_eq g1.symm)
  have K1 := Kp.ext K0 Ex1
  have F1_a_values : Fld Z h1 a "com/example/cevap/cevap/kg/IntList" "values" "[I" .null := D1 (Or.inl (hw _ (List.mem_of_getElem? (i := 11) rfl))) (ty := (.array .int)) (by decide)
  have F1_a_size : Fld Z h1 a "com/example/cevap/cevap/kg/IntList" "size" "I" (.int (0 : Int32)) := D1 (Or.inl (hw _ (List.mem_of_getElem? (i := 18) rfl))) (ty := .int) (by decide)
  refine G.dup X1 hx (pc' := 4) (hb hby at_3) rfl rfl ?_
  refine G.callI X1 hx hZ (y := (⟨"com/example/cevap/cevap/kg/IntList", "<init>", "()V"⟩ : MethodName)) rfl hown (hw _ (List.mem_of_getElem? (i := 3) rfl)) (hw _ (List.mem_of_getElem? (i := 4) rfl)) (hw _ (List.mem_of_getElem? (i := 2) rfl)) (hw _ (List.mem_of_getElem? (i := 5) rfl)) (by decide) e1 (rm := ({ frames := 1, cells := 1, slots := 16, locals := 12 } : Room)) (argsL := []) (S := [(.ref a)]) (W := 1) (a := a) (rm_init l Z a0 hw a h1 Ea1 F1_a_values F1_a_size) (lenOf pd_5 rfl) rfl (Nat.le_of_eq rfl) (by decide) (by decide) (by decide) (by decide) (by rw [hml]; rfl) (hb hby at_4) (pc' := 7) rfl ?_
  rintro T2 _ L2 ⟨rfl, Kq2, b, Fv2, Fs2, A2, hb2⟩ X2
  have E2_a := Exa.keep Ea1 Kq2.1
  have K2 := Kp.call K1 Kq2 (allS (Or.inr sz_a) all0)
  have ne_a_b : a ≠ b := Nat.ne_of_lt (Nat.lt_of_lt_of_le Ea1.lt hb2)
  have sz_b : h0.size ≤ b := Nat.le_trans K1.size hb2
  show Goes p e below T2 (mkF m 7 #[.val (.int p0), .val (.int p1), .val (.int p2), .unset, .unset, .unset, .unset] [(.ref a)]) _
  refine G.astoreN X2 hx (pc' := 8) (hb hby at_7) rfl (L' := #[.val (.int p0), .val (.int p1), .val (.int p2), .val (.ref a), .unset, .unset, .unset]) rfl rfl ?_
  refine G.aloadN X2 hx (pc' := 9) (hb hby at_8) rfl rfl rfl ?_
  refine G.callV X2 hx hZ (y0 := (⟨"com/example/cevap/cevap/kg/IntList", "size", "()I"⟩ : MethodName)) (y := (⟨"com/example/cevap/cevap/kg/IntList", "size", "()I"⟩ : MethodName)) hown (hw _ (List.mem_of_getElem? (i := 12) rfl)) (hw _ (List.mem_of_getElem? (i := 13) rfl)) (notFace_of_selects (args := #[]) (mvT hZ (hw _ (List.mem_of_getElem? (i := 15) rfl)))) (hw _ (List.mem_of_getElem? (i := 15) rfl)) (hw _ (List.mem_of_getElem? (i := 14) rfl)) (hw _ (List.mem_of_getElem? (i := 2) rfl)) (hw _ (List.mem_of_getElem? (i := 16) rfl)) (by decide) rfl (rm := ({ frames := 0, cells := 0, slots := 0, locals := 0 } : Room)) (argsL := []) (S := []) (W := 0) (a := a) E2_a (rm_size l Z a0 hw a (0 : Int32) T2.heap Fs2) (lenOf pd_6 rfl) rfl (Nat.le_of_eq rfl) (by decide) (by decide) (by decide) (by decide) (by rw [hml]; rfl) (hb hby at_9) (pc' := 12) rfl ?_
  rintro T3 _ _ ⟨rfl, e3, rfl⟩ X3
  rw [List.append_nil] at X3
  show Goes p e below T3 (mkF m 12 #[.val (.int p0), .val (.int p1), .val (.int p2), .val (.ref a), .unset, .unset, .unset] [(.int (0 : Int32))]) _
  refine G.ifF X3 hx (pc' := 15) (hb hby at_12) (Jvm.Free.XT.i0_ne_f rfl) rfl ?_
  refine G.iconst X3 hx (pc' := 16) (hb hby at_15) (z := (1 : Int32)) rfl rfl ?_
  refine G.goto X3 hx (pc' := 20) (hb hby at_16) (by decide) (by decide) ?_
  refine G.istore X3 hx (pc' := 22) (hb hby at_20) (L' := #[.val (.int p0), .val (.int p1), .val (.int p2), .val (.ref a), .val (.int (1 : Int32)), .unset, .unset]) rfl rfl ?_
  refine G.aloadN X3 hx (pc' := 23) (hb hby at_22) rfl rfl rfl ?_
  refine G.iloadN X3 hx (pc' := 24) (hb hby at_23) rfl rfl ?_
  refine G.iloadN X3 hx (pc' := 25) (hb hby at_24) rfl rfl ?_
  refine G.iconst X3 hx (pc' := 26) (hb hby at_25) (z := (0 : Int32)) rfl rfl ?_
  refine G.callS X3 hx hZ (y := (⟨"com/example/cevap/cevap/kg/IntListAddPinLaw", "v", "(III)I"⟩ : MethodName)) hown (hw _ (List.mem_of_getElem? (i := 19) rfl)) (hw _ (List.mem_of_getElem? (i := 20) rfl)) (hw _ (List.mem_of_getElem? (i := 21) rfl)) (hw _ (List.mem_of_getElem? (i := 22) rfl)) (by decide) e3 (rm := ({ frames := 0, cells := 0, slots := 0, locals := 0 } : Room)) (argsL := [(.int p0), (.int p1), (.int (0 : Int32))]) (S := [(.ref a)]) (W := 1) (rm_v l Z a0 hw p0 p1 (0 : Int32) T2.heap) (lenOf pd_7 rfl) rfl (Nat.le_of_eq rfl) (by decide) (by decide) (by decide) (by decide) (by rw [hml]; rfl) (hb hby at_26) (pc' := 29) rfl ?_
  rintro T4 _ _ ⟨rfl, e4, rfl⟩ X4
  rw [List.append_nil] at X4
  show Goes p e below T4 (mkF m 29 #[.val (.int p0), .val (.int p1), .val (.int p2), .val (.ref a), .val (.int (1 : Int32)), .unset, .unset] [(.int (vv p0 p1 (0 : Int32))), (.ref a)]) _
  refine G.callV X4 hx hZ (y0 := (⟨"com/example/cevap/cevap/kg/IntList", "add", "(I)V"⟩ : MethodName)) (y := (⟨"com/example/cevap/cevap/kg/IntList", "add", "(I)V"⟩ : MethodName)) hown (hw _ (List.mem_of_getElem? (i := 23) rfl)) (hw _ (List.mem_of_getElem? (i := 24) rfl)) (notFace_of_selects (args := #[]) (mvT hZ (hw _ (List.mem_of_getElem? (i := 26) rfl)))) (hw _ (List.mem_of_getElem? (i := 26) rfl)) (hw _ (List.mem_of_getElem? (i := 25) rfl)) (hw _ (List.mem_of_getElem? (i := 2) rfl)) (hw _ (List.mem_of_getElem? (i := 27) rfl)) (by decide) e4 (rm := ({ frames := 0, cells := 0, slots := 0, locals := 0 } : Room)) (argsL := [(.int (vv p0 p1 (0 : Int32)))]) (S := []) (W := 0) (a := a) E2_a (rm_add l Z a0 hw a b (vv p0 p1 (0 : Int32)) (0 : Int32) [(.int (0 : Int32)), (.int (0 : Int32)), (.int (0 : Int32)), (.int (0 : Int32)), (.int (0 : Int32)), (.int (0 : Int32)), (.int (0 : Int32)), (.int (0 : Int32)), (.int (0 : Int32)), (.int (0 : Int32)), (.int (0 : Int32)), (.int (0 : Int32)), (.int (0 : Int32)), (.int (0 : Int32)), (.int (0 : Int32)), (.int (0 : Int32))] T2.heap E2_a Fs2 Fv2 A2 ne_a_b rfl (by decide) (by decide) (Nat.le_of_ble_eq_true rfl)) (lenOf pd_8 rfl) rfl (Nat.le_of_eq rfl) (by decide) (by decide) (by decide) (by decide) (by rw [hml]; rfl) (hb hby at_29) (pc' := 32) rfl ?_
  rintro T5 _ L5 ⟨rfl, Kq5, Fv5, Fs5, A5⟩ X5
  have E5_a := Exa.keep E2_a Kq5.1
  have K5 := Kp.call K2 Kq5 (allS (Or.inr sz_a) (allS (Or.inr sz_b) all0))
  have Fs5' : Fld Z T5.heap a "com/example/cevap/cevap/kg/IntList" "size" "I" (.int (1 : Int32)) := Fs5
  have A5' : Seq Z T5.heap b .int [(.int (vv p0 p1 (0 : Int32))), (.int (0 : Int32)), (.int (0 : Int32)), (.int (0 : Int32)), (.int (0 : Int32)), (.int (0 : Int32)), (.int (0 : Int32)), (.int (0 : Int32)), (.int (0 : Int32)), (.int (0 : Int32)), (.int (0 : Int32)), (.int (0 : Int32)), (.int (0 : Int32)), (.int (0 : Int32)), (.int (0 : Int32)), (.int (0 : Int32))] := A5
  show Goes p e below T5 (mkF m 32 #[.val (.int p0), .val (.int p1), .val (.int p2), .val (.ref a), .val (.int (1 : Int32)), .unset, .unset] []) _
  refine G.iload X5 hx (pc' := 34) (hb hby at_32) rfl rfl ?_
  refine G.ifF X5 hx (pc' := 37) (hb hby at_34) (Jvm.Free.XT.i0_eq_f (by decide)) rfl ?_
  refine G.aloadN X5 hx (pc' := 38) (hb hby at_37) rfl rfl rfl ?_
  refine G.callV X5 hx hZ (y0 := (⟨"com/example/cevap/cevap/kg/IntList", "size", "()I"⟩ : MethodName)) (y := (⟨"com/example/cevap/cevap/kg/IntList", "size", "()I"⟩ : MethodName)) hown (hw _ (List.mem_of_getElem? (i := 12) rfl)) (hw _ (List.mem_of_getElem? (i := 13) rfl)) (notFace_of_selects (args := #[]) (mvT hZ (hw _ (List.mem_of_getElem? (i := 15) rfl)))) (hw _ (List.mem_of_getElem? (i := 15) rfl)) (hw _ (List.mem_of_getElem? (i := 14) rfl)) (hw _ (List.mem_of_getElem? (i := 2) rfl)) (hw _ (List.mem_of_getElem? (i := 16) rfl)) (by decide) rfl (rm := ({ frames := 0, cells := 0, slots := 0, locals := 0 } : Room)) (argsL := []) (S := []) (W := 0) (a := a) E5_a (rm_size l Z a0 hw a (1 : Int32) T5.heap Fs5') (lenOf pd_6 rfl) rfl (Nat.le_of_eq rfl) (by decide) (by decide) (by decide) (by decide) (by rw [hml]; rfl) (hb hby at_38) (pc' := 41) rfl ?_
  rintro T6 _ _ ⟨rfl, e6, rfl⟩ X6
  rw [List.append_nil] at X6
  show Goes p e below T6 (mkF m 41 #[.val (.int p0), .val (.int p1), .val (.int p2), .val (.ref a), .val (.int (1 : Int32)), .unset, .unset] [(.int (1 : Int32))]) _
  refine G.iconst X6 hx (pc' := 42) (hb hby at_41) (z := (1 : Int32)) rfl rfl ?_
  refine G.icmpF X6 hx (pc' := 45) (hb hby at_42) (Jvm.Free.XT.ii_ne_f rfl) rfl ?_
  refine G.aloadN X6 hx (pc' := 46) (hb hby at_45) rfl rfl rfl ?_
  refine G.iconst X6 hx (pc' := 47) (hb hby at_46) (z := (0 : Int32)) rfl rfl ?_
  refine G.callV X6 hx hZ (y0 := (⟨"com/example/cevap/cevap/kg/IntList", "get", "(I)I"⟩ : MethodName)) (y := (⟨"com/example/cevap/cevap/kg/IntList", "get", "(I)I"⟩ : MethodName)) hown (hw _ (List.mem_of_getElem? (i := 28) rfl)) (hw _ (List.mem_of_getElem? (i := 29) rfl)) (notFace_of_selects (args := #[]) (mvT hZ (hw _ (List.mem_of_getElem? (i := 31) rfl)))) (hw _ (List.mem_of_getElem? (i := 31) rfl)) (hw _ (List.mem_of_getElem? (i := 30) rfl)) (hw _ (List.mem_of_getElem? (i := 2) rfl)) (hw _ (List.mem_of_getElem? (i := 32) rfl)) (by decide) e6 (rm := ({ frames := 0, cells := 0, slots := 0, locals := 0 } : Room)) (argsL := [(.int (0 : Int32))]) (S := []) (W := 0) (a := a) E5_a (rm_get l Z a0 hw a b (0 : Int32) (1 : Int32) (vv p0 p1 (0 : Int32)) [(.int (vv p0 p1 (0 : Int32))), (.int (0 : Int32)), (.int (0 : Int32)), (.int (0 : Int32)), (.int (0 : Int32)), (.int (0 : Int32)), (.int (0 : Int32)), (.int (0 : Int32)), (.int (0 : Int32)), (.int (0 : Int32)), (.int (0 : Int32)), (.int (0 : Int32)), (.int (0 : Int32)), (.int (0 : Int32)), (.int (0 : Int32)), (.int (0 : Int32))] T5.heap Fs5' Fv5 A5' (by decide) (by decide) rfl) (lenOf pd_9 rfl) rfl (Nat.le_of_eq rfl) (by decide) (by decide) (by decide) (by decide) (by rw [hml]; rfl) (hb hby at_47) (pc' := 50) rfl ?_
  rintro T7 _ _ ⟨rfl, e7, rfl⟩ X7
  rw [List.append_nil] at X7
  show Goes p e below T7 (mkF m 50 #[.val (.int p0), .val (.int p1), .val (.int p2), .val (.ref a), .val (.int (1 : Int32)), .unset, .unset] [(.int (vv p0 p1 (0 : Int32)))]) _
  refine G.iloadN X7 hx (pc' := 51) (hb hby at_50) rfl rfl ?_
  refine G.icmpF X7 hx (pc' := 54) (hb hby at_51) (Jvm.Free.XT.ii_ne_f (own_vv0 p0 p1)) rfl ?_
  refine G.iconst X7 hx (pc' := 55) (hb hby at_54) (z := (1 : Int32)) rfl rfl ?_
  refine G.goto X7 hx (pc' := 59) (hb hby at_55) (by decide) (by decide) ?_
  refine G.istore X7 hx (pc' := 61) (hb hby at_59) (L' := #[.val (.int p0), .val (.int p1), .val (.int p2), .val (.ref a), .val (.int (1 : Int32)), .unset, .unset]) rfl rfl ?_
  refine G.aloadN X7 hx (pc' := 62) (hb hby at_61) rfl rfl rfl ?_
  refine G.iloadN X7 hx (pc' := 63) (hb hby at_62) rfl rfl ?_
  refine G.iloadN X7 hx (pc' := 64) (hb hby at_63) rfl rfl ?_
  refine G.iconst X7 hx (pc' := 65) (hb hby at_64) (z := (1 : Int32)) rfl rfl ?_
  refine G.callS X7 hx hZ (y := (⟨"com/example/cevap/cevap/kg/IntListAddPinLaw", "v", "(III)I"⟩ : MethodName)) hown (hw _ (List.mem_of_getElem? (i := 19) rfl)) (hw _ (List.mem_of_getElem? (i := 20) rfl)) (hw _ (List.mem_of_getElem? (i := 21) rfl)) (hw _ (List.mem_of_getElem? (i := 22) rfl)) (by decide) e7 (rm := ({ frames := 0, cells := 0, slots := 0, locals := 0 } : Room)) (argsL := [(.int p0), (.int p1), (.int (1 : Int32))]) (S := [(.ref a)]) (W := 1) (rm_v l Z a0 hw p0 p1 (1 : Int32) T5.heap) (lenOf pd_7 rfl) rfl (Nat.le_of_eq rfl) (by decide) (by decide) (by decide) (by decide) (by rw [hml]; rfl) (hb hby at_65) (pc' := 68) rfl ?_
  rintro T8 _ _ ⟨rfl, e8, rfl⟩ X8
  rw [List.append_nil] at X8
  show Goes p e below T8 (mkF m 68 #[.val (.int p0), .val (.int p1), .val (.int p2), .val (.ref a), .val (.int (1 : Int32)), .unset, .unset] [(.int (vv p0 p1 (1 : Int32))), (.ref a)]) _
  refine G.callV X8 hx hZ (y0 := (⟨"com/example/cevap/cevap/kg/IntList", "add", "(I)V"⟩ : MethodName)) (y := (⟨"com/example/cevap/cevap/kg/IntList", "add", "(I)V"⟩ : MethodName)) hown (hw _ (List.mem_of_getElem? (i := 23) rfl)) (hw _ (List.mem_of_getElem? (i := 24) rfl)) (notFace_of_selects (args := #[]) (mvT hZ (hw _ (List.mem_of_getElem? (i := 26) rfl)))) (hw _ (List.mem_of_getElem? (i := 26) rfl)) (hw _ (List.mem_of_getElem? (i := 25) rfl)) (hw _ (List.mem_of_getElem? (i := 2) rfl)) (hw _ (List.mem_of_getElem? (i := 27) rfl)) (by decide) e8 (rm := ({ frames := 0, cells := 0, slots := 0, locals := 0 } : Room)) (argsL := [(.int (vv p0 p1 (1 : Int32)))]) (S := []) (W := 0) (a := a) E5_a (rm_add l Z a0 hw a b (vv p0 p1 (1 : Int32)) (1 : Int32) [(.int (vv p0 p1 (0 : Int32))), (.int (0 : Int32)), (.int (0 : Int32)), (.int (0 : Int32)), (.int (0 : Int32)), (.int (0 : Int32)), (.int (0 : Int32)), (.int (0 : Int32)), (.int (0 : Int32)), (.int (0 : Int32)), (.int (0 : Int32)), (.int (0 : Int32)), (.int (0 : Int32)), (.int (0 : Int32)), (.int (0 : Int32)), (.int (0 : Int32))] T5.heap E5_a Fs5' Fv5 A5' ne_a_b rfl (by decide) (by decide) (Nat.le_of_ble_eq_true rfl)) (lenOf pd_8 rfl) rfl (Nat.le_of_eq rfl) (by decide) (by decide) (by decide) (by decide) (by rw [hml]; rfl) (hb hby at_68) (pc' := 71) rfl ?_
  rintro T9 _ L9 ⟨rfl, Kq9, Fv9, Fs9, A9⟩ X9
  have E9_a := Exa.keep E5_a Kq9.1
  have K9 := Kp.call K5 Kq9 (allS (Or.inr sz_a) (allS (Or.inr sz_b) all0))
  have Fs9' : Fld Z T9.heap a "com/example/cevap/cevap/kg/IntList" "size" "I" (.int (2 : Int32)) := Fs9
  have A9' : Seq Z T9.heap b .int [(.int (vv p0 p1 (0 : Int32))), (.int (vv p0 p1 (1 : Int32))), (.int (0 : Int32)), (.int (0 : Int32)), (.int (0 : Int32)), (.int (0 : Int32)), (.int (0 : Int32)), (.int (0 : Int32)), (.int (0 : Int32)), (.int (0 : Int32)), (.int (0 : Int32)), (.int (0 : Int32)), (.int (0 : Int32)), (.int (0 : Int32)), (.int (0 : Int32)), (.int (0 : Int32))] := A9
  show Goes p e below T9 (mkF m 71 #[.val (.int p0), .val (.int p1), .val (.int p2), .val (.ref a), .val (.int (1 : Int32)), .unset, .unset] []) _
  refine G.aloadN X9 hx (pc' := 72) (hb hby at_71) rfl rfl rfl ?_
  refine G.iloadN X9 hx (pc' := 73) (hb hby at_72) rfl rfl ?_
  refine G.iloadN X9 hx (pc' := 74) (hb hby at_73) rfl rfl ?_
  refine G.iconst X9 hx (pc' := 75) (hb hby at_74) (z := (2 : Int32)) rfl rfl ?_
  refine G.callS X9 hx hZ (y := (⟨"com/example/cevap/cevap/kg/IntListAddPinLaw", "v", "(III)I"⟩ : MethodName)) hown (hw _ (List.mem_of_getElem? (i := 19) rfl)) (hw _ (List.mem_of_getElem? (i := 20) rfl)) (hw _ (List.mem_of_getElem? (i := 21) rfl)) (hw _ (List.mem_of_getElem? (i := 22) rfl)) (by decide) rfl (rm := ({ frames := 0, cells := 0, slots := 0, locals := 0 } : Room)) (argsL := [(.int p0), (.int p1), (.int (2 : Int32))]) (S := [(.ref a)]) (W := 1) (rm_v l Z a0 hw p0 p1 (2 : Int32) T9.heap) (lenOf pd_7 rfl) rfl (Nat.le_of_eq rfl) (by decide) (by decide) (by decide) (by decide) (by rw [hml]; rfl) (hb hby at_75) (pc' := 78) rfl ?_
  rintro T10 _ _ ⟨rfl, e10, rfl⟩ X10
  rw [List.append_nil] at X10
  show Goes p e below T10 (mkF m 78 #[.val (.int p0), .val (.int p1), .val (.int p2), .val (.ref a), .val (.int (1 : Int32)), .unset, .unset] [(.int (vv p0 p1 (2 : Int32))), (.ref a)]) _
  refine G.callV X10 hx hZ (y0 := (⟨"com/example/cevap/cevap/kg/IntList", "add", "(I)V"⟩ : MethodName)) (y := (⟨"com/example/cevap/cevap/kg/IntList", "add", "(I)V"⟩ : MethodName)) hown (hw _ (List.mem_of_getElem? (i := 23) rfl)) (hw _ (List.mem_of_getElem? (i := 24) rfl)) (notFace_of_selects (args := #[]) (mvT hZ (hw _ (List.mem_of_getElem? (i := 26) rfl)))) (hw _ (List.mem_of_getElem? (i := 26) rfl)) (hw _ (List.mem_of_getElem? (i := 25) rfl)) (hw _ (List.mem_of_getElem? (i := 2) rfl)) (hw _ (List.mem_of_getElem? (i := 27) rfl)) (by decide) e10 (rm := ({ frames := 0, cells := 0, slots := 0, locals := 0 } : Room)) (argsL := [(.int (vv p0 p1 (2 : Int32)))]) (S := []) (W := 0) (a := a) E9_a (rm_add l Z a0 hw a b (vv p0 p1 (2 : Int32)) (2 : Int32) [(.int (vv p0 p1 (0 : Int32))), (.int (vv p0 p1 (1 : Int32))), (.int (0 : Int32)), (.int (0 : Int32)), (.int (0 : Int32)), (.int (0 : Int32)), (.int (0 : Int32)), (.int (0 : Int32)), (.int (0 : Int32)), (.int (0 : Int32)), (.int (0 : Int32)), (.int (0 : Int32)), (.int (0 : Int32)), (.int (0 : Int32)), (.int (0 : Int32)), (.int (0 : Int32))] T9.heap E9_a Fs9' Fv9 A9' ne_a_b rfl (by decide) (by decide) (Nat.le_of_ble_eq_true rfl)) (lenOf pd_8 rfl) rfl (Nat.le_of_eq rfl) (by decide) (by decide) (by decide) (by decide) (by rw [hml]; rfl) (hb hby at_78) (pc' := 81) rfl ?_
  rintro T11 _ L11 ⟨rfl, Kq11, Fv11, Fs11, A11⟩ X11
  have E11_a := Exa.keep E9_a Kq11.1
  have K11 := Kp.call K9 Kq11 (allS (Or.inr sz_a) (allS (Or.inr sz_b) all0))
  have Fs11' : Fld Z T11.heap a "com/example/cevap/cevap/kg/IntList" "size" "I" (.int (3 : Int32)) := Fs11
  have A11' : Seq Z T11.heap b .int [(.int (vv p0 p1 (0 : Int32))), (.int (vv p0 p1 (1 : Int32))), (.int (vv p0 p1 (2 : Int32))), (.int (0 : Int32)), (.int (0 : Int32)), (.int (0 : Int32)), (.int (0 : Int32)), (.int (0 : Int32)), (.int (0 : Int32)), (.int (0 : Int32)), (.int (0 : Int32)), (.int (0 : Int32)), (.int (0 : Int32)), (.int (0 : Int32)), (.int (0 : Int32)), (.int (0 : Int32))] := A11
  show Goes p e below T11 (mkF m 81 #[.val (.int p0), .val (.int p1), .val (.int p2), .val (.ref a), .val (.int (1 : Int32)), .unset, .unset] []) _
  refine G.aloadN X11 hx (pc' := 82) (hb hby at_81) rfl rfl rfl ?_
  refine G.iloadN X11 hx (pc' := 83) (hb hby at_82) rfl rfl ?_
  refine G.iloadN X11 hx (pc' := 84) (hb hby at_83) rfl rfl ?_
  refine G.iconst X11 hx (pc' := 85) (hb hby at_84) (z := (3 : Int32)) rfl rfl ?_
  refine G.callS X11 hx hZ (y := (⟨"com/example/cevap/cevap/kg/IntListAddPinLaw", "v", "(III)I"⟩ : MethodName)) hown (hw _ (List.mem_of_getElem? (i := 19) rfl)) (hw _ (List.mem_of_getElem? (i := 20) rfl)) (hw _ (List.mem_of_getElem? (i := 21) rfl)) (hw _ (List.mem_of_getElem? (i := 22) rfl)) (by decide) rfl (rm := ({ frames := 0, cells := 0, slots := 0, locals := 0 } : Room)) (argsL := [(.int p0), (.int p1), (.int (3 : Int32))]) (S := [(.ref a)]) (W := 1) (rm_v l Z a0 hw p0 p1 (3 : Int32) T11.heap) (lenOf pd_7 rfl) rfl (Nat.le_of_eq rfl) (by decide) (by decide) (by decide) (by decide) (by rw [hml]; rfl) (hb hby at_85) (pc' := 88) rfl ?_
  rintro T12 _ _ ⟨rfl, e12, rfl⟩ X12
  rw [List.append_nil] at X12
  show Goes p e below T12 (mkF m 88 #[.val (.int p0), .val (.int p1), .val (.int p2), .val (.ref a), .val (.int (1 : Int32)), .unset, .unset] [(.int (vv p0 p1 (3 : Int32))), (.ref a)]) _
  refine G.callV X12 hx hZ (y0 := (⟨"com/example/cevap/cevap/kg/IntList", "add", "(I)V"⟩ : MethodName)) (y := (⟨"com/example/cevap/cevap/kg/IntList", "add", "(I)V"⟩ : MethodName)) hown (hw _ (List.mem_of_getElem? (i := 23) rfl)) (hw _ (List.mem_of_getElem? (i := 24) rfl)) (notFace_of_selects (args := #[]) (mvT hZ (hw _ (List.mem_of_getElem? (i := 26) rfl)))) (hw _ (List.mem_of_getElem? (i := 26) rfl)) (hw _ (List.mem_of_getElem? (i := 25) rfl)) (hw _ (List.mem_of_getElem? (i := 2) rfl)) (hw _ (List.mem_of_getElem? (i := 27) rfl)) (by decide) e12 (rm := ({ frames := 0, cells := 0, slots := 0, locals := 0 } : Room)) (argsL := [(.int (vv p0 p1 (3 : Int32)))]) (S := []) (W := 0) (a := a) E11_a (rm_add l Z a0 hw a b (vv p0 p1 (3 : Int32)) (3 : Int32) [(.int (vv p0 p1 (0 : Int32))), (.int (vv p0 p1 (1 : Int32))), (.int (vv p0 p1 (2 : Int32))), (.int (0 : Int32)), (.int (0 : Int32)), (.int (0 : Int32)), (.int (0 : Int32)), (.int (0 : Int32)), (.int (0 : Int32)), (.int (0 : Int32)), (.int (0 : Int32)), (.int (0 : Int32)), (.int (0 : Int32)), (.int (0 : Int32)), (.int (0 : Int32)), (.int (0 : Int32))] T11.heap E11_a Fs11' Fv11 A11' ne_a_b rfl (by decide) (by decide) (Nat.le_of_ble_eq_true rfl)) (lenOf pd_8 rfl) rfl (Nat.le_of_eq rfl) (by decide) (by decide) (by decide) (by decide) (by rw [hml]; rfl) (hb hby at_88) (pc' := 91) rfl ?_
  rintro T13 _ L13 ⟨rfl, Kq13, Fv13, Fs13, A13⟩ X13
  have E13_a := Exa.keep E11_a Kq13.1
  have K13 := Kp.call K11 Kq13 (allS (Or.inr sz_a) (allS (Or.inr sz_b) all0))
  have Fs13' : Fld Z T13.heap a "com/example/cevap/cevap/kg/IntList" "size" "I" (.int (4 : Int32)) := Fs13
  have A13' : Seq Z T13.heap b .int [(.int (vv p0 p1 (0 : Int32))), (.int (vv p0 p1 (1 : Int32))), (.int (vv p0 p1 (2 : Int32))), (.int (vv p0 p1 (3 : Int32))), (.int (0 : Int32)), (.int (0 : Int32)), (.int (0 : Int32)), (.int (0 : Int32)), (.int (0 : Int32)), (.int (0 : Int32)), (.int (0 : Int32)), (.int (0 : Int32)), (.int (0 : Int32)), (.int (0 : Int32)), (.int (0 : Int32)), (.int (0 : Int32))] := A13
  show Goes p e below T13 (mkF m 91 #[.val (.int p0), .val (.int p1), .val (.int p2), .val (.ref a), .val (.int (1 : Int32)), .unset, .unset] []) _
  refine G.aloadN X13 hx (pc' := 92) (hb hby at_91) rfl rfl rfl ?_
  refine G.iloadN X13 hx (pc' := 93) (hb hby at_92) rfl rfl ?_
  refine G.iloadN X13 hx (pc' := 94) (hb hby at_93) rfl rfl ?_
  refine G.iconst X13 hx (pc' := 95) (hb hby at_94) (z := (4 : Int32)) rfl rfl ?_
  refine G.callS X13 hx hZ (y := (⟨"com/example/cevap/cevap/kg/IntListAddPinLaw", "v", "(III)I"⟩ : MethodName)) hown (hw _ (List.mem_of_getElem? (i := 19) rfl)) (hw _ (List.mem_of_getElem? (i := 20) rfl)) (hw _ (List.mem_of_getElem? (i := 21) rfl)) (hw _ (List.mem_of_getElem? (i := 22) rfl)) (by decide) rfl (rm := ({ frames := 0, cells := 0, slots := 0, locals := 0 } : Room)) (argsL := [(.int p0), (.int p1), (.int (4 : Int32))]) (S := [(.ref a)]) (W := 1) (rm_v l Z a0 hw p0 p1 (4 : Int32) T13.heap) (lenOf pd_7 rfl) rfl (Nat.le_of_eq rfl) (by decide) (by decide) (by decide) (by decide) (by rw [hml]; rfl) (hb hby at_95) (pc' := 98) rfl ?_
  rintro T14 _ _ ⟨rfl, e14, rfl⟩ X14
  rw [List.append_nil] at X14
  show Goes p e below T14 (mkF m 98 #[.val (.int p0), .val (.int p1), .val (.int p2), .val (.ref a), .val (.int (1 : Int32)), .unset, .unset] [(.int (vv p0 p1 (4 : Int32))), (.ref a)]) _
  refine G.callV X14 hx hZ (y0 := (⟨"com/example/cevap/cevap/kg/IntList", "add", "(I)V"⟩ : MethodName)) (y := (⟨"com/example/cevap/cevap/kg/IntList", "add", "(I)V"⟩ : MethodName)) hown (hw _ (List.mem_of_getElem? (i := 23) rfl)) (hw _ (List.mem_of_getElem? (i := 24) rfl)) (notFace_of_selects (args := #[]) (mvT hZ (hw _ (List.mem_of_getElem? (i := 26) rfl)))) (hw _ (List.mem_of_getElem? (i := 26) rfl)) (hw _ (List.mem_of_getElem? (i := 25) rfl)) (hw _ (List.mem_of_getElem? (i := 2) rfl)) (hw _ (List.mem_of_getElem? (i := 27) rfl)) (by decide) e14 (rm := ({ frames := 0, cells := 0, slots := 0, locals := 0 } : Room)) (argsL := [(.int (vv p0 p1 (4 : Int32)))]) (S := []) (W := 0) (a := a) E13_a (rm_add l Z a0 hw a b (vv p0 p1 (4 : Int32)) (4 : Int32) [(.int (vv p0 p1 (0 : Int32))), (.int (vv p0 p1 (1 : Int32))), (.int (vv p0 p1 (2 : Int32))), (.int (vv p0 p1 (3 : Int32))), (.int (0 : Int32)), (.int (0 : Int32)), (.int (0 : Int32)), (.int (0 : Int32)), (.int (0 : Int32)), (.int (0 : Int32)), (.int (0 : Int32)), (.int (0 : Int32)), (.int (0 : Int32)), (.int (0 : Int32)), (.int (0 : Int32)), (.int (0 : Int32))] T13.heap E13_a Fs13' Fv13 A13' ne_a_b rfl (by decide) (by decide) (Nat.le_of_ble_eq_true rfl)) (lenOf pd_8 rfl) rfl (Nat.le_of_eq rfl) (by decide) (by decide) (by decide) (by decide) (by rw [hml]; rfl) (hb hby at_98) (pc' := 101) rfl ?_
  rintro T15 _ L15 ⟨rfl, Kq15, Fv15, Fs15, A15⟩ X15
  have E15_a := Exa.keep E13_a Kq15.1
  have K15 := Kp.call K13 Kq15 (allS (Or.inr sz_a) (allS (Or.inr sz_b) all0))
  have Fs15' : Fld Z T15.heap a "com/example/cevap/cevap/kg/IntList" "size" "I" (.int (5 : Int32)) := Fs15
  have A15' : Seq Z T15.heap b .int [(.int (vv p0 p1 (0 : Int32))), (.int (vv p0 p1 (1 : Int32))), (.int (vv p0 p1 (2 : Int32))), (.int (vv p0 p1 (3 : Int32))), (.int (vv p0 p1 (4 : Int32))), (.int (0 : Int32)), (.int (0 : Int32)), (.int (0 : Int32)), (.int (0 : Int32)), (.int (0 : Int32)), (.int (0 : Int32)), (.int (0 : Int32)), (.int (0 : Int32)), (.int (0 : Int32)), (.int (0 : Int32)), (.int (0 : Int32))] := A15
  show Goes p e below T15 (mkF m 101 #[.val (.int p0), .val (.int p1), .val (.int p2), .val (.ref a), .val (.int (1 : Int32)), .unset, .unset] []) _
  refine G.aloadN X15 hx (pc' := 102) (hb hby at_101) rfl rfl rfl ?_
  refine G.iloadN X15 hx (pc' := 103) (hb hby at_102) rfl rfl ?_
  refine G.iloadN X15 hx (pc' := 104) (hb hby at_103) rfl rfl ?_
  refine G.iconst X15 hx (pc' := 105) (hb hby at_104) (z := (5 : Int32)) rfl rfl ?_
  refine G.callS X15 hx hZ (y := (⟨"com/example/cevap/cevap/kg/IntListAddPinLaw", "v", "(III)I"⟩ : MethodName)) hown (hw _ (List.mem_of_getElem? (i := 19) rfl)) (hw _ (List.mem_of_getElem? (i := 20) rfl)) (hw _ (List.mem_of_getElem? (i := 21) rfl)) (hw _ (List.mem_of_getElem? (i := 22) rfl)) (by decide) rfl (rm := ({ frames := 0, cells := 0, slots := 0, locals := 0 } : Room)) (argsL := [(.int p0), (.int p1), (.int (5 : Int32))]) (S := [(.ref a)]) (W := 1) (rm_v l Z a0 hw p0 p1 (5 : Int32) T15.heap) (lenOf pd_7 rfl) rfl (Nat.le_of_eq rfl) (by decide) (by decide) (by decide) (by decide) (by rw [hml]; rfl) (hb hby at_105) (pc' := 108) rfl ?_
  rintro T16 _ _ ⟨rfl, e16, rfl⟩ X16
  rw [List.append_nil] at X16
  show Goes p e below T16 (mkF m 108 #[.val (.int p0), .val (.int p1), .val (.int p2), .val (.ref a), .val (.int (1 : Int32)), .unset, .unset] [(.int (vv p0 p1 (5 : Int32))), (.ref a)]) _
  refine G.callV X16 hx hZ (y0 := (⟨"com/example/cevap/cevap/kg/IntList", "add", "(I)V"⟩ : MethodName)) (y := (⟨"com/example/cevap/cevap/kg/IntList", "add", "(I)V"⟩ : MethodName)) hown (hw _ (List.mem_of_getElem? (i := 23) rfl)) (hw _ (List.mem_of_getElem? (i := 24) rfl)) (notFace_of_selects (args := #[]) (mvT hZ (hw _ (List.mem_of_getElem? (i := 26) rfl)))) (hw _ (List.mem_of_getElem? (i := 26) rfl)) (hw _ (List.mem_of_getElem? (i := 25) rfl)) (hw _ (List.mem_of_getElem? (i := 2) rfl)) (hw _ (List.mem_of_getElem? (i := 27) rfl)) (by decide) e16 (rm := ({ frames := 0, cells := 0, slots := 0, locals := 0 } : Room)) (argsL := [(.int (vv p0 p1 (5 : Int32)))]) (S := []) (W := 0) (a := a) E15_a (rm_add l Z a0 hw a b (vv p0 p1 (5 : Int32)) (5 : Int32) [(.int (vv p0 p1 (0 : Int32))), (.int (vv p0 p1 (1 : Int32))), (.int (vv p0 p1 (2 : Int32))), (.int (vv p0 p1 (3 : Int32))), (.int (vv p0 p1 (4 : Int32))), (.int (0 : Int32)), (.int (0 : Int32)), (.int (0 : Int32)), (.int (0 : Int32)), (.int (0 : Int32)), (.int (0 : Int32)), (.int (0 : Int32)), (.int (0 : Int32)), (.int (0 : Int32)), (.int (0 : Int32)), (.int (0 : Int32))] T15.heap E15_a Fs15' Fv15 A15' ne_a_b rfl (by decide) (by decide) (Nat.le_of_ble_eq_true rfl)) (lenOf pd_8 rfl) rfl (Nat.le_of_eq rfl) (by decide) (by decide) (by decide) (by decide) (by rw [hml]; rfl) (hb hby at_108) (pc' := 111) rfl ?_
  rintro T17 _ L17 ⟨rfl, Kq17, Fv17, Fs17, A17⟩ X17
  have E17_a := Exa.keep E15_a Kq17.1
  have K17 := Kp.call K15 Kq17 (allS (Or.inr sz_a) (allS (Or.inr sz_b) all0))
  have Fs17' : Fld Z T17.heap a "com/example/cevap/cevap/kg/IntList" "size" "I" (.int (6 : Int32)) := Fs17
  have A17' : Seq Z T17.heap b .int [(.int (vv p0 p1 (0 : Int32))), (.int (vv p0 p1 (1 : Int32))), (.int (vv p0 p1 (2 : Int32))), (.int (vv p0 p1 (3 : Int32))), (.int (vv p0 p1 (4 : Int32))), (.int (vv p0 p1 (5 : Int32))), (.int (0 : Int32)), (.int (0 : Int32)), (.int (0 : Int32)), (.int (0 : Int32)), (.int (0 : Int32)), (.int (0 : Int32)), (.int (0 : Int32)), (.int (0 : Int32)), (.int (0 : Int32)), (.int (0 : Int32))] := A17
  show Goes p e below T17 (mkF m 111 #[.val (.int p0), .val (.int p1), .val (.int p2), .val (.ref a), .val (.int (1 : Int32)), .unset, .unset] []) _
  refine G.aloadN X17 hx (pc' := 112) (hb hby at_111) rfl rfl rfl ?_
  refine G.iloadN X17 hx (pc' := 113) (hb hby at_112) rfl rfl ?_
  refine G.iloadN X17 hx (pc' := 114) (hb hby at_113) rfl rfl ?_
  refine G.bipush X17 hx (pc' := 116) (hb hby at_114) (z := (6 : Int32)) rfl rfl ?_
  refine G.callS X17 hx hZ (y := (⟨"com/example/cevap/cevap/kg/IntListAddPinLaw", "v", "(III)I"⟩ : MethodName)) hown (hw _ (List.mem_of_getElem? (i := 19) rfl)) (hw _ (List.mem_of_getElem? (i := 20) rfl)) (hw _ (List.mem_of_getElem? (i := 21) rfl)) (hw _ (List.mem_of_getElem? (i := 22) rfl)) (by decide) rfl (rm := ({ frames := 0, cells := 0, slots := 0, locals := 0 } : Room)) (argsL := [(.int p0), (.int p1), (.int (6 : Int32))]) (S := [(.ref a)]) (W := 1) (rm_v l Z a0 hw p0 p1 (6 : Int32) T17.heap) (lenOf pd_7 rfl) rfl (Nat.le_of_eq rfl) (by decide) (by decide) (by decide) (by decide) (by rw [hml]; rfl) (hb hby at_116) (pc' := 119) rfl ?_
  rintro T18 _ _ ⟨rfl, e18, rfl⟩ X18
  rw [List.append_nil] at X18
  show Goes p e below T18 (mkF m 119 #[.val (.int p0), .val (.int p1), .val (.int p2), .val (.ref a), .val (.int (1 : Int32)), .unset, .unset] [(.int (vv p0 p1 (6 : Int32))), (.ref a)]) _
  refine G.callV X18 hx hZ (y0 := (⟨"com/example/cevap/cevap/kg/IntList", "add", "(I)V"⟩ : MethodName)) (y := (⟨"com/example/cevap/cevap/kg/IntList", "add", "(I)V"⟩ : MethodName)) hown (hw _ (List.mem_of_getElem? (i := 23) rfl)) (hw _ (List.mem_of_getElem? (i := 24) rfl)) (notFace_of_selects (args := #[]) (mvT hZ (hw _ (List.mem_of_getElem? (i := 26) rfl)))) (hw _ (List.mem_of_getElem? (i := 26) rfl)) (hw _ (List.mem_of_getElem? (i := 25) rfl)) (hw _ (List.mem_of_getElem? (i := 2) rfl)) (hw _ (List.mem_of_getElem? (i := 27) rfl)) (by decide) e18 (rm := ({ frames := 0, cells := 0, slots := 0, locals := 0 } : Room)) (argsL := [(.int (vv p0 p1 (6 : Int32)))]) (S := []) (W := 0) (a := a) E17_a (rm_add l Z a0 hw a b (vv p0 p1 (6 : Int32)) (6 : Int32) [(.int (vv p0 p1 (0 : Int32))), (.int (vv p0 p1 (1 : Int32))), (.int (vv p0 p1 (2 : Int32))), (.int (vv p0 p1 (3 : Int32))), (.int (vv p0 p1 (4 : Int32))), (.int (vv p0 p1 (5 : Int32))), (.int (0 : Int32)), (.int (0 : Int32)), (.int (0 : Int32)), (.int (0 : Int32)), (.int (0 : Int32)), (.int (0 : Int32)), (.int (0 : Int32)), (.int (0 : Int32)), (.int (0 : Int32)), (.int (0 : Int32))] T17.heap E17_a Fs17' Fv17 A17' ne_a_b rfl (by decide) (by decide) (Nat.le_of_ble_eq_true rfl)) (lenOf pd_8 rfl) rfl (Nat.le_of_eq rfl) (by decide) (by decide) (by decide) (by decide) (by rw [hml]; rfl) (hb hby at_119) (pc' := 122) rfl ?_
  rintro T19 _ L19 ⟨rfl, Kq19, Fv19, Fs19, A19⟩ X19
  have E19_a := Exa.keep E17_a Kq19.1
  have K19 := Kp.call K17 Kq19 (allS (Or.inr sz_a) (allS (Or.inr sz_b) all0))
  have Fs19' : Fld Z T19.heap a "com/example/cevap/cevap/kg/IntList" "size" "I" (.int (7 : Int32)) := Fs19
  have A19' : Seq Z T19.heap b .int [(.int (vv p0 p1 (0 : Int32))), (.int (vv p0 p1 (1 : Int32))), (.int (vv p0 p1 (2 : Int32))), (.int (vv p0 p1 (3 : Int32))), (.int (vv p0 p1 (4 : Int32))), (.int (vv p0 p1 (5 : Int32))), (.int (vv p0 p1 (6 : Int32))), (.int (0 : Int32)), (.int (0 : Int32)), (.int (0 : Int32)), (.int (0 : Int32)), (.int (0 : Int32)), (.int (0 : Int32)), (.int (0 : Int32)), (.int (0 : Int32)), (.int (0 : Int32))] := A19
  show Goes p e below T19 (mkF m 122 #[.val (.int p0), .val (.int p1), .val (.int p2), .val (.ref a), .val (.int (1 : Int32)), .unset, .unset] []) _
  refine G.aloadN X19 hx (pc' := 123) (hb hby at_122) rfl rfl rfl ?_
  refine G.iloadN X19 hx (pc' := 124) (hb hby at_123) rfl rfl ?_
  refine G.iloadN X19 hx (pc' := 125) (hb hby at_124) rfl rfl ?_
  refine G.bipush X19 hx (pc' := 127) (hb hby at_125) (z := (7 : Int32)) rfl rfl ?_
  refine G.callS X19 hx hZ (y := (⟨"com/example/cevap/cevap/kg/IntListAddPinLaw", "v", "(III)I"⟩ : MethodName)) hown (hw _ (List.mem_of_getElem? (i := 19) rfl)) (hw _ (List.mem_of_getElem? (i := 20) rfl)) (hw _ (List.mem_of_getElem? (i := 21) rfl)) (hw _ (List.mem_of_getElem? (i := 22) rfl)) (by decide) rfl (rm := ({ frames := 0, cells := 0, slots := 0, locals := 0 } : Room)) (argsL := [(.int p0), (.int p1), (.int (7 : Int32))]) (S := [(.ref a)]) (W := 1) (rm_v l Z a0 hw p0 p1 (7 : Int32) T19.heap) (lenOf pd_7 rfl) rfl (Nat.le_of_eq rfl) (by decide) (by decide) (by decide) (by decide) (by rw [hml]; rfl) (hb hby at_127) (pc' := 130) rfl ?_
  rintro T20 _ _ ⟨rfl, e20, rfl⟩ X20
  rw [List.append_nil] at X20
  show Goes p e below T20 (mkF m 130 #[.val (.int p0), .val (.int p1), .val (.int p2), .val (.ref a), .val (.int (1 : Int32)), .unset, .unset] [(.int (vv p0 p1 (7 : Int32))), (.ref a)]) _
  refine G.callV X20 hx hZ (y0 := (⟨"com/example/cevap/cevap/kg/IntList", "add", "(I)V"⟩ : MethodName)) (y := (⟨"com/example/cevap/cevap/kg/IntList", "add", "(I)V"⟩ : MethodName)) hown (hw _ (List.mem_of_getElem? (i := 23) rfl)) (hw _ (List.mem_of_getElem? (i := 24) rfl)) (notFace_of_selects (args := #[]) (mvT hZ (hw _ (List.mem_of_getElem? (i := 26) rfl)))) (hw _ (List.mem_of_getElem? (i := 26) rfl)) (hw _ (List.mem_of_getElem? (i := 25) rfl)) (hw _ (List.mem_of_getElem? (i := 2) rfl)) (hw _ (List.mem_of_getElem? (i := 27) rfl)) (by decide) e20 (rm := ({ frames := 0, cells := 0, slots := 0, locals := 0 } : Room)) (argsL := [(.int (vv p0 p1 (7 : Int32)))]) (S := []) (W := 0) (a := a) E19_a (rm_add l Z a0 hw a b (vv p0 p1 (7 : Int32)) (7 : Int32) [(.int (vv p0 p1 (0 : Int32))), (.int (vv p0 p1 (1 : Int32))), (.int (vv p0 p1 (2 : Int32))), (.int (vv p0 p1 (3 : Int32))), (.int (vv p0 p1 (4 : Int32))), (.int (vv p0 p1 (5 : Int32))), (.int (vv p0 p1 (6 : Int32))), (.int (0 : Int32)), (.int (0 : Int32)), (.int (0 : Int32)), (.int (0 : Int32)), (.int (0 : Int32)), (.int (0 : Int32)), (.int (0 : Int32)), (.int (0 : Int32)), (.int (0 : Int32))] T19.heap E19_a Fs19' Fv19 A19' ne_a_b rfl (by decide) (by decide) (Nat.le_of_ble_eq_true rfl)) (lenOf pd_8 rfl) rfl (Nat.le_of_eq rfl) (by decide) (by decide) (by decide) (by decide) (by rw [hml]; rfl) (hb hby at_130) (pc' := 133) rfl ?_
  rintro T21 _ L21 ⟨rfl, Kq21, Fv21, Fs21, A21⟩ X21
  have E21_a := Exa.keep E19_a Kq21.1
  have K21 := Kp.call K19 Kq21 (allS (Or.inr sz_a) (allS (Or.inr sz_b) all0))
  have Fs21' : Fld Z T21.heap a "com/example/cevap/cevap/kg/IntList" "size" "I" (.int (8 : Int32)) := Fs21
  have A21' : Seq Z T21.heap b .int [(.int (vv p0 p1 (0 : Int32))), (.int (vv p0 p1 (1 : Int32))), (.int (vv p0 p1 (2 : Int32))), (.int (vv p0 p1 (3 : Int32))), (.int (vv p0 p1 (4 : Int32))), (.int (vv p0 p1 (5 : Int32))), (.int (vv p0 p1 (6 : Int32))), (.int (vv p0 p1 (7 : Int32))), (.int (0 : Int32)), (.int (0 : Int32)), (.int (0 : Int32)), (.int (0 : Int32)), (.int (0 : Int32)), (.int (0 : Int32)), (.int (0 : Int32)), (.int (0 : Int32))] := A21
  show Goes p e below T21 (mkF m 133 #[.val (.int p0), .val (.int p1), .val (.int p2), .val (.ref a), .val (.int (1 : Int32)), .unset, .unset] []) _
  refine G.aloadN X21 hx (pc' := 134) (hb hby at_133) rfl rfl rfl ?_
  refine G.iloadN X21 hx (pc' := 135) (hb hby at_134) rfl rfl ?_
  refine G.iloadN X21 hx (pc' := 136) (hb hby at_135) rfl rfl ?_
  refine G.bipush X21 hx (pc' := 138) (hb hby at_136) (z := (8 : Int32)) rfl rfl ?_
  refine G.callS X21 hx hZ (y := (⟨"com/example/cevap/cevap/kg/IntListAddPinLaw", "v", "(III)I"⟩ : MethodName)) hown (hw _ (List.mem_of_getElem? (i := 19) rfl)) (hw _ (List.mem_of_getElem? (i := 20) rfl)) (hw _ (List.mem_of_getElem? (i := 21) rfl)) (hw _ (List.mem_of_getElem? (i := 22) rfl)) (by decide) rfl (rm := ({ frames := 0, cells := 0, slots := 0, locals := 0 } : Room)) (argsL := [(.int p0), (.int p1), (.int (8 : Int32))]) (S := [(.ref a)]) (W := 1) (rm_v l Z a0 hw p0 p1 (8 : Int32) T21.heap) (lenOf pd_7 rfl) rfl (Nat.le_of_eq rfl) (by decide) (by decide) (by decide) (by decide) (by rw [hml]; rfl) (hb hby at_138) (pc' := 141) rfl ?_
  rintro T22 _ _ ⟨rfl, e22, rfl⟩ X22
  rw [List.append_nil] at X22
  show Goes p e below T22 (mkF m 141 #[.val (.int p0), .val (.int p1), .val (.int p2), .val (.ref a), .val (.int (1 : Int32)), .unset, .unset] [(.int (vv p0 p1 (8 : Int32))), (.ref a)]) _
  refine G.callV X22 hx hZ (y0 := (⟨"com/example/cevap/cevap/kg/IntList", "add", "(I)V"⟩ : MethodName)) (y := (⟨"com/example/cevap/cevap/kg/IntList", "add", "(I)V"⟩ : MethodName)) hown (hw _ (List.mem_of_getElem? (i := 23) rfl)) (hw _ (List.mem_of_getElem? (i := 24) rfl)) (notFace_of_selects (args := #[]) (mvT hZ (hw _ (List.mem_of_getElem? (i := 26) rfl)))) (hw _ (List.mem_of_getElem? (i := 26) rfl)) (hw _ (List.mem_of_getElem? (i := 25) rfl)) (hw _ (List.mem_of_getElem? (i := 2) rfl)) (hw _ (List.mem_of_getElem? (i := 27) rfl)) (by decide) e22 (rm := ({ frames := 0, cells := 0, slots := 0, locals := 0 } : Room)) (argsL := [(.int (vv p0 p1 (8 : Int32)))]) (S := []) (W := 0) (a := a) E21_a (rm_add l Z a0 hw a b (vv p0 p1 (8 : Int32)) (8 : Int32) [(.int (vv p0 p1 (0 : Int32))), (.int (vv p0 p1 (1 : Int32))), (.int (vv p0 p1 (2 : Int32))), (.int (vv p0 p1 (3 : Int32))), (.int (vv p0 p1 (4 : Int32))), (.int (vv p0 p1 (5 : Int32))), (.int (vv p0 p1 (6 : Int32))), (.int (vv p0 p1 (7 : Int32))), (.int (0 : Int32)), (.int (0 : Int32)), (.int (0 : Int32)), (.int (0 : Int32)), (.int (0 : Int32)), (.int (0 : Int32)), (.int (0 : Int32)), (.int (0 : Int32))] T21.heap E21_a Fs21' Fv21 A21' ne_a_b rfl (by decide) (by decide) (Nat.le_of_ble_eq_true rfl)) (lenOf pd_8 rfl) rfl (Nat.le_of_eq rfl) (by decide) (by decide) (by decide) (by decide) (by rw [hml]; rfl) (hb hby at_141) (pc' := 144) rfl ?_
  rintro T23 _ L23 ⟨rfl, Kq23, Fv23, Fs23, A23⟩ X23
  have E23_a := Exa.keep E21_a Kq23.1
  have K23 := Kp.call K21 Kq23 (allS (Or.inr sz_a) (allS (Or.inr sz_b) all0))
  have Fs23' : Fld Z T23.heap a "com/example/cevap/cevap/kg/IntList" "size" "I" (.int (9 : Int32)) := Fs23
  have A23' : Seq Z T23.heap b .int [(.int (vv p0 p1 (0 : Int32))), (.int (vv p0 p1 (1 : Int32))), (.int (vv p0 p1 (2 : Int32))), (.int (vv p0 p1 (3 : Int32))), (.int (vv p0 p1 (4 : Int32))), (.int (vv p0 p1 (5 : Int32))), (.int (vv p0 p1 (6 : Int32))), (.int (vv p0 p1 (7 : Int32))), (.int (vv p0 p1 (8 : Int32))), (.int (0 : Int32)), (.int (0 : Int32)), (.int (0 : Int32)), (.int (0 : Int32)), (.int (0 : Int32)), (.int (0 : Int32)), (.int (0 : Int32))] := A23
  show Goes p e below T23 (mkF m 144 #[.val (.int p0), .val (.int p1), .val (.int p2), .val (.ref a), .val (.int (1 : Int32)), .unset, .unset] []) _
  refine G.aloadN X23 hx (pc' := 145) (hb hby at_144) rfl rfl rfl ?_
  refine G.iloadN X23 hx (pc' := 146) (hb hby at_145) rfl rfl ?_
  refine G.iloadN X23 hx (pc' := 147) (hb hby at_146) rfl rfl ?_
  refine G.bipush X23 hx (pc' := 149) (hb hby at_147) (z := (9 : Int32)) rfl rfl ?_
  refine G.callS X23 hx hZ (y := (⟨"com/example/cevap/cevap/kg/IntListAddPinLaw", "v", "(III)I"⟩ : MethodName)) hown (hw _ (List.mem_of_getElem? (i := 19) rfl)) (hw _ (List.mem_of_getElem? (i := 20) rfl)) (hw _ (List.mem_of_getElem? (i := 21) rfl)) (hw _ (List.mem_of_getElem? (i := 22) rfl)) (by decide) rfl (rm := ({ frames := 0, cells := 0, slots := 0, locals := 0 } : Room)) (argsL := [(.int p0), (.int p1), (.int (9 : Int32))]) (S := [(.ref a)]) (W := 1) (rm_v l Z a0 hw p0 p1 (9 : Int32) T23.heap) (lenOf pd_7 rfl) rfl (Nat.le_of_eq rfl) (by decide) (by decide) (by decide) (by decide) (by rw [hml]; rfl) (hb hby at_149) (pc' := 152) rfl ?_
  rintro T24 _ _ ⟨rfl, e24, rfl⟩ X24
  rw [List.append_nil] at X24
  show Goes p e below T24 (mkF m 152 #[.val (.int p0), .val (.int p1), .val (.int p2), .val (.ref a), .val (.int (1 : Int32)), .unset, .unset] [(.int (vv p0 p1 (9 : Int32))), (.ref a)]) _
  refine G.callV X24 hx hZ (y0 := (⟨"com/example/cevap/cevap/kg/IntList", "add", "(I)V"⟩ : MethodName)) (y := (⟨"com/example/cevap/cevap/kg/IntList", "add", "(I)V"⟩ : MethodName)) hown (hw _ (List.mem_of_getElem? (i := 23) rfl)) (hw _ (List.mem_of_getElem? (i := 24) rfl)) (notFace_of_selects (args := #[]) (mvT hZ (hw _ (List.mem_of_getElem? (i := 26) rfl)))) (hw _ (List.mem_of_getElem? (i := 26) rfl)) (hw _ (List.mem_of_getElem? (i := 25) rfl)) (hw _ (List.mem_of_getElem? (i := 2) rfl)) (hw _ (List.mem_of_getElem? (i := 27) rfl)) (by decide) e24 (rm := ({ frames := 0, cells := 0, slots := 0, locals := 0 } : Room)) (argsL := [(.int (vv p0 p1 (9 : Int32)))]) (S := []) (W := 0) (a := a) E23_a (rm_add l Z a0 hw a b (vv p0 p1 (9 : Int32)) (9 : Int32) [(.int (vv p0 p1 (0 : Int32))), (.int (vv p0 p1 (1 : Int32))), (.int (vv p0 p1 (2 : Int32))), (.int (vv p0 p1 (3 : Int32))), (.int (vv p0 p1 (4 : Int32))), (.int (vv p0 p1 (5 : Int32))), (.int (vv p0 p1 (6 : Int32))), (.int (vv p0 p1 (7 : Int32))), (.int (vv p0 p1 (8 : Int32))), (.int (0 : Int32)), (.int (0 : Int32)), (.int (0 : Int32)), (.int (0 : Int32)), (.int (0 : Int32)), (.int (0 : Int32)), (.int (0 : Int32))] T23.heap E23_a Fs23' Fv23 A23' ne_a_b rfl (by decide) (by decide) (Nat.le_of_ble_eq_true rfl)) (lenOf pd_8 rfl) rfl (Nat.le_of_eq rfl) (by decide) (by decide) (by decide) (by decide) (by rw [hml]; rfl) (hb hby at_152) (pc' := 155) rfl ?_
  rintro T25 _ L25 ⟨rfl, Kq25, Fv25, Fs25, A25⟩ X25
  have E25_a := Exa.keep E23_a Kq25.1
  have K25 := Kp.call K23 Kq25 (allS (Or.inr sz_a) (allS (Or.inr sz_b) all0))
  have Fs25' : Fld Z T25.heap a "com/example/cevap/cevap/kg/IntList" "size" "I" (.int (10 : Int32)) := Fs25
  have A25' : Seq Z T25.heap b .int [(.int (vv p0 p1 (0 : Int32))), (.int (vv p0 p1 (1 : Int32))), (.int (vv p0 p1 (2 : Int32))), (.int (vv p0 p1 (3 : Int32))), (.int (vv p0 p1 (4 : Int32))), (.int (vv p0 p1 (5 : Int32))), (.int (vv p0 p1 (6 : Int32))), (.int (vv p0 p1 (7 : Int32))), (.int (vv p0 p1 (8 : Int32))), (.int (vv p0 p1 (9 : Int32))), (.int (0 : Int32)), (.int (0 : Int32)), (.int (0 : Int32)), (.int (0 : Int32)), (.int (0 : Int32)), (.int (0 : Int32))] := A25
  show Goes p e below T25 (mkF m 155 #[.val (.int p0), .val (.int p1), .val (.int p2), .val (.ref a), .val (.int (1 : Int32)), .unset, .unset] []) _
  refine G.aloadN X25 hx (pc' := 156) (hb hby at_155) rfl rfl rfl ?_
  refine G.iloadN X25 hx (pc' := 157) (hb hby at_156) rfl rfl ?_
  refine G.iloadN X25 hx (pc' := 158) (hb hby at_157) rfl rfl ?_
  refine G.bipush X25 hx (pc' := 160) (hb hby at_158) (z := (10 : Int32)) rfl rfl ?_
  refine G.callS X25 hx hZ (y := (⟨"com/example/cevap/cevap/kg/IntListAddPinLaw", "v", "(III)I"⟩ : MethodName)) hown (hw _ (List.mem_of_getElem? (i := 19) rfl)) (hw _ (List.mem_of_getElem? (i := 20) rfl)) (hw _ (List.mem_of_getElem? (i := 21) rfl)) (hw _ (List.mem_of_getElem? (i := 22) rfl)) (by decide) rfl (rm := ({ frames := 0, cells := 0, slots := 0, locals := 0 } : Room)) (argsL := [(.int p0), (.int p1), (.int (10 : Int32))]) (S := [(.ref a)]) (W := 1) (rm_v l Z a0 hw p0 p1 (10 : Int32) T25.heap) (lenOf pd_7 rfl) rfl (Nat.le_of_eq rfl) (by decide) (by decide) (by decide) (by decide) (by rw [hml]; rfl) (hb hby at_160) (pc' := 163) rfl ?_
  rintro T26 _ _ ⟨rfl, e26, rfl⟩ X26
  rw [List.append_nil] at X26
  show Goes p e below T26 (mkF m 163 #[.val (.int p0), .val (.int p1), .val (.int p2), .val (.ref a), .val (.int (1 : Int32)), .unset, .unset] [(.int (vv p0 p1 (10 : Int32))), (.ref a)]) _
  refine G.callV X26 hx hZ (y0 := (⟨"com/example/cevap/cevap/kg/IntList", "add", "(I)V"⟩ : MethodName)) (y := (⟨"com/example/cevap/cevap/kg/IntList", "add", "(I)V"⟩ : MethodName)) hown (hw _ (List.mem_of_getElem? (i := 23) rfl)) (hw _ (List.mem_of_getElem? (i := 24) rfl)) (notFace_of_selects (args := #[]) (mvT hZ (hw _ (List.mem_of_getElem? (i := 26) rfl)))) (hw _ (List.mem_of_getElem? (i := 26) rfl)) (hw _ (List.mem_of_getElem? (i := 25) rfl)) (hw _ (List.mem_of_getElem? (i := 2) rfl)) (hw _ (List.mem_of_getElem? (i := 27) rfl)) (by decide) e26 (rm := ({ frames := 0, cells := 0, slots := 0, locals := 0 } : Room)) (argsL := [(.int (vv p0 p1 (10 : Int32)))]) (S := []) (W := 0) (a := a) E25_a (rm_add l Z a0 hw a b (vv p0 p1 (10 : Int32)) (10 : Int32) [(.int (vv p0 p1 (0 : Int32))), (.int (vv p0 p1 (1 : Int32))), (.int (vv p0 p1 (2 : Int32))), (.int (vv p0 p1 (3 : Int32))), (.int (vv p0 p1 (4 : Int32))), (.int (vv p0 p1 (5 : Int32))), (.int (vv p0 p1 (6 : Int32))), (.int (vv p0 p1 (7 : Int32))), (.int (vv p0 p1 (8 : Int32))), (.int (vv p0 p1 (9 : Int32))), (.int (0 : Int32)), (.int (0 : Int32)), (.int (0 : Int32)), (.int (0 : Int32)), (.int (0 : Int32)), (.int (0 : Int32))] T25.heap E25_a Fs25' Fv25 A25' ne_a_b rfl (by decide) (by decide) (Nat.le_of_ble_eq_true rfl)) (lenOf pd_8 rfl) rfl (Nat.le_of_eq rfl) (by decide) (by decide) (by decide) (by decide) (by rw [hml]; rfl) (hb hby at_163) (pc' := 166) rfl ?_
  rintro T27 _ L27 ⟨rfl, Kq27, Fv27, Fs27, A27⟩ X27
  have E27_a := Exa.keep E25_a Kq27.1
  have K27 := Kp.call K25 Kq27 (allS (Or.inr sz_a) (allS (Or.inr sz_b) all0))
  have Fs27' : Fld Z T27.heap a "com/example/cevap/cevap/kg/IntList" "size" "I" (.int (11 : Int32)) := Fs27
  have A27' : Seq Z T27.heap b .int [(.int (vv p0 p1 (0 : Int32))), (.int (vv p0 p1 (1 : Int32))), (.int (vv p0 p1 (2 : Int32))), (.int (vv p0 p1 (3 : Int32))), (.int (vv p0 p1 (4 : Int32))), (.int (vv p0 p1 (5 : Int32))), (.int (vv p0 p1 (6 : Int32))), (.int (vv p0 p1 (7 : Int32))), (.int (vv p0 p1 (8 : Int32))), (.int (vv p0 p1 (9 : Int32))), (.int (vv p0 p1 (10 : Int32))), (.int (0 : Int32)), (.int (0 : Int32)), (.int (0 : Int32)), (.int (0 : Int32)), (.int (0 : Int32))] := A27
  show Goes p e below T27 (mkF m 166 #[.val (.int p0), .val (.int p1), .val (.int p2), .val (.ref a), .val (.int (1 : Int32)), .unset, .unset] []) _
  refine G.aloadN X27 hx (pc' := 167) (hb hby at_166) rfl rfl rfl ?_
  refine G.iloadN X27 hx (pc' := 168) (hb hby at_167) rfl rfl ?_
  refine G.iloadN X27 hx (pc' := 169) (hb hby at_168) rfl rfl ?_
  refine G.bipush X27 hx (pc' := 171) (hb hby at_169) (z := (11 : Int32)) rfl rfl ?_
  refine G.callS X27 hx hZ (y := (⟨"com/example/cevap/cevap/kg/IntListAddPinLaw", "v", "(III)I"⟩ : MethodName)) hown (hw _ (List.mem_of_getElem? (i := 19) rfl)) (hw _ (List.mem_of_getElem? (i := 20) rfl)) (hw _ (List.mem_of_getElem? (i := 21) rfl)) (hw _ (List.mem_of_getElem? (i := 22) rfl)) (by decide) rfl (rm := ({ frames := 0, cells := 0, slots := 0, locals := 0 } : Room)) (argsL := [(.int p0), (.int p1), (.int (11 : Int32))]) (S := [(.ref a)]) (W := 1) (rm_v l Z a0 hw p0 p1 (11 : Int32) T27.heap) (lenOf pd_7 rfl) rfl (Nat.le_of_eq rfl) (by decide) (by decide) (by decide) (by decide) (by rw [hml]; rfl) (hb hby at_171) (pc' := 174) rfl ?_
  rintro T28 _ _ ⟨rfl, e28, rfl⟩ X28
  rw [List.append_nil] at X28
  show Goes p e below T28 (mkF m 174 #[.val (.int p0), .val (.int p1), .val (.int p2), .val (.ref a), .val (.int (1 : Int32)), .unset, .unset] [(.int (vv p0 p1 (11 : Int32))), (.ref a)]) _
  refine G.callV X28 hx hZ (y0 := (⟨"com/example/cevap/cevap/kg/IntList", "add", "(I)V"⟩ : MethodName)) (y := (⟨"com/example/cevap/cevap/kg/IntList", "add", "(I)V"⟩ : MethodName)) hown (hw _ (List.mem_of_getElem? (i := 23) rfl)) (hw _ (List.mem_of_getElem? (i := 24) rfl)) (notFace_of_selects (args := #[]) (mvT hZ (hw _ (List.mem_of_getElem? (i := 26) rfl)))) (hw _ (List.mem_of_getElem? (i := 26) rfl)) (hw _ (List.mem_of_getElem? (i := 25) rfl)) (hw _ (List.mem_of_getElem? (i := 2) rfl)) (hw _ (List.mem_of_getElem? (i := 27) rfl)) (by decide) e28 (rm := ({ frames := 0, cells := 0, slots := 0, locals := 0 } : Room)) (argsL := [(.int (vv p0 p1 (11 : Int32)))]) (S := []) (W := 0) (a := a) E27_a (rm_add l Z a0 hw a b (vv p0 p1 (11 : Int32)) (11 : Int32) [(.int (vv p0 p1 (0 : Int32))), (.int (vv p0 p1 (1 : Int32))), (.int (vv p0 p1 (2 : Int32))), (.int (vv p0 p1 (3 : Int32))), (.int (vv p0 p1 (4 : Int32))), (.int (vv p0 p1 (5 : Int32))), (.int (vv p0 p1 (6 : Int32))), (.int (vv p0 p1 (7 : Int32))), (.int (vv p0 p1 (8 : Int32))), (.int (vv p0 p1 (9 : Int32))), (.int (vv p0 p1 (10 : Int32))), (.int (0 : Int32)), (.int (0 : Int32)), (.int (0 : Int32)), (.int (0 : Int32)), (.int (0 : Int32))] T27.heap E27_a Fs27' Fv27 A27' ne_a_b rfl (by decide) (by decide) (Nat.le_of_ble_eq_true rfl)) (lenOf pd_8 rfl) rfl (Nat.le_of_eq rfl) (by decide) (by decide) (by decide) (by decide) (by rw [hml]; rfl) (hb hby at_174) (pc' := 177) rfl ?_
  rintro T29 _ L29 ⟨rfl, Kq29, Fv29, Fs29, A29⟩ X29
  have E29_a := Exa.keep E27_a Kq29.1
  have K29 := Kp.call K27 Kq29 (allS (Or.inr sz_a) (allS (Or.inr sz_b) all0))
  have Fs29' : Fld Z T29.heap a "com/example/cevap/cevap/kg/IntList" "size" "I" (.int (12 : Int32)) := Fs29
  have A29' : Seq Z T29.heap b .int [(.int (vv p0 p1 (0 : Int32))), (.int (vv p0 p1 (1 : Int32))), (.int (vv p0 p1 (2 : Int32))), (.int (vv p0 p1 (3 : Int32))), (.int (vv p0 p1 (4 : Int32))), (.int (vv p0 p1 (5 : Int32))), (.int (vv p0 p1 (6 : Int32))), (.int (vv p0 p1 (7 : Int32))), (.int (vv p0 p1 (8 : Int32))), (.int (vv p0 p1 (9 : Int32))), (.int (vv p0 p1 (10 : Int32))), (.int (vv p0 p1 (11 : Int32))), (.int (0 : Int32)), (.int (0 : Int32)), (.int (0 : Int32)), (.int (0 : Int32))] := A29
  show Goes p e below T29 (mkF m 177 #[.val (.int p0), .val (.int p1), .val (.int p2), .val (.ref a), .val (.int (1 : Int32)), .unset, .unset] []) _
  refine G.aloadN X29 hx (pc' := 178) (hb hby at_177) rfl rfl rfl ?_
  refine G.iloadN X29 hx (pc' := 179) (hb hby at_178) rfl rfl ?_
  refine G.iloadN X29 hx (pc' := 180) (hb hby at_179) rfl rfl ?_
  refine G.bipush X29 hx (pc' := 182) (hb hby at_180) (z := (12 : Int32)) rfl rfl ?_
  refine G.callS X29 hx hZ (y := (⟨"com/example/cevap/cevap/kg/IntListAddPinLaw", "v", "(III)I"⟩ : MethodName)) hown (hw _ (List.mem_of_getElem? (i := 19) rfl)) (hw _ (List.mem_of_getElem? (i := 20) rfl)) (hw _ (List.mem_of_getElem? (i := 21) rfl)) (hw _ (List.mem_of_getElem? (i := 22) rfl)) (by decide) rfl (rm := ({ frames := 0, cells := 0, slots := 0, locals := 0 } : Room)) (argsL := [(.int p0), (.int p1), (.int (12 : Int32))]) (S := [(.ref a)]) (W := 1) (rm_v l Z a0 hw p0 p1 (12 : Int32) T29.heap) (lenOf pd_7 rfl) rfl (Nat.le_of_eq rfl) (by decide) (by decide) (by decide) (by decide) (by rw [hml]; rfl) (hb hby at_182) (pc' := 185) rfl ?_
  rintro T30 _ _ ⟨rfl, e30, rfl⟩ X30
  rw [List.append_nil] at X30
  show Goes p e below T30 (mkF m 185 #[.val (.int p0), .val (.int p1), .val (.int p2), .val (.ref a), .val (.int (1 : Int32)), .unset, .unset] [(.int (vv p0 p1 (12 : Int32))), (.ref a)]) _
  refine G.callV X30 hx hZ (y0 := (⟨"com/example/cevap/cevap/kg/IntList", "add", "(I)V"⟩ : MethodName)) (y := (⟨"com/example/cevap/cevap/kg/IntList", "add", "(I)V"⟩ : MethodName)) hown (hw _ (List.mem_of_getElem? (i := 23) rfl)) (hw _ (List.mem_of_getElem? (i := 24) rfl)) (notFace_of_selects (args := #[]) (mvT hZ (hw _ (List.mem_of_getElem? (i := 26) rfl)))) (hw _ (List.mem_of_getElem? (i := 26) rfl)) (hw _ (List.mem_of_getElem? (i := 25) rfl)) (hw _ (List.mem_of_getElem? (i := 2) rfl)) (hw _ (List.mem_of_getElem? (i := 27) rfl)) (by decide) e30 (rm := ({ frames := 0, cells := 0, slots := 0, locals := 0 } : Room)) (argsL := [(.int (vv p0 p1 (12 : Int32)))]) (S := []) (W := 0) (a := a) E29_a (rm_add l Z a0 hw a b (vv p0 p1 (12 : Int32)) (12 : Int32) [(.int (vv p0 p1 (0 : Int32))), (.int (vv p0 p1 (1 : Int32))), (.int (vv p0 p1 (2 : Int32))), (.int (vv p0 p1 (3 : Int32))), (.int (vv p0 p1 (4 : Int32))), (.int (vv p0 p1 (5 : Int32))), (.int (vv p0 p1 (6 : Int32))), (.int (vv p0 p1 (7 : Int32))), (.int (vv p0 p1 (8 : Int32))), (.int (vv p0 p1 (9 : Int32))), (.int (vv p0 p1 (10 : Int32))), (.int (vv p0 p1 (11 : Int32))), (.int (0 : Int32)), (.int (0 : Int32)), (.int (0 : Int32)), (.int (0 : Int32))] T29.heap E29_a Fs29' Fv29 A29' ne_a_b rfl (by decide) (by decide) (Nat.le_of_ble_eq_true rfl)) (lenOf pd_8 rfl) rfl (Nat.le_of_eq rfl) (by decide) (by decide) (by decide) (by decide) (by rw [hml]; rfl) (hb hby at_185) (pc' := 188) rfl ?_
  rintro T31 _ L31 ⟨rfl, Kq31, Fv31, Fs31, A31⟩ X31
  have E31_a := Exa.keep E29_a Kq31.1
  have K31 := Kp.call K29 Kq31 (allS (Or.inr sz_a) (allS (Or.inr sz_b) all0))
  have Fs31' : Fld Z T31.heap a "com/example/cevap/cevap/kg/IntList" "size" "I" (.int (13 : Int32)) := Fs31
  have A31' : Seq Z T31.heap b .int [(.int (vv p0 p1 (0 : Int32))), (.int (vv p0 p1 (1 : Int32))), (.int (vv p0 p1 (2 : Int32))), (.int (vv p0 p1 (3 : Int32))), (.int (vv p0 p1 (4 : Int32))), (.int (vv p0 p1 (5 : Int32))), (.int (vv p0 p1 (6 : Int32))), (.int (vv p0 p1 (7 : Int32))), (.int (vv p0 p1 (8 : Int32))), (.int (vv p0 p1 (9 : Int32))), (.int (vv p0 p1 (10 : Int32))), (.int (vv p0 p1 (11 : Int32))), (.int (vv p0 p1 (12 : Int32))), (.int (0 : Int32)), (.int (0 : Int32)), (.int (0 : Int32))] := A31
  show Goes p e below T31 (mkF m 188 #[.val (.int p0), .val (.int p1), .val (.int p2), .val (.ref a), .val (.int (1 : Int32)), .unset, .unset] []) _
  refine G.aloadN X31 hx (pc' := 189) (hb hby at_188) rfl rfl rfl ?_
  refine G.iloadN X31 hx (pc' := 190) (hb hby at_189) rfl rfl ?_
  refine G.iloadN X31 hx (pc' := 191) (hb hby at_190) rfl rfl ?_
  refine G.bipush X31 hx (pc' := 193) (hb hby at_191) (z := (13 : Int32)) rfl rfl ?_
  refine G.callS X31 hx hZ (y := (⟨"com/example/cevap/cevap/kg/IntListAddPinLaw", "v", "(III)I"⟩ : MethodName)) hown (hw _ (List.mem_of_getElem? (i := 19) rfl)) (hw _ (List.mem_of_getElem? (i := 20) rfl)) (hw _ (List.mem_of_getElem? (i := 21) rfl)) (hw _ (List.mem_of_getElem? (i := 22) rfl)) (by decide) rfl (rm := ({ frames := 0, cells := 0, slots := 0, locals := 0 } : Room)) (argsL := [(.int p0), (.int p1), (.int (13 : Int32))]) (S := [(.ref a)]) (W := 1) (rm_v l Z a0 hw p0 p1 (13 : Int32) T31.heap) (lenOf pd_7 rfl) rfl (Nat.le_of_eq rfl) (by decide) (by decide) (by decide) (by decide) (by rw [hml]; rfl) (hb hby at_193) (pc' := 196) rfl ?_
  rintro T32 _ _ ⟨rfl, e32, rfl⟩ X32
  rw [List.append_nil] at X32
  show Goes p e below T32 (mkF m 196 #[.val (.int p0), .val (.int p1), .val (.int p2), .val (.ref a), .val (.int (1 : Int32)), .unset, .unset] [(.int (vv p0 p1 (13 : Int32))), (.ref a)]) _
  refine G.callV X32 hx hZ (y0 := (⟨"com/example/cevap/cevap/kg/IntList", "add", "(I)V"⟩ : MethodName)) (y := (⟨"com/example/cevap/cevap/kg/IntList", "add", "(I)V"⟩ : MethodName)) hown (hw _ (List.mem_of_getElem? (i := 23) rfl)) (hw _ (List.mem_of_getElem? (i := 24) rfl)) (notFace_of_selects (args := #[]) (mvT hZ (hw _ (List.mem_of_getElem? (i := 26) rfl)))) (hw _ (List.mem_of_getElem? (i := 26) rfl)) (hw _ (List.mem_of_getElem? (i := 25) rfl)) (hw _ (List.mem_of_getElem? (i := 2) rfl)) (hw _ (List.mem_of_getElem? (i := 27) rfl)) (by decide) e32 (rm := ({ frames := 0, cells := 0, slots := 0, locals := 0 } : Room)) (argsL := [(.int (vv p0 p1 (13 : Int32)))]) (S := []) (W := 0) (a := a) E31_a (rm_add l Z a0 hw a b (vv p0 p1 (13 : Int32)) (13 : Int32) [(.int (vv p0 p1 (0 : Int32))), (.int (vv p0 p1 (1 : Int32))), (.int (vv p0 p1 (2 : Int32))), (.int (vv p0 p1 (3 : Int32))), (.int (vv p0 p1 (4 : Int32))), (.int (vv p0 p1 (5 : Int32))), (.int (vv p0 p1 (6 : Int32))), (.int (vv p0 p1 (7 : Int32))), (.int (vv p0 p1 (8 : Int32))), (.int (vv p0 p1 (9 : Int32))), (.int (vv p0 p1 (10 : Int32))), (.int (vv p0 p1 (11 : Int32))), (.int (vv p0 p1 (12 : Int32))), (.int (0 : Int32)), (.int (0 : Int32)), (.int (0 : Int32))] T31.heap E31_a Fs31' Fv31 A31' ne_a_b rfl (by decide) (by decide) (Nat.le_of_ble_eq_true rfl)) (lenOf pd_8 rfl) rfl (Nat.le_of_eq rfl) (by decide) (by decide) (by decide) (by decide) (by rw [hml]; rfl) (hb hby at_196) (pc' := 199) rfl ?_
  rintro T33 _ L33 ⟨rfl, Kq33, Fv33, Fs33, A33⟩ X33
  have E33_a := Exa.keep E31_a Kq33.1
  have K33 := Kp.call K31 Kq33 (allS (Or.inr sz_a) (allS (Or.inr sz_b) all0))
  have Fs33' : Fld Z T33.heap a "com/example/cevap/cevap/kg/IntList" "size" "I" (.int (14 : Int32)) := Fs33
  have A33' : Seq Z T33.heap b .int [(.int (vv p0 p1 (0 : Int32))), (.int (vv p0 p1 (1 : Int32))), (.int (vv p0 p1 (2 : Int32))), (.int (vv p0 p1 (3 : Int32))), (.int (vv p0 p1 (4 : Int32))), (.int (vv p0 p1 (5 : Int32))), (.int (vv p0 p1 (6 : Int32))), (.int (vv p0 p1 (7 : Int32))), (.int (vv p0 p1 (8 : Int32))), (.int (vv p0 p1 (9 : Int32))), (.int (vv p0 p1 (10 : Int32))), (.int (vv p0 p1 (11 : Int32))), (.int (vv p0 p1 (12 : Int32))), (.int (vv p0 p1 (13 : Int32))), (.int (0 : Int32)), (.int (0 : Int32))] := A33
  show Goes p e below T33 (mkF m 199 #[.val (.int p0), .val (.int p1), .val (.int p2), .val (.ref a), .val (.int (1 : Int32)), .unset, .unset] []) _
  refine G.aloadN X33 hx (pc' := 200) (hb hby at_199) rfl rfl rfl ?_
  refine G.iloadN X33 hx (pc' := 201) (hb hby at_200) rfl rfl ?_
  refine G.iloadN X33 hx (pc' := 202) (hb hby at_201) rfl rfl ?_
  refine G.bipush X33 hx (pc' := 204) (hb hby at_202) (z := (14 : Int32)) rfl rfl ?_
  refine G.callS X33 hx hZ (y := (⟨"com/example/cevap/cevap/kg/IntListAddPinLaw", "v", "(III)I"⟩ : MethodName)) hown (hw _ (List.mem_of_getElem? (i := 19) rfl)) (hw _ (List.mem_of_getElem? (i := 20) rfl)) (hw _ (List.mem_of_getElem? (i := 21) rfl)) (hw _ (List.mem_of_getElem? (i := 22) rfl)) (by decide) rfl (rm := ({ frames := 0, cells := 0, slots := 0, locals := 0 } : Room)) (argsL := [(.int p0), (.int p1), (.int (14 : Int32))]) (S := [(.ref a)]) (W := 1) (rm_v l Z a0 hw p0 p1 (14 : Int32) T33.heap) (lenOf pd_7 rfl) rfl (Nat.le_of_eq rfl) (by decide) (by decide) (by decide) (by decide) (by rw [hml]; rfl) (hb hby at_204) (pc' := 207) rfl ?_
  rintro T34 _ _ ⟨rfl, e34, rfl⟩ X34
  rw [List.append_nil] at X34
  show Goes p e below T34 (mkF m 207 #[.val (.int p0), .val (.int p1), .val (.int p2), .val (.ref a), .val (.int (1 : Int32)), .unset, .unset] [(.int (vv p0 p1 (14 : Int32))), (.ref a)]) _
  refine G.callV X34 hx hZ (y0 := (⟨"com/example/cevap/cevap/kg/IntList", "add", "(I)V"⟩ : MethodName)) (y := (⟨"com/example/cevap/cevap/kg/IntList", "add", "(I)V"⟩ : MethodName)) hown (hw _ (List.mem_of_getElem? (i := 23) rfl)) (hw _ (List.mem_of_getElem? (i := 24) rfl)) (notFace_of_selects (args := #[]) (mvT hZ (hw _ (List.mem_of_getElem? (i := 26) rfl)))) (hw _ (List.mem_of_getElem? (i := 26) rfl)) (hw _ (List.mem_of_getElem? (i := 25) rfl)) (hw _ (List.mem_of_getElem? (i := 2) rfl)) (hw _ (List.mem_of_getElem? (i := 27) rfl)) (by decide) e34 (rm := ({ frames := 0, cells := 0, slots := 0, locals := 0 } : Room)) (argsL := [(.int (vv p0 p1 (14 : Int32)))]) (S := []) (W := 0) (a := a) E33_a (rm_add l Z a0 hw a b (vv p0 p1 (14 : Int32)) (14 : Int32) [(.int (vv p0 p1 (0 : Int32))), (.int (vv p0 p1 (1 : Int32))), (.int (vv p0 p1 (2 : Int32))), (.int (vv p0 p1 (3 : Int32))), (.int (vv p0 p1 (4 : Int32))), (.int (vv p0 p1 (5 : Int32))), (.int (vv p0 p1 (6 : Int32))), (.int (vv p0 p1 (7 : Int32))), (.int (vv p0 p1 (8 : Int32))), (.int (vv p0 p1 (9 : Int32))), (.int (vv p0 p1 (10 : Int32))), (.int (vv p0 p1 (11 : Int32))), (.int (vv p0 p1 (12 : Int32))), (.int (vv p0 p1 (13 : Int32))), (.int (0 : Int32)), (.int (0 : Int32))] T33.heap E33_a Fs33' Fv33 A33' ne_a_b rfl (by decide) (by decide) (Nat.le_of_ble_eq_true rfl)) (lenOf pd_8 rfl) rfl (Nat.le_of_eq rfl) (by decide) (by decide) (by decide) (by decide) (by rw [hml]; rfl) (hb hby at_207) (pc' := 210) rfl ?_
  rintro T35 _ L35 ⟨rfl, Kq35, Fv35, Fs35, A35⟩ X35
  have E35_a := Exa.keep E33_a Kq35.1
  have K35 := Kp.call K33 Kq35 (allS (Or.inr sz_a) (allS (Or.inr sz_b) all0))
  have Fs35' : Fld Z T35.heap a "com/example/cevap/cevap/kg/IntList" "size" "I" (.int (15 : Int32)) := Fs35
  have A35' : Seq Z T35.heap b .int [(.int (vv p0 p1 (0 : Int32))), (.int (vv p0 p1 (1 : Int32))), (.int (vv p0 p1 (2 : Int32))), (.int (vv p0 p1 (3 : Int32))), (.int (vv p0 p1 (4 : Int32))), (.int (vv p0 p1 (5 : Int32))), (.int (vv p0 p1 (6 : Int32))), (.int (vv p0 p1 (7 : Int32))), (.int (vv p0 p1 (8 : Int32))), (.int (vv p0 p1 (9 : Int32))), (.int (vv p0 p1 (10 : Int32))), (.int (vv p0 p1 (11 : Int32))), (.int (vv p0 p1 (12 : Int32))), (.int (vv p0 p1 (13 : Int32))), (.int (vv p0 p1 (14 : Int32))), (.int (0 : Int32))] := A35
  show Goes p e below T35 (mkF m 210 #[.val (.int p0), .val (.int p1), .val (.int p2), .val (.ref a), .val (.int (1 : Int32)), .unset, .unset] []) _
  refine G.aloadN X35 hx (pc' := 211) (hb hby at_210) rfl rfl rfl ?_
  refine G.iloadN X35 hx (pc' := 212) (hb hby at_211) rfl rfl ?_
  refine G.iloadN X35 hx (pc' := 213) (hb hby at_212) rfl rfl ?_
  refine G.bipush X35 hx (pc' := 215) (hb hby at_213) (z := (15 : Int32)) rfl rfl ?_
  refine G.callS X35 hx hZ (y := (⟨"com/example/cevap/cevap/kg/IntListAddPinLaw", "v", "(III)I"⟩ : MethodName)) hown (hw _ (List.mem_of_getElem? (i := 19) rfl)) (hw _ (List.mem_of_getElem? (i := 20) rfl)) (hw _ (List.mem_of_getElem? (i := 21) rfl)) (hw _ (List.mem_of_getElem? (i := 22) rfl)) (by decide) rfl (rm := ({ frames := 0, cells := 0, slots := 0, locals := 0 } : Room)) (argsL := [(.int p0), (.int p1), (.int (15 : Int32))]) (S := [(.ref a)]) (W := 1) (rm_v l Z a0 hw p0 p1 (15 : Int32) T35.heap) (lenOf pd_7 rfl) rfl (Nat.le_of_eq rfl) (by decide) (by decide) (by decide) (by decide) (by rw [hml]; rfl) (hb hby at_215) (pc' := 218) rfl ?_
  rintro T36 _ _ ⟨rfl, e36, rfl⟩ X36
  rw [List.append_nil] at X36
  show Goes p e below T36 (mkF m 218 #[.val (.int p0), .val (.int p1), .val (.int p2), .val (.ref a), .val (.int (1 : Int32)), .unset, .unset] [(.int (vv p0 p1 (15 : Int32))), (.ref a)]) _
  refine G.callV X36 hx hZ (y0 := (⟨"com/example/cevap/cevap/kg/IntList", "add", "(I)V"⟩ : MethodName)) (y := (⟨"com/example/cevap/cevap/kg/IntList", "add", "(I)V"⟩ : MethodName)) hown (hw _ (List.mem_of_getElem? (i := 23) rfl)) (hw _ (List.mem_of_getElem? (i := 24) rfl)) (notFace_of_selects (args := #[]) (mvT hZ (hw _ (List.mem_of_getElem? (i := 26) rfl)))) (hw _ (List.mem_of_getElem? (i := 26) rfl)) (hw _ (List.mem_of_getElem? (i := 25) rfl)) (hw _ (List.mem_of_getElem? (i := 2) rfl)) (hw _ (List.mem_of_getElem? (i := 27) rfl)) (by decide) e36 (rm := ({ frames := 0, cells := 0, slots := 0, locals := 0 } : Room)) (argsL := [(.int (vv p0 p1 (15 : Int32)))]) (S := []) (W := 0) (a := a) E35_a (rm_add l Z a0 hw a b (vv p0 p1 (15 : Int32)) (15 : Int32) [(.int (vv p0 p1 (0 : Int32))), (.int (vv p0 p1 (1 : Int32))), (.int (vv p0 p1 (2 : Int32))), (.int (vv p0 p1 (3 : Int32))), (.int (vv p0 p1 (4 : Int32))), (.int (vv p0 p1 (5 : Int32))), (.int (vv p0 p1 (6 : Int32))), (.int (vv p0 p1 (7 : Int32))), (.int (vv p0 p1 (8 : Int32))), (.int (vv p0 p1 (9 : Int32))), (.int (vv p0 p1 (10 : Int32))), (.int (vv p0 p1 (11 : Int32))), (.int (vv p0 p1 (12 : Int32))), (.int (vv p0 p1 (13 : Int32))), (.int (vv p0 p1 (14 : Int32))), (.int (0 : Int32))] T35.heap E35_a Fs35' Fv35 A35' ne_a_b rfl (by decide) (by decide) (Nat.le_of_ble_eq_true rfl)) (lenOf pd_8 rfl) rfl (Nat.le_of_eq rfl) (by decide) (by decide) (by decide) (by decide) (by rw [hml]; rfl) (hb hby at_218) (pc' := 221) rfl ?_
  rintro T37 _ L37 ⟨rfl, Kq37, Fv37, Fs37, A37⟩ X37
  have E37_a := Exa.keep E35_a Kq37.1
  have K37 := Kp.call K35 Kq37 (allS (Or.inr sz_a) (allS (Or.inr sz_b) all0))
  have Fs37' : Fld Z T37.heap a "com/example/cevap/cevap/kg/IntList" "size" "I" (.int (16 : Int32)) := Fs37
  have A37' : Seq Z T37.heap b .int [(.int (vv p0 p1 (0 : Int32))), (.int (vv p0 p1 (1 : Int32))), (.int (vv p0 p1 (2 : Int32))), (.int (vv p0 p1 (3 : Int32))), (.int (vv p0 p1 (4 : Int32))), (.int (vv p0 p1 (5 : Int32))), (.int (vv p0 p1 (6 : Int32))), (.int (vv p0 p1 (7 : Int32))), (.int (vv p0 p1 (8 : Int32))), (.int (vv p0 p1 (9 : Int32))), (.int (vv p0 p1 (10 : Int32))), (.int (vv p0 p1 (11 : Int32))), (.int (vv p0 p1 (12 : Int32))), (.int (vv p0 p1 (13 : Int32))), (.int (vv p0 p1 (14 : Int32))), (.int (vv p0 p1 (15 : Int32)))] := A37
  show Goes p e below T37 (mkF m 221 #[.val (.int p0), .val (.int p1), .val (.int p2), .val (.ref a), .val (.int (1 : Int32)), .unset, .unset] []) _
  refine G.iload X37 hx (pc' := 223) (hb hby at_221) rfl rfl ?_
  refine G.ifF X37 hx (pc' := 226) (hb hby at_223) (Jvm.Free.XT.i0_eq_f (by decide)) rfl ?_
  refine G.aloadN X37 hx (pc' := 227) (hb hby at_226) rfl rfl rfl ?_
  refine G.callV X37 hx hZ (y0 := (⟨"com/example/cevap/cevap/kg/IntList", "size", "()I"⟩ : MethodName)) (y := (⟨"com/example/cevap/cevap/kg/IntList", "size", "()I"⟩ : MethodName)) hown (hw _ (List.mem_of_getElem? (i := 12) rfl)) (hw _ (List.mem_of_getElem? (i := 13) rfl)) (notFace_of_selects (args := #[]) (mvT hZ (hw _ (List.mem_of_getElem? (i := 15) rfl)))) (hw _ (List.mem_of_getElem? (i := 15) rfl)) (hw _ (List.mem_of_getElem? (i := 14) rfl)) (hw _ (List.mem_of_getElem? (i := 2) rfl)) (hw _ (List.mem_of_getElem? (i := 16) rfl)) (by decide) rfl (rm := ({ frames := 0, cells := 0, slots := 0, locals := 0 } : Room)) (argsL := []) (S := []) (W := 0) (a := a) E37_a (rm_size l Z a0 hw a (16 : Int32) T37.heap Fs37') (lenOf pd_6 rfl) rfl (Nat.le_of_eq rfl) (by decide) (by decide) (by decide) (by decide) (by rw [hml]; rfl) (hb hby at_227) (pc' := 230) rfl ?_
  rintro T38 _ _ ⟨rfl, e38, rfl⟩ X38
  rw [List.append_nil] at X38
  show Goes p e below T38 (mkF m 230 #[.val (.int p0), .val (.int p1), .val (.int p2), .val (.ref a), .val (.int (1 : Int32)), .unset, .unset] [(.int (16 : Int32))]) _
  refine G.bipush X38 hx (pc' := 232) (hb hby at_230) (z := (16 : Int32)) rfl rfl ?_
  refine G.icmpF X38 hx (pc' := 235) (hb hby at_232) (Jvm.Free.XT.ii_ne_f rfl) rfl ?_
  refine G.aloadN X38 hx (pc' := 236) (hb hby at_235) rfl rfl rfl ?_
  refine G.bipush X38 hx (pc' := 238) (hb hby at_236) (z := (15 : Int32)) rfl rfl ?_
  refine G.callV X38 hx hZ (y0 := (⟨"com/example/cevap/cevap/kg/IntList", "get", "(I)I"⟩ : MethodName)) (y := (⟨"com/example/cevap/cevap/kg/IntList", "get", "(I)I"⟩ : MethodName)) hown (hw _ (List.mem_of_getElem? (i := 28) rfl)) (hw _ (List.mem_of_getElem? (i := 29) rfl)) (notFace_of_selects (args := #[]) (mvT hZ (hw _ (List.mem_of_getElem? (i := 31) rfl)))) (hw _ (List.mem_of_getElem? (i := 31) rfl)) (hw _ (List.mem_of_getElem? (i := 30) rfl)) (hw _ (List.mem_of_getElem? (i := 2) rfl)) (hw _ (List.mem_of_getElem? (i := 32) rfl)) (by decide) e38 (rm := ({ frames := 0, cells := 0, slots := 0, locals := 0 } : Room)) (argsL := [(.int (15 : Int32))]) (S := []) (W := 0) (a := a) E37_a (rm_get l Z a0 hw a b (15 : Int32) (16 : Int32) (vv p0 p1 (15 : Int32)) [(.int (vv p0 p1 (0 : Int32))), (.int (vv p0 p1 (1 : Int32))), (.int (vv p0 p1 (2 : Int32))), (.int (vv p0 p1 (3 : Int32))), (.int (vv p0 p1 (4 : Int32))), (.int (vv p0 p1 (5 : Int32))), (.int (vv p0 p1 (6 : Int32))), (.int (vv p0 p1 (7 : Int32))), (.int (vv p0 p1 (8 : Int32))), (.int (vv p0 p1 (9 : Int32))), (.int (vv p0 p1 (10 : Int32))), (.int (vv p0 p1 (11 : Int32))), (.int (vv p0 p1 (12 : Int32))), (.int (vv p0 p1 (13 : Int32))), (.int (vv p0 p1 (14 : Int32))), (.int (vv p0 p1 (15 : Int32)))] T37.heap Fs37' Fv37 A37' (by decide) (by decide) rfl) (lenOf pd_9 rfl) rfl (Nat.le_of_eq rfl) (by decide) (by decide) (by decide) (by decide) (by rw [hml]; rfl) (hb hby at_238) (pc' := 241) rfl ?_
  rintro T39 _ _ ⟨rfl, e39, rfl⟩ X39
  rw [List.append_nil] at X39
  show Goes p e below T39 (mkF m 241 #[.val (.int p0), .val (.int p1), .val (.int p2), .val (.ref a), .val (.int (1 : Int32)), .unset, .unset] [(.int (vv p0 p1 (15 : Int32)))]) _
  refine G.iloadN X39 hx (pc' := 242) (hb hby at_241) rfl rfl ?_
  refine G.iloadN X39 hx (pc' := 243) (hb hby at_242) rfl rfl ?_
  refine G.bipush X39 hx (pc' := 245) (hb hby at_243) (z := (15 : Int32)) rfl rfl ?_
  refine G.callS X39 hx hZ (y := (⟨"com/example/cevap/cevap/kg/IntListAddPinLaw", "v", "(III)I"⟩ : MethodName)) hown (hw _ (List.mem_of_getElem? (i := 19) rfl)) (hw _ (List.mem_of_getElem? (i := 20) rfl)) (hw _ (List.mem_of_getElem? (i := 21) rfl)) (hw _ (List.mem_of_getElem? (i := 22) rfl)) (by decide) e39 (rm := ({ frames := 0, cells := 0, slots := 0, locals := 0 } : Room)) (argsL := [(.int p0), (.int p1), (.int (15 : Int32))]) (S := [(.int (vv p0 p1 (15 : Int32)))]) (W := 1) (rm_v l Z a0 hw p0 p1 (15 : Int32) T37.heap) (lenOf pd_7 rfl) rfl (Nat.le_of_eq rfl) (by decide) (by decide) (by decide) (by decide) (by rw [hml]; rfl) (hb hby at_245) (pc' := 248) rfl ?_
  rintro T40 _ _ ⟨rfl, e40, rfl⟩ X40
  rw [List.append_nil] at X40
  show Goes p e below T40 (mkF m 248 #[.val (.int p0), .val (.int p1), .val (.int p2), .val (.ref a), .val (.int (1 : Int32)), .unset, .unset] [(.int (vv p0 p1 (15 : Int32))), (.int (vv p0 p1 (15 : Int32)))]) _
  refine G.icmpF X40 hx (pc' := 251) (hb hby at_248) (Jvm.Free.XT.ii_ne_f rfl) rfl ?_
  refine G.iconst X40 hx (pc' := 252) (hb hby at_251) (z := (1 : Int32)) rfl rfl ?_
  refine G.goto X40 hx (pc' := 256) (hb hby at_252) (by decide) (by decide) ?_
  refine G.istore X40 hx (pc' := 258) (hb hby at_256) (L' := #[.val (.int p0), .val (.int p1), .val (.int p2), .val (.ref a), .val (.int (1 : Int32)), .unset, .unset]) rfl rfl ?_
  refine G.iloadN X40 hx (pc' := 259) (hb hby at_258) rfl rfl ?_
  refine G.ldcInt X40 hx hZ hown (hw _ (List.mem_of_getElem? (i := 33) rfl)) (pc' := 261) (hb hby at_259) rfl ?_
  refine G.iand X40 hx (pc' := 262) (hb hby at_261) rfl ?_
  refine G.bipush X40 hx (pc' := 264) (hb hby at_262) (z := (16 : Int32)) rfl rfl ?_
  refine G.irem X40 hx (pc' := 265) (hb hby at_264) (by decide) rfl ?_
  refine G.istore X40 hx (pc' := 267) (hb hby at_265) (L' := #[.val (.int p0), .val (.int p1), .val (.int p2), .val (.ref a), .val (.int (1 : Int32)), .val (.int ((p2 &&& (2147483647 : Int32)) % (16 : Int32))), .unset]) rfl rfl ?_
  obtain ⟨i1, hi1, hi1'⟩ := own_k p2 (16 : Int32) 16 rfl (by decide)
  have ha1 := own_at p0 p1 [(.int (vv p0 p1 (0 : Int32))), (.int (vv p0 p1 (1 : Int32))), (.int (vv p0 p1 (2 : Int32))), (.int (vv p0 p1 (3 : Int32))), (.int (vv p0 p1 (4 : Int32))), (.int (vv p0 p1 (5 : Int32))), (.int (vv p0 p1 (6 : Int32))), (.int (vv p0 p1 (7 : Int32))), (.int (vv p0 p1 (8 : Int32))), (.int (vv p0 p1 (9 : Int32))), (.int (vv p0 p1 (10 : Int32))), (.int (vv p0 p1 (11 : Int32))), (.int (vv p0 p1 (12 : Int32))), (.int (vv p0 p1 (13 : Int32))), (.int (vv p0 p1 (14 : Int32))), (.int (vv p0 p1 (15 : Int32)))] 16 (by decide) (fun i => by match i with | ⟨0, _⟩ => rfl | ⟨1, _⟩ => rfl | ⟨2, _⟩ => rfl | ⟨3, _⟩ => rfl | ⟨4, _⟩ => rfl | ⟨5, _⟩ => rfl | ⟨6, _⟩ => rfl | ⟨7, _⟩ => rfl | ⟨8, _⟩ => rfl | ⟨9, _⟩ => rfl | ⟨10, _⟩ => rfl | ⟨11, _⟩ => rfl | ⟨12, _⟩ => rfl | ⟨13, _⟩ => rfl | ⟨14, _⟩ => rfl | ⟨15, _⟩ => rfl | ⟨_ + 16, hq⟩ => exact absurd hq (Nat.not_lt_of_le (Nat.le_add_left _ _))) _ (16 : Int32) rfl i1 hi1 hi1'
  generalize hk1 : ((p2 &&& (2147483647 : Int32)) % (16 : Int32)) = k1 at ha1 ⊢
  refine G.iload X40 hx (pc' := 269) (hb hby at_267) rfl rfl ?_
  refine G.ifF X40 hx (pc' := 272) (hb hby at_269) (Jvm.Free.XT.i0_eq_f (by decide)) rfl ?_
  refine G.aloadN X40 hx (pc' := 273) (hb hby at_272) rfl rfl rfl ?_
  refine G.iload X40 hx (pc' := 275) (hb hby at_273) rfl rfl ?_
  refine G.callV X40 hx hZ (y0 := (⟨"com/example/cevap/cevap/kg/IntList", "get", "(I)I"⟩ : MethodName)) (y := (⟨"com/example/cevap/cevap/kg/IntList", "get", "(I)I"⟩ : MethodName)) hown (hw _ (List.mem_of_getElem? (i := 28) rfl)) (hw _ (List.mem_of_getElem? (i := 29) rfl)) (notFace_of_selects (args := #[]) (mvT hZ (hw _ (List.mem_of_getElem? (i := 31) rfl)))) (hw _ (List.mem_of_getElem? (i := 31) rfl)) (hw _ (List.mem_of_getElem? (i := 30) rfl)) (hw _ (List.mem_of_getElem? (i := 2) rfl)) (hw _ (List.mem_of_getElem? (i := 32) rfl)) (by decide) e40 (rm := ({ frames := 0, cells := 0, slots := 0, locals := 0 } : Room)) (argsL := [(.int k1)]) (S := []) (W := 0) (a := a) E37_a (rm_get l Z a0 hw a b k1 (16 : Int32) (vv p0 p1 k1) [(.int (vv p0 p1 (0 : Int32))), (.int (vv p0 p1 (1 : Int32))), (.int (vv p0 p1 (2 : Int32))), (.int (vv p0 p1 (3 : Int32))), (.int (vv p0 p1 (4 : Int32))), (.int (vv p0 p1 (5 : Int32))), (.int (vv p0 p1 (6 : Int32))), (.int (vv p0 p1 (7 : Int32))), (.int (vv p0 p1 (8 : Int32))), (.int (vv p0 p1 (9 : Int32))), (.int (vv p0 p1 (10 : Int32))), (.int (vv p0 p1 (11 : Int32))), (.int (vv p0 p1 (12 : Int32))), (.int (vv p0 p1 (13 : Int32))), (.int (vv p0 p1 (14 : Int32))), (.int (vv p0 p1 (15 : Int32)))] T37.heap Fs37' Fv37 A37' ha1.1 ha1.2.1 ha1.2.2) (lenOf pd_9 rfl) rfl (Nat.le_of_eq rfl) (by decide) (by decide) (by decide) (by decide) (by rw [hml]; rfl) (hb hby at_275) (pc' := 278) rfl ?_
  rintro T41 _ _ ⟨rfl, e41, rfl⟩ X41
  rw [List.append_nil] at X41
  show Goes p e below T41 (mkF m 278 #[.val (.int p0), .val (.int p1), .val (.int p2), .val (.ref a), .val (.int (1 : Int32)), .val (.int k1), .unset] [(.int (vv p0 p1 k1))]) _
  refine G.iloadN X41 hx (pc' := 279) (hb hby at_278) rfl rfl ?_
  refine G.iloadN X41 hx (pc' := 280) (hb hby at_279) rfl rfl ?_
  refine G.iload X41 hx (pc' := 282) (hb hby at_280) rfl rfl ?_
  refine G.callS X41 hx hZ (y := (⟨"com/example/cevap/cevap/kg/IntListAddPinLaw", "v", "(III)I"⟩ : MethodName)) hown (hw _ (List.mem_of_getElem? (i := 19) rfl)) (hw _ (List.mem_of_getElem? (i := 20) rfl)) (hw _ (List.mem_of_getElem? (i := 21) rfl)) (hw _ (List.mem_of_getElem? (i := 22) rfl)) (by decide) e41 (rm := ({ frames := 0, cells := 0, slots := 0, locals := 0 } : Room)) (argsL := [(.int p0), (.int p1), (.int k1)]) (S := [(.int (vv p0 p1 k1))]) (W := 1) (rm_v l Z a0 hw p0 p1 k1 T37.heap) (lenOf pd_7 rfl) rfl (Nat.le_of_eq rfl) (by decide) (by decide) (by decide) (by decide) (by rw [hml]; rfl) (hb hby at_282) (pc' := 285) rfl ?_
  rintro T42 _ _ ⟨rfl, e42, rfl⟩ X42
  rw [List.append_nil] at X42
  show Goes p e below T42 (mkF m 285 #[.val (.int p0), .val (.int p1), .val (.int p2), .val (.ref a), .val (.int (1 : Int32)), .val (.int k1), .unset] [(.int (vv p0 p1 k1)), (.int (vv p0 p1 k1))]) _
  refine G.icmpF X42 hx (pc' := 288) (hb hby at_285) (Jvm.Free.XT.ii_ne_f rfl) rfl ?_
  refine G.iconst X42 hx (pc' := 289) (hb hby at_288) (z := (1 : Int32)) rfl rfl ?_
  refine G.goto X42 hx (pc' := 293) (hb hby at_289) (by decide) (by decide) ?_
  refine G.istore X42 hx (pc' := 295) (hb hby at_293) (L' := #[.val (.int p0), .val (.int p1), .val (.int p2), .val (.ref a), .val (.int (1 : Int32)), .val (.int k1), .unset]) rfl rfl ?_
  refine G.aloadN X42 hx (pc' := 296) (hb hby at_295) rfl rfl rfl ?_
  refine G.iloadN X42 hx (pc' := 297) (hb hby at_296) rfl rfl ?_
  refine G.iloadN X42 hx (pc' := 298) (hb hby at_297) rfl rfl ?_
  refine G.bipush X42 hx (pc' := 300) (hb hby at_298) (z := (16 : Int32)) rfl rfl ?_
  refine G.callS X42 hx hZ (y := (⟨"com/example/cevap/cevap/kg/IntListAddPinLaw", "v", "(III)I"⟩ : MethodName)) hown (hw _ (List.mem_of_getElem? (i := 19) rfl)) (hw _ (List.mem_of_getElem? (i := 20) rfl)) (hw _ (List.mem_of_getElem? (i := 21) rfl)) (hw _ (List.mem_of_getElem? (i := 22) rfl)) (by decide) e42 (rm := ({ frames := 0, cells := 0, slots := 0, locals := 0 } : Room)) (argsL := [(.int p0), (.int p1), (.int (16 : Int32))]) (S := [(.ref a)]) (W := 1) (rm_v l Z a0 hw p0 p1 (16 : Int32) T37.heap) (lenOf pd_7 rfl) rfl (Nat.le_of_eq rfl) (by decide) (by decide) (by decide) (by decide) (by rw [hml]; rfl) (hb hby at_300) (pc' := 303) rfl ?_
  rintro T43 _ _ ⟨rfl, e43, rfl⟩ X43
  rw [List.append_nil] at X43
  show Goes p e below T43 (mkF m 303 #[.val (.int p0), .val (.int p1), .val (.int p2), .val (.ref a), .val (.int (1 : Int32)), .val (.int k1), .unset] [(.int (vv p0 p1 (16 : Int32))), (.ref a)]) _
  refine G.callV X43 hx hZ (y0 := (⟨"com/example/cevap/cevap/kg/IntList", "add", "(I)V"⟩ : MethodName)) (y := (⟨"com/example/cevap/cevap/kg/IntList", "add", "(I)V"⟩ : MethodName)) hown (hw _ (List.mem_of_getElem? (i := 23) rfl)) (hw _ (List.mem_of_getElem? (i := 24) rfl)) (notFace_of_selects (args := #[]) (mvT hZ (hw _ (List.mem_of_getElem? (i := 26) rfl)))) (hw _ (List.mem_of_getElem? (i := 26) rfl)) (hw _ (List.mem_of_getElem? (i := 25) rfl)) (hw _ (List.mem_of_getElem? (i := 2) rfl)) (hw _ (List.mem_of_getElem? (i := 27) rfl)) (by decide) e43 (rm := ({ frames := 2, cells := 1, slots := 24, locals := 55 } : Room)) (argsL := [(.int (vv p0 p1 (16 : Int32)))]) (S := []) (W := 0) (a := a) E37_a (rm_grow l Z a0 hw a b (vv p0 p1 (16 : Int32)) [(.int (vv p0 p1 (0 : Int32))), (.int (vv p0 p1 (1 : Int32))), (.int (vv p0 p1 (2 : Int32))), (.int (vv p0 p1 (3 : Int32))), (.int (vv p0 p1 (4 : Int32))), (.int (vv p0 p1 (5 : Int32))), (.int (vv p0 p1 (6 : Int32))), (.int (vv p0 p1 (7 : Int32))), (.int (vv p0 p1 (8 : Int32))), (.int (vv p0 p1 (9 : Int32))), (.int (vv p0 p1 (10 : Int32))), (.int (vv p0 p1 (11 : Int32))), (.int (vv p0 p1 (12 : Int32))), (.int (vv p0 p1 (13 : Int32))), (.int (vv p0 p1 (14 : Int32))), (.int (vv p0 p1 (15 : Int32)))] T37.heap E37_a Fs37' Fv37 A37' ne_a_b rfl (by intro v hv; simp only [List.mem_cons, List.not_mem_nil, or_false] at hv; rcases hv with rfl | rfl | rfl | rfl | rfl | rfl | rfl | rfl | rfl | rfl | rfl | rfl | rfl | rfl | rfl | rfl <;> rfl)) (lenOf pd_8 rfl) rfl (Nat.le_of_eq rfl) (by decide) (by decide) (by decide) (by decide) (by rw [hml]; rfl) (hb hby at_303) (pc' := 306) rfl ?_
  rintro T44 _ L44 ⟨rfl, Kq44, d, Fv44, Fs44, A44, hd44⟩ X44
  have E44_a := Exa.keep E37_a Kq44.1
  have A44_b := Seq.keep A37' Kq44.1 (ninS (Ne.symm ne_a_b) nin0)
  have K44 := Kp.call K37 Kq44 (allS (Or.inr sz_a) all0)
  have Fs44' : Fld Z T44.heap a "com/example/cevap/cevap/kg/IntList" "size" "I" (.int (17 : Int32)) := Fs44
  have A44' : Seq Z T44.heap d .int [(.int (vv p0 p1 (0 : Int32))), (.int (vv p0 p1 (1 : Int32))), (.int (vv p0 p1 (2 : Int32))), (.int (vv p0 p1 (3 : Int32))), (.int (vv p0 p1 (4 : Int32))), (.int (vv p0 p1 (5 : Int32))), (.int (vv p0 p1 (6 : Int32))), (.int (vv p0 p1 (7 : Int32))), (.int (vv p0 p1 (8 : Int32))), (.int (vv p0 p1 (9 : Int32))), (.int (vv p0 p1 (10 : Int32))), (.int (vv p0 p1 (11 : Int32))), (.int (vv p0 p1 (12 : Int32))), (.int (vv p0 p1 (13 : Int32))), (.int (vv p0 p1 (14 : Int32))), (.int (vv p0 p1 (15 : Int32))), (.int (vv p0 p1 (16 : Int32))), (.int (0 : Int32)), (.int (0 : Int32)), (.int (0 : Int32)), (.int (0 : Int32)), (.int (0 : Int32)), (.int (0 : Int32)), (.int (0 : Int32))] := A44
  show Goes p e below T44 (mkF m 306 #[.val (.int p0), .val (.int p1), .val (.int p2), .val (.ref a), .val (.int (1 : Int32)), .val (.int k1), .unset] []) _
  refine G.iload X44 hx (pc' := 308) (hb hby at_306) rfl rfl ?_
  refine G.ifF X44 hx (pc' := 311) (hb hby at_308) (Jvm.Free.XT.i0_eq_f (by decide)) rfl ?_
  refine G.aloadN X44 hx (pc' := 312) (hb hby at_311) rfl rfl rfl ?_
  refine G.callV X44 hx hZ (y0 := (⟨"com/example/cevap/cevap/kg/IntList", "size", "()I"⟩ : MethodName)) (y := (⟨"com/example/cevap/cevap/kg/IntList", "size", "()I"⟩ : MethodName)) hown (hw _ (List.mem_of_getElem? (i := 12) rfl)) (hw _ (List.mem_of_getElem? (i := 13) rfl)) (notFace_of_selects (args := #[]) (mvT hZ (hw _ (List.mem_of_getElem? (i := 15) rfl)))) (hw _ (List.mem_of_getElem? (i := 15) rfl)) (hw _ (List.mem_of_getElem? (i := 14) rfl)) (hw _ (List.mem_of_getElem? (i := 2) rfl)) (hw _ (List.mem_of_getElem? (i := 16) rfl)) (by decide) rfl (rm := ({ frames := 0, cells := 0, slots := 0, locals := 0 } : Room)) (argsL := []) (S := []) (W := 0) (a := a) E44_a (rm_size l Z a0 hw a (17 : Int32) T44.heap Fs44') (lenOf pd_6 rfl) rfl (Nat.le_of_eq rfl) (by decide) (by decide) (by decide) (by decide) (by rw [hml]; rfl) (hb hby at_312) (pc' := 315) rfl ?_
  rintro T45 _ _ ⟨rfl, e45, rfl⟩ X45
  rw [List.append_nil] at X45
  show Goes p e below T45 (mkF m 315 #[.val (.int p0), .val (.int p1), .val (.int p2), .val (.ref a), .val (.int (1 : Int32)), .val (.int k1), .unset] [(.int (17 : Int32))]) _
  refine G.bipush X45 hx (pc' := 317) (hb hby at_315) (z := (17 : Int32)) rfl rfl ?_
  refine G.icmpF X45 hx (pc' := 320) (hb hby at_317) (Jvm.Free.XT.ii_ne_f rfl) rfl ?_
  refine G.iconst X45 hx (pc' := 321) (hb hby at_320) (z := (1 : Int32)) rfl rfl ?_
  refine G.goto X45 hx (pc' := 325) (hb hby at_321) (by decide) (by decide) ?_
  refine G.istore X45 hx (pc' := 327) (hb hby at_325) (L' := #[.val (.int p0), .val (.int p1), .val (.int p2), .val (.ref a), .val (.int (1 : Int32)), .val (.int k1), .unset]) rfl rfl ?_
  refine G.iload X45 hx (pc' := 329) (hb hby at_327) rfl rfl ?_
  refine G.ifF X45 hx (pc' := 332) (hb hby at_329) (Jvm.Free.XT.i0_eq_f (by decide)) rfl ?_
  refine G.aloadN X45 hx (pc' := 333) (hb hby at_332) rfl rfl rfl ?_
  refine G.bipush X45 hx (pc' := 335) (hb hby at_333) (z := (16 : Int32)) rfl rfl ?_
  refine G.callV X45 hx hZ (y0 := (⟨"com/example/cevap/cevap/kg/IntList", "get", "(I)I"⟩ : MethodName)) (y := (⟨"com/example/cevap/cevap/kg/IntList", "get", "(I)I"⟩ : MethodName)) hown (hw _ (List.mem_of_getElem? (i := 28) rfl)) (hw _ (List.mem_of_getElem? (i := 29) rfl)) (notFace_of_selects (args := #[]) (mvT hZ (hw _ (List.mem_of_getElem? (i := 31) rfl)))) (hw _ (List.mem_of_getElem? (i := 31) rfl)) (hw _ (List.mem_of_getElem? (i := 30) rfl)) (hw _ (List.mem_of_getElem? (i := 2) rfl)) (hw _ (List.mem_of_getElem? (i := 32) rfl)) (by decide) e45 (rm := ({ frames := 0, cells := 0, slots := 0, locals := 0 } : Room)) (argsL := [(.int (16 : Int32))]) (S := []) (W := 0) (a := a) E44_a (rm_get l Z a0 hw a d (16 : Int32) (17 : Int32) (vv p0 p1 (16 : Int32)) [(.int (vv p0 p1 (0 : Int32))), (.int (vv p0 p1 (1 : Int32))), (.int (vv p0 p1 (2 : Int32))), (.int (vv p0 p1 (3 : Int32))), (.int (vv p0 p1 (4 : Int32))), (.int (vv p0 p1 (5 : Int32))), (.int (vv p0 p1 (6 : Int32))), (.int (vv p0 p1 (7 : Int32))), (.int (vv p0 p1 (8 : Int32))), (.int (vv p0 p1 (9 : Int32))), (.int (vv p0 p1 (10 : Int32))), (.int (vv p0 p1 (11 : Int32))), (.int (vv p0 p1 (12 : Int32))), (.int (vv p0 p1 (13 : Int32))), (.int (vv p0 p1 (14 : Int32))), (.int (vv p0 p1 (15 : Int32))), (.int (vv p0 p1 (16 : Int32))), (.int (0 : Int32)), (.int (0 : Int32)), (.int (0 : Int32)), (.int (0 : Int32)), (.int (0 : Int32)), (.int (0 : Int32)), (.int (0 : Int32))] T44.heap Fs44' Fv44 A44' (by decide) (by decide) rfl) (lenOf pd_9 rfl) rfl (Nat.le_of_eq rfl) (by decide) (by decide) (by decide) (by decide) (by rw [hml]; rfl) (hb hby at_335) (pc' := 338) rfl ?_
  rintro T46 _ _ ⟨rfl, e46, rfl⟩ X46
  rw [List.append_nil] at X46
  show Goes p e below T46 (mkF m 338 #[.val (.int p0), .val (.int p1), .val (.int p2), .val (.ref a), .val (.int (1 : Int32)), .val (.int k1), .unset] [(.int (vv p0 p1 (16 : Int32)))]) _
  refine G.iloadN X46 hx (pc' := 339) (hb hby at_338) rfl rfl ?_
  refine G.iloadN X46 hx (pc' := 340) (hb hby at_339) rfl rfl ?_
  refine G.bipush X46 hx (pc' := 342) (hb hby at_340) (z := (16 : Int32)) rfl rfl ?_
  refine G.callS X46 hx hZ (y := (⟨"com/example/cevap/cevap/kg/IntListAddPinLaw", "v", "(III)I"⟩ : MethodName)) hown (hw _ (List.mem_of_getElem? (i := 19) rfl)) (hw _ (List.mem_of_getElem? (i := 20) rfl)) (hw _ (List.mem_of_getElem? (i := 21) rfl)) (hw _ (List.mem_of_getElem? (i := 22) rfl)) (by decide) e46 (rm := ({ frames := 0, cells := 0, slots := 0, locals := 0 } : Room)) (argsL := [(.int p0), (.int p1), (.int (16 : Int32))]) (S := [(.int (vv p0 p1 (16 : Int32)))]) (W := 1) (rm_v l Z a0 hw p0 p1 (16 : Int32) T44.heap) (lenOf pd_7 rfl) rfl (Nat.le_of_eq rfl) (by decide) (by decide) (by decide) (by decide) (by rw [hml]; rfl) (hb hby at_342) (pc' := 345) rfl ?_
  rintro T47 _ _ ⟨rfl, e47, rfl⟩ X47
  rw [List.append_nil] at X47
  show Goes p e below T47 (mkF m 345 #[.val (.int p0), .val (.int p1), .val (.int p2), .val (.ref a), .val (.int (1 : Int32)), .val (.int k1), .unset] [(.int (vv p0 p1 (16 : Int32))), (.int (vv p0 p1 (16 : Int32)))]) _
  refine G.icmpF X47 hx (pc' := 348) (hb hby at_345) (Jvm.Free.XT.ii_ne_f rfl) rfl ?_
  refine G.iconst X47 hx (pc' := 349) (hb hby at_348) (z := (1 : Int32)) rfl rfl ?_
  refine G.goto X47 hx (pc' := 353) (hb hby at_349) (by decide) (by decide) ?_
  refine G.istore X47 hx (pc' := 355) (hb hby at_353) (L' := #[.val (.int p0), .val (.int p1), .val (.int p2), .val (.ref a), .val (.int (1 : Int32)), .val (.int k1), .unset]) rfl rfl ?_
  refine G.iload X47 hx (pc' := 357) (hb hby at_355) rfl rfl ?_
  refine G.ifF X47 hx (pc' := 360) (hb hby at_357) (Jvm.Free.XT.i0_eq_f (by decide)) rfl ?_
  refine G.aloadN X47 hx (pc' := 361) (hb hby at_360) rfl rfl rfl ?_
  refine G.bipush X47 hx (pc' := 363) (hb hby at_361) (z := (15 : Int32)) rfl rfl ?_
  refine G.callV X47 hx hZ (y0 := (⟨"com/example/cevap/cevap/kg/IntList", "get", "(I)I"⟩ : MethodName)) (y := (⟨"com/example/cevap/cevap/kg/IntList", "get", "(I)I"⟩ : MethodName)) hown (hw _ (List.mem_of_getElem? (i := 28) rfl)) (hw _ (List.mem_of_getElem? (i := 29) rfl)) (notFace_of_selects (args := #[]) (mvT hZ (hw _ (List.mem_of_getElem? (i := 31) rfl)))) (hw _ (List.mem_of_getElem? (i := 31) rfl)) (hw _ (List.mem_of_getElem? (i := 30) rfl)) (hw _ (List.mem_of_getElem? (i := 2) rfl)) (hw _ (List.mem_of_getElem? (i := 32) rfl)) (by decide) e47 (rm := ({ frames := 0, cells := 0, slots := 0, locals := 0 } : Room)) (argsL := [(.int (15 : Int32))]) (S := []) (W := 0) (a := a) E44_a (rm_get l Z a0 hw a d (15 : Int32) (17 : Int32) (vv p0 p1 (15 : Int32)) [(.int (vv p0 p1 (0 : Int32))), (.int (vv p0 p1 (1 : Int32))), (.int (vv p0 p1 (2 : Int32))), (.int (vv p0 p1 (3 : Int32))), (.int (vv p0 p1 (4 : Int32))), (.int (vv p0 p1 (5 : Int32))), (.int (vv p0 p1 (6 : Int32))), (.int (vv p0 p1 (7 : Int32))), (.int (vv p0 p1 (8 : Int32))), (.int (vv p0 p1 (9 : Int32))), (.int (vv p0 p1 (10 : Int32))), (.int (vv p0 p1 (11 : Int32))), (.int (vv p0 p1 (12 : Int32))), (.int (vv p0 p1 (13 : Int32))), (.int (vv p0 p1 (14 : Int32))), (.int (vv p0 p1 (15 : Int32))), (.int (vv p0 p1 (16 : Int32))), (.int (0 : Int32)), (.int (0 : Int32)), (.int (0 : Int32)), (.int (0 : Int32)), (.int (0 : Int32)), (.int (0 : Int32)), (.int (0 : Int32))] T44.heap Fs44' Fv44 A44' (by decide) (by decide) rfl) (lenOf pd_9 rfl) rfl (Nat.le_of_eq rfl) (by decide) (by decide) (by decide) (by decide) (by rw [hml]; rfl) (hb hby at_363) (pc' := 366) rfl ?_
  rintro T48 _ _ ⟨rfl, e48, rfl⟩ X48
  rw [List.append_nil] at X48
  show Goes p e below T48 (mkF m 366 #[.val (.int p0), .val (.int p1), .val (.int p2), .val (.ref a), .val (.int (1 : Int32)), .val (.int k1), .unset] [(.int (vv p0 p1 (15 : Int32)))]) _
  refine G.iloadN X48 hx (pc' := 367) (hb hby at_366) rfl rfl ?_
  refine G.iloadN X48 hx (pc' := 368) (hb hby at_367) rfl rfl ?_
  refine G.bipush X48 hx (pc' := 370) (hb hby at_368) (z := (15 : Int32)) rfl rfl ?_
  refine G.callS X48 hx hZ (y := (⟨"com/example/cevap/cevap/kg/IntListAddPinLaw", "v", "(III)I"⟩ : MethodName)) hown (hw _ (List.mem_of_getElem? (i := 19) rfl)) (hw _ (List.mem_of_getElem? (i := 20) rfl)) (hw _ (List.mem_of_getElem? (i := 21) rfl)) (hw _ (List.mem_of_getElem? (i := 22) rfl)) (by decide) e48 (rm := ({ frames := 0, cells := 0, slots := 0, locals := 0 } : Room)) (argsL := [(.int p0), (.int p1), (.int (15 : Int32))]) (S := [(.int (vv p0 p1 (15 : Int32)))]) (W := 1) (rm_v l Z a0 hw p0 p1 (15 : Int32) T44.heap) (lenOf pd_7 rfl) rfl (Nat.le_of_eq rfl) (by decide) (by decide) (by decide) (by decide) (by rw [hml]; rfl) (hb hby at_370) (pc' := 373) rfl ?_
  rintro T49 _ _ ⟨rfl, e49, rfl⟩ X49
  rw [List.append_nil] at X49
  show Goes p e below T49 (mkF m 373 #[.val (.int p0), .val (.int p1), .val (.int p2), .val (.ref a), .val (.int (1 : Int32)), .val (.int k1), .unset] [(.int (vv p0 p1 (15 : Int32))), (.int (vv p0 p1 (15 : Int32)))]) _
  refine G.icmpF X49 hx (pc' := 376) (hb hby at_373) (Jvm.Free.XT.ii_ne_f rfl) rfl ?_
  refine G.iconst X49 hx (pc' := 377) (hb hby at_376) (z := (1 : Int32)) rfl rfl ?_
  refine G.goto X49 hx (pc' := 381) (hb hby at_377) (by decide) (by decide) ?_
  refine G.istore X49 hx (pc' := 383) (hb hby at_381) (L' := #[.val (.int p0), .val (.int p1), .val (.int p2), .val (.ref a), .val (.int (1 : Int32)), .val (.int k1), .unset]) rfl rfl ?_
  refine G.iload X49 hx (pc' := 385) (hb hby at_383) rfl rfl ?_
  refine G.ifF X49 hx (pc' := 388) (hb hby at_385) (Jvm.Free.XT.i0_eq_f (by decide)) rfl ?_
  refine G.aloadN X49 hx (pc' := 389) (hb hby at_388) rfl rfl rfl ?_
  refine G.iconst X49 hx (pc' := 390) (hb hby at_389) (z := (0 : Int32)) rfl rfl ?_
  refine G.callV X49 hx hZ (y0 := (⟨"com/example/cevap/cevap/kg/IntList", "get", "(I)I"⟩ : MethodName)) (y := (⟨"com/example/cevap/cevap/kg/IntList", "get", "(I)I"⟩ : MethodName)) hown (hw _ (List.mem_of_getElem? (i := 28) rfl)) (hw _ (List.mem_of_getElem? (i := 29) rfl)) (notFace_of_selects (args := #[]) (mvT hZ (hw _ (List.mem_of_getElem? (i := 31) rfl)))) (hw _ (List.mem_of_getElem? (i := 31) rfl)) (hw _ (List.mem_of_getElem? (i := 30) rfl)) (hw _ (List.mem_of_getElem? (i := 2) rfl)) (hw _ (List.mem_of_getElem? (i := 32) rfl)) (by decide) e49 (rm := ({ frames := 0, cells := 0, slots := 0, locals := 0 } : Room)) (argsL := [(.int (0 : Int32))]) (S := []) (W := 0) (a := a) E44_a (rm_get l Z a0 hw a d (0 : Int32) (17 : Int32) (vv p0 p1 (0 : Int32)) [(.int (vv p0 p1 (0 : Int32))), (.int (vv p0 p1 (1 : Int32))), (.int (vv p0 p1 (2 : Int32))), (.int (vv p0 p1 (3 : Int32))), (.int (vv p0 p1 (4 : Int32))), (.int (vv p0 p1 (5 : Int32))), (.int (vv p0 p1 (6 : Int32))), (.int (vv p0 p1 (7 : Int32))), (.int (vv p0 p1 (8 : Int32))), (.int (vv p0 p1 (9 : Int32))), (.int (vv p0 p1 (10 : Int32))), (.int (vv p0 p1 (11 : Int32))), (.int (vv p0 p1 (12 : Int32))), (.int (vv p0 p1 (13 : Int32))), (.int (vv p0 p1 (14 : Int32))), (.int (vv p0 p1 (15 : Int32))), (.int (vv p0 p1 (16 : Int32))), (.int (0 : Int32)), (.int (0 : Int32)), (.int (0 : Int32)), (.int (0 : Int32)), (.int (0 : Int32)), (.int (0 : Int32)), (.int (0 : Int32))] T44.heap Fs44' Fv44 A44' (by decide) (by decide) rfl) (lenOf pd_9 rfl) rfl (Nat.le_of_eq rfl) (by decide) (by decide) (by decide) (by decide) (by rw [hml]; rfl) (hb hby at_390) (pc' := 393) rfl ?_
  rintro T50 _ _ ⟨rfl, e50, rfl⟩ X50
  rw [List.append_nil] at X50
  show Goes p e below T50 (mkF m 393 #[.val (.int p0), .val (.int p1), .val (.int p2), .val (.ref a), .val (.int (1 : Int32)), .val (.int k1), .unset] [(.int (vv p0 p1 (0 : Int32)))]) _
  refine G.iloadN X50 hx (pc' := 394) (hb hby at_393) rfl rfl ?_
  refine G.icmpF X50 hx (pc' := 397) (hb hby at_394) (Jvm.Free.XT.ii_ne_f (own_vv0 p0 p1)) rfl ?_
  refine G.iconst X50 hx (pc' := 398) (hb hby at_397) (z := (1 : Int32)) rfl rfl ?_
  refine G.goto X50 hx (pc' := 402) (hb hby at_398) (by decide) (by decide) ?_
  refine G.istore X50 hx (pc' := 404) (hb hby at_402) (L' := #[.val (.int p0), .val (.int p1), .val (.int p2), .val (.ref a), .val (.int (1 : Int32)), .val (.int k1), .unset]) rfl rfl ?_
  refine G.iloadN X50 hx (pc' := 405) (hb hby at_404) rfl rfl ?_
  refine G.iconst X50 hx (pc' := 406) (hb hby at_405) (z := (4 : Int32)) rfl rfl ?_
  refine G.iushr X50 hx (pc' := 407) (hb hby at_406) rfl ?_
  refine G.ldcInt X50 hx hZ hown (hw _ (List.mem_of_getElem? (i := 33) rfl)) (pc' := 409) (hb hby at_407) rfl ?_
  refine G.iand X50 hx (pc' := 410) (hb hby at_409) rfl ?_
  refine G.bipush X50 hx (pc' := 412) (hb hby at_410) (z := (17 : Int32)) rfl rfl ?_
  refine G.irem X50 hx (pc' := 413) (hb hby at_412) (by decide) rfl ?_
  refine G.istore X50 hx (pc' := 415) (hb hby at_413) (L' := #[.val (.int p0), .val (.int p1), .val (.int p2), .val (.ref a), .val (.int (1 : Int32)), .val (.int k1), .val (.int (((Jvm.Free.XT.ushr p2 (4 : Int32)) &&& (2147483647 : Int32)) % (17 : Int32)))]) rfl rfl ?_
  obtain ⟨i2, hi2, hi2'⟩ := own_k (Jvm.Free.XT.ushr p2 (4 : Int32)) (17 : Int32) 17 rfl (by decide)
  have ha2 := own_at p0 p1 [(.int (vv p0 p1 (0 : Int32))), (.int (vv p0 p1 (1 : Int32))), (.int (vv p0 p1 (2 : Int32))), (.int (vv p0 p1 (3 : Int32))), (.int (vv p0 p1 (4 : Int32))), (.int (vv p0 p1 (5 : Int32))), (.int (vv p0 p1 (6 : Int32))), (.int (vv p0 p1 (7 : Int32))), (.int (vv p0 p1 (8 : Int32))), (.int (vv p0 p1 (9 : Int32))), (.int (vv p0 p1 (10 : Int32))), (.int (vv p0 p1 (11 : Int32))), (.int (vv p0 p1 (12 : Int32))), (.int (vv p0 p1 (13 : Int32))), (.int (vv p0 p1 (14 : Int32))), (.int (vv p0 p1 (15 : Int32))), (.int (vv p0 p1 (16 : Int32))), (.int (0 : Int32)), (.int (0 : Int32)), (.int (0 : Int32)), (.int (0 : Int32)), (.int (0 : Int32)), (.int (0 : Int32)), (.int (0 : Int32))] 17 (by decide) (fun i => by match i with | ⟨0, _⟩ => rfl | ⟨1, _⟩ => rfl | ⟨2, _⟩ => rfl | ⟨3, _⟩ => rfl | ⟨4, _⟩ => rfl | ⟨5, _⟩ => rfl | ⟨6, _⟩ => rfl | ⟨7, _⟩ => rfl | ⟨8, _⟩ => rfl | ⟨9, _⟩ => rfl | ⟨10, _⟩ => rfl | ⟨11, _⟩ => rfl | ⟨12, _⟩ => rfl | ⟨13, _⟩ => rfl | ⟨14, _⟩ => rfl | ⟨15, _⟩ => rfl | ⟨16, _⟩ => rfl | ⟨_ + 17, hq⟩ => exact absurd hq (Nat.not_lt_of_le (Nat.le_add_left _ _))) _ (17 : Int32) rfl i2 hi2 hi2'
  generalize hk2 : (((Jvm.Free.XT.ushr p2 (4 : Int32)) &&& (2147483647 : Int32)) % (17 : Int32)) = k2 at ha2 ⊢
  refine G.iload X50 hx (pc' := 417) (hb hby at_415) rfl rfl ?_
  refine G.ifF X50 hx (pc' := 420) (hb hby at_417) (Jvm.Free.XT.i0_eq_f (by decide)) rfl ?_
  refine G.aloadN X50 hx (pc' := 421) (hb hby at_420) rfl rfl rfl ?_
  refine G.iload X50 hx (pc' := 423) (hb hby at_421) rfl rfl ?_
  refine G.callV X50 hx hZ (y0 := (⟨"com/example/cevap/cevap/kg/IntList", "get", "(I)I"⟩ : MethodName)) (y := (⟨"com/example/cevap/cevap/kg/IntList", "get", "(I)I"⟩ : MethodName)) hown (hw _ (List.mem_of_getElem? (i := 28) rfl)) (hw _ (List.mem_of_getElem? (i := 29) rfl)) (notFace_of_selects (args := #[]) (mvT hZ (hw _ (List.mem_of_getElem? (i := 31) rfl)))) (hw _ (List.mem_of_getElem? (i := 31) rfl)) (hw _ (List.mem_of_getElem? (i := 30) rfl)) (hw _ (List.mem_of_getElem? (i := 2) rfl)) (hw _ (List.mem_of_getElem? (i := 32) rfl)) (by decide) e50 (rm := ({ frames := 0, cells := 0, slots := 0, locals := 0 } : Room)) (argsL := [(.int k2)]) (S := []) (W := 0) (a := a) E44_a (rm_get l Z a0 hw a d k2 (17 : Int32) (vv p0 p1 k2) [(.int (vv p0 p1 (0 : Int32))), (.int (vv p0 p1 (1 : Int32))), (.int (vv p0 p1 (2 : Int32))), (.int (vv p0 p1 (3 : Int32))), (.int (vv p0 p1 (4 : Int32))), (.int (vv p0 p1 (5 : Int32))), (.int (vv p0 p1 (6 : Int32))), (.int (vv p0 p1 (7 : Int32))), (.int (vv p0 p1 (8 : Int32))), (.int (vv p0 p1 (9 : Int32))), (.int (vv p0 p1 (10 : Int32))), (.int (vv p0 p1 (11 : Int32))), (.int (vv p0 p1 (12 : Int32))), (.int (vv p0 p1 (13 : Int32))), (.int (vv p0 p1 (14 : Int32))), (.int (vv p0 p1 (15 : Int32))), (.int (vv p0 p1 (16 : Int32))), (.int (0 : Int32)), (.int (0 : Int32)), (.int (0 : Int32)), (.int (0 : Int32)), (.int (0 : Int32)), (.int (0 : Int32)), (.int (0 : Int32))] T44.heap Fs44' Fv44 A44' ha2.1 ha2.2.1 ha2.2.2) (lenOf pd_9 rfl) rfl (Nat.le_of_eq rfl) (by decide) (by decide) (by decide) (by decide) (by rw [hml]; rfl) (hb hby at_423) (pc' := 426) rfl ?_
  rintro T51 _ _ ⟨rfl, e51, rfl⟩ X51
  rw [List.append_nil] at X51
  show Goes p e below T51 (mkF m 426 #[.val (.int p0), .val (.int p1), .val (.int p2), .val (.ref a), .val (.int (1 : Int32)), .val (.int k1), .val (.int k2)] [(.int (vv p0 p1 k2))]) _
  refine G.iloadN X51 hx (pc' := 427) (hb hby at_426) rfl rfl ?_
  refine G.iloadN X51 hx (pc' := 428) (hb hby at_427) rfl rfl ?_
  refine G.iload X51 hx (pc' := 430) (hb hby at_428) rfl rfl ?_
  refine G.callS X51 hx hZ (y := (⟨"com/example/cevap/cevap/kg/IntListAddPinLaw", "v", "(III)I"⟩ : MethodName)) hown (hw _ (List.mem_of_getElem? (i := 19) rfl)) (hw _ (List.mem_of_getElem? (i := 20) rfl)) (hw _ (List.mem_of_getElem? (i := 21) rfl)) (hw _ (List.mem_of_getElem? (i := 22) rfl)) (by decide) e51 (rm := ({ frames := 0, cells := 0, slots := 0, locals := 0 } : Room)) (argsL := [(.int p0), (.int p1), (.int k2)]) (S := [(.int (vv p0 p1 k2))]) (W := 1) (rm_v l Z a0 hw p0 p1 k2 T44.heap) (lenOf pd_7 rfl) rfl (Nat.le_of_eq rfl) (by decide) (by decide) (by decide) (by decide) (by rw [hml]; rfl) (hb hby at_430) (pc' := 433) rfl ?_
  rintro T52 _ _ ⟨rfl, e52, rfl⟩ X52
  rw [List.append_nil] at X52
  show Goes p e below T52 (mkF m 433 #[.val (.int p0), .val (.int p1), .val (.int p2), .val (.ref a), .val (.int (1 : Int32)), .val (.int k1), .val (.int k2)] [(.int (vv p0 p1 k2)), (.int (vv p0 p1 k2))]) _
  refine G.icmpF X52 hx (pc' := 436) (hb hby at_433) (Jvm.Free.XT.ii_ne_f rfl) rfl ?_
  refine G.iconst X52 hx (pc' := 437) (hb hby at_436) (z := (1 : Int32)) rfl rfl ?_
  refine G.goto X52 hx (pc' := 441) (hb hby at_437) (by decide) (by decide) ?_
  refine G.istore X52 hx (pc' := 443) (hb hby at_441) (L' := #[.val (.int p0), .val (.int p1), .val (.int p2), .val (.ref a), .val (.int (1 : Int32)), .val (.int k1), .val (.int k2)]) rfl rfl ?_
  refine G.iload X52 hx (pc' := 445) (hb hby at_443) rfl rfl ?_
  refine Goes.retN X52 hx hret (by simp) hlk (hb hby at_445) (by decide) (by decide) ⟨rfl, K44.fr⟩
set_option maxRecDepth 65536 in
set_option maxHeartbeats 40000000 in
theorem comes_1 {Post : Tables → Env → Array Value → State → Outcome → State → Prop} (hpost : ∀ tb e args s v u, (limb_1_1.after args s (.returned v) u = true ∧ limb_1_2.after args s (.returned v) u = true ∧ True) → FrameEnd s (.returned v) u (Jvm.fieldLocs frame_1_writes args s ++ Jvm.arrayLocs frame_1_arrays args s ++ Jvm.staticLocs frame_1_statics s) 16 192 → Post tb e args s (.returned v) u) :
    ArmFor flags0 classFile x code maxLocals ret World_1 tables_1 room_1 Calls_1 rest_1 Pre_1 Post := by
  intro l hfl _ _ p e ha hc hk s m args below hf hA hF happ hP
  obtain ⟨hcalls, hrest, hpre⟩ := hP
  obtain ⟨-, -, -, hnamed, -, -, -, hat⟩ := (Spec.applies_iff hf).mp happ
  obtain ⟨hg, hn⟩ := and_e (Cond.before_iff.mp (show (Jvm.Cond.and given_1 narrow_1).before args s = true from hpre))
  obtain ⟨hg0, hg1⟩ := and_e hg
  obtain ⟨hb1, hg2⟩ := and_e hg1
  obtain ⟨hb2, hg3⟩ := and_e hg2
  obtain ⟨w0, w1, w2, rfl⟩ : ∃ w0 w1 w2 : Value, args = #[w0, w1, w2] := by
    have hs : args.size = 3 := by simpa [Cond.value, given_1] using hg0
    obtain ⟨L⟩ := args
    match L, hs with
    | [w0, w1, w2], _ => exact ⟨w0, w1, w2, rfl⟩
  have hw := fun d (hd : d ∈ tables_1) => atoms_spec (ws := Jvm.Cond.code x code maxLocals ret :: tables_1) hat d (List.mem_cons_of_mem _ hd)
  have hfit : Fit s := fun {y c} hc i hi => by
    obtain ⟨ha, rfl⟩ := Array.getElem?_eq_some_iff.mp hc
    have q := List.all_eq_true.mp ((Array.all_eq_true_iff_forall_mem.mp hF) _ (Array.getElem_mem ha)) i (List.mem_range.mpr hi)
    simpa [Array.getElem?_eq_getElem hi] using q
  obtain ⟨i0, ea0⟩ := is_v hb1
  obtain rfl : w0 = (.int i0) := Option.some.inj ea0
  obtain ⟨i1, ea1⟩ := is_v hb2
  obtain rfl : w1 = (.int i1) := Option.some.inj ea1
  obtain ⟨i2, ea2⟩ := is_v hg3
  obtain rfl : w2 = (.int i2) := Option.some.inj ea2
  obtain ⟨n, o, h1, h2, h3, _, L, rfl, ⟨rfl, N⟩, hq⟩ := rm0 l s _ hw i0 i1 i2 s.heap tables_1 p e ha hc hk s m _ below hf ((Spec.applies_iff_loose hf).mp happ).1 ⟨rfl, State.Warmed39.refl s, rfl⟩ trivial
  refine ⟨n, _, h1, h2, h3, hpost _ _ _ _ _ _ ⟨Cond.after_iff.mpr rfl, Cond.after_iff.mpr (eq_i res_at (Term.int_eval (1)) rfl), trivial⟩ ⟨hq.1, hq.2.1, (hq.2.2.sift fun y hy => Or.inr (N y hy)).mono (by decide) (by decide)⟩⟩
theorem main_1_1 : Claimed_1_1 := comes_1 fun _ _ _ _ _ _ h hF => ⟨h.1, hF⟩
theorem main_1_2 : Claimed_1_2 := comes_1 fun _ _ _ _ _ _ h hF => ⟨h.2.1, hF⟩

end Jvm.Pilot.@@N@@
namespace Jvm.Pilot.@@N@@
open Jvm Jvm.ClassFile Sem Op Lib Jvm.Free Jvm.Stand Jvm.Pilot.@@N@@.Jvm.D
/-! MADE BY PROGRAM (witnessworld.py) out of the Statement's table words and the real class files: 12 classes; the members and pool entries that the words name. The judged class is class 1, her method 2. -/
namespace start1
open Jvm.ClassFile
def u (s : String) : CpInfo := .utf8 (stringToUtf16 s)
/-- a pool by its gaps: so many unusable entries, then the entry; so many at the end -/
def gap : Nat → List CpInfo → List CpInfo
  | 0, r => r
  | n + 1, r => .unusable :: gap n r
def poolList (es : List (Nat × CpInfo)) (last : Nat) : List CpInfo := es.foldr (fun e r => gap e.1 (e.2 :: r)) (gap last [])
def pool (es : List (Nat × CpInfo)) (last : Nat) : Array CpInfo := ⟨poolList es last⟩
def fileOf (pool : Array CpInfo) (this : Nat) (attrs : Array Attribute := #[]) (ms : Array MethodInfo := #[]) (fl : Nat := 33) (sup : Nat := 0) (ifs : Array Nat := #[]) (fds : Array FieldInfo := #[]) : ClassFile where
  minorVersion := 0
  majorVersion := 65
  constantPool := pool
  accessFlags := fl
  thisClass := this
  superClass := sup
  interfaces := ifs
  fields := fds
  methods := ms
  attributes := attrs
def plain (name : String) (sup : Option ClassId) : Class where
  name := name
  kind := .ordinary
  loader := none
  accessFlags := 33
  super := sup
  interfaces := #[]
  cf := none
  fields := #[]
  methods := #[]
  instanceTypes := #[]
  staticTypes := #[]
  resolved := #[]
  callSites := []
  init := .initialized
  statics := none
  mirror := none

def pool0 : Array CpInfo := pool [(5, u "<init>"), (0, u "()V"), (1, .class_ 10), (1, u "java/lang/Object")] 113

def k0c0 : Code := { maxStack := 0, maxLocals := 1, code := object_method_1_code, exceptionTable := #[], attributes := #[] }
def k0m0 : Method := { name := "<init>", desc := "()V", sig := { parameters := [], returnType := none }, accessFlags := 1, code := some k0c0 }
/-- java/lang/Object -/
def k0 : Class := { plain "java/lang/Object" none with
  accessFlags := 33
  interfaces := #[]
  cf := some (fileOf pool0 8 #[] #[{ accessFlags := 1, nameIndex := 5, descriptorIndex := 6, attributes := #[] }] 33 0 #[] #[])
  fields := #[]
  methods := #[k0m0]
  instanceTypes := #[]
  staticTypes := #[]
  resolved := Array.replicate 124 none
  statics := none }

def pool1 : Array CpInfo := pool [(2, .class_ 4), (0, .nameAndType 5 6), (0, u "java/lang/Object"), (0, u "<init>"), (0, u "()V"), (0, .class_ 8), (0, u "com/example/cevap/cevap/kg/IntList"), (0, .methodref 7 3), (0, .methodref 7 11), (0, .nameAndType 12 13), (0, u "size"), (0, u "()I"), (0, .methodref 15 16), (0, .class_ 17), (0, .nameAndType 18 19), (0, u "com/example/cevap/cevap/kg/IntListAddPinLaw"), (0, u "v"), (0, u "(III)I"), (0, .methodref 7 21), (0, .nameAndType 22 23), (0, u "add"), (0, u "(I)V"), (0, .methodref 7 25), (0, .nameAndType 26 27), (0, u "get"), (0, u "(I)I"), (0, .integer 2147483647), (2, u "law"), (0, u "(III)Z")] 3

def k1m0 : Method := { name := "<init>", desc := "()V", sig := { parameters := [], returnType := none }, accessFlags := 1, code := none }
def k1c1 : Code := { maxStack := 3, maxLocals := 3, code := method_2_code, exceptionTable := #[], attributes := #[] }
def k1m1 : Method := { name := "v", desc := "(III)I", sig := { parameters := [.int, .int, .int], returnType := some .int }, accessFlags := 10, code := some k1c1 }
def k1c2 : Code := { maxStack := 4, maxLocals := 7, code := code, exceptionTable := #[], attributes := #[] }
def k1m2 : Method := { name := "law", desc := "(III)Z", sig := { parameters := [.int, .int, .int], returnType := some .boolean }, accessFlags := 9, code := some k1c2 }
/-- com/example/cevap/cevap/kg/IntListAddPinLaw -/
def k1 : Class := { plain "com/example/cevap/cevap/kg/IntListAddPinLaw" (some 0) with
  accessFlags := 49
  interfaces := #[]
  cf := some (fileOf pool1 15 #[] #[{ accessFlags := 1, nameIndex := 5, descriptorIndex := 6, attributes := #[] }, { accessFlags := 10, nameIndex := 18, descriptorIndex := 19, attributes := #[] }, { accessFlags := 9, nameIndex := 31, descriptorIndex := 32, attributes := #[] }] 49 2 #[] #[])
  fields := #[]
  methods := #[k1m0, k1m1, k1m2]
  instanceTypes := #[]
  staticTypes := #[]
  resolved := Array.replicate 36 none
  statics := none }

def pool2 : Array CpInfo := pool [(1, .methodref 2 3), (0, .class_ 4), (0, .nameAndType 5 6), (0, u "java/lang/Object"), (0, u "<init>"), (0, u "()V"), (0, .fieldref 8 9), (0, .class_ 10), (0, .nameAndType 11 12), (0, u "com/example/cevap/cevap/kg/IntList"), (0, u "values"), (0, u "[I"), (0, .fieldref 8 14), (0, .nameAndType 15 16), (0, u "size"), (0, u "I"), (0, .methodref 18 19), (0, .class_ 20), (0, .nameAndType 21 22), (0, u "java/lang/Math"), (0, u "addExact"), (0, u "(II)I"), (0, .methodref 24 25), (0, .class_ 26), (0, .nameAndType 27 28), (0, u "java/util/Arrays"), (0, u "copyOf"), (0, u "([II)[I"), (4, u "(I)V"), (2, u "add"), (1, u "get"), (0, u "(I)I"), (0, u "()I")] 2

def k2c0 : Code := { maxStack := 2, maxLocals := 1, code := prog_6_method_1_code, exceptionTable := #[], attributes := #[] }
def k2m0 : Method := { name := "<init>", desc := "()V", sig := { parameters := [], returnType := none }, accessFlags := 0, code := some k2c0 }
def k2c1 : Code := { maxStack := 5, maxLocals := 2, code := prog_6_method_2_code, exceptionTable := #[], attributes := #[] }
def k2m1 : Method := { name := "add", desc := "(I)V", sig := { parameters := [.int], returnType := none }, accessFlags := 0, code := some k2c1 }
def k2c2 : Code := { maxStack := 3, maxLocals := 2, code := prog_6_method_3_code, exceptionTable := #[], attributes := #[] }
def k2m2 : Method := { name := "get", desc := "(I)I", sig := { parameters := [.int], returnType := some .int }, accessFlags := 0, code := some k2c2 }
def k2c3 : Code := { maxStack := 1, maxLocals := 1, code := prog_6_method_4_code, exceptionTable := #[], attributes := #[] }
def k2m3 : Method := { name := "size", desc := "()I", sig := { parameters := [], returnType := some .int }, accessFlags := 0, code := some k2c3 }
/-- com/example/cevap/cevap/kg/IntList -/
def k2 : Class := { plain "com/example/cevap/cevap/kg/IntList" (some 0) with
  accessFlags := 48
  interfaces := #[]
  cf := some (fileOf pool2 8 #[] #[{ accessFlags := 0, nameIndex := 5, descriptorIndex := 6, attributes := #[] }, { accessFlags := 0, nameIndex := 36, descriptorIndex := 33, attributes := #[] }, { accessFlags := 0, nameIndex := 38, descriptorIndex := 39, attributes := #[] }, { accessFlags := 0, nameIndex := 15, descriptorIndex := 40, attributes := #[] }] 48 2 #[] #[{ accessFlags := 2, nameIndex := 11, descriptorIndex := 12, attributes := #[] }, { accessFlags := 2, nameIndex := 15, descriptorIndex := 16, attributes := #[] }])
  fields := #[{ name := "values", type := (.array .int), accessFlags := 2, slot := 0, constantValue := 0 }, { name := "size", type := .int, accessFlags := 2, slot := 1, constantValue := 0 }]
  methods := #[k2m0, k2m1, k2m2, k2m3]
  instanceTypes := #[(.array .int), .int]
  staticTypes := #[]
  resolved := Array.replicate 43 none
  statics := none }

def pool3 : Array CpInfo := pool [(1, .class_ 2), (0, u "java/lang/Math"), (1, .class_ 6), (1, u "java/lang/Object"), (0, u "<init>"), (0, u "()V"), (89, .class_ 100), (1, u "java/lang/Math$RandomNumberGeneratorHolder"), (71, u "negativeZeroFloatBits"), (0, u "J"), (2, u "negativeZeroDoubleBits"), (24, u "min"), (43, u "$assertionsDisabled"), (0, u "Z"), (88, u "(II)I"), (2, u "twoToTheDoubleScaleDown"), (0, u "D"), (4, u "twoToTheDoubleScaleUp"), (9, u "E"), (3, u "PI"), (2, u "TAU"), (2, u "DEGREES_TO_RADIANS"), (0, u "RADIANS_TO_DEGREES"), (27, u "addExact")] 66

def k3m0 : Method := { name := "<init>", desc := "()V", sig := { parameters := [], returnType := none }, accessFlags := 2, code := none }
def k3c1 : Code := { maxStack := 3, maxLocals := 3, code := jdk_29_method_24_code, exceptionTable := #[], attributes := #[] }
def k3m1 : Method := { name := "addExact", desc := "(II)I", sig := { parameters := [.int, .int], returnType := some .int }, accessFlags := 9, code := some k3c1 }
def k3c2 : Code := { maxStack := 2, maxLocals := 2, code := jdk_29_method_69_code, exceptionTable := #[], attributes := #[] }
def k3m2 : Method := { name := "min", desc := "(II)I", sig := { parameters := [.int, .int], returnType := some .int }, accessFlags := 9, code := some k3c2 }
/-- java/lang/Math -/
def k3 : Class := { plain "java/lang/Math" (some 0) with
  accessFlags := 49
  interfaces := #[]
  cf := some (fileOf pool3 1 #[.nestMembers #[98]] #[{ accessFlags := 2, nameIndex := 7, descriptorIndex := 8, attributes := #[] }, { accessFlags := 9, nameIndex := 393, descriptorIndex := 335, attributes := #[] }, { accessFlags := 9, nameIndex := 201, descriptorIndex := 335, attributes := #[] }] 49 4 #[] #[{ accessFlags := 25, nameIndex := 354, descriptorIndex := 339, attributes := #[] }, { accessFlags := 25, nameIndex := 358, descriptorIndex := 339, attributes := #[] }, { accessFlags := 25, nameIndex := 361, descriptorIndex := 339, attributes := #[] }, { accessFlags := 26, nameIndex := 364, descriptorIndex := 339, attributes := #[] }, { accessFlags := 26, nameIndex := 365, descriptorIndex := 339, attributes := #[] }, { accessFlags := 26, nameIndex := 172, descriptorIndex := 173, attributes := #[] }, { accessFlags := 26, nameIndex := 176, descriptorIndex := 173, attributes := #[] }, { accessFlags := 8, nameIndex := 344, descriptorIndex := 339, attributes := #[] }, { accessFlags := 8, nameIndex := 338, descriptorIndex := 339, attributes := #[] }, { accessFlags := 4120, nameIndex := 245, descriptorIndex := 246, attributes := #[] }])
  fields := #[{ name := "E", type := .double, accessFlags := 25, slot := 0, constantValue := 0 }, { name := "PI", type := .double, accessFlags := 25, slot := 1, constantValue := 0 }, { name := "TAU", type := .double, accessFlags := 25, slot := 2, constantValue := 0 }, { name := "DEGREES_TO_RADIANS", type := .double, accessFlags := 26, slot := 3, constantValue := 0 }, { name := "RADIANS_TO_DEGREES", type := .double, accessFlags := 26, slot := 4, constantValue := 0 }, { name := "negativeZeroFloatBits", type := .long, accessFlags := 26, slot := 5, constantValue := 0 }, { name := "negativeZeroDoubleBits", type := .long, accessFlags := 26, slot := 6, constantValue := 0 }, { name := "twoToTheDoubleScaleUp", type := .double, accessFlags := 8, slot := 7, constantValue := 0 }, { name := "twoToTheDoubleScaleDown", type := .double, accessFlags := 8, slot := 8, constantValue := 0 }, { name := "$assertionsDisabled", type := .boolean, accessFlags := 4120, slot := 9, constantValue := 0 }]
  methods := #[k3m0, k3m1, k3m2]
  instanceTypes := #[]
  staticTypes := #[.double, .double, .double, .double, .double, .long, .long, .double, .double, .boolean]
  resolved := Array.replicate 460 none
  statics := none }

def pool4 : Array CpInfo := pool [(2, .class_ 4), (1, u "java/lang/Object"), (0, u "<init>"), (0, u "()V"), (7, .class_ 16), (1, u "java/util/Arrays"), (57, .class_ 76), (1, u "java/util/Arrays$NaturalOrder"), (36, .class_ 115), (1, u "java/util/Arrays$LegacyMergeSort"), (1, u "Z"), (32, .methodref 151 152), (0, .class_ 153), (0, .nameAndType 154 155), (0, u "java/lang/System"), (0, u "arraycopy"), (0, u "(Ljava/lang/Object;ILjava/lang/Object;II)V"), (146, u "copyOf"), (1, .methodref 305 306), (0, .class_ 307), (0, .nameAndType 308 309), (0, u "java/lang/Math"), (0, u "min"), (0, u "(II)I"), (65, .class_ 376), (0, u "java/util/Arrays$ArrayList"), (68, u "$assertionsDisabled"), (269, u "MIN_ARRAY_SORT_GRAN"), (0, u "I"), (2, u "INSERTIONSORT_THRESHOLD"), (151, u "([II)[I"), (103, .class_ 976), (0, u "java/util/Arrays$ArrayItr")] 52

def k4m0 : Method := { name := "<init>", desc := "()V", sig := { parameters := [], returnType := none }, accessFlags := 2, code := none }
def k4c1 : Code := { maxStack := 6, maxLocals := 3, code := jdk_65_method_123_code, exceptionTable := #[], attributes := #[] }
def k4m1 : Method := { name := "copyOf", desc := "([II)[I", sig := { parameters := [(.array .int), .int], returnType := some (.array .int) }, accessFlags := 9, code := some k4c1 }
/-- java/util/Arrays -/
def k4 : Class := { plain "java/util/Arrays" (some 0) with
  accessFlags := 49
  interfaces := #[]
  cf := some (fileOf pool4 14 #[.nestMembers #[975, 375, 113, 74]] #[{ accessFlags := 2, nameIndex := 5, descriptorIndex := 6, attributes := #[] }, { accessFlags := 9, nameIndex := 302, descriptorIndex := 871, attributes := #[] }] 49 2 #[] #[{ accessFlags := 26, nameIndex := 715, descriptorIndex := 716, attributes := #[] }, { accessFlags := 26, nameIndex := 719, descriptorIndex := 716, attributes := #[] }, { accessFlags := 4120, nameIndex := 445, descriptorIndex := 117, attributes := #[] }])
  fields := #[{ name := "MIN_ARRAY_SORT_GRAN", type := .int, accessFlags := 26, slot := 0, constantValue := 0 }, { name := "INSERTIONSORT_THRESHOLD", type := .int, accessFlags := 26, slot := 1, constantValue := 0 }, { name := "$assertionsDisabled", type := .boolean, accessFlags := 4120, slot := 2, constantValue := 0 }]
  methods := #[k4m0, k4m1]
  instanceTypes := #[]
  staticTypes := #[.int, .int, .boolean]
  resolved := Array.replicate 1029 none
  statics := none }

def pool5 : Array CpInfo := pool [(2, .class_ 4), (1, u "java/lang/Object"), (0, u "<init>"), (0, u "()V"), (1, .class_ 10), (1, u "java/lang/System"), (0, u "allowSecurityManager"), (0, u "I"), (16, u "cons"), (0, u "Ljava/io/Console;"), (77, .class_ 110), (1, u "java/lang/System$CallersHolder"), (43, u "initialErrStream"), (0, u "Ljava/io/PrintStream;"), (19, u "security"), (0, u "Ljava/lang/SecurityManager;"), (31, .class_ 209), (0, u "java/lang/System$1"), (7, u "props"), (0, u "Ljava/util/Properties;"), (2, u "lineSeparator"), (0, u "Ljava/lang/String;"), (96, .class_ 321), (1, u "java/lang/System$LoggerFinder"), (5, .class_ 328), (0, u "java/lang/System$Logger"), (67, u "err"), (2, u "out"), (91, u "notSupportedJnuEncoding"), (15, u "in"), (17, u "initialIn"), (0, u "Ljava/io/InputStream;"), (35, u "bootLayer"), (0, u "Ljava/lang/ModuleLayer;"), (99, .class_ 664), (0, u "java/lang/System$2"), (9, u "NEVER"), (2, u "MAYBE"), (49, u "arraycopy"), (0, u "(Ljava/lang/Object;ILjava/lang/Object;II)V"), (72, .class_ 802), (0, u "java/lang/System$Logger$Level")] 31

def k5m0 : Method := { name := "<init>", desc := "()V", sig := { parameters := [], returnType := none }, accessFlags := 2, code := none }
def k5m1 : Method := { name := "arraycopy", desc := "(Ljava/lang/Object;ILjava/lang/Object;II)V", sig := { parameters := [(.object "java/lang/Object"), .int, (.object "java/lang/Object"), .int, .int], returnType := none }, accessFlags := 265, code := none }
/-- java/lang/System -/
def k5 : Class := { plain "java/lang/System" (some 0) with
  accessFlags := 49
  interfaces := #[]
  cf := some (fileOf pool5 8 #[.nestMembers #[319, 327, 801, 108, 663, 208]] #[{ accessFlags := 2, nameIndex := 5, descriptorIndex := 6, attributes := #[] }, { accessFlags := 265, nameIndex := 727, descriptorIndex := 728, attributes := #[] }] 49 2 #[] #[{ accessFlags := 25, nameIndex := 507, descriptorIndex := 526, attributes := #[] }, { accessFlags := 25, nameIndex := 399, descriptorIndex := 155, attributes := #[] }, { accessFlags := 25, nameIndex := 396, descriptorIndex := 155, attributes := #[] }, { accessFlags := 10, nameIndex := 525, descriptorIndex := 526, attributes := #[] }, { accessFlags := 26, nameIndex := 674, descriptorIndex := 12, attributes := #[] }, { accessFlags := 26, nameIndex := 677, descriptorIndex := 12, attributes := #[] }, { accessFlags := 10, nameIndex := 11, descriptorIndex := 12, attributes := #[] }, { accessFlags := 74, nameIndex := 175, descriptorIndex := 176, attributes := #[] }, { accessFlags := 10, nameIndex := 491, descriptorIndex := 222, attributes := #[] }, { accessFlags := 74, nameIndex := 29, descriptorIndex := 30, attributes := #[] }, { accessFlags := 74, nameIndex := 154, descriptorIndex := 155, attributes := #[] }, { accessFlags := 10, nameIndex := 217, descriptorIndex := 218, attributes := #[] }, { accessFlags := 10, nameIndex := 221, descriptorIndex := 222, attributes := #[] }, { accessFlags := 8, nameIndex := 562, descriptorIndex := 563, attributes := #[] }])
  fields := #[{ name := "in", type := (.object "java/io/InputStream"), accessFlags := 25, slot := 0, constantValue := 0 }, { name := "out", type := (.object "java/io/PrintStream"), accessFlags := 25, slot := 1, constantValue := 0 }, { name := "err", type := (.object "java/io/PrintStream"), accessFlags := 25, slot := 2, constantValue := 0 }, { name := "initialIn", type := (.object "java/io/InputStream"), accessFlags := 10, slot := 3, constantValue := 0 }, { name := "NEVER", type := .int, accessFlags := 26, slot := 4, constantValue := 0 }, { name := "MAYBE", type := .int, accessFlags := 26, slot := 5, constantValue := 0 }, { name := "allowSecurityManager", type := .int, accessFlags := 10, slot := 6, constantValue := 0 }, { name := "security", type := (.object "java/lang/SecurityManager"), accessFlags := 74, slot := 7, constantValue := 0 }, { name := "notSupportedJnuEncoding", type := (.object "java/lang/String"), accessFlags := 10, slot := 8, constantValue := 0 }, { name := "cons", type := (.object "java/io/Console"), accessFlags := 74, slot := 9, constantValue := 0 }, { name := "initialErrStream", type := (.object "java/io/PrintStream"), accessFlags := 74, slot := 10, constantValue := 0 }, { name := "props", type := (.object "java/util/Properties"), accessFlags := 10, slot := 11, constantValue := 0 }, { name := "lineSeparator", type := (.object "java/lang/String"), accessFlags := 10, slot := 12, constantValue := 0 }, { name := "bootLayer", type := (.object "java/lang/ModuleLayer"), accessFlags := 8, slot := 13, constantValue := 0 }]
  methods := #[k5m0, k5m1]
  instanceTypes := #[]
  staticTypes := #[(.object "java/io/InputStream"), (.object "java/io/PrintStream"), (.object "java/io/PrintStream"), (.object "java/io/InputStream"), .int, .int, .int, (.object "java/lang/SecurityManager"), (.object "java/lang/String"), (.object "java/io/Console"), (.object "java/io/PrintStream"), (.object "java/util/Properties"), (.object "java/lang/String"), (.object "java/lang/ModuleLayer")]
  resolved := Array.replicate 834 none
  statics := none }

def pool6 : Array CpInfo := pool [(1, u "java/lang/Cloneable"), (0, .class_ 1), (0, u "java/lang/Object"), (0, .class_ 3)] 3

/-- java/lang/Cloneable -/
def k6 : Class := { plain "java/lang/Cloneable" (some 0) with
  accessFlags := 1537
  interfaces := #[]
  cf := some (fileOf pool6 2 #[] #[] 1537 4 #[] #[])
  fields := #[]
  methods := #[]
  instanceTypes := #[]
  staticTypes := #[]
  resolved := Array.replicate 8 none
  statics := none }

def pool7 : Array CpInfo := pool [(1, u "java/io/Serializable"), (0, .class_ 1), (0, u "java/lang/Object"), (0, .class_ 3)] 3

/-- java/io/Serializable -/
def k7 : Class := { plain "java/io/Serializable" (some 0) with
  accessFlags := 1537
  interfaces := #[]
  cf := some (fileOf pool7 2 #[] #[] 1537 4 #[] #[])
  fields := #[]
  methods := #[]
  instanceTypes := #[]
  staticTypes := #[]
  resolved := Array.replicate 8 none
  statics := none }

/-- the primitive byte -/
def k8 : Class := { plain "byte" none with kind := .primitive 'B', accessFlags := 0x411 }
/-- [B -/
def k9 : Class := { plain "[B" (some 0) with kind := .array 8 .byte, interfaces := #[6, 7], accessFlags := 1041 }

/-- the primitive int -/
def k10 : Class := { plain "int" none with kind := .primitive 'I', accessFlags := 0x411 }
/-- [I -/
def k11 : Class := { plain "[I" (some 0) with kind := .array 10 .int, interfaces := #[6, 7], accessFlags := 1041 }

def heap : Heap := #[]
def classes : Array Class := #[k0, k1, k2, k3, k4, k5, k6, k7, k8, k9, k10, k11]
def interned : List (Array UInt16 × Addr) := []
def slotsUsed : Nat := 0
def theMethod : MethodId := ⟨1, 2⟩
def args0 : Array Value := #[.int 1, .int 2, .int 3]
def aboutOver (below : List Frame) : State where
  vm := { classes := classes, interned := interned.toArray }
  heap := heap
  slotsUsed := slotsUsed
  threads := #[{ frames := .invoking theMethod args0 :: below }]
def below0 : List Frame := [.native { method := ⟨0, 0⟩, args := #[] }]
def about1 : State := aboutOver below0
def p0 : Program := .bare "" "" ""
def e0 : Env := launch0.env 0 0 0
theorem w_frames : about1.frames = Frame.invoking theMethod args0 :: below0 := rfl
set_option maxRecDepth 65536 in
theorem w_args : argsFit about1.vm theMethod args0 = true := by decide +kernel
set_option maxRecDepth 65536 in
theorem w_heap : heapFits about1 = true := by decide +kernel
set_option maxRecDepth 65536 in
theorem w_runnable : about1.curStatus? = some .runnable := by decide +kernel
set_option maxRecDepth 65536 in
theorem w_alone : about1.alone = true := by decide +kernel
set_option maxRecDepth 65536 in
theorem w_named : about1.methodNamed? x = some theMethod := by decide +kernel
set_option maxRecDepth 65536 in
theorem w_hears : about1.hears theMethod below0 = true := by decide +kernel
set_option maxRecDepth 65536 in
theorem w_ripe : about1.ripe theMethod args0 below0 = true := by decide +kernel
theorem w_running : about1.status = .running := rfl
set_option maxRecDepth 65536 in
theorem w_room : about1.hasRoom e0.platform room_1 = true :=
  launch0.hasRoom_least _ room_1 (by decide +kernel) (by decide +kernel) (by decide +kernel) (by decide +kernel) (by decide +kernel) (by decide +kernel)
theorem allAtoms_all (ts : List Jvm.Cond) (a : Array Jvm.Value) (st : Jvm.State) : (allAtoms ts).before a st = ts.all (fun c => c.before a st) := by
  induction ts with
  | nil => rfl
  | cons c t ih =>
    show (Jvm.Cond.and c (allAtoms t)).before a st = _
    rw [Jvm.Cond.before_and, ih, List.all_cons]
def words1 : List Jvm.Cond := Jvm.Cond.code x code maxLocals ret :: tables_1
/-- a 'code' word, met by the world's own term for the bytes: nothing is compared byte by byte -/
theorem code_word {y : MethodName} {bytes : ByteArray} {mx : Nat} {rt : Option FieldType} {a : Array Value} {s : State} {m : MethodId} {meth : Method} {c : Code} (h1 : s.methodNamed? y = some m) (h2 : s.vm.method? m = some meth) (h3 : meth.code = some c) (h4 : c.code = bytes)
    (h5 : (c.maxLocals == mx && c.exceptionTable.isEmpty && decide (c.maxStack ≤ mostOperands) && decide (meth.sig.returnType = rt) && !meth.locks && decide (parseMethodDescriptor y.desc = some meth.sig)) = true) : (Jvm.Cond.code y bytes mx rt).before a s = true := by
  simp only [Bool.and_eq_true, beq_iff_eq, Bool.not_eq_true', decide_eq_true_eq] at h5
  obtain ⟨⟨⟨⟨⟨g1, g2⟩, g3⟩, g4⟩, g5⟩, g6⟩ := h5
  simp [Cond.before, Cond.holds, Cond.value, h1, h2, h3, h4, g1, g2, g3, g4, g5, g6]
def isCode : Jvm.Cond → Bool
  | .code _ _ _ _ => true
  | _ => false
theorem all_split {L : List Jvm.Cond} {P : Jvm.Cond → Bool} (h1 : L.all (fun c => isCode c || P c) = true) (h2 : ∀ c ∈ L.filter isCode, P c = true) : L.all P = true := by
  refine List.all_eq_true.mpr fun c hc => ?_
  have h := List.all_eq_true.mp h1 c hc
  rcases Bool.eq_false_or_eq_true (isCode c) with hi | hi
  · exact h2 c (List.mem_filter.mpr ⟨hc, hi⟩)
  · simpa [hi] using h
set_option maxRecDepth 65536 in
theorem w_c0 : (Jvm.Cond.code x code maxLocals ret).before args0 about1 = true := code_word (m := ⟨1, 2⟩) (meth := k1m2) (c := k1c2) (by decide +kernel) rfl rfl rfl (by decide +kernel)
set_option maxRecDepth 65536 in
theorem w_c1 : (Jvm.Cond.code ({ cls := "com/example/cevap/cevap/kg/IntList", name := "<init>", desc := "()V" } : Jvm.MethodName) prog_6_method_1_code (1 : Nat) (Option.none : Option Jvm.ClassFile.FieldType)).before args0 about1 = true := code_word (m := ⟨2, 0⟩) (meth := k2m0) (c := k2c0) (by decide +kernel) rfl rfl rfl (by decide +kernel)
set_option maxRecDepth 65536 in
theorem w_c2 : (Jvm.Cond.code ({ cls := "java/lang/Object", name := "<init>", desc := "()V" } : Jvm.MethodName) object_method_1_code (1 : Nat) (Option.none : Option Jvm.ClassFile.FieldType)).before args0 about1 = true := code_word (m := ⟨0, 0⟩) (meth := k0m0) (c := k0c0) (by decide +kernel) rfl rfl rfl (by decide +kernel)
set_option maxRecDepth 65536 in
theorem w_c3 : (Jvm.Cond.code ({ cls := "com/example/cevap/cevap/kg/IntList", name := "size", desc := "()I" } : Jvm.MethodName) prog_6_method_4_code (1 : Nat) (Option.some Jvm.ClassFile.FieldType.int)).before args0 about1 = true := code_word (m := ⟨2, 3⟩) (meth := k2m3) (c := k2c3) (by decide +kernel) rfl rfl rfl (by decide +kernel)
set_option maxRecDepth 65536 in
theorem w_c4 : (Jvm.Cond.code ({ cls := "com/example/cevap/cevap/kg/IntListAddPinLaw", name := "v", desc := "(III)I" } : Jvm.MethodName) method_2_code (3 : Nat) (Option.some Jvm.ClassFile.FieldType.int)).before args0 about1 = true := code_word (m := ⟨1, 1⟩) (meth := k1m1) (c := k1c1) (by decide +kernel) rfl rfl rfl (by decide +kernel)
set_option maxRecDepth 65536 in
theorem w_c5 : (Jvm.Cond.code ({ cls := "com/example/cevap/cevap/kg/IntList", name := "add", desc := "(I)V" } : Jvm.MethodName) prog_6_method_2_code (2 : Nat) (Option.none : Option Jvm.ClassFile.FieldType)).before args0 about1 = true := code_word (m := ⟨2, 1⟩) (meth := k2m1) (c := k2c1) (by decide +kernel) rfl rfl rfl (by decide +kernel)
set_option maxRecDepth 65536 in
theorem w_c6 : (Jvm.Cond.code ({ cls := "com/example/cevap/cevap/kg/IntList", name := "get", desc := "(I)I" } : Jvm.MethodName) prog_6_method_3_code (2 : Nat) (Option.some Jvm.ClassFile.FieldType.int)).before args0 about1 = true := code_word (m := ⟨2, 2⟩) (meth := k2m2) (c := k2c2) (by decide +kernel) rfl rfl rfl (by decide +kernel)
set_option maxRecDepth 65536 in
theorem w_c7 : (Jvm.Cond.code ({ cls := "java/lang/Math", name := "addExact", desc := "(II)I" } : Jvm.MethodName) jdk_29_method_24_code (3 : Nat) (Option.some Jvm.ClassFile.FieldType.int)).before args0 about1 = true := code_word (m := ⟨3, 1⟩) (meth := k3m1) (c := k3c1) (by decide +kernel) rfl rfl rfl (by decide +kernel)
set_option maxRecDepth 65536 in
theorem w_c8 : (Jvm.Cond.code ({ cls := "java/util/Arrays", name := "copyOf", desc := "([II)[I" } : Jvm.MethodName) jdk_65_method_123_code (3 : Nat) (Option.some (Jvm.ClassFile.FieldType.array Jvm.ClassFile.FieldType.int))).before args0 about1 = true := code_word (m := ⟨4, 1⟩) (meth := k4m1) (c := k4c1) (by decide +kernel) rfl rfl rfl (by decide +kernel)
set_option maxRecDepth 65536 in
theorem w_c9 : (Jvm.Cond.code ({ cls := "java/lang/Math", name := "min", desc := "(II)I" } : Jvm.MethodName) jdk_29_method_69_code (2 : Nat) (Option.some Jvm.ClassFile.FieldType.int)).before args0 about1 = true := code_word (m := ⟨3, 2⟩) (meth := k3m2) (c := k3c2) (by decide +kernel) rfl rfl rfl (by decide +kernel)
def codes1 : List Jvm.Cond := [Jvm.Cond.code x code maxLocals ret, Jvm.Cond.code ({ cls := "com/example/cevap/cevap/kg/IntList", name := "<init>", desc := "()V" } : Jvm.MethodName) prog_6_method_1_code (1 : Nat) (Option.none : Option Jvm.ClassFile.FieldType), Jvm.Cond.code ({ cls := "java/lang/Object", name := "<init>", desc := "()V" } : Jvm.MethodName) object_method_1_code (1 : Nat) (Option.none : Option Jvm.ClassFile.FieldType), Jvm.Cond.code ({ cls := "com/example/cevap/cevap/kg/IntList", name := "size", desc := "()I" } : Jvm.MethodName) prog_6_method_4_code (1 : Nat) (Option.some Jvm.ClassFile.FieldType.int), Jvm.Cond.code ({ cls := "com/example/cevap/cevap/kg/IntListAddPinLaw", name := "v", desc := "(III)I" } : Jvm.MethodName) method_2_code (3 : Nat) (Option.some Jvm.ClassFile.FieldType.int), Jvm.Cond.code ({ cls := "com/example/cevap/cevap/kg/IntList", name := "add", desc := "(I)V" } : Jvm.MethodName) prog_6_method_2_code (2 : Nat) (Option.none : Option Jvm.ClassFile.FieldType), Jvm.Cond.code ({ cls := "com/example/cevap/cevap/kg/IntList", name := "get", desc := "(I)I" } : Jvm.MethodName) prog_6_method_3_code (2 : Nat) (Option.some Jvm.ClassFile.FieldType.int), Jvm.Cond.code ({ cls := "java/lang/Math", name := "addExact", desc := "(II)I" } : Jvm.MethodName) jdk_29_method_24_code (3 : Nat) (Option.some Jvm.ClassFile.FieldType.int), Jvm.Cond.code ({ cls := "java/util/Arrays", name := "copyOf", desc := "([II)[I" } : Jvm.MethodName) jdk_65_method_123_code (3 : Nat) (Option.some (Jvm.ClassFile.FieldType.array Jvm.ClassFile.FieldType.int)), Jvm.Cond.code ({ cls := "java/lang/Math", name := "min", desc := "(II)I" } : Jvm.MethodName) jdk_29_method_69_code (2 : Nat) (Option.some Jvm.ClassFile.FieldType.int)]
set_option maxRecDepth 65536 in
theorem codes_eq : words1.filter isCode = codes1 := rfl
theorem w_codes : ∀ c ∈ words1.filter isCode, c.before args0 about1 = true := by
  rw [codes_eq]
  intro c hc
  simp only [codes1, List.mem_cons, List.not_mem_nil, or_false] at hc
  rcases hc with rfl | rfl | rfl | rfl | rfl | rfl | rfl | rfl | rfl | rfl
  · exact w_c0
  · exact w_c1
  · exact w_c2
  · exact w_c3
  · exact w_c4
  · exact w_c5
  · exact w_c6
  · exact w_c7
  · exact w_c8
  · exact w_c9
set_option maxRecDepth 65536 in
theorem w_t1 : (words1.take 24).all (fun c => isCode c || c.before args0 about1) = true := by decide +kernel
set_option maxRecDepth 65536 in
theorem w_t2 : ((words1.drop 24).take 24).all (fun c => isCode c || c.before args0 about1) = true := by decide +kernel
set_option maxRecDepth 65536 in
theorem w_t3 : ((words1.drop 24).drop 24).all (fun c => isCode c || c.before args0 about1) = true := by decide +kernel
theorem w_tables : (allAtoms (Jvm.Cond.code x code maxLocals ret :: tables_1)).before args0 about1 = true := by
  rw [allAtoms_all]
  show words1.all (fun c => c.before args0 about1) = true
  refine all_split ?_ w_codes
  rw [← List.take_append_drop 24 words1, List.all_append, w_t1, ← List.take_append_drop 24 (words1.drop 24), List.all_append, w_t2, w_t3]
  rfl
set_option maxRecDepth 65536 in
theorem w_case : (Jvm.Cond.and given_1 narrow_1).before args0 about1 = true := by decide +kernel
theorem w_applies : (headSpec (Jvm.Cond.code x code maxLocals ret :: tables_1) room_1).applies x e0.platform about1 = true :=
  (Spec.applies_iff w_frames).mpr ⟨w_running, w_runnable, w_alone, w_named, w_hears, w_ripe, w_room, w_tables⟩
theorem atStart : AtStart classFile x code maxLocals ret World_1 tables_1 room_1 Calls_1 rest_1 Pre_1 launch0 p0 e0 about1 theMethod args0 below0 :=
  ⟨lists_1, trivial, launch0.admits_env _ _ _, launch0.least_env, fairChoices_fair.cas, fairChoices_fair.clock, w_frames, w_args, w_heap, w_applies, trivial, trivial, w_case⟩
end start1
theorem witness_1 : WitnessClaimed_1 := ⟨start1.p0, start1.e0, start1.about1, start1.theMethod, start1.args0, start1.below0, start1.atStart⟩
end Jvm.Pilot.@@N@@
