import JvmDerived
import JvmDerived.Pilot.@@N@@Statement
import JvmDerived.Pilot.@@N@@Code
set_option linter.unusedVariables false
set_option linter.unusedSimpArgs false
namespace Jvm.OwnKit
open Sem ClassFile Op Lib Jvm.Stand Jvm.Free Jvm.LawKit Jvm.RoadKit
/-- from the frame f over the state T the run ends within P -/
def Goes (p : Program) (e : Env) (below : List Frame) (T : State) (f : JFrame) (P : State → Outcome → Prop) : Prop := ∃ U o, Steps p.tables e below (T.setTop f) U ∧ U.status = .running ∧ Ended U below o ∧ P U o
/-- only places of ws or of new cells -/
def Only (h0 : Heap) (ws : List Addr) (L : List Loc) : Prop := ∀ y ∈ L, y.base ∈ ws ∨ h0.size ≤ y.base
def Kp (h0 h : Heap) (ws : List Addr) (L : List Loc) : Prop := Keep h0 h ws ∧ Only h0 ws L
/-- Q, kept from being reduced -/
def Ap (Q : Option Value → Heap → List Loc → Prop) (v : Option Value) (h : Heap) (L : List Loc) : Prop := Q v h L
/-- a contract: called with 'as' over the heap h0, the method returns within Q -/
def Con (l : Launch) (y : MethodName) (bytes : ByteArray) (maxL : Nat) (ret : Option FieldType) (rm : Room) (Z : State) (as : Array Value) (h0 : Heap) (Q : Option Value → Heap → List Loc → Prop) : Prop :=
  ∀ ws, MetFree l y (head1 (Cond.code y bytes maxL ret :: ws) rm) (fun a U => a = as ∧ Z.Warmed39 U.vm ∧ U.heap = h0) (fun _ _ _ _ _ => True) (fun _ U o U' => ∃ v L, o = .returned v ∧ Ap Q v U'.heap L ∧ FrameEnd U o U' L rm.cells rm.slots)
section G
variable {p : Program} {l : Launch} {e : Env} {R : Room} {s : State} {m : MethodId} {args : Array Value} {below : List Frame} {meth : Method} {c : Code} {T T' : State} {locs : List Loc} {cells slots : Nat} {P : State → Outcome → Prop} {f f' : JFrame} {Z : State} {a0 : Array Value} {h h' h0 : Heap} {a b : Addr} {ws ws' : List Addr} {Lc Lc' : List Loc} {sl : Nat} {v : Value}
theorem Goes.via (q : ∀ t, Steps p.tables e below (T'.setTop f') t → Steps p.tables e below (T.setTop f) t) (k : Goes p e below T' f' P) : Goes p e below T f P := by
  obtain ⟨U, o, h1, h2⟩ := k
  exact ⟨U, o, q U h1, h2⟩
theorem Goes.thru (q : Steps p.tables e below (T.setTop f) (T'.setTop f')) (k : Goes p e below T' f' P) : Goes p e below T f P := by
  obtain ⟨U, o, h1, h2⟩ := k
  exact ⟨U, o, q.trans h1, h2⟩
theorem Goes.ite {c : Prop} [Decidable c] {F : Int32 → JFrame} {a b : Int32} (h1 : c → Goes p e below T (F a) P → Goes p e below T f P) (h2 : ¬ c → Goes p e below T (F b) P → Goes p e below T f P) (k : Goes p e below T (F (if c then a else b)) P) : Goes p e below T f P := by
  by_cases hc : c
  · rw [if_pos hc] at k; exact h1 hc k
  · rw [if_neg hc] at k; exact h2 hc k
theorem Goes.cast (q : f = f') (k : Goes p e below T f' P) : Goes p e below T f P := q ▸ k
theorem Kp.refl (h : Heap) (ws : List Addr) : Kp h h ws [] := ⟨Keep.refl h ws, fun _ q => nomatch q⟩
theorem Kp.ext (K : Kp h0 h ws Lc) (E : Ext h h') : Kp h0 h' ws Lc := ⟨K.1.ext E, K.2⟩
theorem Kp.wr (K : Kp h0 h ws Lc) (W : Wr h h' a sl v) (q : a ∈ ws ∨ h0.size ≤ a) : Kp h0 h' ws (Lc ++ [⟨a, sl⟩]) :=
  ⟨K.1.wr W q, fun y hy => (List.mem_append.mp hy).elim (K.2 y) fun z => by cases List.mem_singleton.mp z; exact q⟩
theorem Kp.call (K : Kp h0 h ws Lc) (K' : Kp h h' ws' Lc') (q : ∀ x ∈ ws', x ∈ ws ∨ h0.size ≤ x) : Kp h0 h' ws (Lc ++ Lc') :=
  ⟨K.1.trans K'.1 q, fun y hy => (List.mem_append.mp hy).elim (K.2 y) fun z => (K'.2 y z).elim (q _) fun u => Or.inr (Nat.le_trans K.1.1 u)⟩
theorem Kp.size (K : Kp h0 h ws Lc) : h0.size ≤ h.size := K.1.1
theorem Kp.fr (K : Kp h0 h [] Lc) : Fr h0.size Lc := fun y hy => (K.2 y hy).elim (fun z => nomatch z) id
theorem Con.of_body {l : Launch} {y : MethodName} {bytes : ByteArray} {maxL : Nat} {ret : Option FieldType} {rm : Room} {Z : State} {as : Array Value} {h0 : Heap} {Q : Option Value → Heap → List Loc → Prop} (hn : plainFor y = true)
    (body : ∀ (p : Program) (e : Env) (s : State) (m : MethodId) (below : List Frame) (meth : Method) (c : Code) (T : State), Stand p l e rm s m as below meth c T [] 0 0 → p.tables.exec = Jvm.exec → c.code = bytes → c.maxLocals = maxL → Z.Warmed39 s.vm → s.vm.findClass y.cls = some m.cls → meth.name = y.name → meth.sig.returnType = ret → meth.locks = false → T.heap = h0 →
      Goes p e below T (entryFrame m as maxL) (fun U o => ∃ v L, o = .returned v ∧ Ap Q v U.heap L ∧ FrameEnd s o U L rm.cells rm.slots)) : Con l y bytes maxL ret rm Z as h0 Q := by
  intro ws
  refine MetFree.of_bodySF hn hisR ?_
  intro p e s m args below meth c s₁ Bd hml hP _
  obtain ⟨rfl, hZ, hh⟩ := hP
  exact body p e s m below meth c s₁ (Stand.of_body Bd) Bd.exec Bd.bytes hml hZ (findClass_of_methodNamed Bd.named) (name_of_methodNamed Bd.named Bd.method).1 Bd.returns (BodyLoose.notSynchronized Bd) (by rw [← hh, Bd.state]; rfl)
theorem Con.back {y : MethodName} {bytes : ByteArray} {maxL : Nat} {ret : Option FieldType} {rm : Room} {len W : Nat} {as' : Array Value} {Q : Option Value → Heap → List Loc → Prop} (hM : Con l y bytes maxL ret rm Z as' h Q)
    (hZ : Z.Warmed39 s.vm) (wc : (Cond.code y bytes maxL ret).before a0 Z = true) (wz : (Cond.initialized y.cls).before a0 Z = true) (hf : rm.frames + 1 ≤ R.frames) (hl : W + (maxL + 11) + rm.locals ≤ R.locals) :
    Back l R p e below s args y len W (fun A a => a = as' ∧ A.U.heap = h ∧ A.cells + rm.cells ≤ R.cells ∧ A.slots + rm.slots ≤ R.slots)
      (fun A _ v B => ∃ L, Q v B.U.heap L ∧ B.locs = A.locs ++ L ∧ B.cells = A.cells + rm.cells ∧ B.slots = A.slots + rm.slots) := backOf (hM []) hZ wc wz hf hl
/-- the end of a walk, for any of the returning instructions -/
theorem Goes.end (X : Stand p l e R s m args below meth c T locs cells slots) (hlk : meth.locks = false) {v : Option Value} (hv : meth.sig.returnType = none → v = none)
    (hs : ∀ fs, (∀ (f : JFrame) (acts : List Action), f.method = m → f.locked = none → f.entered = [] → (doReturn e (T.setTop f) acts v).1 = T.setFrames fs) → Steps p.tables e below (T.setTop f) (T.setFrames fs))
    {Q : Option Value → Heap → List Loc → Prop} {k n : Nat} (hk : cells ≤ k) (hn : slots ≤ n) (q : Q v T.heap locs) : Goes p e below T f (fun U o => ∃ v L, o = .returned v ∧ Ap Q v U.heap L ∧ FrameEnd s o U L k n) := by
  obtain ⟨fs, hr, hrun, hended, hW, hsame⟩ := X.leave hv hlk
  exact ⟨_, _, hs fs hr, hrun, hended, v, locs, rfl, q, ⟨_, rfl⟩, hW, hsame.mono hk hn⟩
theorem retI' (X : Stand p l e R s m args below meth c T locs cells slots) (hx : p.tables.exec = Jvm.exec) {pc : Nat} {Ls : Array Slot} {z : Int32} {rest : List Value} (hret : meth.sig.returnType = some .int) (hd : decode c.code pc = .ok (.ireturn, 1)) {fs : List Frame}
    (hl : ∀ (f : JFrame) (acts : List Action), f.method = m → f.locked = none → f.entered = [] → (doReturn e (T.setTop f) acts (some (.int z))).1 = T.setFrames fs) : Steps p.tables e below (T.setTop (mkF m pc Ls (.int z :: rest))) (T.setFrames fs) :=
  retOut X hx hret rfl (Or.inl ⟨rfl, Or.inl rfl, z, rfl⟩) hd hl
variable {pc pc' : Nat} {L L' : Array Slot} {S : List Value}
variable {Q : Option Value → Heap → List Loc → Prop} {k n : Nat}
theorem Goes.retI (X : Stand p l e R s m args below meth c T locs cells slots) (hx : p.tables.exec = Jvm.exec) (hret : meth.sig.returnType = some .int) (hlk : meth.locks = false) {z : Int32} (hd : decode c.code pc = .ok (.ireturn, 1)) (hk : cells ≤ k) (hn : slots ≤ n) (q : Q (some (.int z)) T.heap locs) :
    Goes p e below T (mkF m pc L (.int z :: S)) (fun U o => ∃ v L, o = .returned v ∧ Ap Q v U.heap L ∧ FrameEnd s o U L k n) :=
  Goes.end X hlk (fun h => by rw [hret] at h; cases h) (fun _ hr => retOut X hx hret rfl (Or.inl ⟨rfl, Or.inl rfl, z, rfl⟩) hd hr) hk hn q
theorem Goes.retN (X : Stand p l e R s m args below meth c T locs cells slots) (hx : p.tables.exec = Jvm.exec) {t : FieldType} (hret : meth.sig.returnType = some t) (ht : t = .boolean ∨ t = .byte ∨ t = .char ∨ t = .short) (hlk : meth.locks = false) {z : Int32} (hd : decode c.code pc = .ok (.ireturn, 1)) (hk : cells ≤ k) (hn : slots ≤ n) (q : Q (some (.int (nar t z))) T.heap locs) :
    Goes p e below T (mkF m pc L (.int z :: S)) (fun U o => ∃ v L, o = .returned v ∧ Ap Q v U.heap L ∧ FrameEnd s o U L k n) :=
  Goes.end X hlk (fun h => by rw [hret] at h; cases h) (fun _ hr => Jvm.RoadKit.retN X hx hret ht hd hr) hk hn q
theorem Goes.retJ (X : Stand p l e R s m args below meth c T locs cells slots) (hx : p.tables.exec = Jvm.exec) (hret : meth.sig.returnType = some .long) (hlk : meth.locks = false) {z : Int64} (hd : decode c.code pc = .ok (.lreturn, 1)) (hk : cells ≤ k) (hn : slots ≤ n) (q : Q (some (.long z)) T.heap locs) :
    Goes p e below T (mkF m pc L (.long z :: S)) (fun U o => ∃ v L, o = .returned v ∧ Ap Q v U.heap L ∧ FrameEnd s o U L k n) :=
  Goes.end X hlk (fun h => by rw [hret] at h; cases h) (fun _ hr => retOut X hx hret rfl (Or.inr (Or.inl ⟨rfl, rfl, z, rfl⟩)) hd hr) hk hn q
theorem Goes.retA (X : Stand p l e R s m args below meth c T locs cells slots) (hx : p.tables.exec = Jvm.exec) {t : FieldType} (hret : meth.sig.returnType = some t) (ht : t.isReference = true) (hlk : meth.locks = false) {z : Value} (hz : z.isRef = true) (hnr : narrow t z = z) (hd : decode c.code pc = .ok (.areturn, 1)) (hk : cells ≤ k) (hn : slots ≤ n) (q : Q (some z) T.heap locs) :
    Goes p e below T (mkF m pc L (z :: S)) (fun U o => ∃ v L, o = .returned v ∧ Ap Q v U.heap L ∧ FrameEnd s o U L k n) :=
  Goes.end X hlk (fun h => by rw [hret] at h; cases h) (fun _ hr => retOut X hx hret hnr (Or.inr (Or.inr (Or.inr (Or.inr ⟨rfl, ht, hz⟩)))) hd hr) hk hn q
theorem Goes.retV (X : Stand p l e R s m args below meth c T locs cells slots) (hx : p.tables.exec = Jvm.exec) (hret : meth.sig.returnType = none) (hlk : meth.locks = false) (hd : decode c.code pc = .ok (.return_, 1)) (hk : cells ≤ k) (hn : slots ≤ n) (q : Q none T.heap locs) :
    Goes p e below T (mkF m pc L []) (fun U o => ∃ v L, o = .returned v ∧ Ap Q v U.heap L ∧ FrameEnd s o U L k n) :=
  Goes.end X hlk (fun _ => rfl) (fun _ hr => X.returnOut hx hret hd hr) hk hn q
theorem G.aload (X : Stand p l e R s m args below meth c T locs cells slots) (hx : p.tables.exec = Jvm.exec) {k : Nat} {v : Value} (hd : decode c.code pc = .ok (.aload k, 2)) (hl : L[k]? = some (.val v)) (hv : v.isRef = true) (hp : pc + 2 = pc') (q : Goes p e below T (mkF m pc' L (v :: S)) P) : Goes p e below T (mkF m pc L (S)) P := by
  subst hp; exact Goes.via (fun _ u => Jvm.Free.XS.aload X.here hx rfl hd hl hv u) q
theorem G.aloadN (X : Stand p l e R s m args below meth c T locs cells slots) (hx : p.tables.exec = Jvm.exec) {k : Fin 4} {v : Value} (hd : decode c.code pc = .ok (.aload_n k, 1)) (hl : L[k.val]? = some (.val v)) (hv : v.isRef = true) (hp : pc + 1 = pc') (q : Goes p e below T (mkF m pc' L (v :: S)) P) : Goes p e below T (mkF m pc L (S)) P := by
  subst hp; exact Goes.via (fun _ u => Jvm.Free.XS.aloadN X.here hx rfl hd hl hv u) q
theorem G.iload (X : Stand p l e R s m args below meth c T locs cells slots) (hx : p.tables.exec = Jvm.exec) {k : Nat} {v : Int32} (hd : decode c.code pc = .ok (.iload k, 2)) (hl : L[k]? = some (.val (.int v))) (hp : pc + 2 = pc') (q : Goes p e below T (mkF m pc' L (.int v :: S)) P) : Goes p e below T (mkF m pc L (S)) P := by
  subst hp; exact Goes.via (fun _ u => Jvm.Free.XS.iload X.here hx rfl hd hl u) q
theorem G.iloadN (X : Stand p l e R s m args below meth c T locs cells slots) (hx : p.tables.exec = Jvm.exec) {k : Fin 4} {v : Int32} (hd : decode c.code pc = .ok (.iload_n k, 1)) (hl : L[k.val]? = some (.val (.int v))) (hp : pc + 1 = pc') (q : Goes p e below T (mkF m pc' L (.int v :: S)) P) : Goes p e below T (mkF m pc L (S)) P := by
  subst hp; exact Goes.via (fun _ u => Jvm.Free.XS.iloadN X.here hx rfl hd hl u) q
theorem G.lload (X : Stand p l e R s m args below meth c T locs cells slots) (hx : p.tables.exec = Jvm.exec) {k : Nat} {v : Int64} (hd : decode c.code pc = .ok (.lload k, 2)) (hl : L[k]? = some (.val (.long v))) (hp : pc + 2 = pc') (q : Goes p e below T (mkF m pc' L (.long v :: S)) P) : Goes p e below T (mkF m pc L (S)) P := by
  subst hp; exact Goes.via (fun _ u => Jvm.Free.XT.lload X.here hx rfl hd hl u) q
theorem G.lloadN (X : Stand p l e R s m args below meth c T locs cells slots) (hx : p.tables.exec = Jvm.exec) {k : Fin 4} {v : Int64} (hd : decode c.code pc = .ok (.lload_n k, 1)) (hl : L[k.val]? = some (.val (.long v))) (hp : pc + 1 = pc') (q : Goes p e below T (mkF m pc' L (.long v :: S)) P) : Goes p e below T (mkF m pc L (S)) P := by
  subst hp; exact Goes.via (fun _ u => Jvm.Free.XT.lloadN X.here hx rfl hd hl u) q
theorem G.istore (X : Stand p l e R s m args below meth c T locs cells slots) (hx : p.tables.exec = Jvm.exec) {k : Nat} {v : Int32} (hd : decode c.code pc = .ok (.istore k, 2)) (hl : storeLocals L k (.int v) = some L') (hp : pc + 2 = pc') (q : Goes p e below T (mkF m pc' L' (S)) P) : Goes p e below T (mkF m pc L (.int v :: S)) P := by
  subst hp; exact Goes.via (fun _ u => Jvm.Free.XS.istore X.here hx rfl hd rfl hl u) q
theorem G.istoreN (X : Stand p l e R s m args below meth c T locs cells slots) (hx : p.tables.exec = Jvm.exec) {k : Fin 4} {v : Int32} (hd : decode c.code pc = .ok (.istore_n k, 1)) (hl : storeLocals L k.val (.int v) = some L') (hp : pc + 1 = pc') (q : Goes p e below T (mkF m pc' L' (S)) P) : Goes p e below T (mkF m pc L (.int v :: S)) P := by
  subst hp; exact Goes.via (fun _ u => Jvm.Free.XS.istoreN X.here hx rfl hd rfl hl u) q
theorem G.lstore (X : Stand p l e R s m args below meth c T locs cells slots) (hx : p.tables.exec = Jvm.exec) {k : Nat} {v : Int64} (hd : decode c.code pc = .ok (.lstore k, 2)) (hl : storeLocals L k (.long v) = some L') (hp : pc + 2 = pc') (q : Goes p e below T (mkF m pc' L' (S)) P) : Goes p e below T (mkF m pc L (.long v :: S)) P := by
  subst hp; exact Goes.via (fun _ u => Jvm.Free.XT.lstore X.here hx rfl hd rfl hl u) q
theorem G.lstoreN (X : Stand p l e R s m args below meth c T locs cells slots) (hx : p.tables.exec = Jvm.exec) {k : Fin 4} {v : Int64} (hd : decode c.code pc = .ok (.lstore_n k, 1)) (hl : storeLocals L k.val (.long v) = some L') (hp : pc + 1 = pc') (q : Goes p e below T (mkF m pc' L' (S)) P) : Goes p e below T (mkF m pc L (.long v :: S)) P := by
  subst hp; exact Goes.via (fun _ u => Jvm.Free.XT.lstoreN X.here hx rfl hd rfl hl u) q
theorem G.astore (X : Stand p l e R s m args below meth c T locs cells slots) (hx : p.tables.exec = Jvm.exec) {k : Nat} {v : Value} (hd : decode c.code pc = .ok (.astore k, 2)) (hv : v.isRef = true) (hl : storeLocals L k v = some L') (hp : pc + 2 = pc') (q : Goes p e below T (mkF m pc' L' (S)) P) : Goes p e below T (mkF m pc L (v :: S)) P := by
  subst hp; exact Goes.via (fun _ u => Jvm.Free.XS.astore X.here hx rfl hd rfl hv hl u) q
theorem G.astoreN (X : Stand p l e R s m args below meth c T locs cells slots) (hx : p.tables.exec = Jvm.exec) {k : Fin 4} {v : Value} (hd : decode c.code pc = .ok (.astore_n k, 1)) (hv : v.isRef = true) (hl : storeLocals L k.val v = some L') (hp : pc + 1 = pc') (q : Goes p e below T (mkF m pc' L' (S)) P) : Goes p e below T (mkF m pc L (v :: S)) P := by
  subst hp; exact Goes.via (fun _ u => Jvm.Free.XS.astoreN X.here hx rfl hd rfl hv hl u) q
theorem G.iinc (X : Stand p l e R s m args below meth c T locs cells slots) (hx : p.tables.exec = Jvm.exec) {k : Nat} {cst : Int} {v : Int32} (hd : decode c.code pc = .ok (.iinc k cst, 3)) (hl : L[k]? = some (.val (.int v))) (hl' : storeLocals L k (.int (v + Int32.ofInt cst)) = some L') (hp : pc + 3 = pc') (q : Goes p e below T (mkF m pc' L' (S)) P) : Goes p e below T (mkF m pc L (S)) P := by
  subst hp; exact Goes.via (fun _ u => Jvm.Free.XS.iinc X.here hx rfl hd hl hl' u) q
theorem G.iconst (X : Stand p l e R s m args below meth c T locs cells slots) (hx : p.tables.exec = Jvm.exec) {i : Int} {z : Int32} (hd : decode c.code pc = .ok (.iconst i, 1)) (hz : Int32.ofInt i = z) (hp : pc + 1 = pc') (q : Goes p e below T (mkF m pc' L (.int z :: S)) P) : Goes p e below T (mkF m pc L S) P := by
  subst hp hz; exact Goes.via (fun _ u => Jvm.Free.XS.iconst X.here hx rfl hd u) q
theorem G.bipush (X : Stand p l e R s m args below meth c T locs cells slots) (hx : p.tables.exec = Jvm.exec) {i : Int} {z : Int32} (hd : decode c.code pc = .ok (.bipush i, 2)) (hz : (Int8.ofInt i).toInt32 = z) (hp : pc + 2 = pc') (q : Goes p e below T (mkF m pc' L (.int z :: S)) P) : Goes p e below T (mkF m pc L S) P := by
  subst hp hz; exact Goes.via (fun _ u => Jvm.Free.XS.bipush X.here hx rfl hd u) q
theorem G.sipush (X : Stand p l e R s m args below meth c T locs cells slots) (hx : p.tables.exec = Jvm.exec) {i : Int} {z : Int32} (hd : decode c.code pc = .ok (.sipush i, 3)) (hz : (Int16.ofInt i).toInt32 = z) (hp : pc + 3 = pc') (q : Goes p e below T (mkF m pc' L (.int z :: S)) P) : Goes p e below T (mkF m pc L S) P := by
  subst hp hz; exact Goes.via (fun _ u => Jvm.Free.XS.sipush X.here hx rfl hd u) q
theorem G.lconst (X : Stand p l e R s m args below meth c T locs cells slots) (hx : p.tables.exec = Jvm.exec) {k : Fin 2} {z : Int64} (hd : decode c.code pc = .ok (.lconst k, 1)) (hz : Int64.ofNat k = z) (hp : pc + 1 = pc') (q : Goes p e below T (mkF m pc' L (.long z :: S)) P) : Goes p e below T (mkF m pc L S) P := by
  subst hp hz; exact Goes.via (fun _ u => Jvm.Free.XT.lconst X.here hx rfl hd u) q
theorem G.aconstNull (X : Stand p l e R s m args below meth c T locs cells slots) (hx : p.tables.exec = Jvm.exec) (hd : decode c.code pc = .ok (.aconst_null, 1)) (hp : pc + 1 = pc') (q : Goes p e below T (mkF m pc' L (.null :: S)) P) : Goes p e below T (mkF m pc L (S)) P := by
  subst hp; exact Goes.via (fun _ u => Jvm.Free.XS.aconstNull X.here hx rfl hd u) q
theorem G.iadd (X : Stand p l e R s m args below meth c T locs cells slots) (hx : p.tables.exec = Jvm.exec) {x y : Int32} (hd : decode c.code pc = .ok (.iadd, 1)) (hp : pc + 1 = pc') (q : Goes p e below T (mkF m pc' L (.int (x + y) :: S)) P) : Goes p e below T (mkF m pc L (.int y :: .int x :: S)) P := by
  subst hp; exact Goes.via (fun _ u => Jvm.Free.XS.iadd X.here hx rfl hd rfl u) q
theorem G.isub (X : Stand p l e R s m args below meth c T locs cells slots) (hx : p.tables.exec = Jvm.exec) {x y : Int32} (hd : decode c.code pc = .ok (.isub, 1)) (hp : pc + 1 = pc') (q : Goes p e below T (mkF m pc' L (.int (x - y) :: S)) P) : Goes p e below T (mkF m pc L (.int y :: .int x :: S)) P := by
  subst hp; exact Goes.via (fun _ u => Jvm.Free.XS.isub X.here hx rfl hd rfl u) q
theorem G.iand (X : Stand p l e R s m args below meth c T locs cells slots) (hx : p.tables.exec = Jvm.exec) {x y : Int32} (hd : decode c.code pc = .ok (.iand, 1)) (hp : pc + 1 = pc') (q : Goes p e below T (mkF m pc' L (.int (x &&& y) :: S)) P) : Goes p e below T (mkF m pc L (.int y :: .int x :: S)) P := by
  subst hp; exact Goes.via (fun _ u => Jvm.Free.XS.iand X.here hx rfl hd rfl u) q
theorem G.imul (X : Stand p l e R s m args below meth c T locs cells slots) (hx : p.tables.exec = Jvm.exec) {x y : Int32} (hd : decode c.code pc = .ok (.imul, 1)) (hp : pc + 1 = pc') (q : Goes p e below T (mkF m pc' L (.int (x * y) :: S)) P) : Goes p e below T (mkF m pc L (.int y :: .int x :: S)) P := by
  subst hp; exact Goes.via (fun _ u => Jvm.Free.XS.imul X.here hx rfl hd rfl u) q
theorem G.ior (X : Stand p l e R s m args below meth c T locs cells slots) (hx : p.tables.exec = Jvm.exec) {x y : Int32} (hd : decode c.code pc = .ok (.ior, 1)) (hp : pc + 1 = pc') (q : Goes p e below T (mkF m pc' L (.int (x ||| y) :: S)) P) : Goes p e below T (mkF m pc L (.int y :: .int x :: S)) P := by
  subst hp; exact Goes.via (fun _ u => Jvm.Free.XT.ior X.here hx rfl hd rfl u) q
theorem G.ixor (X : Stand p l e R s m args below meth c T locs cells slots) (hx : p.tables.exec = Jvm.exec) {x y : Int32} (hd : decode c.code pc = .ok (.ixor, 1)) (hp : pc + 1 = pc') (q : Goes p e below T (mkF m pc' L (.int (x ^^^ y) :: S)) P) : Goes p e below T (mkF m pc L (.int y :: .int x :: S)) P := by
  subst hp; exact Goes.via (fun _ u => Jvm.Free.XT.ixor X.here hx rfl hd rfl u) q
theorem G.ishl (X : Stand p l e R s m args below meth c T locs cells slots) (hx : p.tables.exec = Jvm.exec) {x y : Int32} (hd : decode c.code pc = .ok (.ishl, 1)) (hp : pc + 1 = pc') (q : Goes p e below T (mkF m pc' L (.int (x <<< (y &&& 31)) :: S)) P) : Goes p e below T (mkF m pc L (.int y :: .int x :: S)) P := by
  subst hp; exact Goes.via (fun _ u => Jvm.Free.XT.ishl X.here hx rfl hd rfl u) q
theorem G.ishr (X : Stand p l e R s m args below meth c T locs cells slots) (hx : p.tables.exec = Jvm.exec) {x y : Int32} (hd : decode c.code pc = .ok (.ishr, 1)) (hp : pc + 1 = pc') (q : Goes p e below T (mkF m pc' L (.int (x >>> (y &&& 31)) :: S)) P) : Goes p e below T (mkF m pc L (.int y :: .int x :: S)) P := by
  subst hp; exact Goes.via (fun _ u => Jvm.Free.XT.ishr X.here hx rfl hd rfl u) q
theorem G.iushr (X : Stand p l e R s m args below meth c T locs cells slots) (hx : p.tables.exec = Jvm.exec) {x y : Int32} (hd : decode c.code pc = .ok (.iushr, 1)) (hp : pc + 1 = pc') (q : Goes p e below T (mkF m pc' L (.int (Jvm.Free.XT.ushr x y) :: S)) P) : Goes p e below T (mkF m pc L (.int y :: .int x :: S)) P := by
  subst hp; exact Goes.via (fun _ u => Jvm.Free.XT.iushr X.here hx rfl hd rfl u) q
theorem G.idiv (X : Stand p l e R s m args below meth c T locs cells slots) (hx : p.tables.exec = Jvm.exec) {x y : Int32} (hd : decode c.code pc = .ok (.idiv, 1)) (hy : y ≠ 0) (hp : pc + 1 = pc') (q : Goes p e below T (mkF m pc' L (.int (x / y) :: S)) P) : Goes p e below T (mkF m pc L (.int y :: .int x :: S)) P := by
  subst hp; exact Goes.via (fun _ u => Jvm.Free.XS.idiv X.here hx rfl hd rfl hy u) q
theorem G.irem (X : Stand p l e R s m args below meth c T locs cells slots) (hx : p.tables.exec = Jvm.exec) {x y : Int32} (hd : decode c.code pc = .ok (.irem, 1)) (hy : y ≠ 0) (hp : pc + 1 = pc') (q : Goes p e below T (mkF m pc' L (.int (x % y) :: S)) P) : Goes p e below T (mkF m pc L (.int y :: .int x :: S)) P := by
  subst hp; exact Goes.via (fun _ u => Jvm.RoadKit.iremM X hx rfl hd rfl hy u) q
theorem G.ineg (X : Stand p l e R s m args below meth c T locs cells slots) (hx : p.tables.exec = Jvm.exec) {x : Int32} (hd : decode c.code pc = .ok (.ineg, 1)) (hp : pc + 1 = pc') (q : Goes p e below T (mkF m pc' L (.int (-x) :: S)) P) : Goes p e below T (mkF m pc L (.int x :: S)) P := by
  subst hp; exact Goes.via (fun _ u => Jvm.Free.XS.ineg X.here hx rfl hd rfl u) q
theorem G.ladd (X : Stand p l e R s m args below meth c T locs cells slots) (hx : p.tables.exec = Jvm.exec) {x y : Int64} (hd : decode c.code pc = .ok (.ladd, 1)) (hp : pc + 1 = pc') (q : Goes p e below T (mkF m pc' L (.long (x + y) :: S)) P) : Goes p e below T (mkF m pc L (.long y :: .long x :: S)) P := by
  subst hp; exact Goes.via (fun _ u => Jvm.Free.XT.ladd X.here hx rfl hd rfl u) q
theorem G.lsub (X : Stand p l e R s m args below meth c T locs cells slots) (hx : p.tables.exec = Jvm.exec) {x y : Int64} (hd : decode c.code pc = .ok (.lsub, 1)) (hp : pc + 1 = pc') (q : Goes p e below T (mkF m pc' L (.long (x - y) :: S)) P) : Goes p e below T (mkF m pc L (.long y :: .long x :: S)) P := by
  subst hp; exact Goes.via (fun _ u => Jvm.Free.XT.lsub X.here hx rfl hd rfl u) q
theorem G.lmul (X : Stand p l e R s m args below meth c T locs cells slots) (hx : p.tables.exec = Jvm.exec) {x y : Int64} (hd : decode c.code pc = .ok (.lmul, 1)) (hp : pc + 1 = pc') (q : Goes p e below T (mkF m pc' L (.long (x * y) :: S)) P) : Goes p e below T (mkF m pc L (.long y :: .long x :: S)) P := by
  subst hp; exact Goes.via (fun _ u => Jvm.Free.XT.lmul X.here hx rfl hd rfl u) q
theorem G.land (X : Stand p l e R s m args below meth c T locs cells slots) (hx : p.tables.exec = Jvm.exec) {x y : Int64} (hd : decode c.code pc = .ok (.land, 1)) (hp : pc + 1 = pc') (q : Goes p e below T (mkF m pc' L (.long (x &&& y) :: S)) P) : Goes p e below T (mkF m pc L (.long y :: .long x :: S)) P := by
  subst hp; exact Goes.via (fun _ u => Jvm.Free.XT.land X.here hx rfl hd rfl u) q
theorem G.lor (X : Stand p l e R s m args below meth c T locs cells slots) (hx : p.tables.exec = Jvm.exec) {x y : Int64} (hd : decode c.code pc = .ok (.lor, 1)) (hp : pc + 1 = pc') (q : Goes p e below T (mkF m pc' L (.long (x ||| y) :: S)) P) : Goes p e below T (mkF m pc L (.long y :: .long x :: S)) P := by
  subst hp; exact Goes.via (fun _ u => Jvm.Free.XT.lor X.here hx rfl hd rfl u) q
theorem G.lxor (X : Stand p l e R s m args below meth c T locs cells slots) (hx : p.tables.exec = Jvm.exec) {x y : Int64} (hd : decode c.code pc = .ok (.lxor, 1)) (hp : pc + 1 = pc') (q : Goes p e below T (mkF m pc' L (.long (x ^^^ y) :: S)) P) : Goes p e below T (mkF m pc L (.long y :: .long x :: S)) P := by
  subst hp; exact Goes.via (fun _ u => Jvm.Free.XT.lxor X.here hx rfl hd rfl u) q
theorem G.lshl (X : Stand p l e R s m args below meth c T locs cells slots) (hx : p.tables.exec = Jvm.exec) {x : Int64} {y : Int32} (hd : decode c.code pc = .ok (.lshl, 1)) (hp : pc + 1 = pc') (q : Goes p e below T (mkF m pc' L (.long (x <<< (y.toInt64 &&& 63)) :: S)) P) : Goes p e below T (mkF m pc L (.int y :: .long x :: S)) P := by
  subst hp; exact Goes.via (fun _ u => Jvm.Free.XT.lshl X.here hx rfl hd rfl u) q
theorem G.lshr (X : Stand p l e R s m args below meth c T locs cells slots) (hx : p.tables.exec = Jvm.exec) {x : Int64} {y : Int32} (hd : decode c.code pc = .ok (.lshr, 1)) (hp : pc + 1 = pc') (q : Goes p e below T (mkF m pc' L (.long (x >>> (y.toInt64 &&& 63)) :: S)) P) : Goes p e below T (mkF m pc L (.int y :: .long x :: S)) P := by
  subst hp; exact Goes.via (fun _ u => Jvm.Free.XT.lshr X.here hx rfl hd rfl u) q
theorem G.lushr (X : Stand p l e R s m args below meth c T locs cells slots) (hx : p.tables.exec = Jvm.exec) {x : Int64} {y : Int32} (hd : decode c.code pc = .ok (.lushr, 1)) (hp : pc + 1 = pc') (q : Goes p e below T (mkF m pc' L (.long (Jvm.Free.XT.ushrL x y) :: S)) P) : Goes p e below T (mkF m pc L (.int y :: .long x :: S)) P := by
  subst hp; exact Goes.via (fun _ u => Jvm.Free.XT.lushr X.here hx rfl hd rfl u) q
theorem G.ldiv (X : Stand p l e R s m args below meth c T locs cells slots) (hx : p.tables.exec = Jvm.exec) {x y : Int64} (hd : decode c.code pc = .ok (.ldiv, 1)) (hy : y ≠ 0) (hp : pc + 1 = pc') (q : Goes p e below T (mkF m pc' L (.long (x / y) :: S)) P) : Goes p e below T (mkF m pc L (.long y :: .long x :: S)) P := by
  subst hp; exact Goes.via (fun _ u => Jvm.Free.XT.ldiv X.here hx rfl hd rfl hy u) q
theorem G.lrem (X : Stand p l e R s m args below meth c T locs cells slots) (hx : p.tables.exec = Jvm.exec) {x y : Int64} (hd : decode c.code pc = .ok (.lrem, 1)) (hy : y ≠ 0) (hp : pc + 1 = pc') (q : Goes p e below T (mkF m pc' L (.long (x % y) :: S)) P) : Goes p e below T (mkF m pc L (.long y :: .long x :: S)) P := by
  subst hp; exact Goes.via (fun _ u => Jvm.Free.XT.lrem X.here hx rfl hd rfl hy u) (by rw [lrem_mod]; exact q)
theorem G.lneg (X : Stand p l e R s m args below meth c T locs cells slots) (hx : p.tables.exec = Jvm.exec) {x : Int64} (hd : decode c.code pc = .ok (.lneg, 1)) (hp : pc + 1 = pc') (q : Goes p e below T (mkF m pc' L (.long (-x) :: S)) P) : Goes p e below T (mkF m pc L (.long x :: S)) P := by
  subst hp; exact Goes.via (fun _ u => Jvm.Free.XT.lneg X.here hx rfl hd rfl u) q
theorem G.i2l (X : Stand p l e R s m args below meth c T locs cells slots) (hx : p.tables.exec = Jvm.exec) {x : Int32} (hd : decode c.code pc = .ok (.i2l, 1)) (hp : pc + 1 = pc') (q : Goes p e below T (mkF m pc' L (.long (x.toInt64) :: S)) P) : Goes p e below T (mkF m pc L (.int x :: S)) P := by
  subst hp; exact Goes.via (fun _ u => Jvm.Free.XT.i2l X.here hx rfl hd rfl u) q
theorem G.i2b (X : Stand p l e R s m args below meth c T locs cells slots) (hx : p.tables.exec = Jvm.exec) {x : Int32} (hd : decode c.code pc = .ok (.i2b, 1)) (hp : pc + 1 = pc') (q : Goes p e below T (mkF m pc' L (.int (x.toInt8.toInt32) :: S)) P) : Goes p e below T (mkF m pc L (.int x :: S)) P := by
  subst hp; exact Goes.via (fun _ u => Jvm.Free.XT.i2b X.here hx rfl hd rfl u) q
theorem G.i2c (X : Stand p l e R s m args below meth c T locs cells slots) (hx : p.tables.exec = Jvm.exec) {x : Int32} (hd : decode c.code pc = .ok (.i2c, 1)) (hp : pc + 1 = pc') (q : Goes p e below T (mkF m pc' L (.int (x.toUInt32.toUInt16.toUInt32.toInt32) :: S)) P) : Goes p e below T (mkF m pc L (.int x :: S)) P := by
  subst hp; exact Goes.via (fun _ u => Jvm.Free.XT.i2c X.here hx rfl hd rfl u) q
theorem G.i2s (X : Stand p l e R s m args below meth c T locs cells slots) (hx : p.tables.exec = Jvm.exec) {x : Int32} (hd : decode c.code pc = .ok (.i2s, 1)) (hp : pc + 1 = pc') (q : Goes p e below T (mkF m pc' L (.int (x.toInt16.toInt32) :: S)) P) : Goes p e below T (mkF m pc L (.int x :: S)) P := by
  subst hp; exact Goes.via (fun _ u => Jvm.Free.XT.i2s X.here hx rfl hd rfl u) q
theorem G.l2i (X : Stand p l e R s m args below meth c T locs cells slots) (hx : p.tables.exec = Jvm.exec) {x : Int64} (hd : decode c.code pc = .ok (.l2i, 1)) (hp : pc + 1 = pc') (q : Goes p e below T (mkF m pc' L (.int (x.toInt32) :: S)) P) : Goes p e below T (mkF m pc L (.long x :: S)) P := by
  subst hp; exact Goes.via (fun _ u => Jvm.Free.XT.l2i X.here hx rfl hd rfl u) q
theorem G.lcmp (X : Stand p l e R s m args below meth c T locs cells slots) (hx : p.tables.exec = Jvm.exec) {x y : Int64} (hd : decode c.code pc = .ok (.lcmp, 1)) (hp : pc + 1 = pc') (q : Goes p e below T (mkF m pc' L (.int (Jvm.Free.XT.cmpL x y) :: S)) P) : Goes p e below T (mkF m pc L (.long y :: .long x :: S)) P := by
  subst hp; exact Goes.via (fun _ u => Jvm.Free.XT.lcmp X.here hx rfl hd rfl u) q
theorem G.dup (X : Stand p l e R s m args below meth c T locs cells slots) (hx : p.tables.exec = Jvm.exec) {v : Value} (hd : decode c.code pc = .ok (.dup, 1)) (hv : v.category = 1) (hp : pc + 1 = pc') (q : Goes p e below T (mkF m pc' L (v :: v :: S)) P) : Goes p e below T (mkF m pc L (v :: S)) P := by
  subst hp; exact Goes.via (fun _ u => Jvm.Free.XS.dup X.here hx rfl hd rfl hv u) q
theorem G.pop (X : Stand p l e R s m args below meth c T locs cells slots) (hx : p.tables.exec = Jvm.exec) {v : Value} (hd : decode c.code pc = .ok (.pop, 1)) (hv : v.category = 1) (hp : pc + 1 = pc') (q : Goes p e below T (mkF m pc' L (S)) P) : Goes p e below T (mkF m pc L (v :: S)) P := by
  subst hp; exact Goes.via (fun _ u => Jvm.Free.XT.pop X.here hx rfl hd rfl hv u) q
theorem G.dupX1 (X : Stand p l e R s m args below meth c T locs cells slots) (hx : p.tables.exec = Jvm.exec) {v w : Value} (hd : decode c.code pc = .ok (.dup_x1, 1)) (hv : v.category = 1) (hw : w.category = 1) (hp : pc + 1 = pc') (q : Goes p e below T (mkF m pc' L (v :: w :: v :: S)) P) : Goes p e below T (mkF m pc L (v :: w :: S)) P := by
  subst hp; exact Goes.via (fun _ u => Jvm.Free.XT.dupX1 X.here hx rfl hd rfl hv hw u) q
theorem G.dup2 (X : Stand p l e R s m args below meth c T locs cells slots) (hx : p.tables.exec = Jvm.exec) {v w : Value} (hd : decode c.code pc = .ok (.dup2, 1)) (hv : v.category = 1) (hw : w.category = 1) (hp : pc + 1 = pc') (q : Goes p e below T (mkF m pc' L (v :: w :: v :: w :: S)) P) : Goes p e below T (mkF m pc L (v :: w :: S)) P := by
  subst hp; exact Goes.via (fun _ u => Jvm.Free.XT.dup2 X.here hx rfl hd rfl hv hw u) q
theorem G.goto (X : Stand p l e R s m args below meth c T locs cells slots) (hx : p.tables.exec = Jvm.exec) {o : Int} (hd : decode c.code pc = .ok (.goto o, 3)) (ho : 0 ≤ (pc : Int) + o) (hp : ((pc : Int) + o).toNat = pc') (q : Goes p e below T (mkF m pc' L S) P) : Goes p e below T (mkF m pc L S) P :=
  Goes.via (fun _ u => Jvm.Free.XS.goto X.here hx rfl rfl hd ho hp u) q
theorem G.icmpT (X : Stand p l e R s m args below meth c T locs cells slots) (hx : p.tables.exec = Jvm.exec) {cd : ClassFile.Cond} {x y : Int32} {o : Int} (hd : decode c.code pc = .ok (.if_icmp cd o, 3)) (hc : if_icmp.holds cd x y = true) (ho : 0 ≤ (pc : Int) + o) (hp : ((pc : Int) + o).toNat = pc') (q : Goes p e below T (mkF m pc' L S) P) : Goes p e below T (mkF m pc L (.int y :: .int x :: S)) P :=
  Goes.via (fun _ u => Jvm.Free.XS.icmpYes X.here hx rfl rfl hd rfl hc ho hp u) q
theorem G.icmpF (X : Stand p l e R s m args below meth c T locs cells slots) (hx : p.tables.exec = Jvm.exec) {cd : ClassFile.Cond} {x y : Int32} {o : Int} (hd : decode c.code pc = .ok (.if_icmp cd o, 3)) (hc : if_icmp.holds cd x y = false) (hp : pc + 3 = pc') (q : Goes p e below T (mkF m pc' L S) P) : Goes p e below T (mkF m pc L (.int y :: .int x :: S)) P := by
  subst hp; exact Goes.via (fun _ u => Jvm.Free.XS.icmpNo X.here hx rfl hd rfl hc u) q
theorem G.ifT (X : Stand p l e R s m args below meth c T locs cells slots) (hx : p.tables.exec = Jvm.exec) {cd : ClassFile.Cond} {x : Int32} {o : Int} (hd : decode c.code pc = .ok (.ifCond cd o, 3)) (hc : ifCond.holds cd x = true) (ho : 0 ≤ (pc : Int) + o) (hp : ((pc : Int) + o).toNat = pc') (q : Goes p e below T (mkF m pc' L S) P) : Goes p e below T (mkF m pc L (.int x :: S)) P :=
  Goes.via (fun _ u => Jvm.Free.XS.ifYes X.here hx rfl rfl hd rfl hc ho hp u) q
theorem G.ifF (X : Stand p l e R s m args below meth c T locs cells slots) (hx : p.tables.exec = Jvm.exec) {cd : ClassFile.Cond} {x : Int32} {o : Int} (hd : decode c.code pc = .ok (.ifCond cd o, 3)) (hc : ifCond.holds cd x = false) (hp : pc + 3 = pc') (q : Goes p e below T (mkF m pc' L S) P) : Goes p e below T (mkF m pc L (.int x :: S)) P := by
  subst hp; exact Goes.via (fun _ u => Jvm.Free.XS.ifNo X.here hx rfl hd rfl hc u) q
theorem G.nullT (X : Stand p l e R s m args below meth c T locs cells slots) (hx : p.tables.exec = Jvm.exec) {o : Int} (hd : decode c.code pc = .ok (.ifnull o, 3)) (ho : 0 ≤ (pc : Int) + o) (hp : ((pc : Int) + o).toNat = pc') (q : Goes p e below T (mkF m pc' L S) P) : Goes p e below T (mkF m pc L (.null :: S)) P :=
  Goes.via (fun _ u => Jvm.Free.XS.ifnullYes X.here hx rfl rfl hd rfl ho hp u) q
theorem G.nullF (X : Stand p l e R s m args below meth c T locs cells slots) (hx : p.tables.exec = Jvm.exec) {b : Addr} {o : Int} (hd : decode c.code pc = .ok (.ifnull o, 3)) (hp : pc + 3 = pc') (q : Goes p e below T (mkF m pc' L S) P) : Goes p e below T (mkF m pc L (.ref b :: S)) P := by
  subst hp; exact Goes.via (fun _ u => Jvm.Free.XS.ifnullNo X.here hx rfl hd rfl u) q
theorem G.nonnullT (X : Stand p l e R s m args below meth c T locs cells slots) (hx : p.tables.exec = Jvm.exec) {b : Addr} {o : Int} (hd : decode c.code pc = .ok (.ifnonnull o, 3)) (ho : 0 ≤ (pc : Int) + o) (hp : ((pc : Int) + o).toNat = pc') (q : Goes p e below T (mkF m pc' L S) P) : Goes p e below T (mkF m pc L (.ref b :: S)) P :=
  Goes.via (fun _ u => Jvm.Free.XS.ifnonnullYes X.here hx rfl rfl hd rfl ho hp u) q
theorem G.nonnullF (X : Stand p l e R s m args below meth c T locs cells slots) (hx : p.tables.exec = Jvm.exec) {o : Int} (hd : decode c.code pc = .ok (.ifnonnull o, 3)) (hp : pc + 3 = pc') (q : Goes p e below T (mkF m pc' L S) P) : Goes p e below T (mkF m pc L (.null :: S)) P := by
  subst hp; exact Goes.via (fun _ u => Jvm.Free.XS.ifnonnullNo X.here hx rfl hd rfl u) q
theorem G.acmpT (X : Stand p l e R s m args below meth c T locs cells slots) (hx : p.tables.exec = Jvm.exec) {cd : ACond} {x y : Value} {o : Int} (hd : decode c.code pc = .ok (.if_acmp cd o, 3)) (h1 : x.isRef = true) (h2 : y.isRef = true) {same : Bool} (hq : decide (x = y) = same) (ho : 0 ≤ (pc : Int) + o) (hp : pc' = if acV cd same = true then ((pc : Int) + o).toNat else pc + 3) (q : Goes p e below T (mkF m pc' L S) P) : Goes p e below T (mkF m pc L (y :: x :: S)) P :=
  Goes.via (fun _ u => Jvm.RoadKit.acmp X hx rfl h1 h2 rfl hd rfl hq ho hp u) q
theorem G.ldcInt (X : Stand p l e R s m args below meth c T locs cells slots) (hx : p.tables.exec = Jvm.exec) (hZ : Z.Warmed39 s.vm) {own : String} {index : Nat} {v : Int32} (hown : s.vm.findClass own = some m.cls) (w : (Cond.constant own index v).before a0 Z = true) (hd : decode c.code pc = .ok (.ldc index, 2)) (hp : pc + 2 = pc') (q : Goes p e below T (mkF m pc' L (.int v :: S)) P) : Goes p e below T (mkF m pc L S) P := by
  subst hp; exact Goes.via (X.ldcInt hx hown (mvT hZ w) (g := mkF m pc L S) rfl hd) q
theorem G.ldcLong (X : Stand p l e R s m args below meth c T locs cells slots) (hx : p.tables.exec = Jvm.exec) (hZ : Z.Warmed39 s.vm) {own : String} {index : Nat} {v : Int64} (hown : s.vm.findClass own = some m.cls) (w : (Cond.constantLong own index v).before a0 Z = true) (hd : decode c.code pc = .ok (.ldc2_w index, 3)) (hp : pc + 3 = pc') (q : Goes p e below T (mkF m pc' L (.long v :: S)) P) : Goes p e below T (mkF m pc L S) P := by
  subst hp; exact Goes.via (X.ldc2Long hx hown (mvT hZ w) (g := mkF m pc L S) rfl hd) q
theorem G.getF (X : Stand p l e R s m args below meth c T locs cells slots) (hx : p.tables.exec = Jvm.exec) (hZ : Z.Warmed39 s.vm) {own R0 O n d : String} {index : Nat} (hown : s.vm.findClass own = some m.cls) (w : (Cond.fieldLink own index R0 n d).before a0 Z = true) (via : Via Z R0 O n d) (eT : T.heap = h) (F : Fld Z h a O n d v) (hd : decode c.code pc = .ok (.getfield index, 3)) (hp : pc + 3 = pc')
    (q : ∀ T', Stand p l e R s m args below meth c T' locs cells slots → T'.heap = h → Goes p e below T' (mkF m pc' L (v :: S)) P) : Goes p e below T (mkF m pc L (.ref a :: S)) P := by
  subst hp
  obtain ⟨T', X', e', st⟩ := Jvm.RoadKit.getF X hx hZ hown (host := "") (Or.inl w) via eT F (g := mkF m pc L (.ref a :: S)) rfl rfl hd
  exact Goes.via st (q T' X' e')
theorem G.getS (X : Stand p l e R s m args below meth c T locs cells slots) (hx : p.tables.exec = Jvm.exec) (hZ : Z.Warmed39 s.vm) {own R0 O n d : String} {index : Nat} (hown : s.vm.findClass own = some m.cls) (w : (Cond.fieldLink own index R0 n d).before a0 Z = true) (via : Via Z R0 O n d) (eT : T.heap = h) (F : Sta Z h O n d v) (hd : decode c.code pc = .ok (.getstatic index, 3)) (hp : pc + 3 = pc')
    (q : ∀ T', Stand p l e R s m args below meth c T' locs cells slots → T'.heap = h → Goes p e below T' (mkF m pc' L (v :: S)) P) : Goes p e below T (mkF m pc L S) P := by
  subst hp
  obtain ⟨T', X', e', st⟩ := Jvm.RoadKit.getS2 X hx hZ hown (host := "") (Or.inl w) via eT F (g := mkF m pc L S) rfl hd
  exact Goes.via st (q T' X' e')
theorem G.putF (X : Stand p l e R s m args below meth c T locs cells slots) (hx : p.tables.exec = Jvm.exec) (hZ : Z.Warmed39 s.vm) {own R0 O n d C : String} {index kk : Nat} {ty : FieldType} {old : Value} (hown : s.vm.findClass own = some m.cls) (w : (Cond.fieldLink own index R0 n d).before a0 Z = true) (via : Via Z R0 O n d) (eT : T.heap = h) (F : Fld Z h a O n d old) (E : Exa Z h a C) (Ly : (Cond.lays C O n d).before a0 Z = true ∨ ((Cond.laysFinal C O n d).before a0 Z = true ∧ own = O ∧ meth.name = "<init>")) (wi : (Cond.instantiable C kk).before a0 Z = true)
    (hty : parseFieldDescriptor d = some ty) (hn : narrow ty v = v) (hf : fits ty v = true) (hd : decode c.code pc = .ok (.putfield index, 3)) (hp : pc + 3 = pc')
    (q : ∀ T' h', Stand p l e R s m args below meth c T' (locs ++ [⟨a, Jvm.RoadKit.slotOf Z O n d⟩]) cells slots → T'.heap = h' → Wr h h' a (Jvm.RoadKit.slotOf Z O n d) v → Goes p e below T' (mkF m pc' L S) P) : Goes p e below T (mkF m pc L (v :: .ref a :: S)) P := by
  subst hp
  obtain ⟨T', h', X', e', W', st⟩ := Jvm.RoadKit.putF X hx hZ hown (host := "") (Or.inl w) via eT F E Ly wi hty hn hf (g := mkF m pc L (v :: .ref a :: S)) rfl rfl hd
  exact Goes.via st (q T' h' X' e' W')
theorem G.putFN (X : Stand p l e R s m args below meth c T locs cells slots) (hx : p.tables.exec = Jvm.exec) (hZ : Z.Warmed39 s.vm) {own R0 O n d C : String} {index kk : Nat} {ty : FieldType} {old v' : Value} (hown : s.vm.findClass own = some m.cls) (w : (Cond.fieldLink own index R0 n d).before a0 Z = true) (via : Via Z R0 O n d) (eT : T.heap = h) (F : Fld Z h a O n d old) (E : Exa Z h a C) (Ly : (Cond.lays C O n d).before a0 Z = true ∨ ((Cond.laysFinal C O n d).before a0 Z = true ∧ own = O ∧ meth.name = "<init>")) (wi : (Cond.instantiable C kk).before a0 Z = true)
    (hty : parseFieldDescriptor d = some ty) (hn : narrow ty v = v') (hf : fits ty v' = true) (hd : decode c.code pc = .ok (.putfield index, 3)) (hp : pc + 3 = pc')
    (q : ∀ T' h', Stand p l e R s m args below meth c T' (locs ++ [⟨a, Jvm.RoadKit.slotOf Z O n d⟩]) cells slots → T'.heap = h' → Wr h h' a (Jvm.RoadKit.slotOf Z O n d) v' → Goes p e below T' (mkF m pc' L S) P) : Goes p e below T (mkF m pc L (v :: .ref a :: S)) P := by
  subst hp
  obtain ⟨T', h', X', e', W', st⟩ := Jvm.RoadKit.putFN X hx hZ hown w via eT F E Ly wi hty hn hf (g := mkF m pc L (v :: .ref a :: S)) rfl rfl hd
  exact Goes.via st (q T' h' X' e' W')
theorem G.newO (X : Stand p l e R s m args below meth c T locs cells slots) (hx : p.tables.exec = Jvm.exec) (hZ : Z.Warmed39 s.vm) {own C : String} {index n : Nat} (hown : s.vm.findClass own = some m.cls) (w : (Cond.classLink own index C).before a0 Z = true) (wi : (Cond.instantiable C n).before a0 Z = true) (wz : (Cond.initialized C).before a0 Z = true) (eT : T.heap = h) (hd : decode c.code pc = .ok (.new index, 3)) (hc : cells + 1 ≤ R.cells) (hl : slots + n ≤ R.slots) (hp : pc + 3 = pc')
    (q : ∀ T' h' a, a = h.size → Stand p l e R s m args below meth c T' locs (cells + 1) (slots + n) → T'.heap = h' → Ext h h' → Exa Z h' a C → (∀ {O nm d : String} {ty : FieldType}, Laid Z a0 C O nm d → parseFieldDescriptor d = some ty → Fld Z h' a O nm d (defaultValue ty)) → Goes p e below T' (mkF m pc' L (.ref a :: S)) P) : Goes p e below T (mkF m pc L S) P := by
  subst hp
  obtain ⟨T', h', X', e', E', A', D', -, st⟩ := Jvm.RoadKit.newO X hx hZ hown w wi wz eT (g := mkF m pc L S) rfl hd hc hl
  exact Goes.via st (q T' h' _ rfl X' e' E' A' D')
theorem G.initO (X : Stand p l e R s m args below meth c T locs cells slots) (hx : p.tables.exec = Jvm.exec) (hZ : Z.Warmed39 s.vm) {own : String} {idx : Nat} (hown : s.vm.findClass own = some m.cls) (w1 : (Cond.methodLink own idx Lib.objectInit).before a0 Z = true) (w2 : (Cond.instanceMethod Lib.objectInit).before a0 Z = true) (w3 : (Cond.code Lib.objectInit ⟨#[0xb1]⟩ 1 none).before a0 Z = true) (eT : T.heap = h) (hsz : L.size = c.maxLocals) (hd : decode c.code pc = .ok (.invokespecial idx, 3)) (hf : 1 ≤ R.frames) {W : Nat} (hW : (S.map fun v => v.category).sum ≤ W) (hl : W + 12 ≤ R.locals) (hp : pc + 3 = pc')
    (q : ∀ T', Stand p l e R s m args below meth c T' locs cells slots → T'.heap = h → Goes p e below T' (mkF m pc' L S) P) : Goes p e below T (mkF m pc L (.ref a :: S)) P := by
  subst hp
  obtain ⟨T', X', e', st⟩ := Jvm.RoadKit.initO X hx hZ hown w1 w2 w3 eT (g := mkF m pc L (.ref a :: S)) rfl hsz rfl hd hf (W := W) (by show 2 * 0 + _ ≤ _; omega) hl
  exact Goes.via st (q T' X' e')
/-- an array's components, in order -/
def Seq (Z : State) (h : Heap) (a : Addr) (ty : FieldType) (vs : List Value) : Prop := ∃ cl : Cell, Arr Z h a cl ty ∧ cl.slots.toList = vs ∧ vs.length < 2 ^ 31
variable {vs : List Value} {ty : FieldType} {j : Int32}
theorem Seq.lt (F : Seq Z h a ty vs) : a < h.size := by obtain ⟨_, A, -⟩ := F; exact A.lt
theorem Seq.ext (F : Seq Z h a ty vs) (E : Ext h h') : Seq Z h' a ty vs := by obtain ⟨cl, A, r⟩ := F; exact ⟨cl, A.ext E, r⟩
theorem Seq.other {w : Value} (F : Seq Z h b ty vs) (W : Wr h h' a sl w) (q : b ≠ a) : Seq Z h' b ty vs := by obtain ⟨cl, A, r⟩ := F; exact ⟨cl, A.other W q, r⟩
theorem Seq.keep (F : Seq Z h a ty vs) (K : Keep h h' ws) (q : a ∉ ws) : Seq Z h' a ty vs := by obtain ⟨cl, A, r⟩ := F; exact ⟨cl, ⟨K.2.1 a cl A.1 q, A.2⟩, r⟩
theorem Seq.new {k : ClassId} {z : Int32} (A : Arr Z h a (newA k ty z) ty) (n : Nat) (hn : z.toNatClampNeg = n) : Seq Z h a ty (List.replicate n (defaultValue ty)) := by
  refine ⟨_, A, by rw [← hn]; simp [newA], ?_⟩
  rw [List.length_replicate, ← hn]
  have := Int32.toInt_lt z
  simp only [Int32.toNatClampNeg]
  omega
theorem Seq.at (F : Seq Z h a ty vs) (hj : ¬ j < 0) (hv : vs[j.toNatClampNeg]? = some v) : ∃ cl : Cell, h[a]? = some cl ∧ Z.isArrayOf cl ty ∧ cl.vm ≠ .unknown ∧ ¬ (j < 0 ∨ cl.slots.size ≤ j.toNatClampNeg) ∧ cl.slots[j.toNatClampNeg]? = some v := by
  obtain ⟨cl, A, rfl, hl⟩ := F
  rw [Array.getElem?_toList] at hv
  exact ⟨cl, A.1, A.2.1, A.2.2, fun q => q.elim hj fun q => by have := (Array.getElem?_eq_some_iff.mp hv).1; omega, hv⟩
theorem Seq.set (F : Seq Z h a ty vs) (W : Wr h h' a j.toNatClampNeg v) : Seq Z h' a ty (vs.set j.toNatClampNeg v) := by
  obtain ⟨cl, A, rfl, hl⟩ := F
  exact ⟨_, A.same W, by simp [Cell.setSlot], by simpa using hl⟩
theorem Seq.inb (F : Seq Z h a ty vs) (hj : ¬ j < 0) (hi : j.toNatClampNeg < vs.length) : ∃ cl : Cell, Arr Z h a cl ty ∧ ¬ (j < 0 ∨ cl.slots.size ≤ j.toNatClampNeg) := by
  obtain ⟨cl, A, rfl, hl⟩ := F
  exact ⟨cl, A, fun q => q.elim hj fun q => by rw [Array.length_toList] at hi; omega⟩
theorem G.newP (X : Stand p l e R s m args below meth c T locs cells slots) (hx : p.tables.exec = Jvm.exec) (hZ : Z.Warmed39 s.vm) {aty : ArrayType} (w : (Cond.arrayClass (newarray.typeOf aty)).before a0 Z = true) (eT : T.heap = h) (hd : decode c.code pc = .ok (.newarray aty, 2)) {z : Int32} (hz : ¬ z < 0) {cap n : Nat} (hn : z.toNatClampNeg = n) (hcap : n ≤ cap) (hb : cap * 8 ≤ 536870912) (hc : cells + 1 ≤ R.cells) (hl : slots + cap ≤ R.slots) (hp : pc + 2 = pc')
    (q : ∀ T' h' a, a = h.size → Stand p l e R s m args below meth c T' locs (cells + 1) (slots + cap) → T'.heap = h' → Ext h h' → Seq Z h' a (newarray.typeOf aty) (List.replicate n (defaultValue (newarray.typeOf aty))) → Goes p e below T' (mkF m pc' L (.ref a :: S)) P) : Goes p e below T (mkF m pc L (.int z :: S)) P := by
  subst hp
  obtain ⟨T', h', k, X', e', E', A', st⟩ := Jvm.RoadKit.newP X hx hZ w eT (g := mkF m pc L (.int z :: S)) rfl hd rfl hz (cap := cap) (hn ▸ hcap) hb hc hl
  exact Goes.via st (q T' h' _ rfl X' e' E' (Seq.new A' n hn))
theorem G.arraylength (X : Stand p l e R s m args below meth c T locs cells slots) (hx : p.tables.exec = Jvm.exec) (hZ : Z.Warmed39 s.vm) (eT : T.heap = h) (F : Seq Z h a ty vs) (hd : decode c.code pc = .ok (.arraylength, 1)) {z : Int32} (hz : vs.length.toInt32 = z) (hp : pc + 1 = pc') (q : Goes p e below T (mkF m pc' L (.int z :: S)) P) : Goes p e below T (mkF m pc L (.ref a :: S)) P := by
  subst hp
  obtain ⟨cl, A, rfl, hl⟩ := F
  rw [Array.length_toList] at hz
  subst hz
  exact Goes.via (fun t u => X.arraylength hx (by rw [eT]; exact A.1) (State.isArrayOf_alike hZ.alike A.2.1) (g := mkF m pc L (.ref a :: S)) rfl rfl hd t u) q
theorem G.iaload (X : Stand p l e R s m args below meth c T locs cells slots) (hx : p.tables.exec = Jvm.exec) (hZ : Z.Warmed39 s.vm) (eT : T.heap = h) (F : Seq Z h a .int vs) (hd : decode c.code pc = .ok (.iaload, 1)) (hj : ¬ j < 0) (hv : vs[j.toNatClampNeg]? = some v) (hp : pc + 1 = pc') (q : Goes p e below T (mkF m pc' L (v :: S)) P) : Goes p e below T (mkF m pc L (.int j :: .ref a :: S)) P := by
  subst hp
  obtain ⟨cl, q1, q2, q3, q4, q5⟩ := F.at hj hv
  exact Goes.via (fun t u => X.iaload hx (by rw [eT]; exact q1) (State.isArrayOf_alike hZ.alike q2) q3 q4 q5 (g := mkF m pc L (.int j :: .ref a :: S)) rfl rfl hd t u) q
theorem G.laload (X : Stand p l e R s m args below meth c T locs cells slots) (hx : p.tables.exec = Jvm.exec) (hZ : Z.Warmed39 s.vm) (eT : T.heap = h) (F : Seq Z h a .long vs) (hd : decode c.code pc = .ok (.laload, 1)) (hj : ¬ j < 0) (hv : vs[j.toNatClampNeg]? = some v) (hp : pc + 1 = pc') (q : Goes p e below T (mkF m pc' L (v :: S)) P) : Goes p e below T (mkF m pc L (.int j :: .ref a :: S)) P := by
  subst hp
  obtain ⟨cl, q1, q2, q3, q4, q5⟩ := F.at hj hv
  exact Goes.via (fun t u => X.laload hx (by rw [eT]; exact q1) (State.isArrayOf_alike hZ.alike q2) q3 q4 q5 (g := mkF m pc L (.int j :: .ref a :: S)) rfl rfl hd t u) q
theorem G.baload (X : Stand p l e R s m args below meth c T locs cells slots) (hx : p.tables.exec = Jvm.exec) (hZ : Z.Warmed39 s.vm) (eT : T.heap = h) (F : Seq Z h a .byte vs) (hd : decode c.code pc = .ok (.baload, 1)) (hj : ¬ j < 0) (hv : vs[j.toNatClampNeg]? = some v) (hp : pc + 1 = pc') (q : Goes p e below T (mkF m pc' L (v :: S)) P) : Goes p e below T (mkF m pc L (.int j :: .ref a :: S)) P := by
  subst hp
  obtain ⟨cl, q1, q2, q3, q4, q5⟩ := F.at hj hv
  exact Goes.via (fun t u => X.baloadBytes hx (by rw [eT]; exact q1) (State.isArrayOf_alike hZ.alike q2) q3 q4 q5 (g := mkF m pc L (.int j :: .ref a :: S)) rfl rfl hd t u) q
theorem G.zaload (X : Stand p l e R s m args below meth c T locs cells slots) (hx : p.tables.exec = Jvm.exec) (hZ : Z.Warmed39 s.vm) (eT : T.heap = h) (F : Seq Z h a .boolean vs) (hd : decode c.code pc = .ok (.baload, 1)) (hj : ¬ j < 0) (hv : vs[j.toNatClampNeg]? = some v) (hp : pc + 1 = pc') (q : Goes p e below T (mkF m pc' L (v :: S)) P) : Goes p e below T (mkF m pc L (.int j :: .ref a :: S)) P := by
  subst hp
  obtain ⟨cl, q1, q2, q3, q4, q5⟩ := F.at hj hv
  exact Goes.via (fun t u => X.baloadBooleans hx (by rw [eT]; exact q1) (State.isArrayOf_alike hZ.alike q2) q3 q4 q5 (g := mkF m pc L (.int j :: .ref a :: S)) rfl rfl hd t u) q
theorem G.caload (X : Stand p l e R s m args below meth c T locs cells slots) (hx : p.tables.exec = Jvm.exec) (hZ : Z.Warmed39 s.vm) (eT : T.heap = h) (F : Seq Z h a .char vs) (hd : decode c.code pc = .ok (.caload, 1)) (hj : ¬ j < 0) (hv : vs[j.toNatClampNeg]? = some v) (hp : pc + 1 = pc') (q : Goes p e below T (mkF m pc' L (v :: S)) P) : Goes p e below T (mkF m pc L (.int j :: .ref a :: S)) P := by
  subst hp
  obtain ⟨cl, q1, q2, q3, q4, q5⟩ := F.at hj hv
  exact Goes.via (fun t u => X.caload hx (by rw [eT]; exact q1) (State.isArrayOf_alike hZ.alike q2) q3 q4 q5 (g := mkF m pc L (.int j :: .ref a :: S)) rfl rfl hd t u) q
theorem G.aaload (X : Stand p l e R s m args below meth c T locs cells slots) (hx : p.tables.exec = Jvm.exec) (hZ : Z.Warmed39 s.vm) (eT : T.heap = h) (F : Seq Z h a ty vs) (hty : ty.isReference = true) (hd : decode c.code pc = .ok (.aaload, 1)) (hj : ¬ j < 0) (hv : vs[j.toNatClampNeg]? = some v) (hp : pc + 1 = pc') (q : Goes p e below T (mkF m pc' L (v :: S)) P) : Goes p e below T (mkF m pc L (.int j :: .ref a :: S)) P := by
  subst hp
  obtain ⟨cl, q1, q2, q3, q4, q5⟩ := F.at hj hv
  exact Goes.via (fun t u => X.aaload hx (by rw [eT]; exact q1) (State.isArrayOf_alike hZ.alike q2) hty q3 q4 q5 (g := mkF m pc L (.int j :: .ref a :: S)) rfl rfl hd t u) q
theorem G.iastore (X : Stand p l e R s m args below meth c T locs cells slots) (hx : p.tables.exec = Jvm.exec) (hZ : Z.Warmed39 s.vm) (eT : T.heap = h) (F : Seq Z h a .int vs) {x : Int32} (hd : decode c.code pc = .ok (.iastore, 1)) (hj : ¬ j < 0) (hi : j.toNatClampNeg < vs.length) (hp : pc + 1 = pc')
    (q : ∀ T' h', Stand p l e R s m args below meth c T' (locs ++ [⟨a, j.toNatClampNeg⟩]) cells slots → T'.heap = h' → Wr h h' a j.toNatClampNeg (.int x) → Seq Z h' a .int (vs.set j.toNatClampNeg (.int x)) → Goes p e below T' (mkF m pc' L S) P) : Goes p e below T (mkF m pc L (.int x :: .int j :: .ref a :: S)) P := by
  subst hp
  obtain ⟨cl, A, hj'⟩ := F.inb hj hi
  obtain ⟨T', h', X', e', W', st⟩ := Jvm.RoadKit.stI X hx hZ eT A hj' (g := mkF m pc L (.int x :: .int j :: .ref a :: S)) rfl rfl hd
  exact Goes.via st (q T' h' X' e' W' (F.set W'))
theorem G.lastore (X : Stand p l e R s m args below meth c T locs cells slots) (hx : p.tables.exec = Jvm.exec) (hZ : Z.Warmed39 s.vm) (eT : T.heap = h) (F : Seq Z h a .long vs) {x : Int64} (hd : decode c.code pc = .ok (.lastore, 1)) (hj : ¬ j < 0) (hi : j.toNatClampNeg < vs.length) (hp : pc + 1 = pc')
    (q : ∀ T' h', Stand p l e R s m args below meth c T' (locs ++ [⟨a, j.toNatClampNeg⟩]) cells slots → T'.heap = h' → Wr h h' a j.toNatClampNeg (.long x) → Seq Z h' a .long (vs.set j.toNatClampNeg (.long x)) → Goes p e below T' (mkF m pc' L S) P) : Goes p e below T (mkF m pc L (.long x :: .int j :: .ref a :: S)) P := by
  subst hp
  obtain ⟨cl, A, hj'⟩ := F.inb hj hi
  obtain ⟨T', h', X', e', W', st⟩ := Jvm.RoadKit.stJ X hx hZ eT A hj' (g := mkF m pc L (.long x :: .int j :: .ref a :: S)) rfl rfl hd
  exact Goes.via st (q T' h' X' e' W' (F.set W'))
theorem G.bastore (X : Stand p l e R s m args below meth c T locs cells slots) (hx : p.tables.exec = Jvm.exec) (hZ : Z.Warmed39 s.vm) (eT : T.heap = h) (F : Seq Z h a .byte vs) {x : Int32} (hd : decode c.code pc = .ok (.bastore, 1)) (hj : ¬ j < 0) (hi : j.toNatClampNeg < vs.length) (hp : pc + 1 = pc')
    (q : ∀ T' h', Stand p l e R s m args below meth c T' (locs ++ [⟨a, j.toNatClampNeg⟩]) cells slots → T'.heap = h' → Wr h h' a j.toNatClampNeg (.int (nar .byte x)) → Seq Z h' a .byte (vs.set j.toNatClampNeg (.int (nar .byte x))) → Goes p e below T' (mkF m pc' L S) P) : Goes p e below T (mkF m pc L (.int x :: .int j :: .ref a :: S)) P := by
  subst hp
  obtain ⟨cl, A, hj'⟩ := F.inb hj hi
  obtain ⟨T', h', X', e', W', st⟩ := Jvm.RoadKit.stB X hx hZ eT A hj' (g := mkF m pc L (.int x :: .int j :: .ref a :: S)) rfl rfl hd
  exact Goes.via st (q T' h' X' e' W' (F.set W'))
theorem G.zastore (X : Stand p l e R s m args below meth c T locs cells slots) (hx : p.tables.exec = Jvm.exec) (hZ : Z.Warmed39 s.vm) (eT : T.heap = h) (F : Seq Z h a .boolean vs) {x : Int32} (hd : decode c.code pc = .ok (.bastore, 1)) (hj : ¬ j < 0) (hi : j.toNatClampNeg < vs.length) (hp : pc + 1 = pc')
    (q : ∀ T' h', Stand p l e R s m args below meth c T' (locs ++ [⟨a, j.toNatClampNeg⟩]) cells slots → T'.heap = h' → Wr h h' a j.toNatClampNeg (.int (nar .boolean x)) → Seq Z h' a .boolean (vs.set j.toNatClampNeg (.int (nar .boolean x))) → Goes p e below T' (mkF m pc' L S) P) : Goes p e below T (mkF m pc L (.int x :: .int j :: .ref a :: S)) P := by
  subst hp
  obtain ⟨cl, A, hj'⟩ := F.inb hj hi
  obtain ⟨T', h', X', e', W', st⟩ := Jvm.RoadKit.stZ X hx hZ eT A hj' (g := mkF m pc L (.int x :: .int j :: .ref a :: S)) rfl rfl hd
  exact Goes.via st (q T' h' X' e' W' (F.set W'))
theorem G.castore (X : Stand p l e R s m args below meth c T locs cells slots) (hx : p.tables.exec = Jvm.exec) (hZ : Z.Warmed39 s.vm) (eT : T.heap = h) (F : Seq Z h a .char vs) {x : Int32} (hd : decode c.code pc = .ok (.castore, 1)) (hj : ¬ j < 0) (hi : j.toNatClampNeg < vs.length) (hp : pc + 1 = pc')
    (q : ∀ T' h', Stand p l e R s m args below meth c T' (locs ++ [⟨a, j.toNatClampNeg⟩]) cells slots → T'.heap = h' → Wr h h' a j.toNatClampNeg (.int (nar .char x)) → Seq Z h' a .char (vs.set j.toNatClampNeg (.int (nar .char x))) → Goes p e below T' (mkF m pc' L S) P) : Goes p e below T (mkF m pc L (.int x :: .int j :: .ref a :: S)) P := by
  subst hp
  obtain ⟨cl, A, hj'⟩ := F.inb hj hi
  obtain ⟨T', h', X', e', W', st⟩ := Jvm.RoadKit.stC X hx hZ eT A hj' (g := mkF m pc L (.int x :: .int j :: .ref a :: S)) rfl rfl hd
  exact Goes.via st (q T' h' X' e' W' (F.set W'))
variable {y : MethodName} {bytes : ByteArray} {maxL : Nat} {ret : Option FieldType} {rm : Room} {argsL S0 : List Value} {W : Nat} {QQ : Option Value → Heap → List Loc → Prop}
theorem G.callS (X : Stand p l e R s m args below meth c T locs cells slots) (hx : p.tables.exec = Jvm.exec) (hZ : Z.Warmed39 s.vm) {own : String} {index : Nat} (hown : s.vm.findClass own = some m.cls) (w1 : (Cond.methodLink own index y).before a0 Z = true) (w2 : (Cond.static y).before a0 Z = true) (w3 : (Cond.initialized y.cls).before a0 Z = true) (w4 : (Cond.code y bytes maxL ret).before a0 Z = true)
    (hy : y.cls ≠ "java/lang/invoke/MethodHandle" ∧ y.cls ≠ "java/lang/invoke/VarHandle") (eT : T.heap = h) (hC : Con l y bytes maxL ret rm Z argsL.toArray h QQ) (hlen : ∀ sig, parseMethodDescriptor y.desc = some sig → argsL.length = sig.parameters.length) (hst : S0 = argsL.reverse ++ S) (hW : (S.map fun v => v.category).sum ≤ W)
    (hf : rm.frames + 1 ≤ R.frames) (hl : W + (maxL + 11) + rm.locals ≤ R.locals) (hc : cells + rm.cells ≤ R.cells) (hs : slots + rm.slots ≤ R.slots) (hsz : L.size = c.maxLocals) (hd : decode c.code pc = .ok (.invokestatic index, 3)) (hp : pc + 3 = pc')
    (q : ∀ T' v Lc, QQ v T'.heap Lc → Stand p l e R s m args below meth c T' (locs ++ Lc) (cells + rm.cells) (slots + rm.slots) → Goes p e below T' (mkF m pc' L (v.toList ++ S)) P) : Goes p e below T (mkF m pc L S0) P := by
  subst hp
  obtain ⟨v, vm1, ⟨T', L1, k1, n1⟩, hw1, X', ⟨Lc, hQ, l1, y1, z1⟩, st⟩ := Jvm.LawKit.callS X hx (y := y) hown (mvT hZ w1) (mvT hZ w2) (mvT hZ w3) (mvT hZ w4) hy (hC.back (W := W) hZ w4 w3 hf hl) (g := mkF m pc L S0) rfl hsz (argsL := argsL) (rest := S) hlen hst (by show 2 * 0 + _ ≤ _; omega) hd (fun _ _ => ⟨rfl, eT, hc, hs⟩)
  dsimp only [Pt.U, Pt.locs, Pt.cells, Pt.slots] at X' l1 y1 z1 st hQ
  subst l1 y1 z1
  exact Goes.via st (q T' v Lc hQ X')
theorem G.callI (X : Stand p l e R s m args below meth c T locs cells slots) (hx : p.tables.exec = Jvm.exec) (hZ : Z.Warmed39 s.vm) {own : String} {index : Nat} (hy1 : y.name = "<init>") (hown : s.vm.findClass own = some m.cls) (w1 : (Cond.methodLink own index y).before a0 Z = true) (w2 : (Cond.instanceMethod y).before a0 Z = true) (w3 : (Cond.initialized y.cls).before a0 Z = true) (w4 : (Cond.code y bytes maxL none).before a0 Z = true)
    (hy : y.cls ≠ "java/lang/invoke/MethodHandle" ∧ y.cls ≠ "java/lang/invoke/VarHandle") (eT : T.heap = h) (hC : Con l y bytes maxL none rm Z (.ref a :: argsL).toArray h QQ) (hlen : ∀ sig, parseMethodDescriptor y.desc = some sig → argsL.length = sig.parameters.length) (hst : S0 = argsL.reverse ++ .ref a :: S) (hW : (S.map fun v => v.category).sum ≤ W)
    (hf : rm.frames + 1 ≤ R.frames) (hl : W + (maxL + 11) + rm.locals ≤ R.locals) (hc : cells + rm.cells ≤ R.cells) (hs : slots + rm.slots ≤ R.slots) (hsz : L.size = c.maxLocals) (hd : decode c.code pc = .ok (.invokespecial index, 3)) (hp : pc + 3 = pc')
    (q : ∀ T' v Lc, QQ v T'.heap Lc → Stand p l e R s m args below meth c T' (locs ++ Lc) (cells + rm.cells) (slots + rm.slots) → Goes p e below T' (mkF m pc' L (v.toList ++ S)) P) : Goes p e below T (mkF m pc L S0) P := by
  subst hp
  obtain ⟨v, vm1, ⟨T', L1, k1, n1⟩, hw1, X', ⟨Lc, hQ, l1, y1, z1⟩, st⟩ := X.specialBack hx (y := y) hy1 hown (mvT hZ w1) (mvT hZ w2) (mvT hZ w4) hy (hC.back (W := W) hZ w4 w3 hf hl) (g := mkF m pc L S0) rfl hsz (Steps.refl _) (a := a) (argsL := argsL) (rest := S) hlen hst (by show 2 * 0 + _ ≤ _; omega) hd (fun _ _ => ⟨rfl, eT, hc, hs⟩)
  dsimp only [Pt.U, Pt.locs, Pt.cells, Pt.slots] at X' l1 y1 z1 st hQ
  subst l1 y1 z1
  exact Goes.thru st (q T' v Lc hQ X')
theorem G.callV (X : Stand p l e R s m args below meth c T locs cells slots) (hx : p.tables.exec = Jvm.exec) (hZ : Z.Warmed39 s.vm) {own C : String} {index : Nat} {y0 : MethodName} (hown : s.vm.findClass own = some m.cls) (w1 : (Cond.methodLink own index y0).before a0 Z = true) (w2 : (Cond.declares y0).before a0 Z = true) (hnf : NotFace s y0) (w3 : (Cond.selects C y0 y).before a0 Z = true) (w4 : (Cond.instanceMethod y).before a0 Z = true) (w5 : (Cond.initialized y.cls).before a0 Z = true) (w6 : (Cond.code y bytes maxL ret).before a0 Z = true)
    (hy : y0.cls ≠ "java/lang/invoke/MethodHandle" ∧ y0.cls ≠ "java/lang/invoke/VarHandle") (eT : T.heap = h) (E : Exa Z h a C) (hC : Con l y bytes maxL ret rm Z (.ref a :: argsL).toArray h QQ) (hlen : ∀ sig, parseMethodDescriptor y0.desc = some sig → argsL.length = sig.parameters.length) (hst : S0 = argsL.reverse ++ .ref a :: S) (hW : (S.map fun v => v.category).sum ≤ W)
    (hf : rm.frames + 1 ≤ R.frames) (hl : W + (maxL + 11) + rm.locals ≤ R.locals) (hc : cells + rm.cells ≤ R.cells) (hs : slots + rm.slots ≤ R.slots) (hsz : L.size = c.maxLocals) (hd : decode c.code pc = .ok (.invokevirtual index, 3)) (hp : pc + 3 = pc')
    (q : ∀ T' v Lc, QQ v T'.heap Lc → Stand p l e R s m args below meth c T' (locs ++ Lc) (cells + rm.cells) (slots + rm.slots) → Goes p e below T' (mkF m pc' L (v.toList ++ S)) P) : Goes p e below T (mkF m pc L S0) P := by
  subst hp
  obtain ⟨cB, kB, i1, i2, i3⟩ := isOf hZ eT E
  obtain ⟨v, vm1, ⟨T', L1, k1, n1⟩, hw1, X', ⟨Lc, hQ, l1, y1, z1⟩, st⟩ := X.virtualBack hx (y := y0) (z := y) hown (mvT hZ w1) (mvT hZ w2) hnf (mvT hZ w3) (mvT hZ w4) hy (hC.back (W := W) hZ w6 w5 hf hl) i1 i3 (g := mkF m pc L S0) rfl hsz (Steps.refl _) (argsL := argsL) (rest := S) hlen hst (by show 2 * 0 + _ ≤ _; omega) hd (fun _ _ => ⟨rfl, eT, hc, hs⟩)
  dsimp only [Pt.U, Pt.locs, Pt.cells, Pt.slots] at X' l1 y1 z1 st hQ
  subst l1 y1 z1
  exact Goes.thru st (q T' v Lc hQ X')
def Pur (v0 : Option Value) (h0 : Heap) (v : Option Value) (h : Heap) (L : List Loc) : Prop := v = v0 ∧ h = h0 ∧ L = []
theorem Seq.arv (F : Seq Z h a ty vs) (hf : ∀ v ∈ vs, fits ty v = true) {z : Int32} (hz : z.toNatClampNeg = vs.length) (hz0 : ¬ z < 0) (dv : Value) : ∃ k, Arv Z h a k ty z vs dv := by
  obtain ⟨cl, A, rfl, hl⟩ := F
  rw [Array.length_toList] at hz
  have hg : ∀ i, i < cl.slots.size → cl.slots[i]? = some (cl.slots.toList.getD i dv) := fun i hi => by
    rw [List.getD_eq_getElem?_getD, Array.getElem?_toList, Array.getElem?_eq_getElem hi]; rfl
  refine ⟨cl.cls, cl, A, rfl, hz.symm, hz0, hg, fun i hi => hf _ ?_⟩
  have := hg i hi
  rw [Array.getElem?_eq_getElem hi] at this
  rw [← Option.some.inj this]
  exact Array.mem_toList_iff.mpr (Array.getElem_mem hi)
theorem Arv.seq {k : ClassId} {z : Int32} {dv : Value} (F : Arv Z h a k ty z vs dv) (hl : vs.length = z.toNatClampNeg) : Seq Z h a ty vs := by
  obtain ⟨cl, A, -, S, hz, H, -⟩ := F
  refine ⟨cl, A, ?_, ?_⟩
  · apply List.ext_getElem?
    intro i
    rw [Array.getElem?_toList]
    by_cases hi : i < cl.slots.size
    · rw [H i hi, List.getD_eq_getElem?_getD, List.getElem?_eq_getElem (by omega)]; rfl
    · rw [Array.getElem?_eq_none (by omega), List.getElem?_eq_none (by omega)]
  · have := Int32.toInt_lt z
    rw [hl]; simp only [Int32.toNatClampNeg]; omega
/-- System.arraycopy of the whole int[] a into the head of the int[] b -/
theorem G.copyInts (X : Stand p l e R s m args below meth c T locs cells slots) (hx : p.tables.exec = Jvm.exec) (hZ : Z.Warmed39 s.vm) {own : String} {index : Nat} (hown : s.vm.findClass own = some m.cls) (w1 : (Cond.methodLink own index Jvm.Stand.acN).before a0 Z = true) (w2 : (Cond.native Jvm.Stand.acN).before a0 Z = true) (w3 : (Cond.static Jvm.Stand.acN).before a0 Z = true) (w4 : (Cond.initialized "java/lang/System").before a0 Z = true) (eT : T.heap = h)
    {xs ys : List Value} (A : Seq Z h a .int xs) (B : Seq Z h b .int ys) (hfx : ∀ v ∈ xs, fits .int v = true) (hfy : ∀ v ∈ ys, fits .int v = true) {z z' : Int32} (hz : z.toNatClampNeg = xs.length) (hz0 : ¬ z < 0) (hz' : z'.toNatClampNeg = ys.length) (hz0' : ¬ z' < 0) (hle : xs.length ≤ ys.length) {n0 : Nat} (N : Fr n0 locs) (ge : n0 ≤ b)
    (hsz : L.size = c.maxLocals) (hd : decode c.code pc = .ok (.invokestatic index, 3)) (hf : 1 ≤ R.frames) {W : Nat} (hW : (S.map fun v => v.category).sum ≤ W) (hlo : W + (nativeFrameWords "java/lang/System" "arraycopy" 5 + 11) ≤ R.locals) (hp : pc + 3 = pc')
    (q : ∀ T' h' L', Stand p l e R s m args below meth c T' L' cells slots → T'.heap = h' → Fr n0 L' → Keep h h' [b] → Seq Z h' b .int (xs ++ ys.drop xs.length) → Goes p e below T' (mkF m pc' L S) P) : Goes p e below T (mkF m pc L (.int z :: .int (0 : Int32) :: .ref b :: .int (0 : Int32) :: .ref a :: S)) P := by
  subst hp
  obtain ⟨ka, FA⟩ := A.arv hfx hz hz0 (.int 0)
  obtain ⟨kb, FB⟩ := B.arv hfy hz' hz0' (.int 0)
  have e0 : (0 : Int32).toNatClampNeg = 0 := rfl
  have hus : xs = (List.range z.toNatClampNeg).map fun i => xs.getD ((0 : Int32).toNatClampNeg + i) (.int 0) := by
    refine List.ext_getElem (by simp [hz]) fun i h1 h2 => ?_
    simp [List.getD_eq_getElem?_getD, h1, e0]
  obtain ⟨T', h', L', X', e', N', K', F', st⟩ := Jvm.RoadKit.cpA X hx hZ hown w1 w2 w3 w4 eT (us := xs) FA FB (Or.inl ⟨rfl, rfl⟩) (sp := 0) (dp := 0) (nn := z) (by decide) (by decide) hz0 (by rw [e0]; omega) (by rw [e0]; omega) hus (by rw [e0]; omega) N ge (g := mkF m pc L (.int z :: .int (0 : Int32) :: .ref b :: .int (0 : Int32) :: .ref a :: S)) rfl hsz rfl hd hf (W := W) (by show 2 * 0 + _ ≤ _; omega) hlo
  refine Goes.via st (q T' h' L' X' e' N' K' ?_)
  have := Arv.seq F' (by rw [e0]; simp; omega)
  rw [e0, hz] at this
  simpa using this
theorem sel_priv {s : State} {args : Array Value} {n : Nat} (hins : (Cond.instantiable y.cls n).before args s = true) (hpriv : (Cond.privateMethod y).before args s = true) (hinst : (Cond.instanceMethod y).before args s = true) (hy : y.cls ≠ "java/lang/invoke/MethodHandle" ∧ y.cls ≠ "java/lang/invoke/VarHandle") : (Cond.selects y.cls y y).before args s = true := by
  obtain ⟨c, k, hc, hk, -, hniab, -, -⟩ := Cond.instantiable_spec hins
  have hni : k.isInterface = false := (Bool.or_eq_false_iff.mp hniab).1
  obtain ⟨mk, methM, hnamed, hmethM, -, -⟩ := Cond.instanceMethod_spec hinst
  have hfound : s.methodFound? y.cls y.name y.desc = some mk := State.methodFound?_of_named hnamed hy
  have hcls : mk.cls = c := Option.some.inj ((findClass_of_methodNamed hnamed).symm.trans hc)
  have hsel : selectMethod {} s.vm c mk = .method mk := selectMethod_private hmethM (Cond.privateMethod_at hpriv mk methM hnamed hmethM)
  simp only [Cond.before, Cond.holds, Cond.value, hc, hfound, hnamed, hsel, hcls, hk]
  simp; exact hni
theorem G.callP (X : Stand p l e R s m args below meth c T locs cells slots) (hx : p.tables.exec = Jvm.exec) (hZ : Z.Warmed39 s.vm) {own : String} {index : Nat} (hown : s.vm.findClass own = some m.cls) (w1 : (Cond.methodLink own index y).before a0 Z = true) (w2 : (Cond.instanceMethod y).before a0 Z = true) {kk : Nat} (w3 : (Cond.instantiable y.cls kk).before a0 Z = true) (w4 : (Cond.privateMethod y).before a0 Z = true) (w5 : (Cond.initialized y.cls).before a0 Z = true) (w6 : (Cond.code y bytes maxL ret).before a0 Z = true)
    (hy : y.cls ≠ "java/lang/invoke/MethodHandle" ∧ y.cls ≠ "java/lang/invoke/VarHandle") (eT : T.heap = h) {C : String} (E : Exa Z h a C) (hC : Con l y bytes maxL ret rm Z (.ref a :: argsL).toArray h QQ) (hlen : ∀ sig, parseMethodDescriptor y.desc = some sig → argsL.length = sig.parameters.length) (hst : S0 = argsL.reverse ++ .ref a :: S) (hW : (S.map fun v => v.category).sum ≤ W)
    (hf : rm.frames + 1 ≤ R.frames) (hl : W + (maxL + 11) + rm.locals ≤ R.locals) (hc : cells + rm.cells ≤ R.cells) (hs : slots + rm.slots ≤ R.slots) (hsz : L.size = c.maxLocals) (hd : decode c.code pc = .ok (.invokevirtual index, 3)) (hp : pc + 3 = pc')
    (q : ∀ T' v Lc, QQ v T'.heap Lc → Stand p l e R s m args below meth c T' (locs ++ Lc) (cells + rm.cells) (slots + rm.slots) → Goes p e below T' (mkF m pc' L (v.toList ++ S)) P) : Goes p e below T (mkF m pc L S0) P := by
  subst hp
  obtain ⟨cl, i1, i2⟩ := E.cell
  obtain ⟨v, vm1, ⟨T', L1, k1, n1⟩, hw1, X', ⟨Lc, hQ, l1, y1, z1⟩, st⟩ := X.privateBack hx (y := y) hown (mvT hZ w1) (mvT hZ w2) (sel_priv (mvT hZ w3) (mvP hZ w4) (mvT hZ w2) hy) (Cond.privateMethod_at (mvP hZ w4 (args := #[]))) (mvT hZ w6) hy (hC.back (W := W) hZ w6 w5 hf hl) (g := mkF m pc L S0) rfl hsz (Steps.refl _) (a := a) (by rw [eT]; exact i1) i2 (argsL := argsL) (rest := S) hlen hst (by show 2 * 0 + _ ≤ _; omega) hd (fun _ _ => ⟨rfl, eT, hc, hs⟩)
  dsimp only [Pt.U, Pt.locs, Pt.cells, Pt.slots] at X' l1 y1 z1 st hQ
  subst l1 y1 z1
  exact Goes.thru st (q T' v Lc hQ X')
theorem Sta.keep0 {C n d : String} (F : Sta Z h C n d v) (K : Keep h h' []) : Sta Z h' C n d v := by
  obtain ⟨cf, i, k, f, st, cell, h1, h2, h3, h4, h5, r⟩ := F
  exact ⟨cf, i, k, f, st, cell, h1, h2, h3, h4, K.2.1 _ _ h5 nin0, r⟩
theorem Goes.join {α : Type} {F : α → JFrame} (k : (∀ z, Goes p e below T (F z) P) → Goes p e below T f P) (hj : ∀ z, Goes p e below T (F z) P) : Goes p e below T f P := k hj
theorem Goes.to (k : Goes p e below T f' P → Goes p e below T f P) (q : Goes p e below T f' P) : Goes p e below T f P := k q
theorem Goes.toT (Φ : State → Prop) (k : (∀ T', Φ T' → Goes p e below T' f' P) → Goes p e below T f P) (q : ∀ T', Φ T' → Goes p e below T' f' P) : Goes p e below T f P := k q
/-- a law whose walk may make and intern its String constants: called at the state Z itself -/
def ConW (l : Launch) (y : MethodName) (bytes : ByteArray) (maxL : Nat) (ret : Option FieldType) (rm : Room) (Z : State) (as : Array Value) (Q : Option Value → Heap → List Loc → Prop) : Prop :=
  ∀ ws, MetFree l y (head1 (Cond.code y bytes maxL ret :: ws) rm) (fun a U => a = as ∧ U = Z) (fun _ _ _ _ _ => True) (fun _ U o U' => ∃ v L, o = .returned v ∧ Ap Q v U'.heap L ∧ ReturnedEndW U o U' L rm.cells rm.slots)
theorem ConW.of_body {l : Launch} {y : MethodName} {bytes : ByteArray} {maxL : Nat} {ret : Option FieldType} {rm : Room} {Z : State} {as : Array Value} {Q : Option Value → Heap → List Loc → Prop} (hn : plainFor y = true)
    (body : ∀ (p : Program) (e : Env) (m : MethodId) (below : List Frame) (meth : Method) (c : Code) (T : State), Stand p l e rm (Z.setVm Z.vm) m as below meth c T [] 0 0 → p.tables.exec = Jvm.exec → c.code = bytes → c.maxLocals = maxL → Z.Warmed39 (Z.setVm Z.vm).vm → (Z.setVm Z.vm).vm.findClass y.cls = some m.cls → meth.name = y.name → meth.sig.returnType = ret → meth.locks = false → T.heap = Z.heap →
      Goes p e below T (entryFrame m as maxL) (fun U o => ∃ v L, o = .returned v ∧ Ap Q v U.heap L ∧ ReturnedEndW Z o U L rm.cells rm.slots)) : ConW l y bytes maxL ret rm Z as Q := by
  intro ws
  refine MetFree.of_bodySF hn hisR ?_
  intro p e s m args below meth c s₁ Bd hml hP _
  obtain ⟨rfl, rfl⟩ := hP
  exact body p e m below meth c s₁ (Stand.of_body Bd) Bd.exec Bd.bytes hml (State.Warmed39.refl _) (findClass_of_methodNamed Bd.named) (name_of_methodNamed Bd.named Bd.method).1 Bd.returns (BodyLoose.notSynchronized Bd) (by rw [Bd.state]; rfl)
theorem since0 (s : State) : s.Since s.vm 0 := (State.WarmedH.refl s).since 0
theorem Goes.retNW {vm1 : Vm} {n1 : Nat} (X : Stand p l e R (s.setVm vm1) m args below meth c T locs cells slots) (hS : s.Since vm1 n1) (hn1 : n1 ≤ T.heap.size) (hx : p.tables.exec = Jvm.exec) {t : FieldType} (hret : meth.sig.returnType = some t) (ht : t = .boolean ∨ t = .byte ∨ t = .char ∨ t = .short) (hlk : meth.locks = false) {z : Int32} (hd : decode c.code pc = .ok (.ireturn, 1)) (hk : cells ≤ k) (hn : slots ≤ n) (q : Q (some (.int (nar t z))) T.heap locs) :
    Goes p e below T (mkF m pc L (.int z :: S)) (fun U o => ∃ v L, o = .returned v ∧ Ap Q v U.heap L ∧ ReturnedEndW s o U L k n) := by
  obtain ⟨fs, hr, hrun, hended, hE⟩ := X.leaveW hS hn1 (v := some (.int (nar t z))) (fun h => by rw [hret] at h; cases h) hlk
  exact ⟨_, _, Jvm.RoadKit.retN X hx hret ht hd hr, hrun, hended, _, locs, rfl, q, hE.1, hE.2.1, hE.2.2.1, hE.2.2.2.mono hk hn⟩
theorem G.ldcStr {vm0 : Vm} (X : Stand p l e R (s.setVm vm0) m args below meth c T locs cells slots) (hx : p.tables.exec = Jvm.exec) (hZ : Z.Warmed39 (s.setVm vm0).vm) {own text : String} {index : Nat} (hown : (s.setVm vm0).vm.findClass own = some m.cls) (w : (Cond.stringLink own index text).before a0 Z = true) (wS : ∀ a ∈ Bundle.stringAtoms, a.before a0 Z = true) (eT : T.heap = h) {k0 : Nat} (hS : s.Since vm0 k0) (hk : k0 ≤ h.size)
    (hd : decode c.code pc = .ok (.ldc index, 2)) {n : Nat} (hn : 4 * text.toList.length ≤ n) (hbig : n ≤ 536870912) (hc : cells + 2 ≤ R.cells) (hl : slots + (n + 4) ≤ R.slots) (hp : pc + 2 = pc')
    (q : ∀ a T' h' k1, Stand p l e R (s.setVm T'.vm) m args below meth c T' locs (cells + 2) (slots + (n + 4)) → T'.heap = h' → Ext h h' → s.Since T'.vm k1 → k1 ≤ h'.size → Z.Warmed39 (s.setVm T'.vm).vm → (s.setVm T'.vm).vm.findClass own = some m.cls → Goes p e below T' (mkF m pc' L (.ref a :: S)) P) : Goes p e below T (mkF m pc L S) P := by
  subst hp
  obtain ⟨a, T', h', k1, r1, r2, r3, r4, r5, r6, r7, st⟩ := Jvm.RoadKit.ldcS X hx hZ hown w wS eT hS hk (g := mkF m pc L S) rfl hd hn hbig hc hl
  exact Goes.via st (q a T' h' k1 r1 r2 r3 r4 r5 r6 r7)
theorem G.ldcLit {vm0 : Vm} (X : Stand p l e R (s.setVm vm0) m args below meth c T locs cells slots) (hx : p.tables.exec = Jvm.exec) (hZ : Z.Warmed39 (s.setVm vm0).vm) {own text : String} {index : Nat} (hown : (s.setVm vm0).vm.findClass own = some m.cls) (w : (Cond.stringLink own index text).before a0 Z = true) (wS : ∀ a ∈ Bundle.stringAtoms, a.before a0 Z = true) (eT : T.heap = h) {k0 : Nat} (hS : s.Since vm0 k0) (hk : k0 ≤ h.size)
    (N : Fr s.heap.size locs) (hkeep : ∀ (b : Addr) (cl : Cell), Z.heap[b]? = some cl → s.heap[b]? = some cl) {Ts : List String} (Ib : IB Z vm0 Ts) (hnot : text ∉ Ts) (hh : Jvm.Lit.constHeld Z own index) (hcw : Jvm.Lit.compactW.before a0 Z = true) {vs : List Value} {z : Int32} (ht : (∀ c ∈ text.toList, c.toNat < 256) ∧ text.toList.map (fun c => Value.int (Jvm.Lit.byteI c.toNat.toUInt16)) = vs) (hz : ¬ z < 0) (hzl : z.toNatClampNeg = vs.length)
    (hd : decode c.code pc = .ok (.ldc index, 2)) {n : Nat} (hn : 4 * text.toList.length ≤ n) (hbig : n ≤ 536870912) (hc : cells + 2 ≤ R.cells) (hl : slots + (n + 4) ≤ R.slots) (hp : pc + 2 = pc')
    (q : ∀ a T' h' k1 b, Stand p l e R (s.setVm T'.vm) m args below meth c T' locs (cells + 2) (slots + (n + 4)) → T'.heap = h' → Ext h h' → s.Since T'.vm k1 → k1 ≤ h'.size → Z.Warmed39 (s.setVm T'.vm).vm → (s.setVm T'.vm).vm.findClass own = some m.cls →
      Exa Z h' a "java/lang/String" → Fld Z h' a "java/lang/String" "coder" "B" (.int 0) → Fld Z h' a "java/lang/String" "value" "[B" (.ref b) → Seq Z h' b .byte vs → IB Z T'.vm (text :: Ts) → Goes p e below T' (mkF m pc' L (.ref a :: S)) P) : Goes p e below T (mkF m pc L S) P := by
  subst hp
  obtain ⟨a, T', h', k1, b, k, r1, r2, r3, r4, r5, r6, r7, r8, r9, r10, r11, r12, r13, r14, -, st⟩ := Jvm.RoadKit.ldcSVL X hx hZ hown w wS eT hS hk N hkeep Ib hnot hh hcw ht hz hzl (g := mkF m pc L S) rfl hd hn hbig hc hl
  exact Goes.via st (q a T' h' k1 b r1 r2 r3 r4 r5 r6 r7 r8 r9 r10 (Arv.seq r11 hzl.symm) r14)
theorem len_at {args : Array Value} {first s : State} {o : Option Outcome} {idx : List Nat} {t : Term} {cl : Cell} {z : Int32} (ht : t.eval args first o idx s = some (.ref a)) (ha : s.arrayAt? a = some cl) (hl : (Term.length t).eval args first o idx s = some (.int z)) : cl.slots.size < 2 ^ 31 ∧ cl.slots.size.toInt32 = z := by
  by_cases q : cl.slots.size < 2 ^ 31
  · rw [len_f ht ha q] at hl
    exact ⟨q, Value.int.inj (Option.some.inj hl)⟩
  · simp [Term.eval, ht, ha, q] at hl
theorem toList_eq {xs : Array Value} {vs : List Value} (hs : xs.size = vs.length) (hv : ∀ i, i < vs.length → xs[i]? = vs[i]?) : xs.toList = vs := by
  apply List.ext_getElem?
  intro i
  rw [Array.getElem?_toList]
  by_cases hi : i < vs.length
  · exact hv i hi
  · rw [Array.getElem?_eq_none (by omega), List.getElem?_eq_none (by omega)]
theorem Seq.ne {xs ys : List Value} (F : Seq Z h a ty xs) (H : Seq Z h b ty ys) (q : xs ≠ ys) : a ≠ b := fun e => by
  subst e
  obtain ⟨c1, A1, rfl, -⟩ := F
  obtain ⟨c2, A2, rfl, -⟩ := H
  exact q (by rw [Option.some.inj (A1.1.symm.trans A2.1)])
/-- a contract of a callee that may make and intern String constants -/
def ConI (l : Launch) (y : MethodName) (bytes : ByteArray) (maxL : Nat) (ret : Option FieldType) (rm : Room) (Z : State) (as : Array Value) (h0 : Heap) (Q : Option Value → Heap → List Loc → Prop) : Prop :=
  ∀ ws, MetFree l y (head1 (Cond.code y bytes maxL ret :: ws) rm) (fun a U => a = as ∧ Z.Warmed39 U.vm ∧ U.heap = h0 ∧ IB Z U.vm []) (fun _ _ _ _ _ => True) (fun _ U o U' => ∃ v L, o = .returned v ∧ Ap Q v U'.heap L ∧ ReturnedEndW U o U' L rm.cells rm.slots)
theorem ConI.of_body {l : Launch} {y : MethodName} {bytes : ByteArray} {maxL : Nat} {ret : Option FieldType} {rm : Room} {Z : State} {as : Array Value} {h0 : Heap} {Q : Option Value → Heap → List Loc → Prop} (hn : plainFor y = true)
    (body : ∀ (p : Program) (e : Env) (s : State) (m : MethodId) (below : List Frame) (meth : Method) (c : Code) (T : State), Stand p l e rm (s.setVm s.vm) m as below meth c T [] 0 0 → p.tables.exec = Jvm.exec → c.code = bytes → c.maxLocals = maxL → Z.Warmed39 (s.setVm s.vm).vm → (s.setVm s.vm).vm.findClass y.cls = some m.cls → meth.name = y.name → meth.sig.returnType = ret → meth.locks = false → T.heap = h0 → s.heap = h0 → IB Z s.vm [] →
      Goes p e below T (entryFrame m as maxL) (fun U o => ∃ v L, o = .returned v ∧ Ap Q v U.heap L ∧ ReturnedEndW s o U L rm.cells rm.slots)) : ConI l y bytes maxL ret rm Z as h0 Q := by
  intro ws
  refine MetFree.of_bodySF hn hisR ?_
  intro p e s m args below meth c s₁ Bd hml hP _
  obtain ⟨rfl, hZ, hh, hI⟩ := hP
  exact body p e s m below meth c s₁ (Stand.of_body Bd) Bd.exec Bd.bytes hml hZ (findClass_of_methodNamed Bd.named) (name_of_methodNamed Bd.named Bd.method).1 Bd.returns (BodyLoose.notSynchronized Bd) (by rw [Bd.state]; exact hh) hh hI
theorem ConI.back {y : MethodName} {bytes : ByteArray} {maxL : Nat} {ret : Option FieldType} {rm : Room} {len W : Nat} {as' : Array Value} {Q : Option Value → Heap → List Loc → Prop} (hM : ConI l y bytes maxL ret rm Z as' h Q)
    (hZ : Z.Warmed39 s.vm) (hI : IB Z s.vm []) (wc : (Cond.code y bytes maxL ret).before a0 Z = true) (wz : (Cond.initialized y.cls).before a0 Z = true) (hf : rm.frames + 1 ≤ R.frames) (hl : W + (maxL + 11) + rm.locals ≤ R.locals) :
    BackS l R p e below s args y len W (fun A a => a = as' ∧ A.U.heap = h ∧ A.cells + rm.cells ≤ R.cells ∧ A.slots + rm.slots ≤ R.slots)
      (fun A _ v B => ∃ L, Q v B.U.heap L ∧ B.locs = A.locs ++ L ∧ B.cells = A.cells + rm.cells ∧ B.slots = A.slots + rm.slots) :=
  BackS.of_freeW (bytes := bytes) (maxL := maxL) (ret := ret) (E := fun _ _ o t L k n => k = rm.cells ∧ n = rm.slots ∧ ∃ v, o = .returned v ∧ Q v t.heap L) (hM []) hf hl
    (fun m meth c A a Y hp => have hU : Z.Warmed39 A.U.vm := wtrans hZ Y.warmed
      ⟨by show (Cond.and _ .tt).before a A.U = true; rw [Cond.before_and, mv hU wc]; rfl, mv hU wc, mv hU wz, hp.2.2.1, hp.2.2.2⟩)
    (fun m meth c A a g mk Y hp => ⟨hp.1, wtrans hZ Y.warmed, hp.2.1, by
      obtain ⟨more, i1, i2⟩ := hI
      exact ⟨more, by rw [← i1]; exact Y.warmed.interned_eq, i2⟩⟩) (fun _ _ _ _ _ _ _ _ _ => trivial)
    (fun _ _ _ _ ⟨v, L, h1, h2, h3⟩ => ⟨L, _, _, h3, rfl, rfl, v, h1, h2⟩)
    (fun m meth c A a g mk v t L k n Y hp _ _ ⟨e1, e2, v', e3, e4⟩ => by cases e3; subst e1 e2; exact ⟨L, e4, rfl, rfl, rfl⟩)
/-- invokespecial of a constructor that may intern -/
theorem G.callII {vm0 : Vm} (X : Stand p l e R (s.setVm vm0) m args below meth c T locs cells slots) (hx : p.tables.exec = Jvm.exec) (hZ : Z.Warmed39 (s.setVm vm0).vm) {own : String} {index : Nat} {y : MethodName} {bytes : ByteArray} {maxL : Nat} {rm : Room} {argsL S S0 : List Value} {QQ : Option Value → Heap → List Loc → Prop} {W pc pc' : Nat} {L : Array Slot} (hy1 : y.name = "<init>") (hown : (s.setVm vm0).vm.findClass own = some m.cls) (w1 : (Cond.methodLink own index y).before a0 Z = true) (w2 : (Cond.instanceMethod y).before a0 Z = true) (w3 : (Cond.initialized y.cls).before a0 Z = true) (w4 : (Cond.code y bytes maxL none).before a0 Z = true)
    (hy : y.cls ≠ "java/lang/invoke/MethodHandle" ∧ y.cls ≠ "java/lang/invoke/VarHandle") (eT : T.heap = h) {k0 : Nat} (hS : s.Since vm0 k0) (hk : k0 ≤ h.size) (hI : IB Z vm0 []) (hC : ConI l y bytes maxL none rm Z (.ref a :: argsL).toArray h QQ) (hlen : ∀ sig, parseMethodDescriptor y.desc = some sig → argsL.length = sig.parameters.length) (hst : S0 = argsL.reverse ++ .ref a :: S) (hW : (S.map fun v => v.category).sum ≤ W)
    (hf : rm.frames + 1 ≤ R.frames) (hl : W + (maxL + 11) + rm.locals ≤ R.locals) (hc : cells + rm.cells ≤ R.cells) (hs : slots + rm.slots ≤ R.slots) (hsz : L.size = c.maxLocals) (hd : decode c.code pc = .ok (.invokespecial index, 3)) (hp : pc + 3 = pc')
    (q : ∀ T' v Lc k1, QQ v T'.heap Lc → Stand p l e R (s.setVm T'.vm) m args below meth c T' (locs ++ Lc) (cells + rm.cells) (slots + rm.slots) → s.Since T'.vm k1 → k1 ≤ T'.heap.size → Z.Warmed39 (s.setVm T'.vm).vm → (s.setVm T'.vm).vm.findClass own = some m.cls → Goes p e below T' (mkF m pc' L (v.toList ++ S)) P) : Goes p e below T (mkF m pc L S0) P := by
  subst hp
  obtain ⟨v, vm1, ⟨T', L1, k1, n1⟩, hw1, X', hS', hgr, ⟨Lc, hQ, l1, y1, z1⟩, st⟩ := X.specialBackS hx (y := y) hy1 hown (mvT hZ w1) (mvT hZ w2) (mvT hZ w4) hy (hC.back (s := s.setVm vm0) (W := W) hZ hI w4 w3 hf hl) (g := mkF m pc L S0) rfl hsz (Steps.refl _) (a := a) (argsL := argsL) (rest := S) hlen hst (by show 2 * 0 + _ ≤ _; omega) hd (fun _ _ => ⟨rfl, eT, hc, hs⟩)
  dsimp only [Pt.U, Pt.locs, Pt.cells, Pt.slots] at X' l1 y1 z1 st hQ hS' hgr
  subst l1 y1 z1
  have hS2 : s.Since T'.vm T'.heap.size := foldS (T := T) hS (by rw [eT]; exact hk) hS' hgr
  exact Goes.thru st (q T' v Lc _ hQ X' hS2 (Nat.le_refl _) (State.Warmed39.trans (t := s.setVm vm0) hZ hS'.1) (by rw [show (s.setVm T'.vm).vm = T'.vm from rfl, hS'.1.alike.findClass]; exact hown))
theorem Goes.retVW {vm1 : Vm} {n1 k n pc : Nat} {L : Array Slot} {Q : Option Value → Heap → List Loc → Prop} (X : Stand p l e R (s.setVm vm1) m args below meth c T locs cells slots) (hS : s.Since vm1 n1) (hn1 : n1 ≤ T.heap.size) (hx : p.tables.exec = Jvm.exec) (hret : meth.sig.returnType = none) (hlk : meth.locks = false) (hd : decode c.code pc = .ok (.return_, 1)) (hk : cells ≤ k) (hn : slots ≤ n) (q : Q none T.heap locs) :
    Goes p e below T (mkF m pc L []) (fun U o => ∃ v L, o = .returned v ∧ Ap Q v U.heap L ∧ ReturnedEndW s o U L k n) := by
  obtain ⟨fs, hr, hrun, hended, hE⟩ := X.leaveW hS hn1 (v := none) (fun _ => rfl) hlk
  exact ⟨_, _, X.returnOut hx hret hd hr, hrun, hended, _, locs, rfl, q, hE.1, hE.2.1, hE.2.2.1, hE.2.2.2.mono hk hn⟩
theorem G.ldcLitL {vm0 : Vm} {S : List Value} {L : Array Slot} {pc pc' : Nat} (X : Stand p l e R (s.setVm vm0) m args below meth c T locs cells slots) (hx : p.tables.exec = Jvm.exec) (hZ : Z.Warmed39 (s.setVm vm0).vm) {own text : String} {index : Nat} (hown : (s.setVm vm0).vm.findClass own = some m.cls) (w : (Cond.stringLink own index text).before a0 Z = true) (wS : ∀ a ∈ Bundle.stringAtoms, a.before a0 Z = true) (eT : T.heap = h) {k0 : Nat} (hS : s.Since vm0 k0) (hk : k0 ≤ h.size)
    (N : Fr s.heap.size locs) (hkeep : ∀ (b : Addr) (cl : Cell), Z.heap[b]? = some cl → s.heap[b]? = some cl) {Ts : List String} (Ib : IB Z vm0 Ts) (hnot : text ∉ Ts) (hh : Jvm.Lit.constHeld Z own index) (hcw : Jvm.Lit.compactW.before a0 Z = true) {vs : List Value} {z : Int32} (ht : (∀ c ∈ text.toList, c.toNat < 256) ∧ text.toList.map (fun c => Value.int (Jvm.Lit.byteI c.toNat.toUInt16)) = vs) (hz : ¬ z < 0) (hzl : z.toNatClampNeg = vs.length)
    (hd : decode c.code pc = .ok (.ldc index, 2)) {n : Nat} (hn : 4 * text.toList.length ≤ n) (hbig : n ≤ 536870912) (hc : cells + 2 ≤ R.cells) (hl : slots + (n + 4) ≤ R.slots) (hp : pc + 2 = pc')
    (q : ∀ a T' h' k1 b, Stand p l e R (s.setVm T'.vm) m args below meth c T' locs (cells + 2) (slots + (n + 4)) → T'.heap = h' → Ext h h' → s.Since T'.vm k1 → k1 ≤ h'.size → Z.Warmed39 (s.setVm T'.vm).vm → (s.setVm T'.vm).vm.findClass own = some m.cls →
      Exa Z h' a "java/lang/String" → Fld Z h' a "java/lang/String" "coder" "B" (.int 0) → Fld Z h' a "java/lang/String" "value" "[B" (.ref b) → Seq Z h' b .byte vs → Jvm.RoadKit.Lit (s.setVm T'.vm) own index a → Goes p e below T' (mkF m pc' L (.ref a :: S)) P) : Goes p e below T (mkF m pc L S) P := by
  subst hp
  obtain ⟨a, T', h', k1, b, k, r1, r2, r3, r4, r5, r6, r7, r8, r9, r10, r11, r12, r13, r14, r15, st⟩ := Jvm.RoadKit.ldcSVL X hx hZ hown w wS eT hS hk N hkeep Ib hnot hh hcw ht hz hzl (g := mkF m pc L S) rfl hd hn hbig hc hl
  exact Goes.via st (q a T' h' k1 b r1 r2 r3 r4 r5 r6 r7 r8 r9 r10 (Arv.seq r11 hzl.symm) r15)
theorem G.ldcAgain {vm0 : Vm} {S : List Value} {L : Array Slot} {pc pc' : Nat} (X : Stand p l e R (s.setVm vm0) m args below meth c T locs cells slots) (hx : p.tables.exec = Jvm.exec) (hZ : Z.Warmed39 (s.setVm vm0).vm) {own text : String} {index : Nat} (hown : (s.setVm vm0).vm.findClass own = some m.cls) (w : (Cond.stringLink own index text).before a0 Z = true) (Lt : Jvm.RoadKit.Lit (s.setVm vm0) own index a)
    (hd : decode c.code pc = .ok (.ldc index, 2)) (hp : pc + 2 = pc') (q : Goes p e below T (mkF m pc' L (.ref a :: S)) P) : Goes p e below T (mkF m pc L S) P := by
  subst hp
  exact Goes.via (Jvm.RoadKit.ldcAgain X hx hZ hown w Lt (g := mkF m pc L S) rfl hd) q
end G
end Jvm.OwnKit
namespace Jvm.Pilot.@@N@@
open Jvm Jvm.ClassFile Sem Op Lib Jvm.Free Jvm.Stand Jvm.LawKit Jvm.RoadKit Jvm.OwnKit Bundle Jvm.Pilot.@@N@@.Jvm.D
theorem d28_0 : decode jdk_52_method_6_code 0 = .ok (.aload_n 0, 1) := by decide +kernel
theorem d28_1 : decode jdk_52_method_6_code 1 = .ok (.arraylength, 1) := by decide +kernel
theorem d28_2 : decode jdk_52_method_6_code 2 = .ok (.iconst 1, 1) := by decide +kernel
theorem d28_3 : decode jdk_52_method_6_code 3 = .ok (.ishr, 1) := by decide +kernel
theorem d28_4 : decode jdk_52_method_6_code 4 = .ok (.ireturn, 1) := by decide +kernel
theorem ef28_R (m : MethodId) (x0 : Addr) : entryFrame m #[(.ref x0)] 1 = mkF m 0 #[.val (.ref x0)] [] := by first | (simp [entryFrame, mkF, argsToLocals, Value.category]; done) | rfl
theorem pn_0 : plainName "java/lang/StringUTF16" = true := by first | (simp [plainName, overriddenIn]; done) | decide +kernel
theorem d16_0 : decode jdk_41_method_11_code 0 = .ok (.iload_n 0, 1) := by decide +kernel
theorem d16_1 : decode jdk_41_method_11_code 1 = .ok (.ifCond .lt 8, 3) := by decide +kernel
theorem d16_4 : decode jdk_41_method_11_code 4 = .ok (.iload_n 0, 1) := by decide +kernel
theorem d16_5 : decode jdk_41_method_11_code 5 = .ok (.iload_n 1, 1) := by decide +kernel
theorem d16_6 : decode jdk_41_method_11_code 6 = .ok (.if_icmp .lt 10, 3) := by decide +kernel
theorem d16_16 : decode jdk_41_method_11_code 16 = .ok (.iload_n 0, 1) := by decide +kernel
theorem d16_17 : decode jdk_41_method_11_code 17 = .ok (.ireturn, 1) := by decide +kernel
theorem ef16_IIN (m : MethodId) (x0 : Int32) (x1 : Int32) : entryFrame m #[(.int x0), (.int x1), .null] 3 = mkF m 0 #[.val (.int x0), .val (.int x1), .val .null] [] := by first | (simp [entryFrame, mkF, argsToLocals, Value.category]; done) | rfl
theorem pn_1 : plainName "jdk/internal/util/Preconditions" = true := by first | (simp [plainName, overriddenIn]; done) | decide +kernel
theorem ef16_IIR (m : MethodId) (x0 : Int32) (x1 : Int32) (x2 : Addr) : entryFrame m #[(.int x0), (.int x1), (.ref x2)] 3 = mkF m 0 #[.val (.int x0), .val (.int x1), .val (.ref x2)] [] := by first | (simp [entryFrame, mkF, argsToLocals, Value.category]; done) | rfl
theorem d15_0 : decode jdk_42_method_155_code 0 = .ok (.iload_n 0, 1) := by decide +kernel
theorem d15_1 : decode jdk_42_method_155_code 1 = .ok (.iload_n 1, 1) := by decide +kernel
theorem d15_2 : decode jdk_42_method_155_code 2 = .ok (.getstatic 1053, 3) := by decide +kernel
theorem pd_2 : parseMethodDescriptor "(IILjava/util/function/BiFunction;)I" = some ⟨[.int, .int, (.object "java/util/function/BiFunction")], some .int⟩ := by decide +kernel
theorem d15_5 : decode jdk_42_method_155_code 5 = .ok (.invokestatic 1059, 3) := by decide +kernel
theorem d15_8 : decode jdk_42_method_155_code 8 = .ok (.pop, 1) := by decide +kernel
theorem d15_9 : decode jdk_42_method_155_code 9 = .ok (.return_, 1) := by decide +kernel
theorem ef15_II (m : MethodId) (x0 : Int32) (x1 : Int32) : entryFrame m #[(.int x0), (.int x1)] 2 = mkF m 0 #[.val (.int x0), .val (.int x1)] [] := by first | (simp [entryFrame, mkF, argsToLocals, Value.category]; done) | rfl
theorem pn_3 : plainName "java/lang/String" = true := by first | (simp [plainName, overriddenIn]; done) | decide +kernel
theorem d27_0 : decode jdk_52_method_91_code 0 = .ok (.iload_n 0, 1) := by decide +kernel
theorem d27_1 : decode jdk_52_method_91_code 1 = .ok (.aload_n 1, 1) := by decide +kernel
theorem pd_4 : parseMethodDescriptor "([B)I" = some ⟨[(.array .byte)], some .int⟩ := by decide +kernel
theorem d27_2 : decode jdk_52_method_91_code 2 = .ok (.invokestatic 48, 3) := by decide +kernel
theorem pd_5 : parseMethodDescriptor "(II)V" = some ⟨[.int, .int], none⟩ := by decide +kernel
theorem d27_5 : decode jdk_52_method_91_code 5 = .ok (.invokestatic 414, 3) := by decide +kernel
theorem d27_8 : decode jdk_52_method_91_code 8 = .ok (.return_, 1) := by decide +kernel
theorem ef27_IR (m : MethodId) (x0 : Int32) (x1 : Addr) : entryFrame m #[(.int x0), (.ref x1)] 2 = mkF m 0 #[.val (.int x0), .val (.ref x1)] [] := by first | (simp [entryFrame, mkF, argsToLocals, Value.category]; done) | rfl
theorem d14_0 : decode jdk_43_method_2_code 0 = .ok (.iload_n 1, 1) := by decide +kernel
theorem d14_1 : decode jdk_43_method_2_code 1 = .ok (.aload_n 0, 1) := by decide +kernel
theorem d14_2 : decode jdk_43_method_2_code 2 = .ok (.arraylength, 1) := by decide +kernel
theorem d14_3 : decode jdk_43_method_2_code 3 = .ok (.invokestatic 9, 3) := by decide +kernel
theorem d14_6 : decode jdk_43_method_2_code 6 = .ok (.aload_n 0, 1) := by decide +kernel
theorem d14_7 : decode jdk_43_method_2_code 7 = .ok (.iload_n 1, 1) := by decide +kernel
theorem d14_8 : decode jdk_43_method_2_code 8 = .ok (.baload, 1) := by decide +kernel
theorem d14_9 : decode jdk_43_method_2_code 9 = .ok (.sipush 255, 3) := by decide +kernel
theorem d14_12 : decode jdk_43_method_2_code 12 = .ok (.iand, 1) := by decide +kernel
theorem d14_13 : decode jdk_43_method_2_code 13 = .ok (.i2c, 1) := by decide +kernel
theorem d14_14 : decode jdk_43_method_2_code 14 = .ok (.ireturn, 1) := by decide +kernel
theorem ef14_RI (m : MethodId) (x0 : Addr) (x1 : Int32) : entryFrame m #[(.ref x0), (.int x1)] 2 = mkF m 0 #[.val (.ref x0), .val (.int x1)] [] := by first | (simp [entryFrame, mkF, argsToLocals, Value.category]; done) | rfl
theorem pn_6 : plainName "java/lang/StringLatin1" = true := by first | (simp [plainName, overriddenIn]; done) | decide +kernel
theorem d21_0 : decode jdk_52_method_5_code 0 = .ok (.getstatic 44, 3) := by decide +kernel
theorem d21_3 : decode jdk_52_method_5_code 3 = .ok (.ifCond .ne 25, 3) := by decide +kernel
theorem d21_28 : decode jdk_52_method_5_code 28 = .ok (.iload_n 1, 1) := by decide +kernel
theorem d21_29 : decode jdk_52_method_5_code 29 = .ok (.iconst 1, 1) := by decide +kernel
theorem d21_30 : decode jdk_52_method_5_code 30 = .ok (.ishl, 1) := by decide +kernel
theorem d21_31 : decode jdk_52_method_5_code 31 = .ok (.istore_n 1, 1) := by decide +kernel
theorem d21_32 : decode jdk_52_method_5_code 32 = .ok (.aload_n 0, 1) := by decide +kernel
theorem d21_33 : decode jdk_52_method_5_code 33 = .ok (.iload_n 1, 1) := by decide +kernel
theorem d21_34 : decode jdk_52_method_5_code 34 = .ok (.iinc 1 1, 3) := by decide +kernel
theorem d21_37 : decode jdk_52_method_5_code 37 = .ok (.baload, 1) := by decide +kernel
theorem d21_38 : decode jdk_52_method_5_code 38 = .ok (.sipush 255, 3) := by decide +kernel
theorem d21_41 : decode jdk_52_method_5_code 41 = .ok (.iand, 1) := by decide +kernel
theorem d21_42 : decode jdk_52_method_5_code 42 = .ok (.getstatic 59, 3) := by decide +kernel
theorem d21_45 : decode jdk_52_method_5_code 45 = .ok (.ishl, 1) := by decide +kernel
theorem d21_46 : decode jdk_52_method_5_code 46 = .ok (.aload_n 0, 1) := by decide +kernel
theorem d21_47 : decode jdk_52_method_5_code 47 = .ok (.iload_n 1, 1) := by decide +kernel
theorem d21_48 : decode jdk_52_method_5_code 48 = .ok (.baload, 1) := by decide +kernel
theorem d21_49 : decode jdk_52_method_5_code 49 = .ok (.sipush 255, 3) := by decide +kernel
theorem d21_52 : decode jdk_52_method_5_code 52 = .ok (.iand, 1) := by decide +kernel
theorem d21_53 : decode jdk_52_method_5_code 53 = .ok (.getstatic 63, 3) := by decide +kernel
theorem d21_56 : decode jdk_52_method_5_code 56 = .ok (.ishl, 1) := by decide +kernel
theorem d21_57 : decode jdk_52_method_5_code 57 = .ok (.ior, 1) := by decide +kernel
theorem d21_58 : decode jdk_52_method_5_code 58 = .ok (.i2c, 1) := by decide +kernel
theorem d21_59 : decode jdk_52_method_5_code 59 = .ok (.ireturn, 1) := by decide +kernel
theorem ef21_RI (m : MethodId) (x0 : Addr) (x1 : Int32) : entryFrame m #[(.ref x0), (.int x1)] 2 = mkF m 0 #[.val (.ref x0), .val (.int x1)] [] := by first | (simp [entryFrame, mkF, argsToLocals, Value.category]; done) | rfl
theorem d26_0 : decode jdk_52_method_83_code 0 = .ok (.iload_n 1, 1) := by decide +kernel
theorem d26_1 : decode jdk_52_method_83_code 1 = .ok (.aload_n 0, 1) := by decide +kernel
theorem pd_7 : parseMethodDescriptor "(I[B)V" = some ⟨[.int, (.array .byte)], none⟩ := by decide +kernel
theorem d26_2 : decode jdk_52_method_83_code 2 = .ok (.invokestatic 67, 3) := by decide +kernel
theorem d26_5 : decode jdk_52_method_83_code 5 = .ok (.aload_n 0, 1) := by decide +kernel
theorem d26_6 : decode jdk_52_method_83_code 6 = .ok (.iload_n 1, 1) := by decide +kernel
theorem pd_8 : parseMethodDescriptor "([BI)C" = some ⟨[(.array .byte), .int], some .char⟩ := by decide +kernel
theorem d26_7 : decode jdk_52_method_83_code 7 = .ok (.invokestatic 71, 3) := by decide +kernel
theorem d26_10 : decode jdk_52_method_83_code 10 = .ok (.ireturn, 1) := by decide +kernel
theorem ef26_RI (m : MethodId) (x0 : Addr) (x1 : Int32) : entryFrame m #[(.ref x0), (.int x1)] 2 = mkF m 0 #[.val (.ref x0), .val (.int x1)] [] := by first | (simp [entryFrame, mkF, argsToLocals, Value.category]; done) | rfl
theorem d13_0 : decode jdk_42_method_154_code 0 = .ok (.getstatic 38, 3) := by decide +kernel
theorem d13_3 : decode jdk_42_method_154_code 3 = .ok (.ifCond .eq 14, 3) := by decide +kernel
theorem d13_6 : decode jdk_42_method_154_code 6 = .ok (.aload_n 0, 1) := by decide +kernel
theorem d13_7 : decode jdk_42_method_154_code 7 = .ok (.getfield 15, 3) := by decide +kernel
theorem d13_10 : decode jdk_42_method_154_code 10 = .ok (.ifCond .ne 7, 3) := by decide +kernel
theorem d13_13 : decode jdk_42_method_154_code 13 = .ok (.iconst 1, 1) := by decide +kernel
theorem d13_14 : decode jdk_42_method_154_code 14 = .ok (.goto 4, 3) := by decide +kernel
theorem d13_18 : decode jdk_42_method_154_code 18 = .ok (.ireturn, 1) := by decide +kernel
theorem d13_17 : decode jdk_42_method_154_code 17 = .ok (.iconst 0, 1) := by decide +kernel
theorem ef13_R (m : MethodId) (x0 : Addr) : entryFrame m #[(.ref x0)] 1 = mkF m 0 #[.val (.ref x0)] [] := by first | (simp [entryFrame, mkF, argsToLocals, Value.category]; done) | rfl
theorem d11_0 : decode jdk_42_method_152_code 0 = .ok (.getstatic 38, 3) := by decide +kernel
theorem d11_3 : decode jdk_42_method_152_code 3 = .ok (.ifCond .eq 10, 3) := by decide +kernel
theorem d11_6 : decode jdk_42_method_152_code 6 = .ok (.aload_n 0, 1) := by decide +kernel
theorem d11_7 : decode jdk_42_method_152_code 7 = .ok (.getfield 15, 3) := by decide +kernel
theorem d11_10 : decode jdk_42_method_152_code 10 = .ok (.goto 4, 3) := by decide +kernel
theorem d11_14 : decode jdk_42_method_152_code 14 = .ok (.ireturn, 1) := by decide +kernel
theorem ef11_R (m : MethodId) (x0 : Addr) : entryFrame m #[(.ref x0)] 1 = mkF m 0 #[.val (.ref x0)] [] := by first | (simp [entryFrame, mkF, argsToLocals, Value.category]; done) | rfl
theorem d10_0 : decode jdk_42_method_54_code 0 = .ok (.aload_n 0, 1) := by decide +kernel
theorem d10_1 : decode jdk_42_method_54_code 1 = .ok (.getfield 9, 3) := by decide +kernel
theorem d10_4 : decode jdk_42_method_54_code 4 = .ok (.arraylength, 1) := by decide +kernel
theorem d10_5 : decode jdk_42_method_54_code 5 = .ok (.aload_n 0, 1) := by decide +kernel
theorem pd_9 : parseMethodDescriptor "()B" = some ⟨[], some .byte⟩ := by decide +kernel
theorem d10_6 : decode jdk_42_method_54_code 6 = .ok (.invokevirtual 335, 3) := by decide +kernel
theorem d10_9 : decode jdk_42_method_54_code 9 = .ok (.ishr, 1) := by decide +kernel
theorem d10_10 : decode jdk_42_method_54_code 10 = .ok (.ireturn, 1) := by decide +kernel
theorem ef10_R (m : MethodId) (x0 : Addr) : entryFrame m #[(.ref x0)] 1 = mkF m 0 #[.val (.ref x0)] [] := by first | (simp [entryFrame, mkF, argsToLocals, Value.category]; done) | rfl
theorem d9_0 : decode jdk_42_method_55_code 0 = .ok (.aload_n 0, 1) := by decide +kernel
theorem d9_1 : decode jdk_42_method_55_code 1 = .ok (.getfield 9, 3) := by decide +kernel
theorem d9_4 : decode jdk_42_method_55_code 4 = .ok (.arraylength, 1) := by decide +kernel
theorem d9_5 : decode jdk_42_method_55_code 5 = .ok (.ifCond .ne 7, 3) := by decide +kernel
theorem d9_12 : decode jdk_42_method_55_code 12 = .ok (.iconst 0, 1) := by decide +kernel
theorem d9_13 : decode jdk_42_method_55_code 13 = .ok (.ireturn, 1) := by decide +kernel
theorem ef9_R (m : MethodId) (x0 : Addr) : entryFrame m #[(.ref x0)] 1 = mkF m 0 #[.val (.ref x0)] [] := by first | (simp [entryFrame, mkF, argsToLocals, Value.category]; done) | rfl
theorem d12_0 : decode jdk_42_method_56_code 0 = .ok (.aload_n 0, 1) := by decide +kernel
theorem pd_10 : parseMethodDescriptor "()Z" = some ⟨[], some .boolean⟩ := by decide +kernel
theorem d12_1 : decode jdk_42_method_56_code 1 = .ok (.invokevirtual 492, 3) := by decide +kernel
theorem d12_4 : decode jdk_42_method_56_code 4 = .ok (.ifCond .eq 12, 3) := by decide +kernel
theorem d12_7 : decode jdk_42_method_56_code 7 = .ok (.aload_n 0, 1) := by decide +kernel
theorem d12_8 : decode jdk_42_method_56_code 8 = .ok (.getfield 9, 3) := by decide +kernel
theorem d12_11 : decode jdk_42_method_56_code 11 = .ok (.iload_n 1, 1) := by decide +kernel
theorem d12_12 : decode jdk_42_method_56_code 12 = .ok (.invokestatic 495, 3) := by decide +kernel
theorem d12_15 : decode jdk_42_method_56_code 15 = .ok (.ireturn, 1) := by decide +kernel
theorem d12_16 : decode jdk_42_method_56_code 16 = .ok (.aload_n 0, 1) := by decide +kernel
theorem d12_17 : decode jdk_42_method_56_code 17 = .ok (.getfield 9, 3) := by decide +kernel
theorem d12_20 : decode jdk_42_method_56_code 20 = .ok (.iload_n 1, 1) := by decide +kernel
theorem d12_21 : decode jdk_42_method_56_code 21 = .ok (.invokestatic 498, 3) := by decide +kernel
theorem d12_24 : decode jdk_42_method_56_code 24 = .ok (.ireturn, 1) := by decide +kernel
theorem ef12_RI (m : MethodId) (x0 : Addr) (x1 : Int32) : entryFrame m #[(.ref x0), (.int x1)] 2 = mkF m 0 #[.val (.ref x0), .val (.int x1)] [] := by first | (simp [entryFrame, mkF, argsToLocals, Value.category]; done) | rfl
theorem d8_0 : decode prog_4_method_2_code 0 = .ok (.aload_n 0, 1) := by decide +kernel
theorem d8_1 : decode prog_4_method_2_code 1 = .ok (.ifnull 10, 3) := by decide +kernel
theorem d8_4 : decode prog_4_method_2_code 4 = .ok (.aload_n 0, 1) := by decide +kernel
theorem d8_5 : decode prog_4_method_2_code 5 = .ok (.invokevirtual 7, 3) := by decide +kernel
theorem d8_8 : decode prog_4_method_2_code 8 = .ok (.ifCond .eq 17, 3) := by decide +kernel
theorem d8_25 : decode prog_4_method_2_code 25 = .ok (.aload_n 0, 1) := by decide +kernel
theorem d8_26 : decode prog_4_method_2_code 26 = .ok (.areturn, 1) := by decide +kernel
theorem ef8_RR (m : MethodId) (x0 : Addr) (x1 : Addr) : entryFrame m #[(.ref x0), (.ref x1)] 2 = mkF m 0 #[.val (.ref x0), .val (.ref x1)] [] := by first | (simp [entryFrame, mkF, argsToLocals, Value.category]; done) | rfl
theorem pn_11 : plainName "com/example/bowerbird/bowerbird/Required" = true := by first | (simp [plainName, overriddenIn]; done) | decide +kernel
theorem d20_0 : decode jdk_52_method_4_code 0 = .ok (.getstatic 44, 3) := by decide +kernel
theorem d20_3 : decode jdk_52_method_4_code 3 = .ok (.ifCond .ne 25, 3) := by decide +kernel
theorem d20_28 : decode jdk_52_method_4_code 28 = .ok (.iload_n 1, 1) := by decide +kernel
theorem d20_29 : decode jdk_52_method_4_code 29 = .ok (.iconst 1, 1) := by decide +kernel
theorem d20_30 : decode jdk_52_method_4_code 30 = .ok (.ishl, 1) := by decide +kernel
theorem d20_31 : decode jdk_52_method_4_code 31 = .ok (.istore_n 1, 1) := by decide +kernel
theorem d20_32 : decode jdk_52_method_4_code 32 = .ok (.aload_n 0, 1) := by decide +kernel
theorem d20_33 : decode jdk_52_method_4_code 33 = .ok (.iload_n 1, 1) := by decide +kernel
theorem d20_34 : decode jdk_52_method_4_code 34 = .ok (.iinc 1 1, 3) := by decide +kernel
theorem d20_37 : decode jdk_52_method_4_code 37 = .ok (.iload_n 2, 1) := by decide +kernel
theorem d20_38 : decode jdk_52_method_4_code 38 = .ok (.getstatic 59, 3) := by decide +kernel
theorem d20_41 : decode jdk_52_method_4_code 41 = .ok (.ishr, 1) := by decide +kernel
theorem d20_42 : decode jdk_52_method_4_code 42 = .ok (.i2b, 1) := by decide +kernel
theorem d20_43 : decode jdk_52_method_4_code 43 = .ok (.bastore, 1) := by decide +kernel
theorem d20_44 : decode jdk_52_method_4_code 44 = .ok (.aload_n 0, 1) := by decide +kernel
theorem d20_45 : decode jdk_52_method_4_code 45 = .ok (.iload_n 1, 1) := by decide +kernel
theorem d20_46 : decode jdk_52_method_4_code 46 = .ok (.iload_n 2, 1) := by decide +kernel
theorem d20_47 : decode jdk_52_method_4_code 47 = .ok (.getstatic 63, 3) := by decide +kernel
theorem d20_50 : decode jdk_52_method_4_code 50 = .ok (.ishr, 1) := by decide +kernel
theorem d20_51 : decode jdk_52_method_4_code 51 = .ok (.i2b, 1) := by decide +kernel
theorem d20_52 : decode jdk_52_method_4_code 52 = .ok (.bastore, 1) := by decide +kernel
theorem d20_53 : decode jdk_52_method_4_code 53 = .ok (.return_, 1) := by decide +kernel
theorem ef20_RII (m : MethodId) (x0 : Addr) (x1 : Int32) (x2 : Int32) : entryFrame m #[(.ref x0), (.int x1), (.int x2)] 3 = mkF m 0 #[.val (.ref x0), .val (.int x1), .val (.int x2)] [] := by first | (simp [entryFrame, mkF, argsToLocals, Value.category]; done) | rfl
theorem d19_0 : decode jdk_52_method_3_code 0 = .ok (.iload_n 0, 1) := by decide +kernel
theorem d19_1 : decode jdk_52_method_3_code 1 = .ok (.ifCond .ge 11, 3) := by decide +kernel
theorem d19_12 : decode jdk_52_method_3_code 12 = .ok (.iload_n 0, 1) := by decide +kernel
theorem d19_13 : decode jdk_52_method_3_code 13 = .ok (.ldc 20, 2) := by decide +kernel
theorem d19_15 : decode jdk_52_method_3_code 15 = .ok (.if_icmp .lt 40, 3) := by decide +kernel
theorem d19_55 : decode jdk_52_method_3_code 55 = .ok (.iload_n 0, 1) := by decide +kernel
theorem d19_56 : decode jdk_52_method_3_code 56 = .ok (.iconst 1, 1) := by decide +kernel
theorem d19_57 : decode jdk_52_method_3_code 57 = .ok (.ishl, 1) := by decide +kernel
theorem d19_58 : decode jdk_52_method_3_code 58 = .ok (.ireturn, 1) := by decide +kernel
theorem ef19_I (m : MethodId) (x0 : Int32) : entryFrame m #[(.int x0)] 1 = mkF m 0 #[.val (.int x0)] [] := by first | (simp [entryFrame, mkF, argsToLocals, Value.category]; done) | rfl
theorem d18_0 : decode jdk_52_method_2_code 0 = .ok (.iload_n 0, 1) := by decide +kernel
theorem pd_12 : parseMethodDescriptor "(I)I" = some ⟨[.int], some .int⟩ := by decide +kernel
theorem d18_1 : decode jdk_52_method_2_code 1 = .ok (.invokestatic 11, 3) := by decide +kernel
theorem d18_4 : decode jdk_52_method_2_code 4 = .ok (.newarray .byte, 2) := by decide +kernel
theorem d18_6 : decode jdk_52_method_2_code 6 = .ok (.areturn, 1) := by decide +kernel
theorem ef18_I (m : MethodId) (x0 : Int32) : entryFrame m #[(.int x0)] 1 = mkF m 0 #[.val (.int x0)] [] := by first | (simp [entryFrame, mkF, argsToLocals, Value.category]; done) | rfl
theorem d17_0 : decode jdk_52_method_14_code 0 = .ok (.iload_n 2, 1) := by decide +kernel
theorem pd_13 : parseMethodDescriptor "(I)[B" = some ⟨[.int], some (.array .byte)⟩ := by decide +kernel
theorem d17_1 : decode jdk_52_method_14_code 1 = .ok (.invokestatic 107, 3) := by decide +kernel
theorem d17_4 : decode jdk_52_method_14_code 4 = .ok (.astore_n 3, 1) := by decide +kernel
theorem d17_5 : decode jdk_52_method_14_code 5 = .ok (.iconst 0, 1) := by decide +kernel
theorem d17_6 : decode jdk_52_method_14_code 6 = .ok (.istore 4, 2) := by decide +kernel
theorem d17_8 : decode jdk_52_method_14_code 8 = .ok (.iload 4, 2) := by decide +kernel
theorem d17_10 : decode jdk_52_method_14_code 10 = .ok (.iload_n 2, 1) := by decide +kernel
theorem d17_11 : decode jdk_52_method_14_code 11 = .ok (.if_icmp .ge 21, 3) := by decide +kernel
theorem d17_14 : decode jdk_52_method_14_code 14 = .ok (.aload_n 3, 1) := by decide +kernel
theorem d17_15 : decode jdk_52_method_14_code 15 = .ok (.iload 4, 2) := by decide +kernel
theorem d17_17 : decode jdk_52_method_14_code 17 = .ok (.aload_n 0, 1) := by decide +kernel
theorem d17_18 : decode jdk_52_method_14_code 18 = .ok (.iload_n 1, 1) := by decide +kernel
theorem d17_19 : decode jdk_52_method_14_code 19 = .ok (.caload, 1) := by decide +kernel
theorem pd_14 : parseMethodDescriptor "([BII)V" = some ⟨[(.array .byte), .int, .int], none⟩ := by decide +kernel
theorem d17_20 : decode jdk_52_method_14_code 20 = .ok (.invokestatic 111, 3) := by decide +kernel
theorem d17_23 : decode jdk_52_method_14_code 23 = .ok (.iinc 1 1, 3) := by decide +kernel
theorem d17_26 : decode jdk_52_method_14_code 26 = .ok (.iinc 4 1, 3) := by decide +kernel
theorem d17_29 : decode jdk_52_method_14_code 29 = .ok (.goto (-21), 3) := by decide +kernel
theorem d17_32 : decode jdk_52_method_14_code 32 = .ok (.aload_n 3, 1) := by decide +kernel
theorem d17_33 : decode jdk_52_method_14_code 33 = .ok (.areturn, 1) := by decide +kernel
theorem ef17_RII (m : MethodId) (x0 : Addr) (x1 : Int32) (x2 : Int32) : entryFrame m #[(.ref x0), (.int x1), (.int x2)] 5 = mkF m 0 #[.val (.ref x0), .val (.int x1), .val (.int x2), .unset, .unset] [] := by first | (simp [entryFrame, mkF, argsToLocals, Value.category]; done) | rfl
theorem d6_0 : decode jdk_52_method_21_code 0 = .ok (.iconst 0, 1) := by decide +kernel
theorem d6_1 : decode jdk_52_method_21_code 1 = .ok (.istore 5, 2) := by decide +kernel
theorem d6_3 : decode jdk_52_method_21_code 3 = .ok (.iload 5, 2) := by decide +kernel
theorem d6_5 : decode jdk_52_method_21_code 5 = .ok (.iload 4, 2) := by decide +kernel
theorem d6_7 : decode jdk_52_method_21_code 7 = .ok (.if_icmp .ge 37, 3) := by decide +kernel
theorem d6_10 : decode jdk_52_method_21_code 10 = .ok (.aload_n 0, 1) := by decide +kernel
theorem d6_11 : decode jdk_52_method_21_code 11 = .ok (.iload_n 1, 1) := by decide +kernel
theorem d6_12 : decode jdk_52_method_21_code 12 = .ok (.caload, 1) := by decide +kernel
theorem d6_13 : decode jdk_52_method_21_code 13 = .ok (.istore 6, 2) := by decide +kernel
theorem d6_15 : decode jdk_52_method_21_code 15 = .ok (.iload 6, 2) := by decide +kernel
theorem d6_17 : decode jdk_52_method_21_code 17 = .ok (.sipush 255, 3) := by decide +kernel
theorem d6_20 : decode jdk_52_method_21_code 20 = .ok (.if_icmp .le 6, 3) := by decide +kernel
theorem d6_23 : decode jdk_52_method_21_code 23 = .ok (.iload 5, 2) := by decide +kernel
theorem d6_25 : decode jdk_52_method_21_code 25 = .ok (.ireturn, 1) := by decide +kernel
theorem ef6_RIRII (m : MethodId) (x0 : Addr) (x1 : Int32) (x2 : Addr) (x3 : Int32) (x4 : Int32) : entryFrame m #[(.ref x0), (.int x1), (.ref x2), (.int x3), (.int x4)] 7 = mkF m 0 #[.val (.ref x0), .val (.int x1), .val (.ref x2), .val (.int x3), .val (.int x4), .unset, .unset] [] := by first | (simp [entryFrame, mkF, argsToLocals, Value.category]; done) | rfl
theorem d6_26 : decode jdk_52_method_21_code 26 = .ok (.aload_n 2, 1) := by decide +kernel
theorem d6_27 : decode jdk_52_method_21_code 27 = .ok (.iload_n 3, 1) := by decide +kernel
theorem d6_28 : decode jdk_52_method_21_code 28 = .ok (.iload 6, 2) := by decide +kernel
theorem d6_30 : decode jdk_52_method_21_code 30 = .ok (.i2b, 1) := by decide +kernel
theorem d6_31 : decode jdk_52_method_21_code 31 = .ok (.bastore, 1) := by decide +kernel
theorem d6_32 : decode jdk_52_method_21_code 32 = .ok (.iinc 1 1, 3) := by decide +kernel
theorem d6_35 : decode jdk_52_method_21_code 35 = .ok (.iinc 3 1, 3) := by decide +kernel
theorem d6_38 : decode jdk_52_method_21_code 38 = .ok (.iinc 5 1, 3) := by decide +kernel
theorem d6_41 : decode jdk_52_method_21_code 41 = .ok (.goto (-38), 3) := by decide +kernel
theorem d6_44 : decode jdk_52_method_21_code 44 = .ok (.iload 4, 2) := by decide +kernel
theorem d6_46 : decode jdk_52_method_21_code 46 = .ok (.ireturn, 1) := by decide +kernel
theorem d5_0 : decode jdk_52_method_16_code 0 = .ok (.iload_n 2, 1) := by decide +kernel
theorem d5_1 : decode jdk_52_method_16_code 1 = .ok (.newarray .byte, 2) := by decide +kernel
theorem d5_3 : decode jdk_52_method_16_code 3 = .ok (.astore_n 3, 1) := by decide +kernel
theorem d5_4 : decode jdk_52_method_16_code 4 = .ok (.aload_n 0, 1) := by decide +kernel
theorem d5_5 : decode jdk_52_method_16_code 5 = .ok (.iload_n 1, 1) := by decide +kernel
theorem d5_6 : decode jdk_52_method_16_code 6 = .ok (.aload_n 3, 1) := by decide +kernel
theorem d5_7 : decode jdk_52_method_16_code 7 = .ok (.iconst 0, 1) := by decide +kernel
theorem d5_8 : decode jdk_52_method_16_code 8 = .ok (.iload_n 2, 1) := by decide +kernel
theorem pd_15 : parseMethodDescriptor "([CI[BII)I" = some ⟨[(.array .char), .int, (.array .byte), .int, .int], some .int⟩ := by decide +kernel
theorem d5_9 : decode jdk_52_method_16_code 9 = .ok (.invokestatic 115, 3) := by decide +kernel
theorem d5_12 : decode jdk_52_method_16_code 12 = .ok (.istore 4, 2) := by decide +kernel
theorem d5_14 : decode jdk_52_method_16_code 14 = .ok (.iload 4, 2) := by decide +kernel
theorem d5_16 : decode jdk_52_method_16_code 16 = .ok (.iload_n 2, 1) := by decide +kernel
theorem d5_17 : decode jdk_52_method_16_code 17 = .ok (.if_icmp .eq 40, 3) := by decide +kernel
theorem d5_20 : decode jdk_52_method_16_code 20 = .ok (.aload_n 0, 1) := by decide +kernel
theorem d5_21 : decode jdk_52_method_16_code 21 = .ok (.iload_n 1, 1) := by decide +kernel
theorem d5_22 : decode jdk_52_method_16_code 22 = .ok (.iload_n 2, 1) := by decide +kernel
theorem pd_16 : parseMethodDescriptor "([CII)[B" = some ⟨[(.array .char), .int, .int], some (.array .byte)⟩ := by decide +kernel
theorem d5_23 : decode jdk_52_method_16_code 23 = .ok (.invokestatic 119, 3) := by decide +kernel
theorem d5_26 : decode jdk_52_method_16_code 26 = .ok (.astore 5, 2) := by decide +kernel
theorem d5_28 : decode jdk_52_method_16_code 28 = .ok (.aload 5, 2) := by decide +kernel
theorem d5_30 : decode jdk_52_method_16_code 30 = .ok (.iload 4, 2) := by decide +kernel
theorem d5_32 : decode jdk_52_method_16_code 32 = .ok (.invokestatic 71, 3) := by decide +kernel
theorem d5_35 : decode jdk_52_method_16_code 35 = .ok (.sipush 255, 3) := by decide +kernel
theorem d5_38 : decode jdk_52_method_16_code 38 = .ok (.if_icmp .gt 16, 3) := by decide +kernel
theorem d5_54 : decode jdk_52_method_16_code 54 = .ok (.aload 5, 2) := by decide +kernel
theorem d5_56 : decode jdk_52_method_16_code 56 = .ok (.areturn, 1) := by decide +kernel
theorem d5_57 : decode jdk_52_method_16_code 57 = .ok (.aload_n 3, 1) := by decide +kernel
theorem d5_58 : decode jdk_52_method_16_code 58 = .ok (.areturn, 1) := by decide +kernel
theorem ef5_RII (m : MethodId) (x0 : Addr) (x1 : Int32) (x2 : Int32) : entryFrame m #[(.ref x0), (.int x1), (.int x2)] 6 = mkF m 0 #[.val (.ref x0), .val (.int x1), .val (.int x2), .unset, .unset, .unset] [] := by first | (simp [entryFrame, mkF, argsToLocals, Value.category]; done) | rfl
theorem d7_0 : decode jdk_52_method_15_code 0 = .ok (.iload_n 1, 1) := by decide +kernel
theorem d7_1 : decode jdk_52_method_15_code 1 = .ok (.aload_n 0, 1) := by decide +kernel
theorem d7_2 : decode jdk_52_method_15_code 2 = .ok (.arraylength, 1) := by decide +kernel
theorem d7_3 : decode jdk_52_method_15_code 3 = .ok (.isub, 1) := by decide +kernel
theorem d7_4 : decode jdk_52_method_15_code 4 = .ok (.bipush 31, 2) := by decide +kernel
theorem d7_6 : decode jdk_52_method_15_code 6 = .ok (.iushr, 1) := by decide +kernel
theorem d7_7 : decode jdk_52_method_15_code 7 = .ok (.i2b, 1) := by decide +kernel
theorem d7_8 : decode jdk_52_method_15_code 8 = .ok (.ireturn, 1) := by decide +kernel
theorem ef7_RI (m : MethodId) (x0 : Addr) (x1 : Int32) : entryFrame m #[(.ref x0), (.int x1)] 2 = mkF m 0 #[.val (.ref x0), .val (.int x1)] [] := by first | (simp [entryFrame, mkF, argsToLocals, Value.category]; done) | rfl
theorem d3_0 : decode jdk_42_method_149_code 0 = .ok (.aload_n 0, 1) := by decide +kernel
theorem d3_1 : decode jdk_42_method_149_code 1 = .ok (.invokespecial 1, 3) := by decide +kernel
theorem d3_4 : decode jdk_42_method_149_code 4 = .ok (.iload_n 3, 1) := by decide +kernel
theorem d3_5 : decode jdk_42_method_149_code 5 = .ok (.ifCond .ne 22, 3) := by decide +kernel
theorem d3_27 : decode jdk_42_method_149_code 27 = .ok (.getstatic 38, 3) := by decide +kernel
theorem d3_30 : decode jdk_42_method_149_code 30 = .ok (.ifCond .eq 28, 3) := by decide +kernel
theorem d3_33 : decode jdk_42_method_149_code 33 = .ok (.aload_n 1, 1) := by decide +kernel
theorem d3_34 : decode jdk_42_method_149_code 34 = .ok (.iload_n 2, 1) := by decide +kernel
theorem d3_35 : decode jdk_42_method_149_code 35 = .ok (.iload_n 3, 1) := by decide +kernel
theorem d3_36 : decode jdk_42_method_149_code 36 = .ok (.invokestatic 177, 3) := by decide +kernel
theorem d3_39 : decode jdk_42_method_149_code 39 = .ok (.astore 5, 2) := by decide +kernel
theorem d3_41 : decode jdk_42_method_149_code 41 = .ok (.aload_n 0, 1) := by decide +kernel
theorem d3_42 : decode jdk_42_method_149_code 42 = .ok (.aload 5, 2) := by decide +kernel
theorem d3_44 : decode jdk_42_method_149_code 44 = .ok (.iload_n 3, 1) := by decide +kernel
theorem pd_17 : parseMethodDescriptor "([BI)B" = some ⟨[(.array .byte), .int], some .byte⟩ := by decide +kernel
theorem d3_45 : decode jdk_42_method_149_code 45 = .ok (.invokestatic 47, 3) := by decide +kernel
theorem d3_48 : decode jdk_42_method_149_code 48 = .ok (.putfield 15, 3) := by decide +kernel
theorem d3_51 : decode jdk_42_method_149_code 51 = .ok (.aload_n 0, 1) := by decide +kernel
theorem d3_52 : decode jdk_42_method_149_code 52 = .ok (.aload 5, 2) := by decide +kernel
theorem d3_54 : decode jdk_42_method_149_code 54 = .ok (.putfield 9, 3) := by decide +kernel
theorem d3_57 : decode jdk_42_method_149_code 57 = .ok (.return_, 1) := by decide +kernel
theorem ef3_RRIIN (m : MethodId) (x0 : Addr) (x1 : Addr) (x2 : Int32) (x3 : Int32) : entryFrame m #[(.ref x0), (.ref x1), (.int x2), (.int x3), .null] 6 = mkF m 0 #[.val (.ref x0), .val (.ref x1), .val (.int x2), .val (.int x3), .val .null, .unset] [] := by first | (simp [entryFrame, mkF, argsToLocals, Value.category]; done) | rfl
theorem d2_0 : decode jdk_42_method_3_code 0 = .ok (.aload_n 0, 1) := by decide +kernel
theorem d2_1 : decode jdk_42_method_3_code 1 = .ok (.aload_n 1, 1) := by decide +kernel
theorem d2_2 : decode jdk_42_method_3_code 2 = .ok (.iconst 0, 1) := by decide +kernel
theorem d2_3 : decode jdk_42_method_3_code 3 = .ok (.aload_n 1, 1) := by decide +kernel
theorem d2_4 : decode jdk_42_method_3_code 4 = .ok (.arraylength, 1) := by decide +kernel
theorem d2_5 : decode jdk_42_method_3_code 5 = .ok (.aconst_null, 1) := by decide +kernel
theorem pd_18 : parseMethodDescriptor "([CIILjava/lang/Void;)V" = some ⟨[(.array .char), .int, .int, (.object "java/lang/Void")], none⟩ := by decide +kernel
theorem d2_6 : decode jdk_42_method_3_code 6 = .ok (.invokespecial 27, 3) := by decide +kernel
theorem d2_9 : decode jdk_42_method_3_code 9 = .ok (.return_, 1) := by decide +kernel
theorem ef2_RR (m : MethodId) (x0 : Addr) (x1 : Addr) : entryFrame m #[(.ref x0), (.ref x1)] 2 = mkF m 0 #[.val (.ref x0), .val (.ref x1)] [] := by first | (simp [entryFrame, mkF, argsToLocals, Value.category]; done) | rfl
theorem d1_0 : decode method_3_code 0 = .ok (.iload_n 0, 1) := by decide +kernel
theorem d1_1 : decode method_3_code 1 = .ok (.iconst 1, 1) := by decide +kernel
theorem d1_2 : decode method_3_code 2 = .ok (.if_icmp .ne 23, 3) := by decide +kernel
theorem d1_5 : decode method_3_code 5 = .ok (.iconst 1, 1) := by decide +kernel
theorem d1_6 : decode method_3_code 6 = .ok (.newarray .char, 2) := by decide +kernel
theorem d1_8 : decode method_3_code 8 = .ok (.astore 5, 2) := by decide +kernel
theorem d1_10 : decode method_3_code 10 = .ok (.aload 5, 2) := by decide +kernel
theorem d1_12 : decode method_3_code 12 = .ok (.iconst 0, 1) := by decide +kernel
theorem d1_13 : decode method_3_code 13 = .ok (.iload_n 1, 1) := by decide +kernel
theorem d1_14 : decode method_3_code 14 = .ok (.castore, 1) := by decide +kernel
theorem d1_15 : decode method_3_code 15 = .ok (.new 15, 3) := by decide +kernel
theorem d1_18 : decode method_3_code 18 = .ok (.dup, 1) := by decide +kernel
theorem d1_19 : decode method_3_code 19 = .ok (.aload 5, 2) := by decide +kernel
theorem pd_19 : parseMethodDescriptor "([C)V" = some ⟨[(.array .char)], none⟩ := by decide +kernel
theorem d1_21 : decode method_3_code 21 = .ok (.invokespecial 20, 3) := by decide +kernel
theorem d1_24 : decode method_3_code 24 = .ok (.areturn, 1) := by decide +kernel
theorem ef1_IIIII (m : MethodId) (x0 : Int32) (x1 : Int32) (x2 : Int32) (x3 : Int32) (x4 : Int32) : entryFrame m #[(.int x0), (.int x1), (.int x2), (.int x3), (.int x4)] 6 = mkF m 0 #[.val (.int x0), .val (.int x1), .val (.int x2), .val (.int x3), .val (.int x4), .unset] [] := by first | (simp [entryFrame, mkF, argsToLocals, Value.category]; done) | rfl
theorem pn_20 : plainName "com/example/bowerbird/bowerbird/RequiredTextPinLaw" = true := by first | (simp [plainName, overriddenIn]; done) | decide +kernel
theorem d1_25 : decode method_3_code 25 = .ok (.iload_n 0, 1) := by decide +kernel
theorem d1_26 : decode method_3_code 26 = .ok (.iconst 2, 1) := by decide +kernel
theorem d1_27 : decode method_3_code 27 = .ok (.if_icmp .ne 28, 3) := by decide +kernel
theorem d1_30 : decode method_3_code 30 = .ok (.iconst 2, 1) := by decide +kernel
theorem d1_31 : decode method_3_code 31 = .ok (.newarray .char, 2) := by decide +kernel
theorem d1_33 : decode method_3_code 33 = .ok (.astore 5, 2) := by decide +kernel
theorem d1_35 : decode method_3_code 35 = .ok (.aload 5, 2) := by decide +kernel
theorem d1_37 : decode method_3_code 37 = .ok (.iconst 0, 1) := by decide +kernel
theorem d1_38 : decode method_3_code 38 = .ok (.iload_n 1, 1) := by decide +kernel
theorem d1_39 : decode method_3_code 39 = .ok (.castore, 1) := by decide +kernel
theorem d1_40 : decode method_3_code 40 = .ok (.aload 5, 2) := by decide +kernel
theorem d1_42 : decode method_3_code 42 = .ok (.iconst 1, 1) := by decide +kernel
theorem d1_43 : decode method_3_code 43 = .ok (.iload_n 2, 1) := by decide +kernel
theorem d1_44 : decode method_3_code 44 = .ok (.castore, 1) := by decide +kernel
theorem d1_45 : decode method_3_code 45 = .ok (.new 15, 3) := by decide +kernel
theorem d1_48 : decode method_3_code 48 = .ok (.dup, 1) := by decide +kernel
theorem d1_49 : decode method_3_code 49 = .ok (.aload 5, 2) := by decide +kernel
theorem d1_51 : decode method_3_code 51 = .ok (.invokespecial 20, 3) := by decide +kernel
theorem d1_54 : decode method_3_code 54 = .ok (.areturn, 1) := by decide +kernel
theorem d1_55 : decode method_3_code 55 = .ok (.iload_n 0, 1) := by decide +kernel
theorem d1_56 : decode method_3_code 56 = .ok (.iconst 3, 1) := by decide +kernel
theorem d1_57 : decode method_3_code 57 = .ok (.if_icmp .ne 33, 3) := by decide +kernel
theorem d1_60 : decode method_3_code 60 = .ok (.iconst 3, 1) := by decide +kernel
theorem d1_61 : decode method_3_code 61 = .ok (.newarray .char, 2) := by decide +kernel
theorem d1_63 : decode method_3_code 63 = .ok (.astore 5, 2) := by decide +kernel
theorem d1_65 : decode method_3_code 65 = .ok (.aload 5, 2) := by decide +kernel
theorem d1_67 : decode method_3_code 67 = .ok (.iconst 0, 1) := by decide +kernel
theorem d1_68 : decode method_3_code 68 = .ok (.iload_n 1, 1) := by decide +kernel
theorem d1_69 : decode method_3_code 69 = .ok (.castore, 1) := by decide +kernel
theorem d1_70 : decode method_3_code 70 = .ok (.aload 5, 2) := by decide +kernel
theorem d1_72 : decode method_3_code 72 = .ok (.iconst 1, 1) := by decide +kernel
theorem d1_73 : decode method_3_code 73 = .ok (.iload_n 2, 1) := by decide +kernel
theorem d1_74 : decode method_3_code 74 = .ok (.castore, 1) := by decide +kernel
theorem d1_75 : decode method_3_code 75 = .ok (.aload 5, 2) := by decide +kernel
theorem d1_77 : decode method_3_code 77 = .ok (.iconst 2, 1) := by decide +kernel
theorem d1_78 : decode method_3_code 78 = .ok (.iload_n 3, 1) := by decide +kernel
theorem d1_79 : decode method_3_code 79 = .ok (.castore, 1) := by decide +kernel
theorem d1_80 : decode method_3_code 80 = .ok (.new 15, 3) := by decide +kernel
theorem d1_83 : decode method_3_code 83 = .ok (.dup, 1) := by decide +kernel
theorem d1_84 : decode method_3_code 84 = .ok (.aload 5, 2) := by decide +kernel
theorem d1_86 : decode method_3_code 86 = .ok (.invokespecial 20, 3) := by decide +kernel
theorem d1_89 : decode method_3_code 89 = .ok (.areturn, 1) := by decide +kernel
theorem d1_90 : decode method_3_code 90 = .ok (.iconst 4, 1) := by decide +kernel
theorem d1_91 : decode method_3_code 91 = .ok (.newarray .char, 2) := by decide +kernel
theorem d1_93 : decode method_3_code 93 = .ok (.astore 5, 2) := by decide +kernel
theorem d1_95 : decode method_3_code 95 = .ok (.aload 5, 2) := by decide +kernel
theorem d1_97 : decode method_3_code 97 = .ok (.iconst 0, 1) := by decide +kernel
theorem d1_98 : decode method_3_code 98 = .ok (.iload_n 1, 1) := by decide +kernel
theorem d1_99 : decode method_3_code 99 = .ok (.castore, 1) := by decide +kernel
theorem d1_100 : decode method_3_code 100 = .ok (.aload 5, 2) := by decide +kernel
theorem d1_102 : decode method_3_code 102 = .ok (.iconst 1, 1) := by decide +kernel
theorem d1_103 : decode method_3_code 103 = .ok (.iload_n 2, 1) := by decide +kernel
theorem d1_104 : decode method_3_code 104 = .ok (.castore, 1) := by decide +kernel
theorem d1_105 : decode method_3_code 105 = .ok (.aload 5, 2) := by decide +kernel
theorem d1_107 : decode method_3_code 107 = .ok (.iconst 2, 1) := by decide +kernel
theorem d1_108 : decode method_3_code 108 = .ok (.iload_n 3, 1) := by decide +kernel
theorem d1_109 : decode method_3_code 109 = .ok (.castore, 1) := by decide +kernel
theorem d1_110 : decode method_3_code 110 = .ok (.aload 5, 2) := by decide +kernel
theorem d1_112 : decode method_3_code 112 = .ok (.iconst 3, 1) := by decide +kernel
theorem d1_113 : decode method_3_code 113 = .ok (.iload 4, 2) := by decide +kernel
theorem d1_115 : decode method_3_code 115 = .ok (.castore, 1) := by decide +kernel
theorem d1_116 : decode method_3_code 116 = .ok (.new 15, 3) := by decide +kernel
theorem d1_119 : decode method_3_code 119 = .ok (.dup, 1) := by decide +kernel
theorem d1_120 : decode method_3_code 120 = .ok (.aload 5, 2) := by decide +kernel
theorem d1_122 : decode method_3_code 122 = .ok (.invokespecial 20, 3) := by decide +kernel
theorem d1_125 : decode method_3_code 125 = .ok (.areturn, 1) := by decide +kernel
theorem d23_0 : decode jdk_43_method_3_code 0 = .ok (.iload_n 0, 1) := by decide +kernel
theorem d23_1 : decode jdk_43_method_3_code 1 = .ok (.sipush 255, 3) := by decide +kernel
theorem d23_4 : decode jdk_43_method_3_code 4 = .ok (.if_icmp .gt 7, 3) := by decide +kernel
theorem d23_7 : decode jdk_43_method_3_code 7 = .ok (.iconst 1, 1) := by decide +kernel
theorem d23_8 : decode jdk_43_method_3_code 8 = .ok (.goto 4, 3) := by decide +kernel
theorem d23_12 : decode jdk_43_method_3_code 12 = .ok (.ireturn, 1) := by decide +kernel
theorem ef23_I (m : MethodId) (x0 : Int32) : entryFrame m #[(.int x0)] 1 = mkF m 0 #[.val (.int x0)] [] := by first | (simp [entryFrame, mkF, argsToLocals, Value.category]; done) | rfl
theorem d24_0 : decode jdk_43_method_46_code 0 = .ok (.iconst 1, 1) := by decide +kernel
theorem d24_1 : decode jdk_43_method_46_code 1 = .ok (.newarray .byte, 2) := by decide +kernel
theorem d24_3 : decode jdk_43_method_46_code 3 = .ok (.dup, 1) := by decide +kernel
theorem d24_4 : decode jdk_43_method_46_code 4 = .ok (.iconst 0, 1) := by decide +kernel
theorem d24_5 : decode jdk_43_method_46_code 5 = .ok (.iload_n 0, 1) := by decide +kernel
theorem d24_6 : decode jdk_43_method_46_code 6 = .ok (.i2b, 1) := by decide +kernel
theorem d24_7 : decode jdk_43_method_46_code 7 = .ok (.bastore, 1) := by decide +kernel
theorem d24_8 : decode jdk_43_method_46_code 8 = .ok (.areturn, 1) := by decide +kernel
theorem ef24_I (m : MethodId) (x0 : Int32) : entryFrame m #[(.int x0)] 1 = mkF m 0 #[.val (.int x0)] [] := by first | (simp [entryFrame, mkF, argsToLocals, Value.category]; done) | rfl
theorem d25_0 : decode jdk_42_method_151_code 0 = .ok (.aload_n 0, 1) := by decide +kernel
theorem d25_1 : decode jdk_42_method_151_code 1 = .ok (.invokespecial 1, 3) := by decide +kernel
theorem d25_4 : decode jdk_42_method_151_code 4 = .ok (.aload_n 0, 1) := by decide +kernel
theorem d25_5 : decode jdk_42_method_151_code 5 = .ok (.aload_n 1, 1) := by decide +kernel
theorem d25_6 : decode jdk_42_method_151_code 6 = .ok (.putfield 9, 3) := by decide +kernel
theorem d25_9 : decode jdk_42_method_151_code 9 = .ok (.aload_n 0, 1) := by decide +kernel
theorem d25_10 : decode jdk_42_method_151_code 10 = .ok (.iload_n 2, 1) := by decide +kernel
theorem d25_11 : decode jdk_42_method_151_code 11 = .ok (.putfield 15, 3) := by decide +kernel
theorem d25_14 : decode jdk_42_method_151_code 14 = .ok (.return_, 1) := by decide +kernel
theorem ef25_RRI (m : MethodId) (x0 : Addr) (x1 : Addr) (x2 : Int32) : entryFrame m #[(.ref x0), (.ref x1), (.int x2)] 3 = mkF m 0 #[.val (.ref x0), .val (.ref x1), .val (.int x2)] [] := by first | (simp [entryFrame, mkF, argsToLocals, Value.category]; done) | rfl
theorem d22_0 : decode jdk_42_method_139_code 0 = .ok (.getstatic 38, 3) := by decide +kernel
theorem d22_3 : decode jdk_42_method_139_code 3 = .ok (.ifCond .eq 23, 3) := by decide +kernel
theorem d22_6 : decode jdk_42_method_139_code 6 = .ok (.iload_n 0, 1) := by decide +kernel
theorem pd_21 : parseMethodDescriptor "(C)Z" = some ⟨[.char], some .boolean⟩ := by decide +kernel
theorem d22_7 : decode jdk_42_method_139_code 7 = .ok (.invokestatic 1015, 3) := by decide +kernel
theorem d22_10 : decode jdk_42_method_139_code 10 = .ok (.ifCond .eq 16, 3) := by decide +kernel
theorem d22_13 : decode jdk_42_method_139_code 13 = .ok (.new 10, 3) := by decide +kernel
theorem d22_16 : decode jdk_42_method_139_code 16 = .ok (.dup, 1) := by decide +kernel
theorem d22_17 : decode jdk_42_method_139_code 17 = .ok (.iload_n 0, 1) := by decide +kernel
theorem pd_22 : parseMethodDescriptor "(C)[B" = some ⟨[.char], some (.array .byte)⟩ := by decide +kernel
theorem d22_18 : decode jdk_42_method_139_code 18 = .ok (.invokestatic 1018, 3) := by decide +kernel
theorem d22_21 : decode jdk_42_method_139_code 21 = .ok (.iconst 0, 1) := by decide +kernel
theorem pd_23 : parseMethodDescriptor "([BB)V" = some ⟨[(.array .byte), .byte], none⟩ := by decide +kernel
theorem d22_22 : decode jdk_42_method_139_code 22 = .ok (.invokespecial 209, 3) := by decide +kernel
theorem d22_25 : decode jdk_42_method_139_code 25 = .ok (.areturn, 1) := by decide +kernel
theorem ef22_I (m : MethodId) (x0 : Int32) : entryFrame m #[(.int x0)] 1 = mkF m 0 #[.val (.int x0)] [] := by first | (simp [entryFrame, mkF, argsToLocals, Value.category]; done) | rfl
theorem d3_8 : decode jdk_42_method_149_code 8 = .ok (.aload_n 0, 1) := by decide +kernel
theorem d3_9 : decode jdk_42_method_149_code 9 = .ok (.ldc 7, 2) := by decide +kernel
theorem d3_11 : decode jdk_42_method_149_code 11 = .ok (.getfield 9, 3) := by decide +kernel
theorem d3_14 : decode jdk_42_method_149_code 14 = .ok (.putfield 9, 3) := by decide +kernel
theorem d3_17 : decode jdk_42_method_149_code 17 = .ok (.aload_n 0, 1) := by decide +kernel
theorem d3_18 : decode jdk_42_method_149_code 18 = .ok (.ldc 7, 2) := by decide +kernel
theorem d3_20 : decode jdk_42_method_149_code 20 = .ok (.getfield 15, 3) := by decide +kernel
theorem d3_23 : decode jdk_42_method_149_code 23 = .ok (.putfield 15, 3) := by decide +kernel
theorem d3_26 : decode jdk_42_method_149_code 26 = .ok (.return_, 1) := by decide +kernel
theorem pd_24 : parseMethodDescriptor "(ICCCC)Ljava/lang/String;" = some ⟨[.int, .char, .char, .char, .char], some (.object "java/lang/String")⟩ := by decide +kernel
theorem pd_25 : parseMethodDescriptor "(Ljava/lang/String;Ljava/lang/String;)Ljava/lang/String;" = some ⟨[(.object "java/lang/String"), (.object "java/lang/String")], some (.object "java/lang/String")⟩ := by decide +kernel
theorem pd_26 : parseMethodDescriptor "()I" = some ⟨[], some .int⟩ := by decide +kernel
theorem pd_27 : parseMethodDescriptor "(I)C" = some ⟨[.int], some .char⟩ := by decide +kernel
theorem pd_28 : parseMethodDescriptor "(C)Ljava/lang/String;" = some ⟨[.char], some (.object "java/lang/String")⟩ := by decide +kernel
theorem ef0_IIII (m : MethodId) (x0 : Int32) (x1 : Int32) (x2 : Int32) (x3 : Int32) : entryFrame m #[(.int x0), (.int x1), (.int x2), (.int x3)] maxLocals = mkF m 0 #[.val (.int x0), .val (.int x1), .val (.int x2), .val (.int x3), .unset, .unset, .unset, .unset, .unset, .unset, .unset, .unset] [] := by first | (simp [entryFrame, mkF, argsToLocals, Value.category, maxLocals]; done) | rfl
def isCh (c : Int32) : Prop := 0 ≤ c.toInt ∧ c.toInt < 65536
def lb (c : Int32) : Int32 := nar .byte (c.toInt8.toInt32)
def lo (c : Int32) : Int32 := nar .byte ((c >>> ((0 : Int32) &&& 31)).toInt8.toInt32)
def hi (c : Int32) : Int32 := nar .byte ((c >>> ((8 : Int32) &&& 31)).toInt8.toInt32)
def gch (x y : Int32) : Int32 := nar .char ((((x &&& (255 : Int32)) <<< ((0 : Int32) &&& 31)) ||| ((y &&& (255 : Int32)) <<< ((8 : Int32) &&& 31))).toUInt32.toUInt16.toUInt32.toInt32)
theorem own_nb (x : Int32) : (nar .byte (x.toInt8.toInt32) &&& (255 : Int32)).toInt = x.toInt % 256 := by
  have e1 := c_i2b x
  have e2 := c_i2b (x.toInt8.toInt32)
  have e3 : (nar .byte (x.toInt8.toInt32) &&& (255 : Int32)).toInt = (nar .byte (x.toInt8.toInt32)).toInt % (2 ^ 8 : Nat) := c_mask _ 255 8 (by decide) (by decide)
  have e4 : (nar .byte (x.toInt8.toInt32)).toInt = (x.toInt8.toInt32.toInt8.toInt32).toInt := rfl
  rw [e3, e4]
  omega
theorem own_cc {x : Int32} (h : 0 ≤ x.toInt ∧ x.toInt < 65536) : nar .char (x.toUInt32.toUInt16.toUInt32.toInt32) = x := by
  have e1 := c_i2c x
  have e2 := c_i2c (x.toUInt32.toUInt16.toUInt32.toInt32)
  apply Int32.toInt_inj.mp
  show (x.toUInt32.toUInt16.toUInt32.toInt32.toUInt32.toUInt16.toUInt32.toInt32).toInt = x.toInt
  omega
theorem own_g {c : Int32} (h : isCh c) : gch (lo c) (hi c) = c := by
  obtain ⟨h1, h2⟩ := h
  have s0 : (c >>> ((0 : Int32) &&& 31)).toInt = c.toInt / (2 ^ 0 : Nat) := c_ishr c 0 0 (by decide)
  have s8 : (c >>> ((8 : Int32) &&& 31)).toInt = c.toInt / (2 ^ 8 : Nat) := c_ishr c 8 8 (by decide)
  have n0 : (lo c &&& (255 : Int32)).toInt = c.toInt % 256 := by
    show (nar .byte ((c >>> ((0 : Int32) &&& 31)).toInt8.toInt32) &&& (255 : Int32)).toInt = _
    rw [own_nb, s0]; omega
  have n8 : (hi c &&& (255 : Int32)).toInt = c.toInt / 256 := by
    show (nar .byte ((c >>> ((8 : Int32) &&& 31)).toInt8.toInt32) &&& (255 : Int32)).toInt = _
    rw [own_nb, s8]; omega
  unfold gch
  generalize (lo c &&& (255 : Int32)) = x at n0 ⊢
  generalize (hi c &&& (255 : Int32)) = y at n8 ⊢
  have l0 := c_ishl x 0 0 (by decide)
  have l8 := c_ishl y 8 8 (by decide)
  have r0 := rng32 (x <<< ((0 : Int32) &&& 31))
  have r8 := rng32 (y <<< ((8 : Int32) &&& 31))
  have m0 : (x <<< ((0 : Int32) &&& 31)).toInt = c.toInt % 256 := by omega
  have m8 : (y <<< ((8 : Int32) &&& 31)).toInt = c.toInt / 256 * 256 := by omega
  clear l0 l8 r0 r8
  generalize (x <<< ((0 : Int32) &&& 31)) = b at m0 ⊢
  generalize (y <<< ((8 : Int32) &&& 31)) = a at m8 ⊢
  have o := c_or' b a 8 (by decide) 256 (by decide) (by omega) (by omega) (by omega)
  have ro := rng32 (b ||| a)
  have mo : (b ||| a).toInt = c.toInt := by omega
  rw [own_cc (by omega)]
  exact Int32.toInt_inj.mp mo
theorem own_l {c : Int32} (h : isCh c) (h2 : ¬ (255 : Int32) < c) : nar .char ((lb c &&& (255 : Int32)).toUInt32.toUInt16.toUInt32.toInt32) = c := by
  have z : (255 : Int32).toInt = 255 := rfl
  rw [Int32.lt_iff_toInt_lt] at h2
  obtain ⟨h1, h3⟩ := h
  have n0 : (lb c &&& (255 : Int32)).toInt = c.toInt % 256 := own_nb c
  rw [own_cc (by omega)]
  apply Int32.toInt_inj.mp
  omega
theorem own_ch (x : Int32) : isCh (x.toUInt32.toUInt16.toUInt32.toInt32) := by
  have := c_i2c x
  unfold isCh; omega
theorem own_nc {c : Int32} (h : isCh c) : nar .char c = c := by
  have q := c_i2c c
  obtain ⟨h1, h2⟩ := h
  apply Int32.toInt_inj.mp
  show (c.toUInt32.toUInt16.toUInt32.toInt32).toInt = c.toInt
  omega
theorem own_n4 (x : Int32) : ((1 : Int32) + (x &&& (3 : Int32))) = (1 : Int32) ∨ ((1 : Int32) + (x &&& (3 : Int32))) = (2 : Int32) ∨ ((1 : Int32) + (x &&& (3 : Int32))) = (3 : Int32) ∨ ((1 : Int32) + (x &&& (3 : Int32))) = (4 : Int32) := by
  have e1 := c_and x 3 (by decide)
  have e2 := c_iadd 1 (x &&& 3)
  have r := rng32 (1 + (x &&& 3))
  have z1 : (1 : Int32).toInt = 1 := rfl
  have z2 : (2 : Int32).toInt = 2 := rfl
  have z3 : (3 : Int32).toInt = 3 := rfl
  have z4 : (4 : Int32).toInt = 4 := rfl
  simp only [← Int32.toInt_inj]
  omega
def SQ (k : Nat) (u0 cd : Int32) (xs : List Value) : Prop := (cd = (0 : Int32) ∧ xs.length = k ∧ xs[0]? = some (.int (lb u0)) ∧ ¬ (255 : Int32) < u0) ∨ (cd = (1 : Int32) ∧ xs.length = 2 * k ∧ xs[0]? = some (.int (lo u0)) ∧ xs[1]? = some (.int (hi u0)))
theorem own_255 (x : Int32) : ¬ (255 : Int32) < ((x &&& (255 : Int32)).toUInt32.toUInt16.toUInt32.toInt32) := by
  have e1 := c_and x 255 (by decide)
  have e2 := c_i2c (x &&& (255 : Int32))
  have z : (255 : Int32).toInt = 255 := rfl
  rw [Int32.lt_iff_toInt_lt]; omega
set_option maxRecDepth 65536 in
set_option maxHeartbeats 40000000 in
theorem rm_ulen (l : Launch) (Z : State) (a0 : Array Value) (hw : ∀ d ∈ tables_1, d.before a0 Z = true) (b : Addr) (xs : List Value) (zl : Int32) (h0 : Heap) (Bb : Seq Z h0 b .byte xs) (hzl : xs.length.toInt32 = zl) :
    Con l (⟨"java/lang/StringUTF16", "length", "([B)I"⟩ : MethodName) jdk_52_method_6_code 1 (some .int) ({ frames := 0, cells := 0, slots := 0, locals := 0 } : Room) Z #[(.ref b)] h0 (Pur (some (.int (zl >>> ((1 : Int32) &&& 31)))) h0) := by
  refine Con.of_body (plainFor_of_name pn_0) ?_
  intro p e s m below meth c T0 X0 hx hby hml hZ hown hnm hret hlk e0
  have hown : s.vm.findClass "java/lang/StringUTF16" = some m.cls := hown
  have hml : c.maxLocals = 1 := hml
  refine Goes.cast (ef28_R m b) ?_
  refine G.aloadN X0 hx (pc' := 1) (hb hby d28_0) rfl rfl rfl ?_
  refine G.arraylength X0 hx hZ e0 Bb (pc' := 2) (hb hby d28_1) (z := zl) hzl rfl ?_
  refine G.iconst X0 hx (pc' := 3) (hb hby d28_2) (z := (1 : Int32)) rfl rfl ?_
  refine G.ishr X0 hx (pc' := 4) (hb hby d28_3) rfl ?_
  refine Goes.retI X0 hx hret hlk (hb hby d28_4) (by decide) (by decide) ⟨rfl, e0, rfl⟩
set_option maxRecDepth 65536 in
set_option maxHeartbeats 40000000 in
theorem rm_pcn (l : Launch) (Z : State) (a0 : Array Value) (hw : ∀ d ∈ tables_1, d.before a0 Z = true) (p0 p1 : Int32) (h0 : Heap) (hp0 : ¬ p0 < (0 : Int32)) (hp1 : p0 < p1) :
    Con l (⟨"jdk/internal/util/Preconditions", "checkIndex", "(IILjava/util/function/BiFunction;)I"⟩ : MethodName) jdk_41_method_11_code 3 (some .int) ({ frames := 0, cells := 0, slots := 0, locals := 0 } : Room) Z #[(.int p0), (.int p1), .null] h0 (Pur (some (.int p0)) h0) := by
  refine Con.of_body (plainFor_of_name pn_1) ?_
  intro p e s m below meth c T0 X0 hx hby hml hZ hown hnm hret hlk e0
  have hown : s.vm.findClass "jdk/internal/util/Preconditions" = some m.cls := hown
  have hml : c.maxLocals = 3 := hml
  refine Goes.cast (ef16_IIN m p0 p1) ?_
  refine G.iloadN X0 hx (pc' := 1) (hb hby d16_0) rfl rfl ?_
  refine G.ifF X0 hx (pc' := 4) (hb hby d16_1) (Jvm.Free.XT.i0_lt_f hp0) rfl ?_
  refine G.iloadN X0 hx (pc' := 5) (hb hby d16_4) rfl rfl ?_
  refine G.iloadN X0 hx (pc' := 6) (hb hby d16_5) rfl rfl ?_
  refine G.icmpT X0 hx (pc' := 16) (hb hby d16_6) (Jvm.Free.XT.ii_lt_t hp1) (by decide) (by decide) ?_
  refine G.iloadN X0 hx (pc' := 17) (hb hby d16_16) rfl rfl ?_
  refine Goes.retI X0 hx hret hlk (hb hby d16_17) (by decide) (by decide) ⟨rfl, e0, rfl⟩
set_option maxRecDepth 65536 in
set_option maxHeartbeats 40000000 in
theorem rm_pcr (l : Launch) (Z : State) (a0 : Array Value) (hw : ∀ d ∈ tables_1, d.before a0 Z = true) (p0 p1 : Int32) (x : Addr) (h0 : Heap) (hp0 : ¬ p0 < (0 : Int32)) (hp1 : p0 < p1) :
    Con l (⟨"jdk/internal/util/Preconditions", "checkIndex", "(IILjava/util/function/BiFunction;)I"⟩ : MethodName) jdk_41_method_11_code 3 (some .int) ({ frames := 0, cells := 0, slots := 0, locals := 0 } : Room) Z #[(.int p0), (.int p1), (.ref x)] h0 (Pur (some (.int p0)) h0) := by
  refine Con.of_body (plainFor_of_name pn_1) ?_
  intro p e s m below meth c T0 X0 hx hby hml hZ hown hnm hret hlk e0
  have hown : s.vm.findClass "jdk/internal/util/Preconditions" = some m.cls := hown
  have hml : c.maxLocals = 3 := hml
  refine Goes.cast (ef16_IIR m p0 p1 x) ?_
  refine G.iloadN X0 hx (pc' := 1) (hb hby d16_0) rfl rfl ?_
  refine G.ifF X0 hx (pc' := 4) (hb hby d16_1) (Jvm.Free.XT.i0_lt_f hp0) rfl ?_
  refine G.iloadN X0 hx (pc' := 5) (hb hby d16_4) rfl rfl ?_
  refine G.iloadN X0 hx (pc' := 6) (hb hby d16_5) rfl rfl ?_
  refine G.icmpT X0 hx (pc' := 16) (hb hby d16_6) (Jvm.Free.XT.ii_lt_t hp1) (by decide) (by decide) ?_
  refine G.iloadN X0 hx (pc' := 17) (hb hby d16_16) rfl rfl ?_
  refine Goes.retI X0 hx hret hlk (hb hby d16_17) (by decide) (by decide) ⟨rfl, e0, rfl⟩
set_option maxRecDepth 65536 in
set_option maxHeartbeats 40000000 in
theorem rm_sci (l : Launch) (Z : State) (a0 : Array Value) (hw : ∀ d ∈ tables_1, d.before a0 Z = true) (p0 p1 : Int32) (vf : Value) (h0 : Heap) (SI : Sta Z h0 "jdk/internal/util/Preconditions" "SIOOBE_FORMATTER" "Ljava/util/function/BiFunction;" vf) (hvf : vf = .null ∨ ∃ x, vf = .ref x) (hp0 : ¬ p0 < (0 : Int32)) (hp1 : p0 < p1) :
    Con l (⟨"java/lang/String", "checkIndex", "(II)V"⟩ : MethodName) jdk_42_method_155_code 2 none ({ frames := 1, cells := 0, slots := 0, locals := 14 } : Room) Z #[(.int p0), (.int p1)] h0 (Pur none h0) := by
  refine Con.of_body (plainFor_of_name pn_3) ?_
  intro p e s m below meth c T0 X0 hx hby hml hZ hown hnm hret hlk e0
  have hown : s.vm.findClass "java/lang/String" = some m.cls := hown
  have hml : c.maxLocals = 2 := hml
  refine Goes.cast (ef15_II m p0 p1) ?_
  rcases hvf with rfl | ⟨x, rfl⟩
  · refine G.iloadN X0 hx (pc' := 1) (hb hby d15_0) rfl rfl ?_
    refine G.iloadN X0 hx (pc' := 2) (hb hby d15_1) rfl rfl ?_
    refine G.getS X0 hx hZ hown (hw _ (List.mem_of_getElem? (i := 74) rfl)) Via.refl e0 SI (pc' := 5) (hb hby d15_2) rfl fun T1 X1 e1 => ?_
    refine G.callS X1 hx hZ (y := (⟨"jdk/internal/util/Preconditions", "checkIndex", "(IILjava/util/function/BiFunction;)I"⟩ : MethodName)) hown (hw _ (List.mem_of_getElem? (i := 76) rfl)) (hw _ (List.mem_of_getElem? (i := 77) rfl)) (hw _ (List.mem_of_getElem? (i := 75) rfl)) (hw _ (List.mem_of_getElem? (i := 78) rfl)) (by decide) e1 (rm := ({ frames := 0, cells := 0, slots := 0, locals := 0 } : Room)) (argsL := [(.int p0), (.int p1), .null]) (S := []) (W := 0) (rm_pcn l Z a0 hw p0 p1 h0 hp0 hp1) (lenOf pd_2 rfl) rfl (Nat.le_of_eq rfl) (by decide) (by decide) (by decide) (by decide) (by rw [hml]; rfl) (hb hby d15_5) (pc' := 8) rfl ?_
    rintro T2 _ _ ⟨rfl, e2, rfl⟩ X2
    rw [List.append_nil] at X2
    show Goes p e below T2 (mkF m 8 #[.val (.int p0), .val (.int p1)] [(.int p0)]) _
    refine G.pop X2 hx (pc' := 9) (hb hby d15_8) rfl rfl ?_
    refine Goes.retV X2 hx hret hlk (hb hby d15_9) (by decide) (by decide) ⟨rfl, e2, rfl⟩
  · refine G.iloadN X0 hx (pc' := 1) (hb hby d15_0) rfl rfl ?_
    refine G.iloadN X0 hx (pc' := 2) (hb hby d15_1) rfl rfl ?_
    refine G.getS X0 hx hZ hown (hw _ (List.mem_of_getElem? (i := 74) rfl)) Via.refl e0 SI (pc' := 5) (hb hby d15_2) rfl fun T3 X3 e3 => ?_
    refine G.callS X3 hx hZ (y := (⟨"jdk/internal/util/Preconditions", "checkIndex", "(IILjava/util/function/BiFunction;)I"⟩ : MethodName)) hown (hw _ (List.mem_of_getElem? (i := 76) rfl)) (hw _ (List.mem_of_getElem? (i := 77) rfl)) (hw _ (List.mem_of_getElem? (i := 75) rfl)) (hw _ (List.mem_of_getElem? (i := 78) rfl)) (by decide) e3 (rm := ({ frames := 0, cells := 0, slots := 0, locals := 0 } : Room)) (argsL := [(.int p0), (.int p1), (.ref x)]) (S := []) (W := 0) (rm_pcr l Z a0 hw p0 p1 x h0 hp0 hp1) (lenOf pd_2 rfl) rfl (Nat.le_of_eq rfl) (by decide) (by decide) (by decide) (by decide) (by rw [hml]; rfl) (hb hby d15_5) (pc' := 8) rfl ?_
    rintro T4 _ _ ⟨rfl, e4, rfl⟩ X4
    rw [List.append_nil] at X4
    show Goes p e below T4 (mkF m 8 #[.val (.int p0), .val (.int p1)] [(.int p0)]) _
    refine G.pop X4 hx (pc' := 9) (hb hby d15_8) rfl rfl ?_
    refine Goes.retV X4 hx hret hlk (hb hby d15_9) (by decide) (by decide) ⟨rfl, e4, rfl⟩
set_option maxRecDepth 65536 in
set_option maxHeartbeats 40000000 in
theorem rm_uci (l : Launch) (Z : State) (a0 : Array Value) (hw : ∀ d ∈ tables_1, d.before a0 Z = true) (p0 : Int32) (b : Addr) (xs : List Value) (zl : Int32) (vf : Value) (h0 : Heap) (Bb : Seq Z h0 b .byte xs) (hzl : xs.length.toInt32 = zl) (SI : Sta Z h0 "jdk/internal/util/Preconditions" "SIOOBE_FORMATTER" "Ljava/util/function/BiFunction;" vf) (hvf : vf = .null ∨ ∃ x, vf = .ref x) (hp0 : ¬ p0 < (0 : Int32)) (hp1 : p0 < (zl >>> ((1 : Int32) &&& 31))) :
    Con l (⟨"java/lang/StringUTF16", "checkIndex", "(I[B)V"⟩ : MethodName) jdk_52_method_91_code 2 none ({ frames := 2, cells := 0, slots := 0, locals := 27 } : Room) Z #[(.int p0), (.ref b)] h0 (Pur none h0) := by
  refine Con.of_body (plainFor_of_name pn_0) ?_
  intro p e s m below meth c T0 X0 hx hby hml hZ hown hnm hret hlk e0
  have hown : s.vm.findClass "java/lang/StringUTF16" = some m.cls := hown
  have hml : c.maxLocals = 2 := hml
  refine Goes.cast (ef27_IR m p0 b) ?_
  refine G.iloadN X0 hx (pc' := 1) (hb hby d27_0) rfl rfl ?_
  refine G.aloadN X0 hx (pc' := 2) (hb hby d27_1) rfl rfl rfl ?_
  refine G.callS X0 hx hZ (y := (⟨"java/lang/StringUTF16", "length", "([B)I"⟩ : MethodName)) hown (hw _ (List.mem_of_getElem? (i := 117) rfl)) (hw _ (List.mem_of_getElem? (i := 118) rfl)) (hw _ (List.mem_of_getElem? (i := 22) rfl)) (hw _ (List.mem_of_getElem? (i := 119) rfl)) (by decide) e0 (rm := ({ frames := 0, cells := 0, slots := 0, locals := 0 } : Room)) (argsL := [(.ref b)]) (S := [(.int p0)]) (W := 1) (rm_ulen l Z a0 hw b xs zl h0 Bb hzl) (lenOf pd_4 rfl) rfl (Nat.le_of_eq rfl) (by decide) (by decide) (by decide) (by decide) (by rw [hml]; rfl) (hb hby d27_2) (pc' := 5) rfl ?_
  rintro T1 _ _ ⟨rfl, e1, rfl⟩ X1
  rw [List.append_nil] at X1
  show Goes p e below T1 (mkF m 5 #[.val (.int p0), .val (.ref b)] [(.int (zl >>> ((1 : Int32) &&& 31))), (.int p0)]) _
  refine G.callS X1 hx hZ (y := (⟨"java/lang/String", "checkIndex", "(II)V"⟩ : MethodName)) hown (hw _ (List.mem_of_getElem? (i := 120) rfl)) (hw _ (List.mem_of_getElem? (i := 72) rfl)) (hw _ (List.mem_of_getElem? (i := 8) rfl)) (hw _ (List.mem_of_getElem? (i := 73) rfl)) (by decide) e1 (rm := ({ frames := 1, cells := 0, slots := 0, locals := 14 } : Room)) (argsL := [(.int p0), (.int (zl >>> ((1 : Int32) &&& 31)))]) (S := []) (W := 0) (rm_sci l Z a0 hw p0 (zl >>> ((1 : Int32) &&& 31)) vf h0 SI hvf hp0 hp1) (lenOf pd_5 rfl) rfl (Nat.le_of_eq rfl) (by decide) (by decide) (by decide) (by decide) (by rw [hml]; rfl) (hb hby d27_5) (pc' := 8) rfl ?_
  rintro T2 _ _ ⟨rfl, e2, rfl⟩ X2
  rw [List.append_nil] at X2
  show Goes p e below T2 (mkF m 8 #[.val (.int p0), .val (.ref b)] []) _
  refine Goes.retV X2 hx hret hlk (hb hby d27_8) (by decide) (by decide) ⟨rfl, e2, rfl⟩
set_option maxRecDepth 65536 in
set_option maxHeartbeats 40000000 in
theorem rm_lca (l : Launch) (Z : State) (a0 : Array Value) (hw : ∀ d ∈ tables_1, d.before a0 Z = true) (b : Addr) (xs : List Value) (zl u0 : Int32) (vf : Value) (h0 : Heap) (Bb : Seq Z h0 b .byte xs) (hzl : xs.length.toInt32 = zl) (SI : Sta Z h0 "jdk/internal/util/Preconditions" "SIOOBE_FORMATTER" "Ljava/util/function/BiFunction;" vf) (hvf : vf = .null ∨ ∃ x, vf = .ref x) (hpos : (0 : Int32) < zl) (h0x : xs[0]? = some (.int (lb u0))) (hch : isCh u0) (hle : ¬ (255 : Int32) < u0) :
    Con l (⟨"java/lang/StringLatin1", "charAt", "([BI)C"⟩ : MethodName) jdk_43_method_2_code 2 (some .char) ({ frames := 2, cells := 0, slots := 0, locals := 27 } : Room) Z #[(.ref b), (.int (0 : Int32))] h0 (Pur (some (.int u0)) h0) := by
  refine Con.of_body (plainFor_of_name pn_6) ?_
  intro p e s m below meth c T0 X0 hx hby hml hZ hown hnm hret hlk e0
  have hown : s.vm.findClass "java/lang/StringLatin1" = some m.cls := hown
  have hml : c.maxLocals = 2 := hml
  refine Goes.cast (ef14_RI m b (0 : Int32)) ?_
  refine G.iloadN X0 hx (pc' := 1) (hb hby d14_0) rfl rfl ?_
  refine G.aloadN X0 hx (pc' := 2) (hb hby d14_1) rfl rfl rfl ?_
  refine G.arraylength X0 hx hZ e0 Bb (pc' := 3) (hb hby d14_2) (z := zl) hzl rfl ?_
  refine G.callS X0 hx hZ (y := (⟨"java/lang/String", "checkIndex", "(II)V"⟩ : MethodName)) hown (hw _ (List.mem_of_getElem? (i := 71) rfl)) (hw _ (List.mem_of_getElem? (i := 72) rfl)) (hw _ (List.mem_of_getElem? (i := 8) rfl)) (hw _ (List.mem_of_getElem? (i := 73) rfl)) (by decide) e0 (rm := ({ frames := 1, cells := 0, slots := 0, locals := 14 } : Room)) (argsL := [(.int (0 : Int32)), (.int zl)]) (S := []) (W := 0) (rm_sci l Z a0 hw (0 : Int32) zl vf h0 SI hvf (by decide) hpos) (lenOf pd_5 rfl) rfl (Nat.le_of_eq rfl) (by decide) (by decide) (by decide) (by decide) (by rw [hml]; rfl) (hb hby d14_3) (pc' := 6) rfl ?_
  rintro T1 _ _ ⟨rfl, e1, rfl⟩ X1
  rw [List.append_nil] at X1
  show Goes p e below T1 (mkF m 6 #[.val (.ref b), .val (.int (0 : Int32))] []) _
  refine G.aloadN X1 hx (pc' := 7) (hb hby d14_6) rfl rfl rfl ?_
  refine G.iloadN X1 hx (pc' := 8) (hb hby d14_7) rfl rfl ?_
  refine G.baload X1 hx hZ e1 Bb (pc' := 9) (v := (.int (lb u0))) (hb hby d14_8) (by decide) h0x rfl ?_
  refine G.sipush X1 hx (pc' := 12) (hb hby d14_9) (z := (255 : Int32)) rfl rfl ?_
  refine G.iand X1 hx (pc' := 13) (hb hby d14_12) rfl ?_
  refine G.i2c X1 hx (pc' := 14) (hb hby d14_13) rfl ?_
  refine Goes.retN X1 hx hret (by simp) hlk (hb hby d14_14) (by decide) (by decide) ⟨congrArg (fun z => some (Value.int z)) (own_l hch hle), e1, rfl⟩
set_option maxRecDepth 65536 in
set_option maxHeartbeats 40000000 in
theorem rm_gc0 (l : Launch) (Z : State) (a0 : Array Value) (hw : ∀ d ∈ tables_1, d.before a0 Z = true) (b : Addr) (xs : List Value) (u0 : Int32) (h0 : Heap) (Bb : Seq Z h0 b .byte xs) (SA : Sta Z h0 "java/lang/StringUTF16" "$assertionsDisabled" "Z" (.int (1 : Int32))) (SH : Sta Z h0 "java/lang/StringUTF16" "HI_BYTE_SHIFT" "I" (.int (0 : Int32))) (SO : Sta Z h0 "java/lang/StringUTF16" "LO_BYTE_SHIFT" "I" (.int (8 : Int32))) (hlo : xs[0]? = some (.int (lo u0))) (hhi : xs[1]? = some (.int (hi u0))) (hch : isCh u0) :
    Con l (⟨"java/lang/StringUTF16", "getChar", "([BI)C"⟩ : MethodName) jdk_52_method_5_code 2 (some .char) ({ frames := 0, cells := 0, slots := 0, locals := 0 } : Room) Z #[(.ref b), (.int (0 : Int32))] h0 (Pur (some (.int u0)) h0) := by
  refine Con.of_body (plainFor_of_name pn_0) ?_
  intro p e s m below meth c T0 X0 hx hby hml hZ hown hnm hret hlk e0
  have hown : s.vm.findClass "java/lang/StringUTF16" = some m.cls := hown
  have hml : c.maxLocals = 2 := hml
  refine Goes.cast (ef21_RI m b (0 : Int32)) ?_
  refine G.getS X0 hx hZ hown (hw _ (List.mem_of_getElem? (i := 92) rfl)) Via.refl e0 SA (pc' := 3) (hb hby d21_0) rfl fun T1 X1 e1 => ?_
  refine G.ifT X1 hx (pc' := 28) (hb hby d21_3) (Jvm.Free.XT.i0_ne_t (by decide)) (by decide) (by decide) ?_
  refine G.iloadN X1 hx (pc' := 29) (hb hby d21_28) rfl rfl ?_
  refine G.iconst X1 hx (pc' := 30) (hb hby d21_29) (z := (1 : Int32)) rfl rfl ?_
  refine G.ishl X1 hx (pc' := 31) (hb hby d21_30) rfl ?_
  refine G.istoreN X1 hx (pc' := 32) (hb hby d21_31) (L' := #[.val (.ref b), .val (.int ((0 : Int32) <<< ((1 : Int32) &&& 31)))]) rfl rfl ?_
  show Goes p e below T1 (mkF m 32 #[.val (.ref b), .val (.int (0 : Int32))] []) _
  refine G.aloadN X1 hx (pc' := 33) (hb hby d21_32) rfl rfl rfl ?_
  refine G.iloadN X1 hx (pc' := 34) (hb hby d21_33) rfl rfl ?_
  refine G.iinc X1 hx (pc' := 37) (hb hby d21_34) rfl (L' := #[.val (.ref b), .val (.int ((0 : Int32) + (1 : Int32)))]) rfl rfl ?_
  refine G.baload X1 hx hZ e1 Bb (pc' := 38) (v := (.int (lo u0))) (hb hby d21_37) (by decide) hlo rfl ?_
  refine G.sipush X1 hx (pc' := 41) (hb hby d21_38) (z := (255 : Int32)) rfl rfl ?_
  refine G.iand X1 hx (pc' := 42) (hb hby d21_41) rfl ?_
  refine G.getS X1 hx hZ hown (hw _ (List.mem_of_getElem? (i := 93) rfl)) Via.refl e1 SH (pc' := 45) (hb hby d21_42) rfl fun T2 X2 e2 => ?_
  refine G.ishl X2 hx (pc' := 46) (hb hby d21_45) rfl ?_
  refine G.aloadN X2 hx (pc' := 47) (hb hby d21_46) rfl rfl rfl ?_
  refine G.iloadN X2 hx (pc' := 48) (hb hby d21_47) rfl rfl ?_
  show Goes p e below T2 (mkF m 48 #[.val (.ref b), .val (.int (1 : Int32))] [(.int ((0 : Int32) + (1 : Int32))), (.ref b), (.int (((lo u0) &&& (255 : Int32)) <<< ((0 : Int32) &&& 31)))]) _
  refine G.baload X2 hx hZ e2 Bb (pc' := 49) (v := (.int (hi u0))) (hb hby d21_48) (by decide) hhi rfl ?_
  refine G.sipush X2 hx (pc' := 52) (hb hby d21_49) (z := (255 : Int32)) rfl rfl ?_
  refine G.iand X2 hx (pc' := 53) (hb hby d21_52) rfl ?_
  refine G.getS X2 hx hZ hown (hw _ (List.mem_of_getElem? (i := 94) rfl)) Via.refl e2 SO (pc' := 56) (hb hby d21_53) rfl fun T3 X3 e3 => ?_
  refine G.ishl X3 hx (pc' := 57) (hb hby d21_56) rfl ?_
  refine G.ior X3 hx (pc' := 58) (hb hby d21_57) rfl ?_
  refine G.i2c X3 hx (pc' := 59) (hb hby d21_58) rfl ?_
  refine Goes.retN X3 hx hret (by simp) hlk (hb hby d21_59) (by decide) (by decide) ⟨congrArg (fun z => some (Value.int z)) (own_g hch), e3, rfl⟩
set_option maxRecDepth 65536 in
set_option maxHeartbeats 40000000 in
theorem rm_gc1 (l : Launch) (Z : State) (a0 : Array Value) (hw : ∀ d ∈ tables_1, d.before a0 Z = true) (b : Addr) (xs : List Value) (u0 : Int32) (h0 : Heap) (Bb : Seq Z h0 b .byte xs) (SA : Sta Z h0 "java/lang/StringUTF16" "$assertionsDisabled" "Z" (.int (1 : Int32))) (SH : Sta Z h0 "java/lang/StringUTF16" "HI_BYTE_SHIFT" "I" (.int (0 : Int32))) (SO : Sta Z h0 "java/lang/StringUTF16" "LO_BYTE_SHIFT" "I" (.int (8 : Int32))) (hlo : xs[2]? = some (.int (lo u0))) (hhi : xs[3]? = some (.int (hi u0))) (hch : isCh u0) :
    Con l (⟨"java/lang/StringUTF16", "getChar", "([BI)C"⟩ : MethodName) jdk_52_method_5_code 2 (some .char) ({ frames := 0, cells := 0, slots := 0, locals := 0 } : Room) Z #[(.ref b), (.int (1 : Int32))] h0 (Pur (some (.int u0)) h0) := by
  refine Con.of_body (plainFor_of_name pn_0) ?_
  intro p e s m below meth c T0 X0 hx hby hml hZ hown hnm hret hlk e0
  have hown : s.vm.findClass "java/lang/StringUTF16" = some m.cls := hown
  have hml : c.maxLocals = 2 := hml
  refine Goes.cast (ef21_RI m b (1 : Int32)) ?_
  refine G.getS X0 hx hZ hown (hw _ (List.mem_of_getElem? (i := 92) rfl)) Via.refl e0 SA (pc' := 3) (hb hby d21_0) rfl fun T1 X1 e1 => ?_
  refine G.ifT X1 hx (pc' := 28) (hb hby d21_3) (Jvm.Free.XT.i0_ne_t (by decide)) (by decide) (by decide) ?_
  refine G.iloadN X1 hx (pc' := 29) (hb hby d21_28) rfl rfl ?_
  refine G.iconst X1 hx (pc' := 30) (hb hby d21_29) (z := (1 : Int32)) rfl rfl ?_
  refine G.ishl X1 hx (pc' := 31) (hb hby d21_30) rfl ?_
  refine G.istoreN X1 hx (pc' := 32) (hb hby d21_31) (L' := #[.val (.ref b), .val (.int ((1 : Int32) <<< ((1 : Int32) &&& 31)))]) rfl rfl ?_
  show Goes p e below T1 (mkF m 32 #[.val (.ref b), .val (.int (2 : Int32))] []) _
  refine G.aloadN X1 hx (pc' := 33) (hb hby d21_32) rfl rfl rfl ?_
  refine G.iloadN X1 hx (pc' := 34) (hb hby d21_33) rfl rfl ?_
  refine G.iinc X1 hx (pc' := 37) (hb hby d21_34) rfl (L' := #[.val (.ref b), .val (.int ((2 : Int32) + (1 : Int32)))]) rfl rfl ?_
  refine G.baload X1 hx hZ e1 Bb (pc' := 38) (v := (.int (lo u0))) (hb hby d21_37) (by decide) hlo rfl ?_
  refine G.sipush X1 hx (pc' := 41) (hb hby d21_38) (z := (255 : Int32)) rfl rfl ?_
  refine G.iand X1 hx (pc' := 42) (hb hby d21_41) rfl ?_
  refine G.getS X1 hx hZ hown (hw _ (List.mem_of_getElem? (i := 93) rfl)) Via.refl e1 SH (pc' := 45) (hb hby d21_42) rfl fun T2 X2 e2 => ?_
  refine G.ishl X2 hx (pc' := 46) (hb hby d21_45) rfl ?_
  refine G.aloadN X2 hx (pc' := 47) (hb hby d21_46) rfl rfl rfl ?_
  refine G.iloadN X2 hx (pc' := 48) (hb hby d21_47) rfl rfl ?_
  show Goes p e below T2 (mkF m 48 #[.val (.ref b), .val (.int (3 : Int32))] [(.int ((2 : Int32) + (1 : Int32))), (.ref b), (.int (((lo u0) &&& (255 : Int32)) <<< ((0 : Int32) &&& 31)))]) _
  refine G.baload X2 hx hZ e2 Bb (pc' := 49) (v := (.int (hi u0))) (hb hby d21_48) (by decide) hhi rfl ?_
  refine G.sipush X2 hx (pc' := 52) (hb hby d21_49) (z := (255 : Int32)) rfl rfl ?_
  refine G.iand X2 hx (pc' := 53) (hb hby d21_52) rfl ?_
  refine G.getS X2 hx hZ hown (hw _ (List.mem_of_getElem? (i := 94) rfl)) Via.refl e2 SO (pc' := 56) (hb hby d21_53) rfl fun T3 X3 e3 => ?_
  refine G.ishl X3 hx (pc' := 57) (hb hby d21_56) rfl ?_
  refine G.ior X3 hx (pc' := 58) (hb hby d21_57) rfl ?_
  refine G.i2c X3 hx (pc' := 59) (hb hby d21_58) rfl ?_
  refine Goes.retN X3 hx hret (by simp) hlk (hb hby d21_59) (by decide) (by decide) ⟨congrArg (fun z => some (Value.int z)) (own_g hch), e3, rfl⟩
set_option maxRecDepth 65536 in
set_option maxHeartbeats 40000000 in
theorem rm_gc2 (l : Launch) (Z : State) (a0 : Array Value) (hw : ∀ d ∈ tables_1, d.before a0 Z = true) (b : Addr) (xs : List Value) (u0 : Int32) (h0 : Heap) (Bb : Seq Z h0 b .byte xs) (SA : Sta Z h0 "java/lang/StringUTF16" "$assertionsDisabled" "Z" (.int (1 : Int32))) (SH : Sta Z h0 "java/lang/StringUTF16" "HI_BYTE_SHIFT" "I" (.int (0 : Int32))) (SO : Sta Z h0 "java/lang/StringUTF16" "LO_BYTE_SHIFT" "I" (.int (8 : Int32))) (hlo : xs[4]? = some (.int (lo u0))) (hhi : xs[5]? = some (.int (hi u0))) (hch : isCh u0) :
    Con l (⟨"java/lang/StringUTF16", "getChar", "([BI)C"⟩ : MethodName) jdk_52_method_5_code 2 (some .char) ({ frames := 0, cells := 0, slots := 0, locals := 0 } : Room) Z #[(.ref b), (.int (2 : Int32))] h0 (Pur (some (.int u0)) h0) := by
  refine Con.of_body (plainFor_of_name pn_0) ?_
  intro p e s m below meth c T0 X0 hx hby hml hZ hown hnm hret hlk e0
  have hown : s.vm.findClass "java/lang/StringUTF16" = some m.cls := hown
  have hml : c.maxLocals = 2 := hml
  refine Goes.cast (ef21_RI m b (2 : Int32)) ?_
  refine G.getS X0 hx hZ hown (hw _ (List.mem_of_getElem? (i := 92) rfl)) Via.refl e0 SA (pc' := 3) (hb hby d21_0) rfl fun T1 X1 e1 => ?_
  refine G.ifT X1 hx (pc' := 28) (hb hby d21_3) (Jvm.Free.XT.i0_ne_t (by decide)) (by decide) (by decide) ?_
  refine G.iloadN X1 hx (pc' := 29) (hb hby d21_28) rfl rfl ?_
  refine G.iconst X1 hx (pc' := 30) (hb hby d21_29) (z := (1 : Int32)) rfl rfl ?_
  refine G.ishl X1 hx (pc' := 31) (hb hby d21_30) rfl ?_
  refine G.istoreN X1 hx (pc' := 32) (hb hby d21_31) (L' := #[.val (.ref b), .val (.int ((2 : Int32) <<< ((1 : Int32) &&& 31)))]) rfl rfl ?_
  show Goes p e below T1 (mkF m 32 #[.val (.ref b), .val (.int (4 : Int32))] []) _
  refine G.aloadN X1 hx (pc' := 33) (hb hby d21_32) rfl rfl rfl ?_
  refine G.iloadN X1 hx (pc' := 34) (hb hby d21_33) rfl rfl ?_
  refine G.iinc X1 hx (pc' := 37) (hb hby d21_34) rfl (L' := #[.val (.ref b), .val (.int ((4 : Int32) + (1 : Int32)))]) rfl rfl ?_
  refine G.baload X1 hx hZ e1 Bb (pc' := 38) (v := (.int (lo u0))) (hb hby d21_37) (by decide) hlo rfl ?_
  refine G.sipush X1 hx (pc' := 41) (hb hby d21_38) (z := (255 : Int32)) rfl rfl ?_
  refine G.iand X1 hx (pc' := 42) (hb hby d21_41) rfl ?_
  refine G.getS X1 hx hZ hown (hw _ (List.mem_of_getElem? (i := 93) rfl)) Via.refl e1 SH (pc' := 45) (hb hby d21_42) rfl fun T2 X2 e2 => ?_
  refine G.ishl X2 hx (pc' := 46) (hb hby d21_45) rfl ?_
  refine G.aloadN X2 hx (pc' := 47) (hb hby d21_46) rfl rfl rfl ?_
  refine G.iloadN X2 hx (pc' := 48) (hb hby d21_47) rfl rfl ?_
  show Goes p e below T2 (mkF m 48 #[.val (.ref b), .val (.int (5 : Int32))] [(.int ((4 : Int32) + (1 : Int32))), (.ref b), (.int (((lo u0) &&& (255 : Int32)) <<< ((0 : Int32) &&& 31)))]) _
  refine G.baload X2 hx hZ e2 Bb (pc' := 49) (v := (.int (hi u0))) (hb hby d21_48) (by decide) hhi rfl ?_
  refine G.sipush X2 hx (pc' := 52) (hb hby d21_49) (z := (255 : Int32)) rfl rfl ?_
  refine G.iand X2 hx (pc' := 53) (hb hby d21_52) rfl ?_
  refine G.getS X2 hx hZ hown (hw _ (List.mem_of_getElem? (i := 94) rfl)) Via.refl e2 SO (pc' := 56) (hb hby d21_53) rfl fun T3 X3 e3 => ?_
  refine G.ishl X3 hx (pc' := 57) (hb hby d21_56) rfl ?_
  refine G.ior X3 hx (pc' := 58) (hb hby d21_57) rfl ?_
  refine G.i2c X3 hx (pc' := 59) (hb hby d21_58) rfl ?_
  refine Goes.retN X3 hx hret (by simp) hlk (hb hby d21_59) (by decide) (by decide) ⟨congrArg (fun z => some (Value.int z)) (own_g hch), e3, rfl⟩
set_option maxRecDepth 65536 in
set_option maxHeartbeats 40000000 in
theorem rm_gc3 (l : Launch) (Z : State) (a0 : Array Value) (hw : ∀ d ∈ tables_1, d.before a0 Z = true) (b : Addr) (xs : List Value) (u0 : Int32) (h0 : Heap) (Bb : Seq Z h0 b .byte xs) (SA : Sta Z h0 "java/lang/StringUTF16" "$assertionsDisabled" "Z" (.int (1 : Int32))) (SH : Sta Z h0 "java/lang/StringUTF16" "HI_BYTE_SHIFT" "I" (.int (0 : Int32))) (SO : Sta Z h0 "java/lang/StringUTF16" "LO_BYTE_SHIFT" "I" (.int (8 : Int32))) (hlo : xs[6]? = some (.int (lo u0))) (hhi : xs[7]? = some (.int (hi u0))) (hch : isCh u0) :
    Con l (⟨"java/lang/StringUTF16", "getChar", "([BI)C"⟩ : MethodName) jdk_52_method_5_code 2 (some .char) ({ frames := 0, cells := 0, slots := 0, locals := 0 } : Room) Z #[(.ref b), (.int (3 : Int32))] h0 (Pur (some (.int u0)) h0) := by
  refine Con.of_body (plainFor_of_name pn_0) ?_
  intro p e s m below meth c T0 X0 hx hby hml hZ hown hnm hret hlk e0
  have hown : s.vm.findClass "java/lang/StringUTF16" = some m.cls := hown
  have hml : c.maxLocals = 2 := hml
  refine Goes.cast (ef21_RI m b (3 : Int32)) ?_
  refine G.getS X0 hx hZ hown (hw _ (List.mem_of_getElem? (i := 92) rfl)) Via.refl e0 SA (pc' := 3) (hb hby d21_0) rfl fun T1 X1 e1 => ?_
  refine G.ifT X1 hx (pc' := 28) (hb hby d21_3) (Jvm.Free.XT.i0_ne_t (by decide)) (by decide) (by decide) ?_
  refine G.iloadN X1 hx (pc' := 29) (hb hby d21_28) rfl rfl ?_
  refine G.iconst X1 hx (pc' := 30) (hb hby d21_29) (z := (1 : Int32)) rfl rfl ?_
  refine G.ishl X1 hx (pc' := 31) (hb hby d21_30) rfl ?_
  refine G.istoreN X1 hx (pc' := 32) (hb hby d21_31) (L' := #[.val (.ref b), .val (.int ((3 : Int32) <<< ((1 : Int32) &&& 31)))]) rfl rfl ?_
  show Goes p e below T1 (mkF m 32 #[.val (.ref b), .val (.int (6 : Int32))] []) _
  refine G.aloadN X1 hx (pc' := 33) (hb hby d21_32) rfl rfl rfl ?_
  refine G.iloadN X1 hx (pc' := 34) (hb hby d21_33) rfl rfl ?_
  refine G.iinc X1 hx (pc' := 37) (hb hby d21_34) rfl (L' := #[.val (.ref b), .val (.int ((6 : Int32) + (1 : Int32)))]) rfl rfl ?_
  refine G.baload X1 hx hZ e1 Bb (pc' := 38) (v := (.int (lo u0))) (hb hby d21_37) (by decide) hlo rfl ?_
  refine G.sipush X1 hx (pc' := 41) (hb hby d21_38) (z := (255 : Int32)) rfl rfl ?_
  refine G.iand X1 hx (pc' := 42) (hb hby d21_41) rfl ?_
  refine G.getS X1 hx hZ hown (hw _ (List.mem_of_getElem? (i := 93) rfl)) Via.refl e1 SH (pc' := 45) (hb hby d21_42) rfl fun T2 X2 e2 => ?_
  refine G.ishl X2 hx (pc' := 46) (hb hby d21_45) rfl ?_
  refine G.aloadN X2 hx (pc' := 47) (hb hby d21_46) rfl rfl rfl ?_
  refine G.iloadN X2 hx (pc' := 48) (hb hby d21_47) rfl rfl ?_
  show Goes p e below T2 (mkF m 48 #[.val (.ref b), .val (.int (7 : Int32))] [(.int ((6 : Int32) + (1 : Int32))), (.ref b), (.int (((lo u0) &&& (255 : Int32)) <<< ((0 : Int32) &&& 31)))]) _
  refine G.baload X2 hx hZ e2 Bb (pc' := 49) (v := (.int (hi u0))) (hb hby d21_48) (by decide) hhi rfl ?_
  refine G.sipush X2 hx (pc' := 52) (hb hby d21_49) (z := (255 : Int32)) rfl rfl ?_
  refine G.iand X2 hx (pc' := 53) (hb hby d21_52) rfl ?_
  refine G.getS X2 hx hZ hown (hw _ (List.mem_of_getElem? (i := 94) rfl)) Via.refl e2 SO (pc' := 56) (hb hby d21_53) rfl fun T3 X3 e3 => ?_
  refine G.ishl X3 hx (pc' := 57) (hb hby d21_56) rfl ?_
  refine G.ior X3 hx (pc' := 58) (hb hby d21_57) rfl ?_
  refine G.i2c X3 hx (pc' := 59) (hb hby d21_58) rfl ?_
  refine Goes.retN X3 hx hret (by simp) hlk (hb hby d21_59) (by decide) (by decide) ⟨congrArg (fun z => some (Value.int z)) (own_g hch), e3, rfl⟩
set_option maxRecDepth 65536 in
set_option maxHeartbeats 40000000 in
theorem rm_uca (l : Launch) (Z : State) (a0 : Array Value) (hw : ∀ d ∈ tables_1, d.before a0 Z = true) (b : Addr) (xs : List Value) (zl u0 : Int32) (vf : Value) (h0 : Heap) (Bb : Seq Z h0 b .byte xs) (hzl : xs.length.toInt32 = zl) (SI : Sta Z h0 "jdk/internal/util/Preconditions" "SIOOBE_FORMATTER" "Ljava/util/function/BiFunction;" vf) (hvf : vf = .null ∨ ∃ x, vf = .ref x) (SA : Sta Z h0 "java/lang/StringUTF16" "$assertionsDisabled" "Z" (.int (1 : Int32))) (SH : Sta Z h0 "java/lang/StringUTF16" "HI_BYTE_SHIFT" "I" (.int (0 : Int32))) (SO : Sta Z h0 "java/lang/StringUTF16" "LO_BYTE_SHIFT" "I" (.int (8 : Int32))) (hpos : (0 : Int32) < (zl >>> ((1 : Int32) &&& 31))) (hlo : xs[0]? = some (.int (lo u0))) (hhi : xs[1]? = some (.int (hi u0))) (hch : isCh u0) :
    Con l (⟨"java/lang/StringUTF16", "charAt", "([BI)C"⟩ : MethodName) jdk_52_method_83_code 2 (some .char) ({ frames := 3, cells := 0, slots := 0, locals := 40 } : Room) Z #[(.ref b), (.int (0 : Int32))] h0 (Pur (some (.int u0)) h0) := by
  refine Con.of_body (plainFor_of_name pn_0) ?_
  intro p e s m below meth c T0 X0 hx hby hml hZ hown hnm hret hlk e0
  have hown : s.vm.findClass "java/lang/StringUTF16" = some m.cls := hown
  have hml : c.maxLocals = 2 := hml
  refine Goes.cast (ef26_RI m b (0 : Int32)) ?_
  refine G.iloadN X0 hx (pc' := 1) (hb hby d26_0) rfl rfl ?_
  refine G.aloadN X0 hx (pc' := 2) (hb hby d26_1) rfl rfl rfl ?_
  refine G.callS X0 hx hZ (y := (⟨"java/lang/StringUTF16", "checkIndex", "(I[B)V"⟩ : MethodName)) hown (hw _ (List.mem_of_getElem? (i := 114) rfl)) (hw _ (List.mem_of_getElem? (i := 115) rfl)) (hw _ (List.mem_of_getElem? (i := 22) rfl)) (hw _ (List.mem_of_getElem? (i := 116) rfl)) (by decide) e0 (rm := ({ frames := 2, cells := 0, slots := 0, locals := 27 } : Room)) (argsL := [(.int (0 : Int32)), (.ref b)]) (S := []) (W := 0) (rm_uci l Z a0 hw (0 : Int32) b xs zl vf h0 Bb hzl SI hvf (by decide) hpos) (lenOf pd_7 rfl) rfl (Nat.le_of_eq rfl) (by decide) (by decide) (by decide) (by decide) (by rw [hml]; rfl) (hb hby d26_2) (pc' := 5) rfl ?_
  rintro T1 _ _ ⟨rfl, e1, rfl⟩ X1
  rw [List.append_nil] at X1
  show Goes p e below T1 (mkF m 5 #[.val (.ref b), .val (.int (0 : Int32))] []) _
  refine G.aloadN X1 hx (pc' := 6) (hb hby d26_5) rfl rfl rfl ?_
  refine G.iloadN X1 hx (pc' := 7) (hb hby d26_6) rfl rfl ?_
  refine G.callS X1 hx hZ (y := (⟨"java/lang/StringUTF16", "getChar", "([BI)C"⟩ : MethodName)) hown (hw _ (List.mem_of_getElem? (i := 95) rfl)) (hw _ (List.mem_of_getElem? (i := 96) rfl)) (hw _ (List.mem_of_getElem? (i := 22) rfl)) (hw _ (List.mem_of_getElem? (i := 97) rfl)) (by decide) e1 (rm := ({ frames := 0, cells := 0, slots := 0, locals := 0 } : Room)) (argsL := [(.ref b), (.int (0 : Int32))]) (S := []) (W := 0) (rm_gc0 l Z a0 hw b xs u0 h0 Bb SA SH SO hlo hhi hch) (lenOf pd_8 rfl) rfl (Nat.le_of_eq rfl) (by decide) (by decide) (by decide) (by decide) (by rw [hml]; rfl) (hb hby d26_7) (pc' := 10) rfl ?_
  rintro T2 _ _ ⟨rfl, e2, rfl⟩ X2
  rw [List.append_nil] at X2
  show Goes p e below T2 (mkF m 10 #[.val (.ref b), .val (.int (0 : Int32))] [(.int u0)]) _
  refine Goes.retN X2 hx hret (by simp) hlk (hb hby d26_10) (by decide) (by decide) ⟨congrArg (fun z => some (Value.int z)) (own_nc hch), e2, rfl⟩
set_option maxRecDepth 65536 in
set_option maxHeartbeats 40000000 in
theorem rm_isl (l : Launch) (Z : State) (a0 : Array Value) (hw : ∀ d ∈ tables_1, d.before a0 Z = true) (a b : Addr) (xs : List Value) (cd cs : Int32) (h0 : Heap) (Ea : Exa Z h0 a "java/lang/String") (Fc : Fld Z h0 a "java/lang/String" "coder" "B" (.int cd)) (Fv : Fld Z h0 a "java/lang/String" "value" "[B" (.ref b)) (Bb : Seq Z h0 b .byte xs) (SC : Sta Z h0 "java/lang/String" "COMPACT_STRINGS" "Z" (.int cs)) (hcs : ¬ cs = (0 : Int32)) :
    Con l (⟨"java/lang/String", "isLatin1", "()Z"⟩ : MethodName) jdk_42_method_154_code 1 (some .boolean) ({ frames := 0, cells := 0, slots := 0, locals := 0 } : Room) Z #[(.ref a)] h0 (Pur (some (.int (if cd = (0 : Int32) then (1 : Int32) else (0 : Int32)))) h0) := by
  refine Con.of_body (plainFor_of_name pn_3) ?_
  intro p e s m below meth c T0 X0 hx hby hml hZ hown hnm hret hlk e0
  have hown : s.vm.findClass "java/lang/String" = some m.cls := hown
  have hml : c.maxLocals = 1 := hml
  refine Goes.cast (ef13_R m a) ?_
  refine G.getS X0 hx hZ hown (hw _ (List.mem_of_getElem? (i := 19) rfl)) Via.refl e0 SC (pc' := 3) (hb hby d13_0) rfl fun T1 X1 e1 => ?_
  refine G.ifF X1 hx (pc' := 6) (hb hby d13_3) (Jvm.Free.XT.i0_eq_f hcs) rfl ?_
  refine G.aloadN X1 hx (pc' := 7) (hb hby d13_6) rfl rfl rfl ?_
  refine G.getF X1 hx hZ hown (hw _ (List.mem_of_getElem? (i := 31) rfl)) Via.refl e1 Fc (pc' := 10) (hb hby d13_7) rfl fun T2 X2 e2 => ?_
  by_cases c1 : cd = (0 : Int32)
  · refine G.ifF X2 hx (pc' := 13) (hb hby d13_10) (Jvm.Free.XT.i0_ne_f c1) rfl ?_
    refine G.iconst X2 hx (pc' := 14) (hb hby d13_13) (z := (1 : Int32)) rfl rfl ?_
    refine G.goto X2 hx (pc' := 18) (hb hby d13_14) (by decide) (by decide) ?_
    refine Goes.retN X2 hx hret (by simp) hlk (hb hby d13_18) (by decide) (by decide) ⟨by rw [if_pos c1]; rfl, e2, rfl⟩
  · refine G.ifT X2 hx (pc' := 17) (hb hby d13_10) (Jvm.Free.XT.i0_ne_t c1) (by decide) (by decide) ?_
    refine G.iconst X2 hx (pc' := 18) (hb hby d13_17) (z := (0 : Int32)) rfl rfl ?_
    refine Goes.retN X2 hx hret (by simp) hlk (hb hby d13_18) (by decide) (by decide) ⟨by rw [if_neg c1]; rfl, e2, rfl⟩
set_option maxRecDepth 65536 in
set_option maxHeartbeats 40000000 in
theorem rm_cod (l : Launch) (Z : State) (a0 : Array Value) (hw : ∀ d ∈ tables_1, d.before a0 Z = true) (a b : Addr) (xs : List Value) (cd cs : Int32) (h0 : Heap) (Ea : Exa Z h0 a "java/lang/String") (Fc : Fld Z h0 a "java/lang/String" "coder" "B" (.int cd)) (Fv : Fld Z h0 a "java/lang/String" "value" "[B" (.ref b)) (Bb : Seq Z h0 b .byte xs) (SC : Sta Z h0 "java/lang/String" "COMPACT_STRINGS" "Z" (.int cs)) (hcs : ¬ cs = (0 : Int32)) (hcd : nar .byte cd = cd) :
    Con l (⟨"java/lang/String", "coder", "()B"⟩ : MethodName) jdk_42_method_152_code 1 (some .byte) ({ frames := 0, cells := 0, slots := 0, locals := 0 } : Room) Z #[(.ref a)] h0 (Pur (some (.int cd)) h0) := by
  refine Con.of_body (plainFor_of_name pn_3) ?_
  intro p e s m below meth c T0 X0 hx hby hml hZ hown hnm hret hlk e0
  have hown : s.vm.findClass "java/lang/String" = some m.cls := hown
  have hml : c.maxLocals = 1 := hml
  refine Goes.cast (ef11_R m a) ?_
  refine G.getS X0 hx hZ hown (hw _ (List.mem_of_getElem? (i := 19) rfl)) Via.refl e0 SC (pc' := 3) (hb hby d11_0) rfl fun T1 X1 e1 => ?_
  refine G.ifF X1 hx (pc' := 6) (hb hby d11_3) (Jvm.Free.XT.i0_eq_f hcs) rfl ?_
  refine G.aloadN X1 hx (pc' := 7) (hb hby d11_6) rfl rfl rfl ?_
  refine G.getF X1 hx hZ hown (hw _ (List.mem_of_getElem? (i := 31) rfl)) Via.refl e1 Fc (pc' := 10) (hb hby d11_7) rfl fun T2 X2 e2 => ?_
  refine G.goto X2 hx (pc' := 14) (hb hby d11_10) (by decide) (by decide) ?_
  refine Goes.retN X2 hx hret (by simp) hlk (hb hby d11_14) (by decide) (by decide) ⟨congrArg (fun z => some (Value.int z)) hcd, e2, rfl⟩
set_option maxRecDepth 65536 in
set_option maxHeartbeats 40000000 in
theorem rm_len1 (l : Launch) (Z : State) (a0 : Array Value) (hw : ∀ d ∈ tables_1, d.before a0 Z = true) (a b : Addr) (xs : List Value) (cd cs : Int32) (u0 : Int32) (h0 : Heap) (Ea : Exa Z h0 a "java/lang/String") (Fc : Fld Z h0 a "java/lang/String" "coder" "B" (.int cd)) (Fv : Fld Z h0 a "java/lang/String" "value" "[B" (.ref b)) (Bb : Seq Z h0 b .byte xs) (SC : Sta Z h0 "java/lang/String" "COMPACT_STRINGS" "Z" (.int cs)) (hcs : ¬ cs = (0 : Int32)) (hq : SQ 1 u0 cd xs) :
    Con l (⟨"java/lang/String", "length", "()I"⟩ : MethodName) jdk_42_method_54_code 1 (some .int) ({ frames := 1, cells := 0, slots := 0, locals := 13 } : Room) Z #[(.ref a)] h0 (Pur (some (.int (1 : Int32))) h0) := by
  refine Con.of_body (plainFor_of_name pn_3) ?_
  intro p e s m below meth c T0 X0 hx hby hml hZ hown hnm hret hlk e0
  have hown : s.vm.findClass "java/lang/String" = some m.cls := hown
  have hml : c.maxLocals = 1 := hml
  refine Goes.cast (ef10_R m a) ?_
  rcases hq with ⟨rfl, hxl, -, -⟩ | ⟨rfl, hxl, -, -⟩
  · refine G.aloadN X0 hx (pc' := 1) (hb hby d10_0) rfl rfl rfl ?_
    refine G.getF X0 hx hZ hown (hw _ (List.mem_of_getElem? (i := 33) rfl)) Via.refl e0 Fv (pc' := 4) (hb hby d10_1) rfl fun T1 X1 e1 => ?_
    refine G.arraylength X1 hx hZ e1 Bb (pc' := 5) (hb hby d10_4) (z := (1 : Int32)) (by rw [hxl]; rfl) rfl ?_
    refine G.aloadN X1 hx (pc' := 6) (hb hby d10_5) rfl rfl rfl ?_
    refine G.callV X1 hx hZ (y0 := (⟨"java/lang/String", "coder", "()B"⟩ : MethodName)) (y := (⟨"java/lang/String", "coder", "()B"⟩ : MethodName)) hown (hw _ (List.mem_of_getElem? (i := 52) rfl)) (hw _ (List.mem_of_getElem? (i := 53) rfl)) (notFace_of_selects (args := #[]) (mvT hZ (hw _ (List.mem_of_getElem? (i := 55) rfl)))) (hw _ (List.mem_of_getElem? (i := 55) rfl)) (hw _ (List.mem_of_getElem? (i := 54) rfl)) (hw _ (List.mem_of_getElem? (i := 8) rfl)) (hw _ (List.mem_of_getElem? (i := 56) rfl)) (by decide) e1 (rm := ({ frames := 0, cells := 0, slots := 0, locals := 0 } : Room)) (argsL := []) (S := [(.int (1 : Int32))]) (W := 1) (a := a) Ea (rm_cod l Z a0 hw a b xs (0 : Int32) cs h0 Ea Fc Fv Bb SC hcs (by decide)) (lenOf pd_9 rfl) rfl (Nat.le_of_eq rfl) (by decide) (by decide) (by decide) (by decide) (by rw [hml]; rfl) (hb hby d10_6) (pc' := 9) rfl ?_
    rintro T2 _ _ ⟨rfl, e2, rfl⟩ X2
    rw [List.append_nil] at X2
    show Goes p e below T2 (mkF m 9 #[.val (.ref a)] [(.int (0 : Int32)), (.int (1 : Int32))]) _
    refine G.ishr X2 hx (pc' := 10) (hb hby d10_9) rfl ?_
    refine Goes.retI X2 hx hret hlk (hb hby d10_10) (by decide) (by decide) ⟨congrArg (fun z => some (Value.int z)) (by decide), e2, rfl⟩
  · refine G.aloadN X0 hx (pc' := 1) (hb hby d10_0) rfl rfl rfl ?_
    refine G.getF X0 hx hZ hown (hw _ (List.mem_of_getElem? (i := 33) rfl)) Via.refl e0 Fv (pc' := 4) (hb hby d10_1) rfl fun T3 X3 e3 => ?_
    refine G.arraylength X3 hx hZ e3 Bb (pc' := 5) (hb hby d10_4) (z := (2 : Int32)) (by rw [hxl]; rfl) rfl ?_
    refine G.aloadN X3 hx (pc' := 6) (hb hby d10_5) rfl rfl rfl ?_
    refine G.callV X3 hx hZ (y0 := (⟨"java/lang/String", "coder", "()B"⟩ : MethodName)) (y := (⟨"java/lang/String", "coder", "()B"⟩ : MethodName)) hown (hw _ (List.mem_of_getElem? (i := 52) rfl)) (hw _ (List.mem_of_getElem? (i := 53) rfl)) (notFace_of_selects (args := #[]) (mvT hZ (hw _ (List.mem_of_getElem? (i := 55) rfl)))) (hw _ (List.mem_of_getElem? (i := 55) rfl)) (hw _ (List.mem_of_getElem? (i := 54) rfl)) (hw _ (List.mem_of_getElem? (i := 8) rfl)) (hw _ (List.mem_of_getElem? (i := 56) rfl)) (by decide) e3 (rm := ({ frames := 0, cells := 0, slots := 0, locals := 0 } : Room)) (argsL := []) (S := [(.int (2 : Int32))]) (W := 1) (a := a) Ea (rm_cod l Z a0 hw a b xs (1 : Int32) cs h0 Ea Fc Fv Bb SC hcs (by decide)) (lenOf pd_9 rfl) rfl (Nat.le_of_eq rfl) (by decide) (by decide) (by decide) (by decide) (by rw [hml]; rfl) (hb hby d10_6) (pc' := 9) rfl ?_
    rintro T4 _ _ ⟨rfl, e4, rfl⟩ X4
    rw [List.append_nil] at X4
    show Goes p e below T4 (mkF m 9 #[.val (.ref a)] [(.int (1 : Int32)), (.int (2 : Int32))]) _
    refine G.ishr X4 hx (pc' := 10) (hb hby d10_9) rfl ?_
    refine Goes.retI X4 hx hret hlk (hb hby d10_10) (by decide) (by decide) ⟨congrArg (fun z => some (Value.int z)) (by decide), e4, rfl⟩
set_option maxRecDepth 65536 in
set_option maxHeartbeats 40000000 in
theorem rm_ise1 (l : Launch) (Z : State) (a0 : Array Value) (hw : ∀ d ∈ tables_1, d.before a0 Z = true) (a b : Addr) (xs : List Value) (cd cs : Int32) (u0 : Int32) (h0 : Heap) (Ea : Exa Z h0 a "java/lang/String") (Fc : Fld Z h0 a "java/lang/String" "coder" "B" (.int cd)) (Fv : Fld Z h0 a "java/lang/String" "value" "[B" (.ref b)) (Bb : Seq Z h0 b .byte xs) (hq : SQ 1 u0 cd xs) :
    Con l (⟨"java/lang/String", "isEmpty", "()Z"⟩ : MethodName) jdk_42_method_55_code 1 (some .boolean) ({ frames := 0, cells := 0, slots := 0, locals := 0 } : Room) Z #[(.ref a)] h0 (Pur (some (.int (0 : Int32))) h0) := by
  refine Con.of_body (plainFor_of_name pn_3) ?_
  intro p e s m below meth c T0 X0 hx hby hml hZ hown hnm hret hlk e0
  have hown : s.vm.findClass "java/lang/String" = some m.cls := hown
  have hml : c.maxLocals = 1 := hml
  refine Goes.cast (ef9_R m a) ?_
  rcases hq with ⟨rfl, hxl, -, -⟩ | ⟨rfl, hxl, -, -⟩
  · refine G.aloadN X0 hx (pc' := 1) (hb hby d9_0) rfl rfl rfl ?_
    refine G.getF X0 hx hZ hown (hw _ (List.mem_of_getElem? (i := 33) rfl)) Via.refl e0 Fv (pc' := 4) (hb hby d9_1) rfl fun T1 X1 e1 => ?_
    refine G.arraylength X1 hx hZ e1 Bb (pc' := 5) (hb hby d9_4) (z := (1 : Int32)) (by rw [hxl]; rfl) rfl ?_
    refine G.ifT X1 hx (pc' := 12) (hb hby d9_5) (Jvm.Free.XT.i0_ne_t (by decide)) (by decide) (by decide) ?_
    refine G.iconst X1 hx (pc' := 13) (hb hby d9_12) (z := (0 : Int32)) rfl rfl ?_
    refine Goes.retN X1 hx hret (by simp) hlk (hb hby d9_13) (by decide) (by decide) ⟨rfl, e1, rfl⟩
  · refine G.aloadN X0 hx (pc' := 1) (hb hby d9_0) rfl rfl rfl ?_
    refine G.getF X0 hx hZ hown (hw _ (List.mem_of_getElem? (i := 33) rfl)) Via.refl e0 Fv (pc' := 4) (hb hby d9_1) rfl fun T2 X2 e2 => ?_
    refine G.arraylength X2 hx hZ e2 Bb (pc' := 5) (hb hby d9_4) (z := (2 : Int32)) (by rw [hxl]; rfl) rfl ?_
    refine G.ifT X2 hx (pc' := 12) (hb hby d9_5) (Jvm.Free.XT.i0_ne_t (by decide)) (by decide) (by decide) ?_
    refine G.iconst X2 hx (pc' := 13) (hb hby d9_12) (z := (0 : Int32)) rfl rfl ?_
    refine Goes.retN X2 hx hret (by simp) hlk (hb hby d9_13) (by decide) (by decide) ⟨rfl, e2, rfl⟩
set_option maxRecDepth 65536 in
set_option maxHeartbeats 40000000 in
theorem rm_cha1 (l : Launch) (Z : State) (a0 : Array Value) (hw : ∀ d ∈ tables_1, d.before a0 Z = true) (a b : Addr) (xs : List Value) (cd cs : Int32) (u0 : Int32) (vf : Value) (h0 : Heap) (Ea : Exa Z h0 a "java/lang/String") (Fc : Fld Z h0 a "java/lang/String" "coder" "B" (.int cd)) (Fv : Fld Z h0 a "java/lang/String" "value" "[B" (.ref b)) (Bb : Seq Z h0 b .byte xs) (SC : Sta Z h0 "java/lang/String" "COMPACT_STRINGS" "Z" (.int cs)) (hcs : ¬ cs = (0 : Int32)) (SI : Sta Z h0 "jdk/internal/util/Preconditions" "SIOOBE_FORMATTER" "Ljava/util/function/BiFunction;" vf) (hvf : vf = .null ∨ ∃ x, vf = .ref x) (SA : Sta Z h0 "java/lang/StringUTF16" "$assertionsDisabled" "Z" (.int (1 : Int32))) (SH : Sta Z h0 "java/lang/StringUTF16" "HI_BYTE_SHIFT" "I" (.int (0 : Int32))) (SO : Sta Z h0 "java/lang/StringUTF16" "LO_BYTE_SHIFT" "I" (.int (8 : Int32))) (hq : SQ 1 u0 cd xs) (hch : isCh u0) :
    Con l (⟨"java/lang/String", "charAt", "(I)C"⟩ : MethodName) jdk_42_method_56_code 2 (some .char) ({ frames := 4, cells := 0, slots := 0, locals := 53 } : Room) Z #[(.ref a), (.int (0 : Int32))] h0 (Pur (some (.int u0)) h0) := by
  refine Con.of_body (plainFor_of_name pn_3) ?_
  intro p e s m below meth c T0 X0 hx hby hml hZ hown hnm hret hlk e0
  have hown : s.vm.findClass "java/lang/String" = some m.cls := hown
  have hml : c.maxLocals = 2 := hml
  refine Goes.cast (ef12_RI m a (0 : Int32)) ?_
  rcases hq with ⟨rfl, hxl, hx0, hle⟩ | ⟨rfl, hxl, hx0, hx1⟩
  · refine G.aloadN X0 hx (pc' := 1) (hb hby d12_0) rfl rfl rfl ?_
    refine G.callV X0 hx hZ (y0 := (⟨"java/lang/String", "isLatin1", "()Z"⟩ : MethodName)) (y := (⟨"java/lang/String", "isLatin1", "()Z"⟩ : MethodName)) hown (hw _ (List.mem_of_getElem? (i := 62) rfl)) (hw _ (List.mem_of_getElem? (i := 63) rfl)) (notFace_of_selects (args := #[]) (mvT hZ (hw _ (List.mem_of_getElem? (i := 65) rfl)))) (hw _ (List.mem_of_getElem? (i := 65) rfl)) (hw _ (List.mem_of_getElem? (i := 64) rfl)) (hw _ (List.mem_of_getElem? (i := 8) rfl)) (hw _ (List.mem_of_getElem? (i := 66) rfl)) (by decide) e0 (rm := ({ frames := 0, cells := 0, slots := 0, locals := 0 } : Room)) (argsL := []) (S := []) (W := 0) (a := a) Ea (rm_isl l Z a0 hw a b xs (0 : Int32) cs h0 Ea Fc Fv Bb SC hcs) (lenOf pd_10 rfl) rfl (Nat.le_of_eq rfl) (by decide) (by decide) (by decide) (by decide) (by rw [hml]; rfl) (hb hby d12_1) (pc' := 4) rfl ?_
    rintro T1 _ _ ⟨rfl, e1, rfl⟩ X1
    rw [List.append_nil] at X1
    show Goes p e below T1 (mkF m 4 #[.val (.ref a), .val (.int (0 : Int32))] [(.int (1 : Int32))]) _
    refine G.ifF X1 hx (pc' := 7) (hb hby d12_4) (Jvm.Free.XT.i0_eq_f (by decide)) rfl ?_
    refine G.aloadN X1 hx (pc' := 8) (hb hby d12_7) rfl rfl rfl ?_
    refine G.getF X1 hx hZ hown (hw _ (List.mem_of_getElem? (i := 33) rfl)) Via.refl e1 Fv (pc' := 11) (hb hby d12_8) rfl fun T2 X2 e2 => ?_
    refine G.iloadN X2 hx (pc' := 12) (hb hby d12_11) rfl rfl ?_
    refine G.callS X2 hx hZ (y := (⟨"java/lang/StringLatin1", "charAt", "([BI)C"⟩ : MethodName)) hown (hw _ (List.mem_of_getElem? (i := 67) rfl)) (hw _ (List.mem_of_getElem? (i := 68) rfl)) (hw _ (List.mem_of_getElem? (i := 69) rfl)) (hw _ (List.mem_of_getElem? (i := 70) rfl)) (by decide) e2 (rm := ({ frames := 2, cells := 0, slots := 0, locals := 27 } : Room)) (argsL := [(.ref b), (.int (0 : Int32))]) (S := []) (W := 0) (rm_lca l Z a0 hw b xs (1 : Int32) u0 vf h0 Bb (by rw [hxl]; rfl) SI hvf (by decide) hx0 hch hle) (lenOf pd_8 rfl) rfl (Nat.le_of_eq rfl) (by decide) (by decide) (by decide) (by decide) (by rw [hml]; rfl) (hb hby d12_12) (pc' := 15) rfl ?_
    rintro T3 _ _ ⟨rfl, e3, rfl⟩ X3
    rw [List.append_nil] at X3
    show Goes p e below T3 (mkF m 15 #[.val (.ref a), .val (.int (0 : Int32))] [(.int u0)]) _
    refine Goes.retN X3 hx hret (by simp) hlk (hb hby d12_15) (by decide) (by decide) ⟨congrArg (fun z => some (Value.int z)) (own_nc hch), e3, rfl⟩
  · refine G.aloadN X0 hx (pc' := 1) (hb hby d12_0) rfl rfl rfl ?_
    refine G.callV X0 hx hZ (y0 := (⟨"java/lang/String", "isLatin1", "()Z"⟩ : MethodName)) (y := (⟨"java/lang/String", "isLatin1", "()Z"⟩ : MethodName)) hown (hw _ (List.mem_of_getElem? (i := 62) rfl)) (hw _ (List.mem_of_getElem? (i := 63) rfl)) (notFace_of_selects (args := #[]) (mvT hZ (hw _ (List.mem_of_getElem? (i := 65) rfl)))) (hw _ (List.mem_of_getElem? (i := 65) rfl)) (hw _ (List.mem_of_getElem? (i := 64) rfl)) (hw _ (List.mem_of_getElem? (i := 8) rfl)) (hw _ (List.mem_of_getElem? (i := 66) rfl)) (by decide) e0 (rm := ({ frames := 0, cells := 0, slots := 0, locals := 0 } : Room)) (argsL := []) (S := []) (W := 0) (a := a) Ea (rm_isl l Z a0 hw a b xs (1 : Int32) cs h0 Ea Fc Fv Bb SC hcs) (lenOf pd_10 rfl) rfl (Nat.le_of_eq rfl) (by decide) (by decide) (by decide) (by decide) (by rw [hml]; rfl) (hb hby d12_1) (pc' := 4) rfl ?_
    rintro T4 _ _ ⟨rfl, e4, rfl⟩ X4
    rw [List.append_nil] at X4
    show Goes p e below T4 (mkF m 4 #[.val (.ref a), .val (.int (0 : Int32))] [(.int (0 : Int32))]) _
    refine G.ifT X4 hx (pc' := 16) (hb hby d12_4) (Jvm.Free.XT.i0_eq_t (by decide)) (by decide) (by decide) ?_
    refine G.aloadN X4 hx (pc' := 17) (hb hby d12_16) rfl rfl rfl ?_
    refine G.getF X4 hx hZ hown (hw _ (List.mem_of_getElem? (i := 33) rfl)) Via.refl e4 Fv (pc' := 20) (hb hby d12_17) rfl fun T5 X5 e5 => ?_
    refine G.iloadN X5 hx (pc' := 21) (hb hby d12_20) rfl rfl ?_
    refine G.callS X5 hx hZ (y := (⟨"java/lang/StringUTF16", "charAt", "([BI)C"⟩ : MethodName)) hown (hw _ (List.mem_of_getElem? (i := 111) rfl)) (hw _ (List.mem_of_getElem? (i := 112) rfl)) (hw _ (List.mem_of_getElem? (i := 22) rfl)) (hw _ (List.mem_of_getElem? (i := 113) rfl)) (by decide) e5 (rm := ({ frames := 3, cells := 0, slots := 0, locals := 40 } : Room)) (argsL := [(.ref b), (.int (0 : Int32))]) (S := []) (W := 0) (rm_uca l Z a0 hw b xs (2 : Int32) u0 vf h0 Bb (by rw [hxl]; rfl) SI hvf SA SH SO (by decide) hx0 hx1 hch) (lenOf pd_8 rfl) rfl (Nat.le_of_eq rfl) (by decide) (by decide) (by decide) (by decide) (by rw [hml]; rfl) (hb hby d12_21) (pc' := 24) rfl ?_
    rintro T6 _ _ ⟨rfl, e6, rfl⟩ X6
    rw [List.append_nil] at X6
    show Goes p e below T6 (mkF m 24 #[.val (.ref a), .val (.int (0 : Int32))] [(.int u0)]) _
    refine Goes.retN X6 hx hret (by simp) hlk (hb hby d12_24) (by decide) (by decide) ⟨congrArg (fun z => some (Value.int z)) (own_nc hch), e6, rfl⟩
set_option maxRecDepth 65536 in
set_option maxHeartbeats 40000000 in
theorem rm_text1 (l : Launch) (Z : State) (a0 : Array Value) (hw : ∀ d ∈ tables_1, d.before a0 Z = true) (a b : Addr) (xs : List Value) (cd cs : Int32) (wh : Addr) (u0 : Int32) (h0 : Heap) (Ea : Exa Z h0 a "java/lang/String") (Fc : Fld Z h0 a "java/lang/String" "coder" "B" (.int cd)) (Fv : Fld Z h0 a "java/lang/String" "value" "[B" (.ref b)) (Bb : Seq Z h0 b .byte xs) (hq : SQ 1 u0 cd xs) :
    Con l (⟨"com/example/bowerbird/bowerbird/Required", "text", "(Ljava/lang/String;Ljava/lang/String;)Ljava/lang/String;"⟩ : MethodName) prog_4_method_2_code 2 (some (.object "java/lang/String")) ({ frames := 1, cells := 0, slots := 0, locals := 12 } : Room) Z #[(.ref a), (.ref wh)] h0 (Pur (some (.ref a)) h0) := by
  refine Con.of_body (plainFor_of_name pn_11) ?_
  intro p e s m below meth c T0 X0 hx hby hml hZ hown hnm hret hlk e0
  have hown : s.vm.findClass "com/example/bowerbird/bowerbird/Required" = some m.cls := hown
  have hml : c.maxLocals = 2 := hml
  refine Goes.cast (ef8_RR m a wh) ?_
  refine G.aloadN X0 hx (pc' := 1) (hb hby d8_0) rfl rfl rfl ?_
  refine G.nullF X0 hx (pc' := 4) (hb hby d8_1) rfl ?_
  refine G.aloadN X0 hx (pc' := 5) (hb hby d8_4) rfl rfl rfl ?_
  refine G.callV X0 hx hZ (y0 := (⟨"java/lang/String", "isEmpty", "()Z"⟩ : MethodName)) (y := (⟨"java/lang/String", "isEmpty", "()Z"⟩ : MethodName)) hown (hw _ (List.mem_of_getElem? (i := 42) rfl)) (hw _ (List.mem_of_getElem? (i := 43) rfl)) (notFace_of_selects (args := #[]) (mvT hZ (hw _ (List.mem_of_getElem? (i := 45) rfl)))) (hw _ (List.mem_of_getElem? (i := 45) rfl)) (hw _ (List.mem_of_getElem? (i := 44) rfl)) (hw _ (List.mem_of_getElem? (i := 8) rfl)) (hw _ (List.mem_of_getElem? (i := 46) rfl)) (by decide) e0 (rm := ({ frames := 0, cells := 0, slots := 0, locals := 0 } : Room)) (argsL := []) (S := []) (W := 0) (a := a) Ea (rm_ise1 l Z a0 hw a b xs cd cs u0 h0 Ea Fc Fv Bb hq) (lenOf pd_10 rfl) rfl (Nat.le_of_eq rfl) (by decide) (by decide) (by decide) (by decide) (by rw [hml]; rfl) (hb hby d8_5) (pc' := 8) rfl ?_
  rintro T1 _ _ ⟨rfl, e1, rfl⟩ X1
  rw [List.append_nil] at X1
  show Goes p e below T1 (mkF m 8 #[.val (.ref a), .val (.ref wh)] [(.int (0 : Int32))]) _
  refine G.ifT X1 hx (pc' := 25) (hb hby d8_8) (Jvm.Free.XT.i0_eq_t rfl) (by decide) (by decide) ?_
  refine G.aloadN X1 hx (pc' := 26) (hb hby d8_25) rfl rfl rfl ?_
  refine Goes.retA X1 hx hret rfl hlk rfl rfl (hb hby d8_26) (by decide) (by decide) ⟨rfl, e1, rfl⟩
set_option maxRecDepth 65536 in
set_option maxHeartbeats 40000000 in
theorem rm_len2 (l : Launch) (Z : State) (a0 : Array Value) (hw : ∀ d ∈ tables_1, d.before a0 Z = true) (a b : Addr) (xs : List Value) (cd cs : Int32) (u0 : Int32) (h0 : Heap) (Ea : Exa Z h0 a "java/lang/String") (Fc : Fld Z h0 a "java/lang/String" "coder" "B" (.int cd)) (Fv : Fld Z h0 a "java/lang/String" "value" "[B" (.ref b)) (Bb : Seq Z h0 b .byte xs) (SC : Sta Z h0 "java/lang/String" "COMPACT_STRINGS" "Z" (.int cs)) (hcs : ¬ cs = (0 : Int32)) (hq : SQ 2 u0 cd xs) :
    Con l (⟨"java/lang/String", "length", "()I"⟩ : MethodName) jdk_42_method_54_code 1 (some .int) ({ frames := 1, cells := 0, slots := 0, locals := 13 } : Room) Z #[(.ref a)] h0 (Pur (some (.int (2 : Int32))) h0) := by
  refine Con.of_body (plainFor_of_name pn_3) ?_
  intro p e s m below meth c T0 X0 hx hby hml hZ hown hnm hret hlk e0
  have hown : s.vm.findClass "java/lang/String" = some m.cls := hown
  have hml : c.maxLocals = 1 := hml
  refine Goes.cast (ef10_R m a) ?_
  rcases hq with ⟨rfl, hxl, -, -⟩ | ⟨rfl, hxl, -, -⟩
  · refine G.aloadN X0 hx (pc' := 1) (hb hby d10_0) rfl rfl rfl ?_
    refine G.getF X0 hx hZ hown (hw _ (List.mem_of_getElem? (i := 33) rfl)) Via.refl e0 Fv (pc' := 4) (hb hby d10_1) rfl fun T1 X1 e1 => ?_
    refine G.arraylength X1 hx hZ e1 Bb (pc' := 5) (hb hby d10_4) (z := (2 : Int32)) (by rw [hxl]; rfl) rfl ?_
    refine G.aloadN X1 hx (pc' := 6) (hb hby d10_5) rfl rfl rfl ?_
    refine G.callV X1 hx hZ (y0 := (⟨"java/lang/String", "coder", "()B"⟩ : MethodName)) (y := (⟨"java/lang/String", "coder", "()B"⟩ : MethodName)) hown (hw _ (List.mem_of_getElem? (i := 52) rfl)) (hw _ (List.mem_of_getElem? (i := 53) rfl)) (notFace_of_selects (args := #[]) (mvT hZ (hw _ (List.mem_of_getElem? (i := 55) rfl)))) (hw _ (List.mem_of_getElem? (i := 55) rfl)) (hw _ (List.mem_of_getElem? (i := 54) rfl)) (hw _ (List.mem_of_getElem? (i := 8) rfl)) (hw _ (List.mem_of_getElem? (i := 56) rfl)) (by decide) e1 (rm := ({ frames := 0, cells := 0, slots := 0, locals := 0 } : Room)) (argsL := []) (S := [(.int (2 : Int32))]) (W := 1) (a := a) Ea (rm_cod l Z a0 hw a b xs (0 : Int32) cs h0 Ea Fc Fv Bb SC hcs (by decide)) (lenOf pd_9 rfl) rfl (Nat.le_of_eq rfl) (by decide) (by decide) (by decide) (by decide) (by rw [hml]; rfl) (hb hby d10_6) (pc' := 9) rfl ?_
    rintro T2 _ _ ⟨rfl, e2, rfl⟩ X2
    rw [List.append_nil] at X2
    show Goes p e below T2 (mkF m 9 #[.val (.ref a)] [(.int (0 : Int32)), (.int (2 : Int32))]) _
    refine G.ishr X2 hx (pc' := 10) (hb hby d10_9) rfl ?_
    refine Goes.retI X2 hx hret hlk (hb hby d10_10) (by decide) (by decide) ⟨congrArg (fun z => some (Value.int z)) (by decide), e2, rfl⟩
  · refine G.aloadN X0 hx (pc' := 1) (hb hby d10_0) rfl rfl rfl ?_
    refine G.getF X0 hx hZ hown (hw _ (List.mem_of_getElem? (i := 33) rfl)) Via.refl e0 Fv (pc' := 4) (hb hby d10_1) rfl fun T3 X3 e3 => ?_
    refine G.arraylength X3 hx hZ e3 Bb (pc' := 5) (hb hby d10_4) (z := (4 : Int32)) (by rw [hxl]; rfl) rfl ?_
    refine G.aloadN X3 hx (pc' := 6) (hb hby d10_5) rfl rfl rfl ?_
    refine G.callV X3 hx hZ (y0 := (⟨"java/lang/String", "coder", "()B"⟩ : MethodName)) (y := (⟨"java/lang/String", "coder", "()B"⟩ : MethodName)) hown (hw _ (List.mem_of_getElem? (i := 52) rfl)) (hw _ (List.mem_of_getElem? (i := 53) rfl)) (notFace_of_selects (args := #[]) (mvT hZ (hw _ (List.mem_of_getElem? (i := 55) rfl)))) (hw _ (List.mem_of_getElem? (i := 55) rfl)) (hw _ (List.mem_of_getElem? (i := 54) rfl)) (hw _ (List.mem_of_getElem? (i := 8) rfl)) (hw _ (List.mem_of_getElem? (i := 56) rfl)) (by decide) e3 (rm := ({ frames := 0, cells := 0, slots := 0, locals := 0 } : Room)) (argsL := []) (S := [(.int (4 : Int32))]) (W := 1) (a := a) Ea (rm_cod l Z a0 hw a b xs (1 : Int32) cs h0 Ea Fc Fv Bb SC hcs (by decide)) (lenOf pd_9 rfl) rfl (Nat.le_of_eq rfl) (by decide) (by decide) (by decide) (by decide) (by rw [hml]; rfl) (hb hby d10_6) (pc' := 9) rfl ?_
    rintro T4 _ _ ⟨rfl, e4, rfl⟩ X4
    rw [List.append_nil] at X4
    show Goes p e below T4 (mkF m 9 #[.val (.ref a)] [(.int (1 : Int32)), (.int (4 : Int32))]) _
    refine G.ishr X4 hx (pc' := 10) (hb hby d10_9) rfl ?_
    refine Goes.retI X4 hx hret hlk (hb hby d10_10) (by decide) (by decide) ⟨congrArg (fun z => some (Value.int z)) (by decide), e4, rfl⟩
set_option maxRecDepth 65536 in
set_option maxHeartbeats 40000000 in
theorem rm_ise2 (l : Launch) (Z : State) (a0 : Array Value) (hw : ∀ d ∈ tables_1, d.before a0 Z = true) (a b : Addr) (xs : List Value) (cd cs : Int32) (u0 : Int32) (h0 : Heap) (Ea : Exa Z h0 a "java/lang/String") (Fc : Fld Z h0 a "java/lang/String" "coder" "B" (.int cd)) (Fv : Fld Z h0 a "java/lang/String" "value" "[B" (.ref b)) (Bb : Seq Z h0 b .byte xs) (hq : SQ 2 u0 cd xs) :
    Con l (⟨"java/lang/String", "isEmpty", "()Z"⟩ : MethodName) jdk_42_method_55_code 1 (some .boolean) ({ frames := 0, cells := 0, slots := 0, locals := 0 } : Room) Z #[(.ref a)] h0 (Pur (some (.int (0 : Int32))) h0) := by
  refine Con.of_body (plainFor_of_name pn_3) ?_
  intro p e s m below meth c T0 X0 hx hby hml hZ hown hnm hret hlk e0
  have hown : s.vm.findClass "java/lang/String" = some m.cls := hown
  have hml : c.maxLocals = 1 := hml
  refine Goes.cast (ef9_R m a) ?_
  rcases hq with ⟨rfl, hxl, -, -⟩ | ⟨rfl, hxl, -, -⟩
  · refine G.aloadN X0 hx (pc' := 1) (hb hby d9_0) rfl rfl rfl ?_
    refine G.getF X0 hx hZ hown (hw _ (List.mem_of_getElem? (i := 33) rfl)) Via.refl e0 Fv (pc' := 4) (hb hby d9_1) rfl fun T1 X1 e1 => ?_
    refine G.arraylength X1 hx hZ e1 Bb (pc' := 5) (hb hby d9_4) (z := (2 : Int32)) (by rw [hxl]; rfl) rfl ?_
    refine G.ifT X1 hx (pc' := 12) (hb hby d9_5) (Jvm.Free.XT.i0_ne_t (by decide)) (by decide) (by decide) ?_
    refine G.iconst X1 hx (pc' := 13) (hb hby d9_12) (z := (0 : Int32)) rfl rfl ?_
    refine Goes.retN X1 hx hret (by simp) hlk (hb hby d9_13) (by decide) (by decide) ⟨rfl, e1, rfl⟩
  · refine G.aloadN X0 hx (pc' := 1) (hb hby d9_0) rfl rfl rfl ?_
    refine G.getF X0 hx hZ hown (hw _ (List.mem_of_getElem? (i := 33) rfl)) Via.refl e0 Fv (pc' := 4) (hb hby d9_1) rfl fun T2 X2 e2 => ?_
    refine G.arraylength X2 hx hZ e2 Bb (pc' := 5) (hb hby d9_4) (z := (4 : Int32)) (by rw [hxl]; rfl) rfl ?_
    refine G.ifT X2 hx (pc' := 12) (hb hby d9_5) (Jvm.Free.XT.i0_ne_t (by decide)) (by decide) (by decide) ?_
    refine G.iconst X2 hx (pc' := 13) (hb hby d9_12) (z := (0 : Int32)) rfl rfl ?_
    refine Goes.retN X2 hx hret (by simp) hlk (hb hby d9_13) (by decide) (by decide) ⟨rfl, e2, rfl⟩
set_option maxRecDepth 65536 in
set_option maxHeartbeats 40000000 in
theorem rm_cha2 (l : Launch) (Z : State) (a0 : Array Value) (hw : ∀ d ∈ tables_1, d.before a0 Z = true) (a b : Addr) (xs : List Value) (cd cs : Int32) (u0 : Int32) (vf : Value) (h0 : Heap) (Ea : Exa Z h0 a "java/lang/String") (Fc : Fld Z h0 a "java/lang/String" "coder" "B" (.int cd)) (Fv : Fld Z h0 a "java/lang/String" "value" "[B" (.ref b)) (Bb : Seq Z h0 b .byte xs) (SC : Sta Z h0 "java/lang/String" "COMPACT_STRINGS" "Z" (.int cs)) (hcs : ¬ cs = (0 : Int32)) (SI : Sta Z h0 "jdk/internal/util/Preconditions" "SIOOBE_FORMATTER" "Ljava/util/function/BiFunction;" vf) (hvf : vf = .null ∨ ∃ x, vf = .ref x) (SA : Sta Z h0 "java/lang/StringUTF16" "$assertionsDisabled" "Z" (.int (1 : Int32))) (SH : Sta Z h0 "java/lang/StringUTF16" "HI_BYTE_SHIFT" "I" (.int (0 : Int32))) (SO : Sta Z h0 "java/lang/StringUTF16" "LO_BYTE_SHIFT" "I" (.int (8 : Int32))) (hq : SQ 2 u0 cd xs) (hch : isCh u0) :
    Con l (⟨"java/lang/String", "charAt", "(I)C"⟩ : MethodName) jdk_42_method_56_code 2 (some .char) ({ frames := 4, cells := 0, slots := 0, locals := 53 } : Room) Z #[(.ref a), (.int (0 : Int32))] h0 (Pur (some (.int u0)) h0) := by
  refine Con.of_body (plainFor_of_name pn_3) ?_
  intro p e s m below meth c T0 X0 hx hby hml hZ hown hnm hret hlk e0
  have hown : s.vm.findClass "java/lang/String" = some m.cls := hown
  have hml : c.maxLocals = 2 := hml
  refine Goes.cast (ef12_RI m a (0 : Int32)) ?_
  rcases hq with ⟨rfl, hxl, hx0, hle⟩ | ⟨rfl, hxl, hx0, hx1⟩
  · refine G.aloadN X0 hx (pc' := 1) (hb hby d12_0) rfl rfl rfl ?_
    refine G.callV X0 hx hZ (y0 := (⟨"java/lang/String", "isLatin1", "()Z"⟩ : MethodName)) (y := (⟨"java/lang/String", "isLatin1", "()Z"⟩ : MethodName)) hown (hw _ (List.mem_of_getElem? (i := 62) rfl)) (hw _ (List.mem_of_getElem? (i := 63) rfl)) (notFace_of_selects (args := #[]) (mvT hZ (hw _ (List.mem_of_getElem? (i := 65) rfl)))) (hw _ (List.mem_of_getElem? (i := 65) rfl)) (hw _ (List.mem_of_getElem? (i := 64) rfl)) (hw _ (List.mem_of_getElem? (i := 8) rfl)) (hw _ (List.mem_of_getElem? (i := 66) rfl)) (by decide) e0 (rm := ({ frames := 0, cells := 0, slots := 0, locals := 0 } : Room)) (argsL := []) (S := []) (W := 0) (a := a) Ea (rm_isl l Z a0 hw a b xs (0 : Int32) cs h0 Ea Fc Fv Bb SC hcs) (lenOf pd_10 rfl) rfl (Nat.le_of_eq rfl) (by decide) (by decide) (by decide) (by decide) (by rw [hml]; rfl) (hb hby d12_1) (pc' := 4) rfl ?_
    rintro T1 _ _ ⟨rfl, e1, rfl⟩ X1
    rw [List.append_nil] at X1
    show Goes p e below T1 (mkF m 4 #[.val (.ref a), .val (.int (0 : Int32))] [(.int (1 : Int32))]) _
    refine G.ifF X1 hx (pc' := 7) (hb hby d12_4) (Jvm.Free.XT.i0_eq_f (by decide)) rfl ?_
    refine G.aloadN X1 hx (pc' := 8) (hb hby d12_7) rfl rfl rfl ?_
    refine G.getF X1 hx hZ hown (hw _ (List.mem_of_getElem? (i := 33) rfl)) Via.refl e1 Fv (pc' := 11) (hb hby d12_8) rfl fun T2 X2 e2 => ?_
    refine G.iloadN X2 hx (pc' := 12) (hb hby d12_11) rfl rfl ?_
    refine G.callS X2 hx hZ (y := (⟨"java/lang/StringLatin1", "charAt", "([BI)C"⟩ : MethodName)) hown (hw _ (List.mem_of_getElem? (i := 67) rfl)) (hw _ (List.mem_of_getElem? (i := 68) rfl)) (hw _ (List.mem_of_getElem? (i := 69) rfl)) (hw _ (List.mem_of_getElem? (i := 70) rfl)) (by decide) e2 (rm := ({ frames := 2, cells := 0, slots := 0, locals := 27 } : Room)) (argsL := [(.ref b), (.int (0 : Int32))]) (S := []) (W := 0) (rm_lca l Z a0 hw b xs (2 : Int32) u0 vf h0 Bb (by rw [hxl]; rfl) SI hvf (by decide) hx0 hch hle) (lenOf pd_8 rfl) rfl (Nat.le_of_eq rfl) (by decide) (by decide) (by decide) (by decide) (by rw [hml]; rfl) (hb hby d12_12) (pc' := 15) rfl ?_
    rintro T3 _ _ ⟨rfl, e3, rfl⟩ X3
    rw [List.append_nil] at X3
    show Goes p e below T3 (mkF m 15 #[.val (.ref a), .val (.int (0 : Int32))] [(.int u0)]) _
    refine Goes.retN X3 hx hret (by simp) hlk (hb hby d12_15) (by decide) (by decide) ⟨congrArg (fun z => some (Value.int z)) (own_nc hch), e3, rfl⟩
  · refine G.aloadN X0 hx (pc' := 1) (hb hby d12_0) rfl rfl rfl ?_
    refine G.callV X0 hx hZ (y0 := (⟨"java/lang/String", "isLatin1", "()Z"⟩ : MethodName)) (y := (⟨"java/lang/String", "isLatin1", "()Z"⟩ : MethodName)) hown (hw _ (List.mem_of_getElem? (i := 62) rfl)) (hw _ (List.mem_of_getElem? (i := 63) rfl)) (notFace_of_selects (args := #[]) (mvT hZ (hw _ (List.mem_of_getElem? (i := 65) rfl)))) (hw _ (List.mem_of_getElem? (i := 65) rfl)) (hw _ (List.mem_of_getElem? (i := 64) rfl)) (hw _ (List.mem_of_getElem? (i := 8) rfl)) (hw _ (List.mem_of_getElem? (i := 66) rfl)) (by decide) e0 (rm := ({ frames := 0, cells := 0, slots := 0, locals := 0 } : Room)) (argsL := []) (S := []) (W := 0) (a := a) Ea (rm_isl l Z a0 hw a b xs (1 : Int32) cs h0 Ea Fc Fv Bb SC hcs) (lenOf pd_10 rfl) rfl (Nat.le_of_eq rfl) (by decide) (by decide) (by decide) (by decide) (by rw [hml]; rfl) (hb hby d12_1) (pc' := 4) rfl ?_
    rintro T4 _ _ ⟨rfl, e4, rfl⟩ X4
    rw [List.append_nil] at X4
    show Goes p e below T4 (mkF m 4 #[.val (.ref a), .val (.int (0 : Int32))] [(.int (0 : Int32))]) _
    refine G.ifT X4 hx (pc' := 16) (hb hby d12_4) (Jvm.Free.XT.i0_eq_t (by decide)) (by decide) (by decide) ?_
    refine G.aloadN X4 hx (pc' := 17) (hb hby d12_16) rfl rfl rfl ?_
    refine G.getF X4 hx hZ hown (hw _ (List.mem_of_getElem? (i := 33) rfl)) Via.refl e4 Fv (pc' := 20) (hb hby d12_17) rfl fun T5 X5 e5 => ?_
    refine G.iloadN X5 hx (pc' := 21) (hb hby d12_20) rfl rfl ?_
    refine G.callS X5 hx hZ (y := (⟨"java/lang/StringUTF16", "charAt", "([BI)C"⟩ : MethodName)) hown (hw _ (List.mem_of_getElem? (i := 111) rfl)) (hw _ (List.mem_of_getElem? (i := 112) rfl)) (hw _ (List.mem_of_getElem? (i := 22) rfl)) (hw _ (List.mem_of_getElem? (i := 113) rfl)) (by decide) e5 (rm := ({ frames := 3, cells := 0, slots := 0, locals := 40 } : Room)) (argsL := [(.ref b), (.int (0 : Int32))]) (S := []) (W := 0) (rm_uca l Z a0 hw b xs (4 : Int32) u0 vf h0 Bb (by rw [hxl]; rfl) SI hvf SA SH SO (by decide) hx0 hx1 hch) (lenOf pd_8 rfl) rfl (Nat.le_of_eq rfl) (by decide) (by decide) (by decide) (by decide) (by rw [hml]; rfl) (hb hby d12_21) (pc' := 24) rfl ?_
    rintro T6 _ _ ⟨rfl, e6, rfl⟩ X6
    rw [List.append_nil] at X6
    show Goes p e below T6 (mkF m 24 #[.val (.ref a), .val (.int (0 : Int32))] [(.int u0)]) _
    refine Goes.retN X6 hx hret (by simp) hlk (hb hby d12_24) (by decide) (by decide) ⟨congrArg (fun z => some (Value.int z)) (own_nc hch), e6, rfl⟩
set_option maxRecDepth 65536 in
set_option maxHeartbeats 40000000 in
theorem rm_text2 (l : Launch) (Z : State) (a0 : Array Value) (hw : ∀ d ∈ tables_1, d.before a0 Z = true) (a b : Addr) (xs : List Value) (cd cs : Int32) (wh : Addr) (u0 : Int32) (h0 : Heap) (Ea : Exa Z h0 a "java/lang/String") (Fc : Fld Z h0 a "java/lang/String" "coder" "B" (.int cd)) (Fv : Fld Z h0 a "java/lang/String" "value" "[B" (.ref b)) (Bb : Seq Z h0 b .byte xs) (hq : SQ 2 u0 cd xs) :
    Con l (⟨"com/example/bowerbird/bowerbird/Required", "text", "(Ljava/lang/String;Ljava/lang/String;)Ljava/lang/String;"⟩ : MethodName) prog_4_method_2_code 2 (some (.object "java/lang/String")) ({ frames := 1, cells := 0, slots := 0, locals := 12 } : Room) Z #[(.ref a), (.ref wh)] h0 (Pur (some (.ref a)) h0) := by
  refine Con.of_body (plainFor_of_name pn_11) ?_
  intro p e s m below meth c T0 X0 hx hby hml hZ hown hnm hret hlk e0
  have hown : s.vm.findClass "com/example/bowerbird/bowerbird/Required" = some m.cls := hown
  have hml : c.maxLocals = 2 := hml
  refine Goes.cast (ef8_RR m a wh) ?_
  refine G.aloadN X0 hx (pc' := 1) (hb hby d8_0) rfl rfl rfl ?_
  refine G.nullF X0 hx (pc' := 4) (hb hby d8_1) rfl ?_
  refine G.aloadN X0 hx (pc' := 5) (hb hby d8_4) rfl rfl rfl ?_
  refine G.callV X0 hx hZ (y0 := (⟨"java/lang/String", "isEmpty", "()Z"⟩ : MethodName)) (y := (⟨"java/lang/String", "isEmpty", "()Z"⟩ : MethodName)) hown (hw _ (List.mem_of_getElem? (i := 42) rfl)) (hw _ (List.mem_of_getElem? (i := 43) rfl)) (notFace_of_selects (args := #[]) (mvT hZ (hw _ (List.mem_of_getElem? (i := 45) rfl)))) (hw _ (List.mem_of_getElem? (i := 45) rfl)) (hw _ (List.mem_of_getElem? (i := 44) rfl)) (hw _ (List.mem_of_getElem? (i := 8) rfl)) (hw _ (List.mem_of_getElem? (i := 46) rfl)) (by decide) e0 (rm := ({ frames := 0, cells := 0, slots := 0, locals := 0 } : Room)) (argsL := []) (S := []) (W := 0) (a := a) Ea (rm_ise2 l Z a0 hw a b xs cd cs u0 h0 Ea Fc Fv Bb hq) (lenOf pd_10 rfl) rfl (Nat.le_of_eq rfl) (by decide) (by decide) (by decide) (by decide) (by rw [hml]; rfl) (hb hby d8_5) (pc' := 8) rfl ?_
  rintro T1 _ _ ⟨rfl, e1, rfl⟩ X1
  rw [List.append_nil] at X1
  show Goes p e below T1 (mkF m 8 #[.val (.ref a), .val (.ref wh)] [(.int (0 : Int32))]) _
  refine G.ifT X1 hx (pc' := 25) (hb hby d8_8) (Jvm.Free.XT.i0_eq_t rfl) (by decide) (by decide) ?_
  refine G.aloadN X1 hx (pc' := 26) (hb hby d8_25) rfl rfl rfl ?_
  refine Goes.retA X1 hx hret rfl hlk rfl rfl (hb hby d8_26) (by decide) (by decide) ⟨rfl, e1, rfl⟩
set_option maxRecDepth 65536 in
set_option maxHeartbeats 40000000 in
theorem rm_len3 (l : Launch) (Z : State) (a0 : Array Value) (hw : ∀ d ∈ tables_1, d.before a0 Z = true) (a b : Addr) (xs : List Value) (cd cs : Int32) (u0 : Int32) (h0 : Heap) (Ea : Exa Z h0 a "java/lang/String") (Fc : Fld Z h0 a "java/lang/String" "coder" "B" (.int cd)) (Fv : Fld Z h0 a "java/lang/String" "value" "[B" (.ref b)) (Bb : Seq Z h0 b .byte xs) (SC : Sta Z h0 "java/lang/String" "COMPACT_STRINGS" "Z" (.int cs)) (hcs : ¬ cs = (0 : Int32)) (hq : SQ 3 u0 cd xs) :
    Con l (⟨"java/lang/String", "length", "()I"⟩ : MethodName) jdk_42_method_54_code 1 (some .int) ({ frames := 1, cells := 0, slots := 0, locals := 13 } : Room) Z #[(.ref a)] h0 (Pur (some (.int (3 : Int32))) h0) := by
  refine Con.of_body (plainFor_of_name pn_3) ?_
  intro p e s m below meth c T0 X0 hx hby hml hZ hown hnm hret hlk e0
  have hown : s.vm.findClass "java/lang/String" = some m.cls := hown
  have hml : c.maxLocals = 1 := hml
  refine Goes.cast (ef10_R m a) ?_
  rcases hq with ⟨rfl, hxl, -, -⟩ | ⟨rfl, hxl, -, -⟩
  · refine G.aloadN X0 hx (pc' := 1) (hb hby d10_0) rfl rfl rfl ?_
    refine G.getF X0 hx hZ hown (hw _ (List.mem_of_getElem? (i := 33) rfl)) Via.refl e0 Fv (pc' := 4) (hb hby d10_1) rfl fun T1 X1 e1 => ?_
    refine G.arraylength X1 hx hZ e1 Bb (pc' := 5) (hb hby d10_4) (z := (3 : Int32)) (by rw [hxl]; rfl) rfl ?_
    refine G.aloadN X1 hx (pc' := 6) (hb hby d10_5) rfl rfl rfl ?_
    refine G.callV X1 hx hZ (y0 := (⟨"java/lang/String", "coder", "()B"⟩ : MethodName)) (y := (⟨"java/lang/String", "coder", "()B"⟩ : MethodName)) hown (hw _ (List.mem_of_getElem? (i := 52) rfl)) (hw _ (List.mem_of_getElem? (i := 53) rfl)) (notFace_of_selects (args := #[]) (mvT hZ (hw _ (List.mem_of_getElem? (i := 55) rfl)))) (hw _ (List.mem_of_getElem? (i := 55) rfl)) (hw _ (List.mem_of_getElem? (i := 54) rfl)) (hw _ (List.mem_of_getElem? (i := 8) rfl)) (hw _ (List.mem_of_getElem? (i := 56) rfl)) (by decide) e1 (rm := ({ frames := 0, cells := 0, slots := 0, locals := 0 } : Room)) (argsL := []) (S := [(.int (3 : Int32))]) (W := 1) (a := a) Ea (rm_cod l Z a0 hw a b xs (0 : Int32) cs h0 Ea Fc Fv Bb SC hcs (by decide)) (lenOf pd_9 rfl) rfl (Nat.le_of_eq rfl) (by decide) (by decide) (by decide) (by decide) (by rw [hml]; rfl) (hb hby d10_6) (pc' := 9) rfl ?_
    rintro T2 _ _ ⟨rfl, e2, rfl⟩ X2
    rw [List.append_nil] at X2
    show Goes p e below T2 (mkF m 9 #[.val (.ref a)] [(.int (0 : Int32)), (.int (3 : Int32))]) _
    refine G.ishr X2 hx (pc' := 10) (hb hby d10_9) rfl ?_
    refine Goes.retI X2 hx hret hlk (hb hby d10_10) (by decide) (by decide) ⟨congrArg (fun z => some (Value.int z)) (by decide), e2, rfl⟩
  · refine G.aloadN X0 hx (pc' := 1) (hb hby d10_0) rfl rfl rfl ?_
    refine G.getF X0 hx hZ hown (hw _ (List.mem_of_getElem? (i := 33) rfl)) Via.refl e0 Fv (pc' := 4) (hb hby d10_1) rfl fun T3 X3 e3 => ?_
    refine G.arraylength X3 hx hZ e3 Bb (pc' := 5) (hb hby d10_4) (z := (6 : Int32)) (by rw [hxl]; rfl) rfl ?_
    refine G.aloadN X3 hx (pc' := 6) (hb hby d10_5) rfl rfl rfl ?_
    refine G.callV X3 hx hZ (y0 := (⟨"java/lang/String", "coder", "()B"⟩ : MethodName)) (y := (⟨"java/lang/String", "coder", "()B"⟩ : MethodName)) hown (hw _ (List.mem_of_getElem? (i := 52) rfl)) (hw _ (List.mem_of_getElem? (i := 53) rfl)) (notFace_of_selects (args := #[]) (mvT hZ (hw _ (List.mem_of_getElem? (i := 55) rfl)))) (hw _ (List.mem_of_getElem? (i := 55) rfl)) (hw _ (List.mem_of_getElem? (i := 54) rfl)) (hw _ (List.mem_of_getElem? (i := 8) rfl)) (hw _ (List.mem_of_getElem? (i := 56) rfl)) (by decide) e3 (rm := ({ frames := 0, cells := 0, slots := 0, locals := 0 } : Room)) (argsL := []) (S := [(.int (6 : Int32))]) (W := 1) (a := a) Ea (rm_cod l Z a0 hw a b xs (1 : Int32) cs h0 Ea Fc Fv Bb SC hcs (by decide)) (lenOf pd_9 rfl) rfl (Nat.le_of_eq rfl) (by decide) (by decide) (by decide) (by decide) (by rw [hml]; rfl) (hb hby d10_6) (pc' := 9) rfl ?_
    rintro T4 _ _ ⟨rfl, e4, rfl⟩ X4
    rw [List.append_nil] at X4
    show Goes p e below T4 (mkF m 9 #[.val (.ref a)] [(.int (1 : Int32)), (.int (6 : Int32))]) _
    refine G.ishr X4 hx (pc' := 10) (hb hby d10_9) rfl ?_
    refine Goes.retI X4 hx hret hlk (hb hby d10_10) (by decide) (by decide) ⟨congrArg (fun z => some (Value.int z)) (by decide), e4, rfl⟩
set_option maxRecDepth 65536 in
set_option maxHeartbeats 40000000 in
theorem rm_ise3 (l : Launch) (Z : State) (a0 : Array Value) (hw : ∀ d ∈ tables_1, d.before a0 Z = true) (a b : Addr) (xs : List Value) (cd cs : Int32) (u0 : Int32) (h0 : Heap) (Ea : Exa Z h0 a "java/lang/String") (Fc : Fld Z h0 a "java/lang/String" "coder" "B" (.int cd)) (Fv : Fld Z h0 a "java/lang/String" "value" "[B" (.ref b)) (Bb : Seq Z h0 b .byte xs) (hq : SQ 3 u0 cd xs) :
    Con l (⟨"java/lang/String", "isEmpty", "()Z"⟩ : MethodName) jdk_42_method_55_code 1 (some .boolean) ({ frames := 0, cells := 0, slots := 0, locals := 0 } : Room) Z #[(.ref a)] h0 (Pur (some (.int (0 : Int32))) h0) := by
  refine Con.of_body (plainFor_of_name pn_3) ?_
  intro p e s m below meth c T0 X0 hx hby hml hZ hown hnm hret hlk e0
  have hown : s.vm.findClass "java/lang/String" = some m.cls := hown
  have hml : c.maxLocals = 1 := hml
  refine Goes.cast (ef9_R m a) ?_
  rcases hq with ⟨rfl, hxl, -, -⟩ | ⟨rfl, hxl, -, -⟩
  · refine G.aloadN X0 hx (pc' := 1) (hb hby d9_0) rfl rfl rfl ?_
    refine G.getF X0 hx hZ hown (hw _ (List.mem_of_getElem? (i := 33) rfl)) Via.refl e0 Fv (pc' := 4) (hb hby d9_1) rfl fun T1 X1 e1 => ?_
    refine G.arraylength X1 hx hZ e1 Bb (pc' := 5) (hb hby d9_4) (z := (3 : Int32)) (by rw [hxl]; rfl) rfl ?_
    refine G.ifT X1 hx (pc' := 12) (hb hby d9_5) (Jvm.Free.XT.i0_ne_t (by decide)) (by decide) (by decide) ?_
    refine G.iconst X1 hx (pc' := 13) (hb hby d9_12) (z := (0 : Int32)) rfl rfl ?_
    refine Goes.retN X1 hx hret (by simp) hlk (hb hby d9_13) (by decide) (by decide) ⟨rfl, e1, rfl⟩
  · refine G.aloadN X0 hx (pc' := 1) (hb hby d9_0) rfl rfl rfl ?_
    refine G.getF X0 hx hZ hown (hw _ (List.mem_of_getElem? (i := 33) rfl)) Via.refl e0 Fv (pc' := 4) (hb hby d9_1) rfl fun T2 X2 e2 => ?_
    refine G.arraylength X2 hx hZ e2 Bb (pc' := 5) (hb hby d9_4) (z := (6 : Int32)) (by rw [hxl]; rfl) rfl ?_
    refine G.ifT X2 hx (pc' := 12) (hb hby d9_5) (Jvm.Free.XT.i0_ne_t (by decide)) (by decide) (by decide) ?_
    refine G.iconst X2 hx (pc' := 13) (hb hby d9_12) (z := (0 : Int32)) rfl rfl ?_
    refine Goes.retN X2 hx hret (by simp) hlk (hb hby d9_13) (by decide) (by decide) ⟨rfl, e2, rfl⟩
set_option maxRecDepth 65536 in
set_option maxHeartbeats 40000000 in
theorem rm_cha3 (l : Launch) (Z : State) (a0 : Array Value) (hw : ∀ d ∈ tables_1, d.before a0 Z = true) (a b : Addr) (xs : List Value) (cd cs : Int32) (u0 : Int32) (vf : Value) (h0 : Heap) (Ea : Exa Z h0 a "java/lang/String") (Fc : Fld Z h0 a "java/lang/String" "coder" "B" (.int cd)) (Fv : Fld Z h0 a "java/lang/String" "value" "[B" (.ref b)) (Bb : Seq Z h0 b .byte xs) (SC : Sta Z h0 "java/lang/String" "COMPACT_STRINGS" "Z" (.int cs)) (hcs : ¬ cs = (0 : Int32)) (SI : Sta Z h0 "jdk/internal/util/Preconditions" "SIOOBE_FORMATTER" "Ljava/util/function/BiFunction;" vf) (hvf : vf = .null ∨ ∃ x, vf = .ref x) (SA : Sta Z h0 "java/lang/StringUTF16" "$assertionsDisabled" "Z" (.int (1 : Int32))) (SH : Sta Z h0 "java/lang/StringUTF16" "HI_BYTE_SHIFT" "I" (.int (0 : Int32))) (SO : Sta Z h0 "java/lang/StringUTF16" "LO_BYTE_SHIFT" "I" (.int (8 : Int32))) (hq : SQ 3 u0 cd xs) (hch : isCh u0) :
    Con l (⟨"java/lang/String", "charAt", "(I)C"⟩ : MethodName) jdk_42_method_56_code 2 (some .char) ({ frames := 4, cells := 0, slots := 0, locals := 53 } : Room) Z #[(.ref a), (.int (0 : Int32))] h0 (Pur (some (.int u0)) h0) := by
  refine Con.of_body (plainFor_of_name pn_3) ?_
  intro p e s m below meth c T0 X0 hx hby hml hZ hown hnm hret hlk e0
  have hown : s.vm.findClass "java/lang/String" = some m.cls := hown
  have hml : c.maxLocals = 2 := hml
  refine Goes.cast (ef12_RI m a (0 : Int32)) ?_
  rcases hq with ⟨rfl, hxl, hx0, hle⟩ | ⟨rfl, hxl, hx0, hx1⟩
  · refine G.aloadN X0 hx (pc' := 1) (hb hby d12_0) rfl rfl rfl ?_
    refine G.callV X0 hx hZ (y0 := (⟨"java/lang/String", "isLatin1", "()Z"⟩ : MethodName)) (y := (⟨"java/lang/String", "isLatin1", "()Z"⟩ : MethodName)) hown (hw _ (List.mem_of_getElem? (i := 62) rfl)) (hw _ (List.mem_of_getElem? (i := 63) rfl)) (notFace_of_selects (args := #[]) (mvT hZ (hw _ (List.mem_of_getElem? (i := 65) rfl)))) (hw _ (List.mem_of_getElem? (i := 65) rfl)) (hw _ (List.mem_of_getElem? (i := 64) rfl)) (hw _ (List.mem_of_getElem? (i := 8) rfl)) (hw _ (List.mem_of_getElem? (i := 66) rfl)) (by decide) e0 (rm := ({ frames := 0, cells := 0, slots := 0, locals := 0 } : Room)) (argsL := []) (S := []) (W := 0) (a := a) Ea (rm_isl l Z a0 hw a b xs (0 : Int32) cs h0 Ea Fc Fv Bb SC hcs) (lenOf pd_10 rfl) rfl (Nat.le_of_eq rfl) (by decide) (by decide) (by decide) (by decide) (by rw [hml]; rfl) (hb hby d12_1) (pc' := 4) rfl ?_
    rintro T1 _ _ ⟨rfl, e1, rfl⟩ X1
    rw [List.append_nil] at X1
    show Goes p e below T1 (mkF m 4 #[.val (.ref a), .val (.int (0 : Int32))] [(.int (1 : Int32))]) _
    refine G.ifF X1 hx (pc' := 7) (hb hby d12_4) (Jvm.Free.XT.i0_eq_f (by decide)) rfl ?_
    refine G.aloadN X1 hx (pc' := 8) (hb hby d12_7) rfl rfl rfl ?_
    refine G.getF X1 hx hZ hown (hw _ (List.mem_of_getElem? (i := 33) rfl)) Via.refl e1 Fv (pc' := 11) (hb hby d12_8) rfl fun T2 X2 e2 => ?_
    refine G.iloadN X2 hx (pc' := 12) (hb hby d12_11) rfl rfl ?_
    refine G.callS X2 hx hZ (y := (⟨"java/lang/StringLatin1", "charAt", "([BI)C"⟩ : MethodName)) hown (hw _ (List.mem_of_getElem? (i := 67) rfl)) (hw _ (List.mem_of_getElem? (i := 68) rfl)) (hw _ (List.mem_of_getElem? (i := 69) rfl)) (hw _ (List.mem_of_getElem? (i := 70) rfl)) (by decide) e2 (rm := ({ frames := 2, cells := 0, slots := 0, locals := 27 } : Room)) (argsL := [(.ref b), (.int (0 : Int32))]) (S := []) (W := 0) (rm_lca l Z a0 hw b xs (3 : Int32) u0 vf h0 Bb (by rw [hxl]; rfl) SI hvf (by decide) hx0 hch hle) (lenOf pd_8 rfl) rfl (Nat.le_of_eq rfl) (by decide) (by decide) (by decide) (by decide) (by rw [hml]; rfl) (hb hby d12_12) (pc' := 15) rfl ?_
    rintro T3 _ _ ⟨rfl, e3, rfl⟩ X3
    rw [List.append_nil] at X3
    show Goes p e below T3 (mkF m 15 #[.val (.ref a), .val (.int (0 : Int32))] [(.int u0)]) _
    refine Goes.retN X3 hx hret (by simp) hlk (hb hby d12_15) (by decide) (by decide) ⟨congrArg (fun z => some (Value.int z)) (own_nc hch), e3, rfl⟩
  · refine G.aloadN X0 hx (pc' := 1) (hb hby d12_0) rfl rfl rfl ?_
    refine G.callV X0 hx hZ (y0 := (⟨"java/lang/String", "isLatin1", "()Z"⟩ : MethodName)) (y := (⟨"java/lang/String", "isLatin1", "()Z"⟩ : MethodName)) hown (hw _ (List.mem_of_getElem? (i := 62) rfl)) (hw _ (List.mem_of_getElem? (i := 63) rfl)) (notFace_of_selects (args := #[]) (mvT hZ (hw _ (List.mem_of_getElem? (i := 65) rfl)))) (hw _ (List.mem_of_getElem? (i := 65) rfl)) (hw _ (List.mem_of_getElem? (i := 64) rfl)) (hw _ (List.mem_of_getElem? (i := 8) rfl)) (hw _ (List.mem_of_getElem? (i := 66) rfl)) (by decide) e0 (rm := ({ frames := 0, cells := 0, slots := 0, locals := 0 } : Room)) (argsL := []) (S := []) (W := 0) (a := a) Ea (rm_isl l Z a0 hw a b xs (1 : Int32) cs h0 Ea Fc Fv Bb SC hcs) (lenOf pd_10 rfl) rfl (Nat.le_of_eq rfl) (by decide) (by decide) (by decide) (by decide) (by rw [hml]; rfl) (hb hby d12_1) (pc' := 4) rfl ?_
    rintro T4 _ _ ⟨rfl, e4, rfl⟩ X4
    rw [List.append_nil] at X4
    show Goes p e below T4 (mkF m 4 #[.val (.ref a), .val (.int (0 : Int32))] [(.int (0 : Int32))]) _
    refine G.ifT X4 hx (pc' := 16) (hb hby d12_4) (Jvm.Free.XT.i0_eq_t (by decide)) (by decide) (by decide) ?_
    refine G.aloadN X4 hx (pc' := 17) (hb hby d12_16) rfl rfl rfl ?_
    refine G.getF X4 hx hZ hown (hw _ (List.mem_of_getElem? (i := 33) rfl)) Via.refl e4 Fv (pc' := 20) (hb hby d12_17) rfl fun T5 X5 e5 => ?_
    refine G.iloadN X5 hx (pc' := 21) (hb hby d12_20) rfl rfl ?_
    refine G.callS X5 hx hZ (y := (⟨"java/lang/StringUTF16", "charAt", "([BI)C"⟩ : MethodName)) hown (hw _ (List.mem_of_getElem? (i := 111) rfl)) (hw _ (List.mem_of_getElem? (i := 112) rfl)) (hw _ (List.mem_of_getElem? (i := 22) rfl)) (hw _ (List.mem_of_getElem? (i := 113) rfl)) (by decide) e5 (rm := ({ frames := 3, cells := 0, slots := 0, locals := 40 } : Room)) (argsL := [(.ref b), (.int (0 : Int32))]) (S := []) (W := 0) (rm_uca l Z a0 hw b xs (6 : Int32) u0 vf h0 Bb (by rw [hxl]; rfl) SI hvf SA SH SO (by decide) hx0 hx1 hch) (lenOf pd_8 rfl) rfl (Nat.le_of_eq rfl) (by decide) (by decide) (by decide) (by decide) (by rw [hml]; rfl) (hb hby d12_21) (pc' := 24) rfl ?_
    rintro T6 _ _ ⟨rfl, e6, rfl⟩ X6
    rw [List.append_nil] at X6
    show Goes p e below T6 (mkF m 24 #[.val (.ref a), .val (.int (0 : Int32))] [(.int u0)]) _
    refine Goes.retN X6 hx hret (by simp) hlk (hb hby d12_24) (by decide) (by decide) ⟨congrArg (fun z => some (Value.int z)) (own_nc hch), e6, rfl⟩
set_option maxRecDepth 65536 in
set_option maxHeartbeats 40000000 in
theorem rm_text3 (l : Launch) (Z : State) (a0 : Array Value) (hw : ∀ d ∈ tables_1, d.before a0 Z = true) (a b : Addr) (xs : List Value) (cd cs : Int32) (wh : Addr) (u0 : Int32) (h0 : Heap) (Ea : Exa Z h0 a "java/lang/String") (Fc : Fld Z h0 a "java/lang/String" "coder" "B" (.int cd)) (Fv : Fld Z h0 a "java/lang/String" "value" "[B" (.ref b)) (Bb : Seq Z h0 b .byte xs) (hq : SQ 3 u0 cd xs) :
    Con l (⟨"com/example/bowerbird/bowerbird/Required", "text", "(Ljava/lang/String;Ljava/lang/String;)Ljava/lang/String;"⟩ : MethodName) prog_4_method_2_code 2 (some (.object "java/lang/String")) ({ frames := 1, cells := 0, slots := 0, locals := 12 } : Room) Z #[(.ref a), (.ref wh)] h0 (Pur (some (.ref a)) h0) := by
  refine Con.of_body (plainFor_of_name pn_11) ?_
  intro p e s m below meth c T0 X0 hx hby hml hZ hown hnm hret hlk e0
  have hown : s.vm.findClass "com/example/bowerbird/bowerbird/Required" = some m.cls := hown
  have hml : c.maxLocals = 2 := hml
  refine Goes.cast (ef8_RR m a wh) ?_
  refine G.aloadN X0 hx (pc' := 1) (hb hby d8_0) rfl rfl rfl ?_
  refine G.nullF X0 hx (pc' := 4) (hb hby d8_1) rfl ?_
  refine G.aloadN X0 hx (pc' := 5) (hb hby d8_4) rfl rfl rfl ?_
  refine G.callV X0 hx hZ (y0 := (⟨"java/lang/String", "isEmpty", "()Z"⟩ : MethodName)) (y := (⟨"java/lang/String", "isEmpty", "()Z"⟩ : MethodName)) hown (hw _ (List.mem_of_getElem? (i := 42) rfl)) (hw _ (List.mem_of_getElem? (i := 43) rfl)) (notFace_of_selects (args := #[]) (mvT hZ (hw _ (List.mem_of_getElem? (i := 45) rfl)))) (hw _ (List.mem_of_getElem? (i := 45) rfl)) (hw _ (List.mem_of_getElem? (i := 44) rfl)) (hw _ (List.mem_of_getElem? (i := 8) rfl)) (hw _ (List.mem_of_getElem? (i := 46) rfl)) (by decide) e0 (rm := ({ frames := 0, cells := 0, slots := 0, locals := 0 } : Room)) (argsL := []) (S := []) (W := 0) (a := a) Ea (rm_ise3 l Z a0 hw a b xs cd cs u0 h0 Ea Fc Fv Bb hq) (lenOf pd_10 rfl) rfl (Nat.le_of_eq rfl) (by decide) (by decide) (by decide) (by decide) (by rw [hml]; rfl) (hb hby d8_5) (pc' := 8) rfl ?_
  rintro T1 _ _ ⟨rfl, e1, rfl⟩ X1
  rw [List.append_nil] at X1
  show Goes p e below T1 (mkF m 8 #[.val (.ref a), .val (.ref wh)] [(.int (0 : Int32))]) _
  refine G.ifT X1 hx (pc' := 25) (hb hby d8_8) (Jvm.Free.XT.i0_eq_t rfl) (by decide) (by decide) ?_
  refine G.aloadN X1 hx (pc' := 26) (hb hby d8_25) rfl rfl rfl ?_
  refine Goes.retA X1 hx hret rfl hlk rfl rfl (hb hby d8_26) (by decide) (by decide) ⟨rfl, e1, rfl⟩
set_option maxRecDepth 65536 in
set_option maxHeartbeats 40000000 in
theorem rm_len4 (l : Launch) (Z : State) (a0 : Array Value) (hw : ∀ d ∈ tables_1, d.before a0 Z = true) (a b : Addr) (xs : List Value) (cd cs : Int32) (u0 : Int32) (h0 : Heap) (Ea : Exa Z h0 a "java/lang/String") (Fc : Fld Z h0 a "java/lang/String" "coder" "B" (.int cd)) (Fv : Fld Z h0 a "java/lang/String" "value" "[B" (.ref b)) (Bb : Seq Z h0 b .byte xs) (SC : Sta Z h0 "java/lang/String" "COMPACT_STRINGS" "Z" (.int cs)) (hcs : ¬ cs = (0 : Int32)) (hq : SQ 4 u0 cd xs) :
    Con l (⟨"java/lang/String", "length", "()I"⟩ : MethodName) jdk_42_method_54_code 1 (some .int) ({ frames := 1, cells := 0, slots := 0, locals := 13 } : Room) Z #[(.ref a)] h0 (Pur (some (.int (4 : Int32))) h0) := by
  refine Con.of_body (plainFor_of_name pn_3) ?_
  intro p e s m below meth c T0 X0 hx hby hml hZ hown hnm hret hlk e0
  have hown : s.vm.findClass "java/lang/String" = some m.cls := hown
  have hml : c.maxLocals = 1 := hml
  refine Goes.cast (ef10_R m a) ?_
  rcases hq with ⟨rfl, hxl, -, -⟩ | ⟨rfl, hxl, -, -⟩
  · refine G.aloadN X0 hx (pc' := 1) (hb hby d10_0) rfl rfl rfl ?_
    refine G.getF X0 hx hZ hown (hw _ (List.mem_of_getElem? (i := 33) rfl)) Via.refl e0 Fv (pc' := 4) (hb hby d10_1) rfl fun T1 X1 e1 => ?_
    refine G.arraylength X1 hx hZ e1 Bb (pc' := 5) (hb hby d10_4) (z := (4 : Int32)) (by rw [hxl]; rfl) rfl ?_
    refine G.aloadN X1 hx (pc' := 6) (hb hby d10_5) rfl rfl rfl ?_
    refine G.callV X1 hx hZ (y0 := (⟨"java/lang/String", "coder", "()B"⟩ : MethodName)) (y := (⟨"java/lang/String", "coder", "()B"⟩ : MethodName)) hown (hw _ (List.mem_of_getElem? (i := 52) rfl)) (hw _ (List.mem_of_getElem? (i := 53) rfl)) (notFace_of_selects (args := #[]) (mvT hZ (hw _ (List.mem_of_getElem? (i := 55) rfl)))) (hw _ (List.mem_of_getElem? (i := 55) rfl)) (hw _ (List.mem_of_getElem? (i := 54) rfl)) (hw _ (List.mem_of_getElem? (i := 8) rfl)) (hw _ (List.mem_of_getElem? (i := 56) rfl)) (by decide) e1 (rm := ({ frames := 0, cells := 0, slots := 0, locals := 0 } : Room)) (argsL := []) (S := [(.int (4 : Int32))]) (W := 1) (a := a) Ea (rm_cod l Z a0 hw a b xs (0 : Int32) cs h0 Ea Fc Fv Bb SC hcs (by decide)) (lenOf pd_9 rfl) rfl (Nat.le_of_eq rfl) (by decide) (by decide) (by decide) (by decide) (by rw [hml]; rfl) (hb hby d10_6) (pc' := 9) rfl ?_
    rintro T2 _ _ ⟨rfl, e2, rfl⟩ X2
    rw [List.append_nil] at X2
    show Goes p e below T2 (mkF m 9 #[.val (.ref a)] [(.int (0 : Int32)), (.int (4 : Int32))]) _
    refine G.ishr X2 hx (pc' := 10) (hb hby d10_9) rfl ?_
    refine Goes.retI X2 hx hret hlk (hb hby d10_10) (by decide) (by decide) ⟨congrArg (fun z => some (Value.int z)) (by decide), e2, rfl⟩
  · refine G.aloadN X0 hx (pc' := 1) (hb hby d10_0) rfl rfl rfl ?_
    refine G.getF X0 hx hZ hown (hw _ (List.mem_of_getElem? (i := 33) rfl)) Via.refl e0 Fv (pc' := 4) (hb hby d10_1) rfl fun T3 X3 e3 => ?_
    refine G.arraylength X3 hx hZ e3 Bb (pc' := 5) (hb hby d10_4) (z := (8 : Int32)) (by rw [hxl]; rfl) rfl ?_
    refine G.aloadN X3 hx (pc' := 6) (hb hby d10_5) rfl rfl rfl ?_
    refine G.callV X3 hx hZ (y0 := (⟨"java/lang/String", "coder", "()B"⟩ : MethodName)) (y := (⟨"java/lang/String", "coder", "()B"⟩ : MethodName)) hown (hw _ (List.mem_of_getElem? (i := 52) rfl)) (hw _ (List.mem_of_getElem? (i := 53) rfl)) (notFace_of_selects (args := #[]) (mvT hZ (hw _ (List.mem_of_getElem? (i := 55) rfl)))) (hw _ (List.mem_of_getElem? (i := 55) rfl)) (hw _ (List.mem_of_getElem? (i := 54) rfl)) (hw _ (List.mem_of_getElem? (i := 8) rfl)) (hw _ (List.mem_of_getElem? (i := 56) rfl)) (by decide) e3 (rm := ({ frames := 0, cells := 0, slots := 0, locals := 0 } : Room)) (argsL := []) (S := [(.int (8 : Int32))]) (W := 1) (a := a) Ea (rm_cod l Z a0 hw a b xs (1 : Int32) cs h0 Ea Fc Fv Bb SC hcs (by decide)) (lenOf pd_9 rfl) rfl (Nat.le_of_eq rfl) (by decide) (by decide) (by decide) (by decide) (by rw [hml]; rfl) (hb hby d10_6) (pc' := 9) rfl ?_
    rintro T4 _ _ ⟨rfl, e4, rfl⟩ X4
    rw [List.append_nil] at X4
    show Goes p e below T4 (mkF m 9 #[.val (.ref a)] [(.int (1 : Int32)), (.int (8 : Int32))]) _
    refine G.ishr X4 hx (pc' := 10) (hb hby d10_9) rfl ?_
    refine Goes.retI X4 hx hret hlk (hb hby d10_10) (by decide) (by decide) ⟨congrArg (fun z => some (Value.int z)) (by decide), e4, rfl⟩
set_option maxRecDepth 65536 in
set_option maxHeartbeats 40000000 in
theorem rm_ise4 (l : Launch) (Z : State) (a0 : Array Value) (hw : ∀ d ∈ tables_1, d.before a0 Z = true) (a b : Addr) (xs : List Value) (cd cs : Int32) (u0 : Int32) (h0 : Heap) (Ea : Exa Z h0 a "java/lang/String") (Fc : Fld Z h0 a "java/lang/String" "coder" "B" (.int cd)) (Fv : Fld Z h0 a "java/lang/String" "value" "[B" (.ref b)) (Bb : Seq Z h0 b .byte xs) (hq : SQ 4 u0 cd xs) :
    Con l (⟨"java/lang/String", "isEmpty", "()Z"⟩ : MethodName) jdk_42_method_55_code 1 (some .boolean) ({ frames := 0, cells := 0, slots := 0, locals := 0 } : Room) Z #[(.ref a)] h0 (Pur (some (.int (0 : Int32))) h0) := by
  refine Con.of_body (plainFor_of_name pn_3) ?_
  intro p e s m below meth c T0 X0 hx hby hml hZ hown hnm hret hlk e0
  have hown : s.vm.findClass "java/lang/String" = some m.cls := hown
  have hml : c.maxLocals = 1 := hml
  refine Goes.cast (ef9_R m a) ?_
  rcases hq with ⟨rfl, hxl, -, -⟩ | ⟨rfl, hxl, -, -⟩
  · refine G.aloadN X0 hx (pc' := 1) (hb hby d9_0) rfl rfl rfl ?_
    refine G.getF X0 hx hZ hown (hw _ (List.mem_of_getElem? (i := 33) rfl)) Via.refl e0 Fv (pc' := 4) (hb hby d9_1) rfl fun T1 X1 e1 => ?_
    refine G.arraylength X1 hx hZ e1 Bb (pc' := 5) (hb hby d9_4) (z := (4 : Int32)) (by rw [hxl]; rfl) rfl ?_
    refine G.ifT X1 hx (pc' := 12) (hb hby d9_5) (Jvm.Free.XT.i0_ne_t (by decide)) (by decide) (by decide) ?_
    refine G.iconst X1 hx (pc' := 13) (hb hby d9_12) (z := (0 : Int32)) rfl rfl ?_
    refine Goes.retN X1 hx hret (by simp) hlk (hb hby d9_13) (by decide) (by decide) ⟨rfl, e1, rfl⟩
  · refine G.aloadN X0 hx (pc' := 1) (hb hby d9_0) rfl rfl rfl ?_
    refine G.getF X0 hx hZ hown (hw _ (List.mem_of_getElem? (i := 33) rfl)) Via.refl e0 Fv (pc' := 4) (hb hby d9_1) rfl fun T2 X2 e2 => ?_
    refine G.arraylength X2 hx hZ e2 Bb (pc' := 5) (hb hby d9_4) (z := (8 : Int32)) (by rw [hxl]; rfl) rfl ?_
    refine G.ifT X2 hx (pc' := 12) (hb hby d9_5) (Jvm.Free.XT.i0_ne_t (by decide)) (by decide) (by decide) ?_
    refine G.iconst X2 hx (pc' := 13) (hb hby d9_12) (z := (0 : Int32)) rfl rfl ?_
    refine Goes.retN X2 hx hret (by simp) hlk (hb hby d9_13) (by decide) (by decide) ⟨rfl, e2, rfl⟩
set_option maxRecDepth 65536 in
set_option maxHeartbeats 40000000 in
theorem rm_cha4 (l : Launch) (Z : State) (a0 : Array Value) (hw : ∀ d ∈ tables_1, d.before a0 Z = true) (a b : Addr) (xs : List Value) (cd cs : Int32) (u0 : Int32) (vf : Value) (h0 : Heap) (Ea : Exa Z h0 a "java/lang/String") (Fc : Fld Z h0 a "java/lang/String" "coder" "B" (.int cd)) (Fv : Fld Z h0 a "java/lang/String" "value" "[B" (.ref b)) (Bb : Seq Z h0 b .byte xs) (SC : Sta Z h0 "java/lang/String" "COMPACT_STRINGS" "Z" (.int cs)) (hcs : ¬ cs = (0 : Int32)) (SI : Sta Z h0 "jdk/internal/util/Preconditions" "SIOOBE_FORMATTER" "Ljava/util/function/BiFunction;" vf) (hvf : vf = .null ∨ ∃ x, vf = .ref x) (SA : Sta Z h0 "java/lang/StringUTF16" "$assertionsDisabled" "Z" (.int (1 : Int32))) (SH : Sta Z h0 "java/lang/StringUTF16" "HI_BYTE_SHIFT" "I" (.int (0 : Int32))) (SO : Sta Z h0 "java/lang/StringUTF16" "LO_BYTE_SHIFT" "I" (.int (8 : Int32))) (hq : SQ 4 u0 cd xs) (hch : isCh u0) :
    Con l (⟨"java/lang/String", "charAt", "(I)C"⟩ : MethodName) jdk_42_method_56_code 2 (some .char) ({ frames := 4, cells := 0, slots := 0, locals := 53 } : Room) Z #[(.ref a), (.int (0 : Int32))] h0 (Pur (some (.int u0)) h0) := by
  refine Con.of_body (plainFor_of_name pn_3) ?_
  intro p e s m below meth c T0 X0 hx hby hml hZ hown hnm hret hlk e0
  have hown : s.vm.findClass "java/lang/String" = some m.cls := hown
  have hml : c.maxLocals = 2 := hml
  refine Goes.cast (ef12_RI m a (0 : Int32)) ?_
  rcases hq with ⟨rfl, hxl, hx0, hle⟩ | ⟨rfl, hxl, hx0, hx1⟩
  · refine G.aloadN X0 hx (pc' := 1) (hb hby d12_0) rfl rfl rfl ?_
    refine G.callV X0 hx hZ (y0 := (⟨"java/lang/String", "isLatin1", "()Z"⟩ : MethodName)) (y := (⟨"java/lang/String", "isLatin1", "()Z"⟩ : MethodName)) hown (hw _ (List.mem_of_getElem? (i := 62) rfl)) (hw _ (List.mem_of_getElem? (i := 63) rfl)) (notFace_of_selects (args := #[]) (mvT hZ (hw _ (List.mem_of_getElem? (i := 65) rfl)))) (hw _ (List.mem_of_getElem? (i := 65) rfl)) (hw _ (List.mem_of_getElem? (i := 64) rfl)) (hw _ (List.mem_of_getElem? (i := 8) rfl)) (hw _ (List.mem_of_getElem? (i := 66) rfl)) (by decide) e0 (rm := ({ frames := 0, cells := 0, slots := 0, locals := 0 } : Room)) (argsL := []) (S := []) (W := 0) (a := a) Ea (rm_isl l Z a0 hw a b xs (0 : Int32) cs h0 Ea Fc Fv Bb SC hcs) (lenOf pd_10 rfl) rfl (Nat.le_of_eq rfl) (by decide) (by decide) (by decide) (by decide) (by rw [hml]; rfl) (hb hby d12_1) (pc' := 4) rfl ?_
    rintro T1 _ _ ⟨rfl, e1, rfl⟩ X1
    rw [List.append_nil] at X1
    show Goes p e below T1 (mkF m 4 #[.val (.ref a), .val (.int (0 : Int32))] [(.int (1 : Int32))]) _
    refine G.ifF X1 hx (pc' := 7) (hb hby d12_4) (Jvm.Free.XT.i0_eq_f (by decide)) rfl ?_
    refine G.aloadN X1 hx (pc' := 8) (hb hby d12_7) rfl rfl rfl ?_
    refine G.getF X1 hx hZ hown (hw _ (List.mem_of_getElem? (i := 33) rfl)) Via.refl e1 Fv (pc' := 11) (hb hby d12_8) rfl fun T2 X2 e2 => ?_
    refine G.iloadN X2 hx (pc' := 12) (hb hby d12_11) rfl rfl ?_
    refine G.callS X2 hx hZ (y := (⟨"java/lang/StringLatin1", "charAt", "([BI)C"⟩ : MethodName)) hown (hw _ (List.mem_of_getElem? (i := 67) rfl)) (hw _ (List.mem_of_getElem? (i := 68) rfl)) (hw _ (List.mem_of_getElem? (i := 69) rfl)) (hw _ (List.mem_of_getElem? (i := 70) rfl)) (by decide) e2 (rm := ({ frames := 2, cells := 0, slots := 0, locals := 27 } : Room)) (argsL := [(.ref b), (.int (0 : Int32))]) (S := []) (W := 0) (rm_lca l Z a0 hw b xs (4 : Int32) u0 vf h0 Bb (by rw [hxl]; rfl) SI hvf (by decide) hx0 hch hle) (lenOf pd_8 rfl) rfl (Nat.le_of_eq rfl) (by decide) (by decide) (by decide) (by decide) (by rw [hml]; rfl) (hb hby d12_12) (pc' := 15) rfl ?_
    rintro T3 _ _ ⟨rfl, e3, rfl⟩ X3
    rw [List.append_nil] at X3
    show Goes p e below T3 (mkF m 15 #[.val (.ref a), .val (.int (0 : Int32))] [(.int u0)]) _
    refine Goes.retN X3 hx hret (by simp) hlk (hb hby d12_15) (by decide) (by decide) ⟨congrArg (fun z => some (Value.int z)) (own_nc hch), e3, rfl⟩
  · refine G.aloadN X0 hx (pc' := 1) (hb hby d12_0) rfl rfl rfl ?_
    refine G.callV X0 hx hZ (y0 := (⟨"java/lang/String", "isLatin1", "()Z"⟩ : MethodName)) (y := (⟨"java/lang/String", "isLatin1", "()Z"⟩ : MethodName)) hown (hw _ (List.mem_of_getElem? (i := 62) rfl)) (hw _ (List.mem_of_getElem? (i := 63) rfl)) (notFace_of_selects (args := #[]) (mvT hZ (hw _ (List.mem_of_getElem? (i := 65) rfl)))) (hw _ (List.mem_of_getElem? (i := 65) rfl)) (hw _ (List.mem_of_getElem? (i := 64) rfl)) (hw _ (List.mem_of_getElem? (i := 8) rfl)) (hw _ (List.mem_of_getElem? (i := 66) rfl)) (by decide) e0 (rm := ({ frames := 0, cells := 0, slots := 0, locals := 0 } : Room)) (argsL := []) (S := []) (W := 0) (a := a) Ea (rm_isl l Z a0 hw a b xs (1 : Int32) cs h0 Ea Fc Fv Bb SC hcs) (lenOf pd_10 rfl) rfl (Nat.le_of_eq rfl) (by decide) (by decide) (by decide) (by decide) (by rw [hml]; rfl) (hb hby d12_1) (pc' := 4) rfl ?_
    rintro T4 _ _ ⟨rfl, e4, rfl⟩ X4
    rw [List.append_nil] at X4
    show Goes p e below T4 (mkF m 4 #[.val (.ref a), .val (.int (0 : Int32))] [(.int (0 : Int32))]) _
    refine G.ifT X4 hx (pc' := 16) (hb hby d12_4) (Jvm.Free.XT.i0_eq_t (by decide)) (by decide) (by decide) ?_
    refine G.aloadN X4 hx (pc' := 17) (hb hby d12_16) rfl rfl rfl ?_
    refine G.getF X4 hx hZ hown (hw _ (List.mem_of_getElem? (i := 33) rfl)) Via.refl e4 Fv (pc' := 20) (hb hby d12_17) rfl fun T5 X5 e5 => ?_
    refine G.iloadN X5 hx (pc' := 21) (hb hby d12_20) rfl rfl ?_
    refine G.callS X5 hx hZ (y := (⟨"java/lang/StringUTF16", "charAt", "([BI)C"⟩ : MethodName)) hown (hw _ (List.mem_of_getElem? (i := 111) rfl)) (hw _ (List.mem_of_getElem? (i := 112) rfl)) (hw _ (List.mem_of_getElem? (i := 22) rfl)) (hw _ (List.mem_of_getElem? (i := 113) rfl)) (by decide) e5 (rm := ({ frames := 3, cells := 0, slots := 0, locals := 40 } : Room)) (argsL := [(.ref b), (.int (0 : Int32))]) (S := []) (W := 0) (rm_uca l Z a0 hw b xs (8 : Int32) u0 vf h0 Bb (by rw [hxl]; rfl) SI hvf SA SH SO (by decide) hx0 hx1 hch) (lenOf pd_8 rfl) rfl (Nat.le_of_eq rfl) (by decide) (by decide) (by decide) (by decide) (by rw [hml]; rfl) (hb hby d12_21) (pc' := 24) rfl ?_
    rintro T6 _ _ ⟨rfl, e6, rfl⟩ X6
    rw [List.append_nil] at X6
    show Goes p e below T6 (mkF m 24 #[.val (.ref a), .val (.int (0 : Int32))] [(.int u0)]) _
    refine Goes.retN X6 hx hret (by simp) hlk (hb hby d12_24) (by decide) (by decide) ⟨congrArg (fun z => some (Value.int z)) (own_nc hch), e6, rfl⟩
set_option maxRecDepth 65536 in
set_option maxHeartbeats 40000000 in
theorem rm_text4 (l : Launch) (Z : State) (a0 : Array Value) (hw : ∀ d ∈ tables_1, d.before a0 Z = true) (a b : Addr) (xs : List Value) (cd cs : Int32) (wh : Addr) (u0 : Int32) (h0 : Heap) (Ea : Exa Z h0 a "java/lang/String") (Fc : Fld Z h0 a "java/lang/String" "coder" "B" (.int cd)) (Fv : Fld Z h0 a "java/lang/String" "value" "[B" (.ref b)) (Bb : Seq Z h0 b .byte xs) (hq : SQ 4 u0 cd xs) :
    Con l (⟨"com/example/bowerbird/bowerbird/Required", "text", "(Ljava/lang/String;Ljava/lang/String;)Ljava/lang/String;"⟩ : MethodName) prog_4_method_2_code 2 (some (.object "java/lang/String")) ({ frames := 1, cells := 0, slots := 0, locals := 12 } : Room) Z #[(.ref a), (.ref wh)] h0 (Pur (some (.ref a)) h0) := by
  refine Con.of_body (plainFor_of_name pn_11) ?_
  intro p e s m below meth c T0 X0 hx hby hml hZ hown hnm hret hlk e0
  have hown : s.vm.findClass "com/example/bowerbird/bowerbird/Required" = some m.cls := hown
  have hml : c.maxLocals = 2 := hml
  refine Goes.cast (ef8_RR m a wh) ?_
  refine G.aloadN X0 hx (pc' := 1) (hb hby d8_0) rfl rfl rfl ?_
  refine G.nullF X0 hx (pc' := 4) (hb hby d8_1) rfl ?_
  refine G.aloadN X0 hx (pc' := 5) (hb hby d8_4) rfl rfl rfl ?_
  refine G.callV X0 hx hZ (y0 := (⟨"java/lang/String", "isEmpty", "()Z"⟩ : MethodName)) (y := (⟨"java/lang/String", "isEmpty", "()Z"⟩ : MethodName)) hown (hw _ (List.mem_of_getElem? (i := 42) rfl)) (hw _ (List.mem_of_getElem? (i := 43) rfl)) (notFace_of_selects (args := #[]) (mvT hZ (hw _ (List.mem_of_getElem? (i := 45) rfl)))) (hw _ (List.mem_of_getElem? (i := 45) rfl)) (hw _ (List.mem_of_getElem? (i := 44) rfl)) (hw _ (List.mem_of_getElem? (i := 8) rfl)) (hw _ (List.mem_of_getElem? (i := 46) rfl)) (by decide) e0 (rm := ({ frames := 0, cells := 0, slots := 0, locals := 0 } : Room)) (argsL := []) (S := []) (W := 0) (a := a) Ea (rm_ise4 l Z a0 hw a b xs cd cs u0 h0 Ea Fc Fv Bb hq) (lenOf pd_10 rfl) rfl (Nat.le_of_eq rfl) (by decide) (by decide) (by decide) (by decide) (by rw [hml]; rfl) (hb hby d8_5) (pc' := 8) rfl ?_
  rintro T1 _ _ ⟨rfl, e1, rfl⟩ X1
  rw [List.append_nil] at X1
  show Goes p e below T1 (mkF m 8 #[.val (.ref a), .val (.ref wh)] [(.int (0 : Int32))]) _
  refine G.ifT X1 hx (pc' := 25) (hb hby d8_8) (Jvm.Free.XT.i0_eq_t rfl) (by decide) (by decide) ?_
  refine G.aloadN X1 hx (pc' := 26) (hb hby d8_25) rfl rfl rfl ?_
  refine Goes.retA X1 hx hret rfl hlk rfl rfl (hb hby d8_26) (by decide) (by decide) ⟨rfl, e1, rfl⟩
set_option maxRecDepth 65536 in
set_option maxHeartbeats 40000000 in
theorem rm_pu0_1 (l : Launch) (Z : State) (a0 : Array Value) (hw : ∀ d ∈ tables_1, d.before a0 Z = true) (d : Addr) (xs : List Value) (u0 : Int32) (h0 : Heap) (Bd : Seq Z h0 d .byte xs) (SA : Sta Z h0 "java/lang/StringUTF16" "$assertionsDisabled" "Z" (.int (1 : Int32))) (SH : Sta Z h0 "java/lang/StringUTF16" "HI_BYTE_SHIFT" "I" (.int (0 : Int32))) (SO : Sta Z h0 "java/lang/StringUTF16" "LO_BYTE_SHIFT" "I" (.int (8 : Int32))) (hxl : xs.length = 2) :
    Con l (⟨"java/lang/StringUTF16", "putChar", "([BII)V"⟩ : MethodName) jdk_52_method_4_code 3 none ({ frames := 0, cells := 0, slots := 0, locals := 0 } : Room) Z #[(.ref d), (.int (0 : Int32)), (.int u0)] h0 (fun v h L => v = none ∧ Kp h0 h [d] L ∧ Seq Z h d .byte ((xs.set 0 (.int (lo u0))).set 1 (.int (hi u0)))) := by
  refine Con.of_body (plainFor_of_name pn_0) ?_
  intro p e s m below meth c T0 X0 hx hby hml hZ hown hnm hret hlk e0
  have hown : s.vm.findClass "java/lang/StringUTF16" = some m.cls := hown
  have hml : c.maxLocals = 3 := hml
  refine Goes.cast (ef20_RII m d (0 : Int32) u0) ?_
  have K0 := Kp.refl h0 [d]
  refine G.getS X0 hx hZ hown (hw _ (List.mem_of_getElem? (i := 92) rfl)) Via.refl e0 SA (pc' := 3) (hb hby d20_0) rfl fun T1 X1 e1 => ?_
  refine G.ifT X1 hx (pc' := 28) (hb hby d20_3) (Jvm.Free.XT.i0_ne_t (by decide)) (by decide) (by decide) ?_
  refine G.iloadN X1 hx (pc' := 29) (hb hby d20_28) rfl rfl ?_
  refine G.iconst X1 hx (pc' := 30) (hb hby d20_29) (z := (1 : Int32)) rfl rfl ?_
  refine G.ishl X1 hx (pc' := 31) (hb hby d20_30) rfl ?_
  refine G.istoreN X1 hx (pc' := 32) (hb hby d20_31) (L' := #[.val (.ref d), .val (.int ((0 : Int32) <<< ((1 : Int32) &&& 31))), .val (.int u0)]) rfl rfl ?_
  show Goes p e below T1 (mkF m 32 #[.val (.ref d), .val (.int (0 : Int32)), .val (.int u0)] []) _
  refine G.aloadN X1 hx (pc' := 33) (hb hby d20_32) rfl rfl rfl ?_
  refine G.iloadN X1 hx (pc' := 34) (hb hby d20_33) rfl rfl ?_
  refine G.iinc X1 hx (pc' := 37) (hb hby d20_34) rfl (L' := #[.val (.ref d), .val (.int ((0 : Int32) + (1 : Int32))), .val (.int u0)]) rfl rfl ?_
  refine G.iloadN X1 hx (pc' := 38) (hb hby d20_37) rfl rfl ?_
  refine G.getS X1 hx hZ hown (hw _ (List.mem_of_getElem? (i := 93) rfl)) Via.refl e1 SH (pc' := 41) (hb hby d20_38) rfl fun T2 X2 e2 => ?_
  refine G.ishr X2 hx (pc' := 42) (hb hby d20_41) rfl ?_
  refine G.i2b X2 hx (pc' := 43) (hb hby d20_42) rfl ?_
  show Goes p e below T2 (mkF m 43 #[.val (.ref d), .val (.int (1 : Int32)), .val (.int u0)] [(.int ((u0 >>> ((0 : Int32) &&& 31)).toInt8.toInt32)), (.int (0 : Int32)), (.ref d)]) _
  refine G.bastore X2 hx hZ e2 Bd (pc' := 44) (hb hby d20_43) (by decide) (by rw [hxl]; decide) rfl fun T3 h3 X3 e3 W3 A3 => ?_
  have S3__assertionsDisabled := Sta.wr W3 SA
  have S3_HI_BYTE_SHIFT := Sta.wr W3 SH
  have S3_LO_BYTE_SHIFT := Sta.wr W3 SO
  have K3 := Kp.wr K0 W3 (Or.inl (List.mem_of_getElem? (i := 0) rfl))
  have A3_d : Seq Z h3 d .byte (xs.set 0 (.int (lo u0))) := A3
  refine G.aloadN X3 hx (pc' := 45) (hb hby d20_44) rfl rfl rfl ?_
  refine G.iloadN X3 hx (pc' := 46) (hb hby d20_45) rfl rfl ?_
  refine G.iloadN X3 hx (pc' := 47) (hb hby d20_46) rfl rfl ?_
  refine G.getS X3 hx hZ hown (hw _ (List.mem_of_getElem? (i := 94) rfl)) Via.refl e3 S3_LO_BYTE_SHIFT (pc' := 50) (hb hby d20_47) rfl fun T4 X4 e4 => ?_
  refine G.ishr X4 hx (pc' := 51) (hb hby d20_50) rfl ?_
  refine G.i2b X4 hx (pc' := 52) (hb hby d20_51) rfl ?_
  refine G.bastore X4 hx hZ e4 A3_d (pc' := 53) (hb hby d20_52) (by decide) (by rw [List.length_set, hxl]; decide) rfl fun T5 h5 X5 e5 W5 A5 => ?_
  have S5__assertionsDisabled := Sta.wr W5 S3__assertionsDisabled
  have S5_HI_BYTE_SHIFT := Sta.wr W5 S3_HI_BYTE_SHIFT
  have S5_LO_BYTE_SHIFT := Sta.wr W5 S3_LO_BYTE_SHIFT
  have K5 := Kp.wr K3 W5 (Or.inl (List.mem_of_getElem? (i := 0) rfl))
  have A5_d : Seq Z h5 d .byte ((xs.set 0 (.int (lo u0))).set 1 (.int (hi u0))) := A5
  refine Goes.retV X5 hx hret hlk (hb hby d20_53) (by decide) (by decide) ⟨rfl, (by rw [e5]; exact K5), (by rw [e5]; exact A5_d)⟩
set_option maxRecDepth 65536 in
set_option maxHeartbeats 40000000 in
theorem rm_nbl1 (l : Launch) (Z : State) (a0 : Array Value) (hw : ∀ d ∈ tables_1, d.before a0 Z = true)  (h0 : Heap)  :
    Con l (⟨"java/lang/StringUTF16", "newBytesLength", "(I)I"⟩ : MethodName) jdk_52_method_3_code 1 (some .int) ({ frames := 0, cells := 0, slots := 0, locals := 0 } : Room) Z #[(.int (1 : Int32))] h0 (Pur (some (.int (2 : Int32))) h0) := by
  refine Con.of_body (plainFor_of_name pn_0) ?_
  intro p e s m below meth c T0 X0 hx hby hml hZ hown hnm hret hlk e0
  have hown : s.vm.findClass "java/lang/StringUTF16" = some m.cls := hown
  have hml : c.maxLocals = 1 := hml
  refine Goes.cast (ef19_I m (1 : Int32)) ?_
  refine G.iloadN X0 hx (pc' := 1) (hb hby d19_0) rfl rfl ?_
  refine G.ifT X0 hx (pc' := 12) (hb hby d19_1) (Jvm.Free.XT.i0_ge_t (by decide)) (by decide) (by decide) ?_
  refine G.iloadN X0 hx (pc' := 13) (hb hby d19_12) rfl rfl ?_
  refine G.ldcInt X0 hx hZ hown (hw _ (List.mem_of_getElem? (i := 88) rfl)) (pc' := 15) (hb hby d19_13) rfl ?_
  refine G.icmpT X0 hx (pc' := 55) (hb hby d19_15) (Jvm.Free.XT.ii_lt_t (by decide)) (by decide) (by decide) ?_
  refine G.iloadN X0 hx (pc' := 56) (hb hby d19_55) rfl rfl ?_
  refine G.iconst X0 hx (pc' := 57) (hb hby d19_56) (z := (1 : Int32)) rfl rfl ?_
  refine G.ishl X0 hx (pc' := 58) (hb hby d19_57) rfl ?_
  refine Goes.retI X0 hx hret hlk (hb hby d19_58) (by decide) (by decide) ⟨congrArg (fun z => some (Value.int z)) (by decide), e0, rfl⟩
set_option maxRecDepth 65536 in
set_option maxHeartbeats 40000000 in
theorem rm_nbf1 (l : Launch) (Z : State) (a0 : Array Value) (hw : ∀ d ∈ tables_1, d.before a0 Z = true)  (h0 : Heap)  :
    Con l (⟨"java/lang/StringUTF16", "newBytesFor", "(I)[B"⟩ : MethodName) jdk_52_method_2_code 1 (some (.array .byte)) ({ frames := 1, cells := 1, slots := 2, locals := 12 } : Room) Z #[(.int (1 : Int32))] h0 (fun v h L => ∃ d, v = some (.ref d) ∧ Kp h0 h [] L ∧ Seq Z h d .byte [(.int (0 : Int32)), (.int (0 : Int32))] ∧ h0.size ≤ d) := by
  refine Con.of_body (plainFor_of_name pn_0) ?_
  intro p e s m below meth c T0 X0 hx hby hml hZ hown hnm hret hlk e0
  have hown : s.vm.findClass "java/lang/StringUTF16" = some m.cls := hown
  have hml : c.maxLocals = 1 := hml
  refine Goes.cast (ef18_I m (1 : Int32)) ?_
  have K0 := Kp.refl h0 []
  refine G.iloadN X0 hx (pc' := 1) (hb hby d18_0) rfl rfl ?_
  refine G.callS X0 hx hZ (y := (⟨"java/lang/StringUTF16", "newBytesLength", "(I)I"⟩ : MethodName)) hown (hw _ (List.mem_of_getElem? (i := 85) rfl)) (hw _ (List.mem_of_getElem? (i := 86) rfl)) (hw _ (List.mem_of_getElem? (i := 22) rfl)) (hw _ (List.mem_of_getElem? (i := 87) rfl)) (by decide) e0 (rm := ({ frames := 0, cells := 0, slots := 0, locals := 0 } : Room)) (argsL := [(.int (1 : Int32))]) (S := []) (W := 0) (rm_nbl1 l Z a0 hw h0) (lenOf pd_12 rfl) rfl (Nat.le_of_eq rfl) (by decide) (by decide) (by decide) (by decide) (by rw [hml]; rfl) (hb hby d18_1) (pc' := 4) rfl ?_
  rintro T1 _ _ ⟨rfl, e1, rfl⟩ X1
  rw [List.append_nil] at X1
  show Goes p e below T1 (mkF m 4 #[.val (.int (1 : Int32))] [(.int (2 : Int32))]) _
  refine G.newP X1 hx hZ (hw _ (List.mem_of_getElem? (i := 24) rfl)) e1 (hb hby d18_4) (by decide) (n := 2) (cap := 2) rfl (by decide) (by decide) (by decide) (by decide) (pc' := 6) rfl fun T2 h2 d g2 X2 e2 Ex2 A2 => ?_
  have sz_d : h0.size ≤ d := Nat.le_trans K0.size (Nat.le_of_eq g2.symm)
  have K2 := Kp.ext K0 Ex2
  have A2_d : Seq Z h2 d .byte [(.int (0 : Int32)), (.int (0 : Int32))] := A2
  refine Goes.retA X2 hx hret rfl hlk rfl rfl (hb hby d18_6) (by decide) (by decide) ⟨d, rfl, (by rw [e2]; exact K2), (by rw [e2]; exact A2_d), sz_d⟩
set_option maxRecDepth 65536 in
set_option maxHeartbeats 40000000 in
theorem rm_tb1 (l : Launch) (Z : State) (a0 : Array Value) (hw : ∀ d ∈ tables_1, d.before a0 Z = true) (x : Addr) (u0 : Int32) (h0 : Heap) (Bx : Seq Z h0 x .char [(.int u0)]) (SA : Sta Z h0 "java/lang/StringUTF16" "$assertionsDisabled" "Z" (.int (1 : Int32))) (SH : Sta Z h0 "java/lang/StringUTF16" "HI_BYTE_SHIFT" "I" (.int (0 : Int32))) (SO : Sta Z h0 "java/lang/StringUTF16" "LO_BYTE_SHIFT" "I" (.int (8 : Int32))) :
    Con l (⟨"java/lang/StringUTF16", "toBytes", "([CII)[B"⟩ : MethodName) jdk_52_method_14_code 5 (some (.array .byte)) ({ frames := 2, cells := 1, slots := 2, locals := 24 } : Room) Z #[(.ref x), (.int (0 : Int32)), (.int (1 : Int32))] h0 (fun v h L => ∃ d, v = some (.ref d) ∧ Kp h0 h [] L ∧ Seq Z h d .byte [(.int (lo u0)), (.int (hi u0))] ∧ h0.size ≤ d) := by
  refine Con.of_body (plainFor_of_name pn_0) ?_
  intro p e s m below meth c T0 X0 hx hby hml hZ hown hnm hret hlk e0
  have hown : s.vm.findClass "java/lang/StringUTF16" = some m.cls := hown
  have hml : c.maxLocals = 5 := hml
  refine Goes.cast (ef17_RII m x (0 : Int32) (1 : Int32)) ?_
  have K0 := Kp.refl h0 []
  refine G.iloadN X0 hx (pc' := 1) (hb hby d17_0) rfl rfl ?_
  refine G.callS X0 hx hZ (y := (⟨"java/lang/StringUTF16", "newBytesFor", "(I)[B"⟩ : MethodName)) hown (hw _ (List.mem_of_getElem? (i := 82) rfl)) (hw _ (List.mem_of_getElem? (i := 83) rfl)) (hw _ (List.mem_of_getElem? (i := 22) rfl)) (hw _ (List.mem_of_getElem? (i := 84) rfl)) (by decide) e0 (rm := ({ frames := 1, cells := 1, slots := 2, locals := 12 } : Room)) (argsL := [(.int (1 : Int32))]) (S := []) (W := 0) (rm_nbf1 l Z a0 hw h0) (lenOf pd_13 rfl) rfl (Nat.le_of_eq rfl) (by decide) (by decide) (by decide) (by decide) (by rw [hml]; rfl) (hb hby d17_1) (pc' := 4) rfl ?_
  rintro T1 _ L1 ⟨d, rfl, Kq1, Ad1, gd1⟩ X1
  have A1_x := Seq.keep Bx Kq1.1 nin0
  have K1 := Kp.call K0 Kq1 all0
  have ne_x_d : x ≠ d := Nat.ne_of_lt (Nat.lt_of_lt_of_le Bx.lt gd1)
  have sz_d : h0.size ≤ d := gd1
  show Goes p e below T1 (mkF m 4 #[.val (.ref x), .val (.int (0 : Int32)), .val (.int (1 : Int32)), .unset, .unset] [(.ref d)]) _
  refine G.astoreN X1 hx (pc' := 5) (hb hby d17_4) rfl (L' := #[.val (.ref x), .val (.int (0 : Int32)), .val (.int (1 : Int32)), .val (.ref d), .unset]) rfl rfl ?_
  refine G.iconst X1 hx (pc' := 6) (hb hby d17_5) (z := (0 : Int32)) rfl rfl ?_
  refine G.istore X1 hx (pc' := 8) (hb hby d17_6) (L' := #[.val (.ref x), .val (.int (0 : Int32)), .val (.int (1 : Int32)), .val (.ref d), .val (.int (0 : Int32))]) rfl rfl ?_
  refine G.iload X1 hx (pc' := 10) (hb hby d17_8) rfl rfl ?_
  refine G.iloadN X1 hx (pc' := 11) (hb hby d17_10) rfl rfl ?_
  refine G.icmpF X1 hx (pc' := 14) (hb hby d17_11) (Jvm.Free.XT.ii_ge_f (by decide)) rfl ?_
  refine G.aloadN X1 hx (pc' := 15) (hb hby d17_14) rfl rfl rfl ?_
  refine G.iload X1 hx (pc' := 17) (hb hby d17_15) rfl rfl ?_
  refine G.aloadN X1 hx (pc' := 18) (hb hby d17_17) rfl rfl rfl ?_
  refine G.iloadN X1 hx (pc' := 19) (hb hby d17_18) rfl rfl ?_
  refine G.caload X1 hx hZ rfl A1_x (pc' := 20) (v := (.int u0)) (hb hby d17_19) (by decide) rfl rfl ?_
  refine G.callS X1 hx hZ (y := (⟨"java/lang/StringUTF16", "putChar", "([BII)V"⟩ : MethodName)) hown (hw _ (List.mem_of_getElem? (i := 89) rfl)) (hw _ (List.mem_of_getElem? (i := 90) rfl)) (hw _ (List.mem_of_getElem? (i := 22) rfl)) (hw _ (List.mem_of_getElem? (i := 91) rfl)) (by decide) rfl (rm := ({ frames := 0, cells := 0, slots := 0, locals := 0 } : Room)) (argsL := [(.ref d), (.int (0 : Int32)), (.int u0)]) (S := []) (W := 0) (rm_pu0_1 l Z a0 hw d [(.int (0 : Int32)), (.int (0 : Int32))] u0 T1.heap Ad1 (Sta.keep0 SA K1.1) (Sta.keep0 SH K1.1) (Sta.keep0 SO K1.1) rfl) (lenOf pd_14 rfl) rfl (Nat.le_of_eq rfl) (by decide) (by decide) (by decide) (by decide) (by rw [hml]; rfl) (hb hby d17_20) (pc' := 23) rfl ?_
  rintro T2 _ L2 ⟨rfl, Kq2, Ad2⟩ X2
  have A2_x := Seq.keep A1_x Kq2.1 (ninS ne_x_d nin0)
  have K2 := Kp.call K1 Kq2 (allS (Or.inr sz_d) all0)
  have Ad2' : Seq Z T2.heap d .byte [(.int (lo u0)), (.int (hi u0))] := Ad2
  show Goes p e below T2 (mkF m 23 #[.val (.ref x), .val (.int (0 : Int32)), .val (.int (1 : Int32)), .val (.ref d), .val (.int (0 : Int32))] []) _
  refine G.iinc X2 hx (pc' := 26) (hb hby d17_23) rfl (L' := #[.val (.ref x), .val (.int ((0 : Int32) + (1 : Int32))), .val (.int (1 : Int32)), .val (.ref d), .val (.int (0 : Int32))]) rfl rfl ?_
  refine G.iinc X2 hx (pc' := 29) (hb hby d17_26) rfl (L' := #[.val (.ref x), .val (.int ((0 : Int32) + (1 : Int32))), .val (.int (1 : Int32)), .val (.ref d), .val (.int ((0 : Int32) + (1 : Int32)))]) rfl rfl ?_
  refine G.goto X2 hx (pc' := 8) (hb hby d17_29) (by decide) (by decide) ?_
  show Goes p e below T2 (mkF m 8 #[.val (.ref x), .val (.int (1 : Int32)), .val (.int (1 : Int32)), .val (.ref d), .val (.int (1 : Int32))] []) _
  refine G.iload X2 hx (pc' := 10) (hb hby d17_8) rfl rfl ?_
  refine G.iloadN X2 hx (pc' := 11) (hb hby d17_10) rfl rfl ?_
  refine G.icmpT X2 hx (pc' := 32) (hb hby d17_11) (Jvm.Free.XT.ii_ge_t (by decide)) (by decide) (by decide) ?_
  refine G.aloadN X2 hx (pc' := 33) (hb hby d17_32) rfl rfl rfl ?_
  refine Goes.retA X2 hx hret rfl hlk rfl rfl (hb hby d17_33) (by decide) (by decide) ⟨d, rfl, K2, Ad2', sz_d⟩
set_option maxRecDepth 65536 in
set_option maxHeartbeats 40000000 in
theorem rm_c5_1_0 (l : Launch) (Z : State) (a0 : Array Value) (hw : ∀ d ∈ tables_1, d.before a0 Z = true) (x d : Addr) (u0 : Int32) (h0 : Heap) (Bx : Seq Z h0 x .char [(.int u0)]) (Bd : Seq Z h0 d .byte [(.int (0 : Int32))]) (nxd : x ≠ d)  (hg : (255 : Int32) < u0) :
    Con l (⟨"java/lang/StringUTF16", "compress", "([CI[BII)I"⟩ : MethodName) jdk_52_method_21_code 7 (some .int) ({ frames := 0, cells := 0, slots := 0, locals := 0 } : Room) Z #[(.ref x), (.int (0 : Int32)), (.ref d), (.int (0 : Int32)), (.int (1 : Int32))] h0 (fun v h L => v = some (.int (0 : Int32)) ∧ Kp h0 h [d] L) := by
  refine Con.of_body (plainFor_of_name pn_0) ?_
  intro p e s m below meth c T0 X0 hx hby hml hZ hown hnm hret hlk e0
  have hown : s.vm.findClass "java/lang/StringUTF16" = some m.cls := hown
  have hml : c.maxLocals = 7 := hml
  refine Goes.cast (ef6_RIRII m x (0 : Int32) d (0 : Int32) (1 : Int32)) ?_
  have K0 := Kp.refl h0 [d]
  refine G.iconst X0 hx (pc' := 1) (hb hby d6_0) (z := (0 : Int32)) rfl rfl ?_
  refine G.istore X0 hx (pc' := 3) (hb hby d6_1) (L' := #[.val (.ref x), .val (.int (0 : Int32)), .val (.ref d), .val (.int (0 : Int32)), .val (.int (1 : Int32)), .val (.int (0 : Int32)), .unset]) rfl rfl ?_
  refine G.iload X0 hx (pc' := 5) (hb hby d6_3) rfl rfl ?_
  refine G.iload X0 hx (pc' := 7) (hb hby d6_5) rfl rfl ?_
  refine G.icmpF X0 hx (pc' := 10) (hb hby d6_7) (Jvm.Free.XT.ii_ge_f (by decide)) rfl ?_
  refine G.aloadN X0 hx (pc' := 11) (hb hby d6_10) rfl rfl rfl ?_
  refine G.iloadN X0 hx (pc' := 12) (hb hby d6_11) rfl rfl ?_
  refine G.caload X0 hx hZ e0 Bx (pc' := 13) (v := (.int u0)) (hb hby d6_12) (by decide) rfl rfl ?_
  refine G.istore X0 hx (pc' := 15) (hb hby d6_13) (L' := #[.val (.ref x), .val (.int (0 : Int32)), .val (.ref d), .val (.int (0 : Int32)), .val (.int (1 : Int32)), .val (.int (0 : Int32)), .val (.int u0)]) rfl rfl ?_
  refine G.iload X0 hx (pc' := 17) (hb hby d6_15) rfl rfl ?_
  refine G.sipush X0 hx (pc' := 20) (hb hby d6_17) (z := (255 : Int32)) rfl rfl ?_
  refine G.icmpF X0 hx (pc' := 23) (hb hby d6_20) (Jvm.Free.XT.ii_le_f hg) rfl ?_
  refine G.iload X0 hx (pc' := 25) (hb hby d6_23) rfl rfl ?_
  refine Goes.retI X0 hx hret hlk (hb hby d6_25) (by decide) (by decide) ⟨rfl, (by rw [e0]; exact K0)⟩
set_option maxRecDepth 65536 in
set_option maxHeartbeats 40000000 in
theorem rm_c5_1_1 (l : Launch) (Z : State) (a0 : Array Value) (hw : ∀ d ∈ tables_1, d.before a0 Z = true) (x d : Addr) (u0 : Int32) (h0 : Heap) (Bx : Seq Z h0 x .char [(.int u0)]) (Bd : Seq Z h0 d .byte [(.int (0 : Int32))]) (nxd : x ≠ d) (hl0 : ¬ (255 : Int32) < u0) :
    Con l (⟨"java/lang/StringUTF16", "compress", "([CI[BII)I"⟩ : MethodName) jdk_52_method_21_code 7 (some .int) ({ frames := 0, cells := 0, slots := 0, locals := 0 } : Room) Z #[(.ref x), (.int (0 : Int32)), (.ref d), (.int (0 : Int32)), (.int (1 : Int32))] h0 (fun v h L => v = some (.int (1 : Int32)) ∧ Kp h0 h [d] L ∧ Seq Z h d .byte [(.int (lb u0))]) := by
  refine Con.of_body (plainFor_of_name pn_0) ?_
  intro p e s m below meth c T0 X0 hx hby hml hZ hown hnm hret hlk e0
  have hown : s.vm.findClass "java/lang/StringUTF16" = some m.cls := hown
  have hml : c.maxLocals = 7 := hml
  refine Goes.cast (ef6_RIRII m x (0 : Int32) d (0 : Int32) (1 : Int32)) ?_
  have K0 := Kp.refl h0 [d]
  refine G.iconst X0 hx (pc' := 1) (hb hby d6_0) (z := (0 : Int32)) rfl rfl ?_
  refine G.istore X0 hx (pc' := 3) (hb hby d6_1) (L' := #[.val (.ref x), .val (.int (0 : Int32)), .val (.ref d), .val (.int (0 : Int32)), .val (.int (1 : Int32)), .val (.int (0 : Int32)), .unset]) rfl rfl ?_
  refine G.iload X0 hx (pc' := 5) (hb hby d6_3) rfl rfl ?_
  refine G.iload X0 hx (pc' := 7) (hb hby d6_5) rfl rfl ?_
  refine G.icmpF X0 hx (pc' := 10) (hb hby d6_7) (Jvm.Free.XT.ii_ge_f (by decide)) rfl ?_
  refine G.aloadN X0 hx (pc' := 11) (hb hby d6_10) rfl rfl rfl ?_
  refine G.iloadN X0 hx (pc' := 12) (hb hby d6_11) rfl rfl ?_
  refine G.caload X0 hx hZ e0 Bx (pc' := 13) (v := (.int u0)) (hb hby d6_12) (by decide) rfl rfl ?_
  refine G.istore X0 hx (pc' := 15) (hb hby d6_13) (L' := #[.val (.ref x), .val (.int (0 : Int32)), .val (.ref d), .val (.int (0 : Int32)), .val (.int (1 : Int32)), .val (.int (0 : Int32)), .val (.int u0)]) rfl rfl ?_
  refine G.iload X0 hx (pc' := 17) (hb hby d6_15) rfl rfl ?_
  refine G.sipush X0 hx (pc' := 20) (hb hby d6_17) (z := (255 : Int32)) rfl rfl ?_
  refine G.icmpT X0 hx (pc' := 26) (hb hby d6_20) (Jvm.Free.XT.ii_le_t hl0) (by decide) (by decide) ?_
  refine G.aloadN X0 hx (pc' := 27) (hb hby d6_26) rfl rfl rfl ?_
  refine G.iloadN X0 hx (pc' := 28) (hb hby d6_27) rfl rfl ?_
  refine G.iload X0 hx (pc' := 30) (hb hby d6_28) rfl rfl ?_
  refine G.i2b X0 hx (pc' := 31) (hb hby d6_30) rfl ?_
  refine G.bastore X0 hx hZ e0 Bd (pc' := 32) (hb hby d6_31) (by decide) (Nat.le_of_ble_eq_true rfl) rfl fun T1 h1 X1 e1 W1 A1 => ?_
  have A1_x := Seq.other Bx W1 nxd
  have K1 := Kp.wr K0 W1 (Or.inl (List.mem_of_getElem? (i := 0) rfl))
  have A1_d : Seq Z h1 d .byte [(.int (lb u0))] := A1
  refine G.iinc X1 hx (pc' := 35) (hb hby d6_32) rfl (L' := #[.val (.ref x), .val (.int ((0 : Int32) + (1 : Int32))), .val (.ref d), .val (.int (0 : Int32)), .val (.int (1 : Int32)), .val (.int (0 : Int32)), .val (.int u0)]) rfl rfl ?_
  refine G.iinc X1 hx (pc' := 38) (hb hby d6_35) rfl (L' := #[.val (.ref x), .val (.int ((0 : Int32) + (1 : Int32))), .val (.ref d), .val (.int ((0 : Int32) + (1 : Int32))), .val (.int (1 : Int32)), .val (.int (0 : Int32)), .val (.int u0)]) rfl rfl ?_
  refine G.iinc X1 hx (pc' := 41) (hb hby d6_38) rfl (L' := #[.val (.ref x), .val (.int ((0 : Int32) + (1 : Int32))), .val (.ref d), .val (.int ((0 : Int32) + (1 : Int32))), .val (.int (1 : Int32)), .val (.int ((0 : Int32) + (1 : Int32))), .val (.int u0)]) rfl rfl ?_
  refine G.goto X1 hx (pc' := 3) (hb hby d6_41) (by decide) (by decide) ?_
  show Goes p e below T1 (mkF m 3 #[.val (.ref x), .val (.int (1 : Int32)), .val (.ref d), .val (.int (1 : Int32)), .val (.int (1 : Int32)), .val (.int (1 : Int32)), .val (.int u0)] []) _
  refine G.iload X1 hx (pc' := 5) (hb hby d6_3) rfl rfl ?_
  refine G.iload X1 hx (pc' := 7) (hb hby d6_5) rfl rfl ?_
  refine G.icmpT X1 hx (pc' := 44) (hb hby d6_7) (Jvm.Free.XT.ii_ge_t (by decide)) (by decide) (by decide) ?_
  refine G.iload X1 hx (pc' := 46) (hb hby d6_44) rfl rfl ?_
  refine Goes.retI X1 hx hret hlk (hb hby d6_46) (by decide) (by decide) ⟨rfl, (by rw [e1]; exact K1), (by rw [e1]; exact A1_d)⟩
set_option maxRecDepth 65536 in
set_option maxHeartbeats 40000000 in
theorem rm_c3_1 (l : Launch) (Z : State) (a0 : Array Value) (hw : ∀ d ∈ tables_1, d.before a0 Z = true) (x : Addr) (u0 : Int32) (h0 : Heap) (Bx : Seq Z h0 x .char [(.int u0)]) (SA : Sta Z h0 "java/lang/StringUTF16" "$assertionsDisabled" "Z" (.int (1 : Int32))) (SH : Sta Z h0 "java/lang/StringUTF16" "HI_BYTE_SHIFT" "I" (.int (0 : Int32))) (SO : Sta Z h0 "java/lang/StringUTF16" "LO_BYTE_SHIFT" "I" (.int (8 : Int32))) (hu0 : isCh u0) :
    Con l (⟨"java/lang/StringUTF16", "compress", "([CII)[B"⟩ : MethodName) jdk_52_method_16_code 6 (some (.array .byte)) ({ frames := 3, cells := 2, slots := 3, locals := 40 } : Room) Z #[(.ref x), (.int (0 : Int32)), (.int (1 : Int32))] h0 (fun v h L => ∃ d cd xs, v = some (.ref d) ∧ Kp h0 h [] L ∧ Seq Z h d .byte xs ∧ SQ 1 u0 cd xs ∧ h0.size ≤ d) := by
  refine Con.of_body (plainFor_of_name pn_0) ?_
  intro p e s m below meth c T0 X0 hx hby hml hZ hown hnm hret hlk e0
  have hown : s.vm.findClass "java/lang/StringUTF16" = some m.cls := hown
  have hml : c.maxLocals = 6 := hml
  refine Goes.cast (ef5_RII m x (0 : Int32) (1 : Int32)) ?_
  have K0 := Kp.refl h0 []
  refine G.iloadN X0 hx (pc' := 1) (hb hby d5_0) rfl rfl ?_
  refine G.newP X0 hx hZ (hw _ (List.mem_of_getElem? (i := 24) rfl)) e0 (hb hby d5_1) (by decide) (n := 1) (cap := 1) rfl (by decide) (by decide) (by decide) (by decide) (pc' := 3) rfl fun T1 h1 d g1 X1 e1 Ex1 A1 => ?_
  have ne_x_d : x ≠ d := Nat.ne_of_lt (Nat.lt_of_lt_of_le Bx.lt (Nat.le_of_eq g1.symm))
  have sz_d : h0.size ≤ d := Nat.le_trans K0.size (Nat.le_of_eq g1.symm)
  have A1_x := Seq.ext Bx Ex1
  have K1 := Kp.ext K0 Ex1
  have A1_d : Seq Z h1 d .byte [(.int (0 : Int32))] := A1
  refine G.astoreN X1 hx (pc' := 4) (hb hby d5_3) rfl (L' := #[.val (.ref x), .val (.int (0 : Int32)), .val (.int (1 : Int32)), .val (.ref d), .unset, .unset]) rfl rfl ?_
  refine G.aloadN X1 hx (pc' := 5) (hb hby d5_4) rfl rfl rfl ?_
  refine G.iloadN X1 hx (pc' := 6) (hb hby d5_5) rfl rfl ?_
  refine G.aloadN X1 hx (pc' := 7) (hb hby d5_6) rfl rfl rfl ?_
  refine G.iconst X1 hx (pc' := 8) (hb hby d5_7) (z := (0 : Int32)) rfl rfl ?_
  refine G.iloadN X1 hx (pc' := 9) (hb hby d5_8) rfl rfl ?_
  by_cases hl0 : (255 : Int32) < u0
  · have hg := hl0
    refine G.callS X1 hx hZ (y := (⟨"java/lang/StringUTF16", "compress", "([CI[BII)I"⟩ : MethodName)) hown (hw _ (List.mem_of_getElem? (i := 25) rfl)) (hw _ (List.mem_of_getElem? (i := 26) rfl)) (hw _ (List.mem_of_getElem? (i := 22) rfl)) (hw _ (List.mem_of_getElem? (i := 27) rfl)) (by decide) e1 (rm := ({ frames := 0, cells := 0, slots := 0, locals := 0 } : Room)) (argsL := [(.ref x), (.int (0 : Int32)), (.ref d), (.int (0 : Int32)), (.int (1 : Int32))]) (S := []) (W := 0) (rm_c5_1_0 l Z a0 hw x d u0 h1 A1_x A1_d ne_x_d hg) (lenOf pd_15 rfl) rfl (Nat.le_of_eq rfl) (by decide) (by decide) (by decide) (by decide) (by rw [hml]; rfl) (hb hby d5_9) (pc' := 12) rfl ?_
    rintro T2 _ L2 ⟨rfl, Kq2⟩ X2
    have A2_x := Seq.keep A1_x Kq2.1 (ninS ne_x_d nin0)
    have K2 := Kp.call K1 Kq2 (allS (Or.inr sz_d) all0)
    show Goes p e below T2 (mkF m 12 #[.val (.ref x), .val (.int (0 : Int32)), .val (.int (1 : Int32)), .val (.ref d), .unset, .unset] [(.int (0 : Int32))]) _
    refine G.istore X2 hx (pc' := 14) (hb hby d5_12) (L' := #[.val (.ref x), .val (.int (0 : Int32)), .val (.int (1 : Int32)), .val (.ref d), .val (.int (0 : Int32)), .unset]) rfl rfl ?_
    refine G.iload X2 hx (pc' := 16) (hb hby d5_14) rfl rfl ?_
    refine G.iloadN X2 hx (pc' := 17) (hb hby d5_16) rfl rfl ?_
    refine G.icmpF X2 hx (pc' := 20) (hb hby d5_17) (Jvm.Free.XT.ii_eq_f (by decide)) rfl ?_
    refine G.aloadN X2 hx (pc' := 21) (hb hby d5_20) rfl rfl rfl ?_
    refine G.iloadN X2 hx (pc' := 22) (hb hby d5_21) rfl rfl ?_
    refine G.iloadN X2 hx (pc' := 23) (hb hby d5_22) rfl rfl ?_
    refine G.callS X2 hx hZ (y := (⟨"java/lang/StringUTF16", "toBytes", "([CII)[B"⟩ : MethodName)) hown (hw _ (List.mem_of_getElem? (i := 79) rfl)) (hw _ (List.mem_of_getElem? (i := 80) rfl)) (hw _ (List.mem_of_getElem? (i := 22) rfl)) (hw _ (List.mem_of_getElem? (i := 81) rfl)) (by decide) rfl (rm := ({ frames := 2, cells := 1, slots := 2, locals := 24 } : Room)) (argsL := [(.ref x), (.int (0 : Int32)), (.int (1 : Int32))]) (S := []) (W := 0) (rm_tb1 l Z a0 hw x u0 T2.heap A2_x (Sta.keep0 SA K2.1) (Sta.keep0 SH K2.1) (Sta.keep0 SO K2.1)) (lenOf pd_16 rfl) rfl (Nat.le_of_eq rfl) (by decide) (by decide) (by decide) (by decide) (by rw [hml]; rfl) (hb hby d5_23) (pc' := 26) rfl ?_
    rintro T3 _ L3 ⟨e_, rfl, Kq3, Ae3, gd3⟩ X3
    have A3_x := Seq.keep A2_x Kq3.1 nin0
    have K3 := Kp.call K2 Kq3 all0
    have sz_e : h0.size ≤ e_ := Nat.le_trans K2.size gd3
    show Goes p e below T3 (mkF m 26 #[.val (.ref x), .val (.int (0 : Int32)), .val (.int (1 : Int32)), .val (.ref d), .val (.int (0 : Int32)), .unset] [(.ref e_)]) _
    refine G.astore X3 hx (pc' := 28) (hb hby d5_26) rfl (L' := #[.val (.ref x), .val (.int (0 : Int32)), .val (.int (1 : Int32)), .val (.ref d), .val (.int (0 : Int32)), .val (.ref e_)]) rfl rfl ?_
    refine G.aload X3 hx (pc' := 30) (hb hby d5_28) rfl rfl rfl ?_
    refine G.iload X3 hx (pc' := 32) (hb hby d5_30) rfl rfl ?_
    refine G.callS X3 hx hZ (y := (⟨"java/lang/StringUTF16", "getChar", "([BI)C"⟩ : MethodName)) hown (hw _ (List.mem_of_getElem? (i := 95) rfl)) (hw _ (List.mem_of_getElem? (i := 96) rfl)) (hw _ (List.mem_of_getElem? (i := 22) rfl)) (hw _ (List.mem_of_getElem? (i := 97) rfl)) (by decide) rfl (rm := ({ frames := 0, cells := 0, slots := 0, locals := 0 } : Room)) (argsL := [(.ref e_), (.int (0 : Int32))]) (S := []) (W := 0) (rm_gc0 l Z a0 hw e_ [(.int (lo u0)), (.int (hi u0))] u0 T3.heap Ae3 (Sta.keep0 SA K3.1) (Sta.keep0 SH K3.1) (Sta.keep0 SO K3.1) rfl rfl hu0) (lenOf pd_8 rfl) rfl (Nat.le_of_eq rfl) (by decide) (by decide) (by decide) (by decide) (by rw [hml]; rfl) (hb hby d5_32) (pc' := 35) rfl ?_
    rintro T4 _ _ ⟨rfl, e4, rfl⟩ X4
    rw [List.append_nil] at X4
    show Goes p e below T4 (mkF m 35 #[.val (.ref x), .val (.int (0 : Int32)), .val (.int (1 : Int32)), .val (.ref d), .val (.int (0 : Int32)), .val (.ref e_)] [(.int u0)]) _
    refine G.sipush X4 hx (pc' := 38) (hb hby d5_35) (z := (255 : Int32)) rfl rfl ?_
    refine G.icmpT X4 hx (pc' := 54) (hb hby d5_38) (Jvm.Free.XT.ii_gt_t hg) (by decide) (by decide) ?_
    refine G.aload X4 hx (pc' := 56) (hb hby d5_54) rfl rfl rfl ?_
    refine Goes.retA X4 hx hret rfl hlk rfl rfl (hb hby d5_56) (by decide) (by decide) ⟨e_, (1 : Int32), _, rfl, (by rw [e4]; exact K3), (by rw [e4]; exact Ae3), Or.inr ⟨rfl, rfl, rfl, rfl⟩, sz_e⟩
  · refine G.callS X1 hx hZ (y := (⟨"java/lang/StringUTF16", "compress", "([CI[BII)I"⟩ : MethodName)) hown (hw _ (List.mem_of_getElem? (i := 25) rfl)) (hw _ (List.mem_of_getElem? (i := 26) rfl)) (hw _ (List.mem_of_getElem? (i := 22) rfl)) (hw _ (List.mem_of_getElem? (i := 27) rfl)) (by decide) e1 (rm := ({ frames := 0, cells := 0, slots := 0, locals := 0 } : Room)) (argsL := [(.ref x), (.int (0 : Int32)), (.ref d), (.int (0 : Int32)), (.int (1 : Int32))]) (S := []) (W := 0) (rm_c5_1_1 l Z a0 hw x d u0 h1 A1_x A1_d ne_x_d hl0) (lenOf pd_15 rfl) rfl (Nat.le_of_eq rfl) (by decide) (by decide) (by decide) (by decide) (by rw [hml]; rfl) (hb hby d5_9) (pc' := 12) rfl ?_
    rintro T5 _ L5 ⟨rfl, Kq5, Ad5⟩ X5
    have A5_x := Seq.keep A1_x Kq5.1 (ninS ne_x_d nin0)
    have K5 := Kp.call K1 Kq5 (allS (Or.inr sz_d) all0)
    show Goes p e below T5 (mkF m 12 #[.val (.ref x), .val (.int (0 : Int32)), .val (.int (1 : Int32)), .val (.ref d), .unset, .unset] [(.int (1 : Int32))]) _
    refine G.istore X5 hx (pc' := 14) (hb hby d5_12) (L' := #[.val (.ref x), .val (.int (0 : Int32)), .val (.int (1 : Int32)), .val (.ref d), .val (.int (1 : Int32)), .unset]) rfl rfl ?_
    refine G.iload X5 hx (pc' := 16) (hb hby d5_14) rfl rfl ?_
    refine G.iloadN X5 hx (pc' := 17) (hb hby d5_16) rfl rfl ?_
    refine G.icmpT X5 hx (pc' := 57) (hb hby d5_17) (Jvm.Free.XT.ii_eq_t rfl) (by decide) (by decide) ?_
    refine G.aloadN X5 hx (pc' := 58) (hb hby d5_57) rfl rfl rfl ?_
    refine Goes.retA X5 hx hret rfl hlk rfl rfl (hb hby d5_58) (by decide) (by decide) ⟨d, (0 : Int32), _, rfl, K5, Ad5, Or.inl ⟨rfl, rfl, rfl, hl0⟩, sz_d⟩
set_option maxRecDepth 65536 in
set_option maxHeartbeats 40000000 in
theorem rm_cl1_0 (l : Launch) (Z : State) (a0 : Array Value) (hw : ∀ d ∈ tables_1, d.before a0 Z = true) (d : Addr) (xs : List Value) (h0 : Heap) (Bd : Seq Z h0 d .byte xs) (hxl : xs.length = 1) :
    Con l (⟨"java/lang/StringUTF16", "coderFromArrayLen", "([BI)B"⟩ : MethodName) jdk_52_method_15_code 2 (some .byte) ({ frames := 0, cells := 0, slots := 0, locals := 0 } : Room) Z #[(.ref d), (.int (1 : Int32))] h0 (Pur (some (.int (0 : Int32))) h0) := by
  refine Con.of_body (plainFor_of_name pn_0) ?_
  intro p e s m below meth c T0 X0 hx hby hml hZ hown hnm hret hlk e0
  have hown : s.vm.findClass "java/lang/StringUTF16" = some m.cls := hown
  have hml : c.maxLocals = 2 := hml
  refine Goes.cast (ef7_RI m d (1 : Int32)) ?_
  refine G.iloadN X0 hx (pc' := 1) (hb hby d7_0) rfl rfl ?_
  refine G.aloadN X0 hx (pc' := 2) (hb hby d7_1) rfl rfl rfl ?_
  refine G.arraylength X0 hx hZ e0 Bd (pc' := 3) (hb hby d7_2) (z := (1 : Int32)) (by rw [hxl]; rfl) rfl ?_
  refine G.isub X0 hx (pc' := 4) (hb hby d7_3) rfl ?_
  refine G.bipush X0 hx (pc' := 6) (hb hby d7_4) (z := (31 : Int32)) rfl rfl ?_
  refine G.iushr X0 hx (pc' := 7) (hb hby d7_6) rfl ?_
  refine G.i2b X0 hx (pc' := 8) (hb hby d7_7) rfl ?_
  refine Goes.retN X0 hx hret (by simp) hlk (hb hby d7_8) (by decide) (by decide) ⟨congrArg (fun z => some (Value.int z)) (by decide), e0, rfl⟩
set_option maxRecDepth 65536 in
set_option maxHeartbeats 40000000 in
theorem rm_cl1_1 (l : Launch) (Z : State) (a0 : Array Value) (hw : ∀ d ∈ tables_1, d.before a0 Z = true) (d : Addr) (xs : List Value) (h0 : Heap) (Bd : Seq Z h0 d .byte xs) (hxl : xs.length = 2) :
    Con l (⟨"java/lang/StringUTF16", "coderFromArrayLen", "([BI)B"⟩ : MethodName) jdk_52_method_15_code 2 (some .byte) ({ frames := 0, cells := 0, slots := 0, locals := 0 } : Room) Z #[(.ref d), (.int (1 : Int32))] h0 (Pur (some (.int (1 : Int32))) h0) := by
  refine Con.of_body (plainFor_of_name pn_0) ?_
  intro p e s m below meth c T0 X0 hx hby hml hZ hown hnm hret hlk e0
  have hown : s.vm.findClass "java/lang/StringUTF16" = some m.cls := hown
  have hml : c.maxLocals = 2 := hml
  refine Goes.cast (ef7_RI m d (1 : Int32)) ?_
  refine G.iloadN X0 hx (pc' := 1) (hb hby d7_0) rfl rfl ?_
  refine G.aloadN X0 hx (pc' := 2) (hb hby d7_1) rfl rfl rfl ?_
  refine G.arraylength X0 hx hZ e0 Bd (pc' := 3) (hb hby d7_2) (z := (2 : Int32)) (by rw [hxl]; rfl) rfl ?_
  refine G.isub X0 hx (pc' := 4) (hb hby d7_3) rfl ?_
  refine G.bipush X0 hx (pc' := 6) (hb hby d7_4) (z := (31 : Int32)) rfl rfl ?_
  refine G.iushr X0 hx (pc' := 7) (hb hby d7_6) rfl ?_
  refine G.i2b X0 hx (pc' := 8) (hb hby d7_7) rfl ?_
  refine Goes.retN X0 hx hret (by simp) hlk (hb hby d7_8) (by decide) (by decide) ⟨congrArg (fun z => some (Value.int z)) (by decide), e0, rfl⟩
set_option maxRecDepth 65536 in
set_option maxHeartbeats 40000000 in
theorem rm_s4_1 (l : Launch) (Z : State) (a0 : Array Value) (hw : ∀ d ∈ tables_1, d.before a0 Z = true) (a x : Addr) (u0 : Int32) (cs : Int32) (h0 : Heap) (SC : Sta Z h0 "java/lang/String" "COMPACT_STRINGS" "Z" (.int cs)) (hcs : ¬ cs = (0 : Int32)) (SA : Sta Z h0 "java/lang/StringUTF16" "$assertionsDisabled" "Z" (.int (1 : Int32))) (SH : Sta Z h0 "java/lang/StringUTF16" "HI_BYTE_SHIFT" "I" (.int (0 : Int32))) (SO : Sta Z h0 "java/lang/StringUTF16" "LO_BYTE_SHIFT" "I" (.int (8 : Int32))) (Ea : Exa Z h0 a "java/lang/String") (Fc : Fld Z h0 a "java/lang/String" "coder" "B" (.int (0 : Int32))) (Fv : Fld Z h0 a "java/lang/String" "value" "[B" .null) (Bx : Seq Z h0 x .char [(.int u0)]) (nax : a ≠ x) (hu0 : isCh u0) :
    Con l (⟨"java/lang/String", "<init>", "([CIILjava/lang/Void;)V"⟩ : MethodName) jdk_42_method_149_code 6 none ({ frames := 4, cells := 2, slots := 3, locals := 57 } : Room) Z #[(.ref a), (.ref x), (.int (0 : Int32)), (.int (1 : Int32)), .null] h0 (fun v h L => v = none ∧ Kp h0 h [a] L ∧ ∃ b cd xs, Fld Z h a "java/lang/String" "coder" "B" (.int cd) ∧ Fld Z h a "java/lang/String" "value" "[B" (.ref b) ∧ Seq Z h b .byte xs ∧ SQ 1 u0 cd xs ∧ h0.size ≤ b) := by
  refine Con.of_body (plainFor_of_name pn_3) ?_
  intro p e s m below meth c T0 X0 hx hby hml hZ hown hnm hret hlk e0
  have hown : s.vm.findClass "java/lang/String" = some m.cls := hown
  have hml : c.maxLocals = 6 := hml
  refine Goes.cast (ef3_RRIIN m a x (0 : Int32) (1 : Int32)) ?_
  have K0 := Kp.refl h0 [a]
  refine G.aloadN X0 hx (pc' := 1) (hb hby d3_0) rfl rfl rfl ?_
  refine G.initO X0 hx hZ hown (hw _ (List.mem_of_getElem? (i := 16) rfl)) (hw _ (List.mem_of_getElem? (i := 17) rfl)) (hw _ (List.mem_of_getElem? (i := 18) rfl)) e0 (by rw [hml]; rfl) (hb hby d3_1) (by decide) (W := 0) (Nat.le_of_eq rfl) (by decide) (pc' := 4) rfl fun T1 X1 e1 => ?_
  refine G.iloadN X1 hx (pc' := 5) (hb hby d3_4) rfl rfl ?_
  refine G.ifT X1 hx (pc' := 27) (hb hby d3_5) (Jvm.Free.XT.i0_ne_t (by decide)) (by decide) (by decide) ?_
  refine G.getS X1 hx hZ hown (hw _ (List.mem_of_getElem? (i := 19) rfl)) Via.refl e1 SC (pc' := 30) (hb hby d3_27) rfl fun T2 X2 e2 => ?_
  refine G.ifF X2 hx (pc' := 33) (hb hby d3_30) (Jvm.Free.XT.i0_eq_f hcs) rfl ?_
  refine G.aloadN X2 hx (pc' := 34) (hb hby d3_33) rfl rfl rfl ?_
  refine G.iloadN X2 hx (pc' := 35) (hb hby d3_34) rfl rfl ?_
  refine G.iloadN X2 hx (pc' := 36) (hb hby d3_35) rfl rfl ?_
  refine G.callS X2 hx hZ (y := (⟨"java/lang/StringUTF16", "compress", "([CII)[B"⟩ : MethodName)) hown (hw _ (List.mem_of_getElem? (i := 20) rfl)) (hw _ (List.mem_of_getElem? (i := 21) rfl)) (hw _ (List.mem_of_getElem? (i := 22) rfl)) (hw _ (List.mem_of_getElem? (i := 23) rfl)) (by decide) e2 (rm := ({ frames := 3, cells := 2, slots := 3, locals := 40 } : Room)) (argsL := [(.ref x), (.int (0 : Int32)), (.int (1 : Int32))]) (S := []) (W := 0) (rm_c3_1 l Z a0 hw x u0 h0 Bx SA SH SO hu0) (lenOf pd_16 rfl) rfl (Nat.le_of_eq rfl) (by decide) (by decide) (by decide) (by decide) (by rw [hml]; rfl) (hb hby d3_36) (pc' := 39) rfl ?_
  rintro T3 _ L3 ⟨d, cd, xs, rfl, Kq3, Ad3, hsq, gd3⟩ X3
  have F3_a_coder := Fld.keep Fc Kq3.1 nin0
  have F3_a_value := Fld.keep Fv Kq3.1 nin0
  have E3_a := Exa.keep Ea Kq3.1
  have A3_x := Seq.keep Bx Kq3.1 nin0
  have K3 := Kp.call K0 Kq3 all0
  have ne_a_d : a ≠ d := Nat.ne_of_lt (Nat.lt_of_lt_of_le Ea.lt gd3)
  have ne_x_d : x ≠ d := Nat.ne_of_lt (Nat.lt_of_lt_of_le Bx.lt gd3)
  show Goes p e below T3 (mkF m 39 #[.val (.ref a), .val (.ref x), .val (.int (0 : Int32)), .val (.int (1 : Int32)), .val .null, .unset] [(.ref d)]) _
  refine G.astore X3 hx (pc' := 41) (hb hby d3_39) rfl (L' := #[.val (.ref a), .val (.ref x), .val (.int (0 : Int32)), .val (.int (1 : Int32)), .val .null, .val (.ref d)]) rfl rfl ?_
  refine G.aloadN X3 hx (pc' := 42) (hb hby d3_41) rfl rfl rfl ?_
  refine G.aload X3 hx (pc' := 44) (hb hby d3_42) rfl rfl rfl ?_
  refine G.iloadN X3 hx (pc' := 45) (hb hby d3_44) rfl rfl ?_
  have hsq' := hsq
  rcases hsq' with ⟨rfl, hxl, -, -⟩ | ⟨rfl, hxl, -, -⟩
  · refine G.callS X3 hx hZ (y := (⟨"java/lang/StringUTF16", "coderFromArrayLen", "([BI)B"⟩ : MethodName)) hown (hw _ (List.mem_of_getElem? (i := 28) rfl)) (hw _ (List.mem_of_getElem? (i := 29) rfl)) (hw _ (List.mem_of_getElem? (i := 22) rfl)) (hw _ (List.mem_of_getElem? (i := 30) rfl)) (by decide) rfl (rm := ({ frames := 0, cells := 0, slots := 0, locals := 0 } : Room)) (argsL := [(.ref d), (.int (1 : Int32))]) (S := [(.ref a)]) (W := 1) (rm_cl1_0 l Z a0 hw d xs T3.heap Ad3 hxl) (lenOf pd_17 rfl) rfl (Nat.le_of_eq rfl) (by decide) (by decide) (by decide) (by decide) (by rw [hml]; rfl) (hb hby d3_45) (pc' := 48) rfl ?_
    rintro T4 _ _ ⟨rfl, e4, rfl⟩ X4
    rw [List.append_nil] at X4
    show Goes p e below T4 (mkF m 48 #[.val (.ref a), .val (.ref x), .val (.int (0 : Int32)), .val (.int (1 : Int32)), .val .null, .val (.ref d)] [(.int (0 : Int32)), (.ref a)]) _
    refine G.putFN X4 hx hZ hown (hw _ (List.mem_of_getElem? (i := 31) rfl)) Via.refl e4 F3_a_coder E3_a (Or.inr ⟨(hw _ (List.mem_of_getElem? (i := 32) rfl)), rfl, hnm⟩) (hw _ (List.mem_of_getElem? (i := 7) rfl)) (ty := .byte) (v' := (.int (nar .byte (0 : Int32)))) (by decide) rfl (fits_nar_byte _) (pc' := 51) (hb hby d3_48) rfl fun T5 h5 X5 e5 W5 => ?_
    have F5_a_value := Fld.other W5 F3_a_value (Or.inr (slot_ne (Or.inr (hw _ (List.mem_of_getElem? (i := 34) rfl))) (Or.inr (hw _ (List.mem_of_getElem? (i := 32) rfl))) (by decide) (t := (.array .byte)) (t' := .byte) (by decide) (by decide)))
    have E5_a := Exa.wr W5 E3_a
    have A5_x := Seq.other A3_x W5 (Ne.symm nax)
    have A5_d := Seq.other Ad3 W5 (Ne.symm ne_a_d)
    have K5 := Kp.wr K3 W5 (Or.inl (List.mem_of_getElem? (i := 0) rfl))
    have F5_a_coder := Fld.same W5 F3_a_coder
    refine G.aloadN X5 hx (pc' := 52) (hb hby d3_51) rfl rfl rfl ?_
    refine G.aload X5 hx (pc' := 54) (hb hby d3_52) rfl rfl rfl ?_
    refine G.putF X5 hx hZ hown (hw _ (List.mem_of_getElem? (i := 33) rfl)) Via.refl e5 F5_a_value E5_a (Or.inr ⟨(hw _ (List.mem_of_getElem? (i := 34) rfl)), rfl, hnm⟩) (hw _ (List.mem_of_getElem? (i := 7) rfl)) (ty := (.array .byte)) (by decide) rfl rfl (pc' := 57) (hb hby d3_54) rfl fun T6 h6 X6 e6 W6 => ?_
    have F6_a_coder := Fld.other W6 F5_a_coder (Or.inr (slot_ne (Or.inr (hw _ (List.mem_of_getElem? (i := 32) rfl))) (Or.inr (hw _ (List.mem_of_getElem? (i := 34) rfl))) (by decide) (t := .byte) (t' := (.array .byte)) (by decide) (by decide)))
    have E6_a := Exa.wr W6 E5_a
    have A6_x := Seq.other A5_x W6 (Ne.symm nax)
    have A6_d := Seq.other A5_d W6 (Ne.symm ne_a_d)
    have K6 := Kp.wr K5 W6 (Or.inl (List.mem_of_getElem? (i := 0) rfl))
    have F6_a_value := Fld.same W6 F5_a_value
    refine Goes.retV X6 hx hret hlk (hb hby d3_57) (by decide) (by decide) ⟨rfl, (by rw [e6]; exact K6), d, (0 : Int32), xs, (by rw [e6]; exact F6_a_coder), (by rw [e6]; exact F6_a_value), (by rw [e6]; exact A6_d), hsq, gd3⟩
  · refine G.callS X3 hx hZ (y := (⟨"java/lang/StringUTF16", "coderFromArrayLen", "([BI)B"⟩ : MethodName)) hown (hw _ (List.mem_of_getElem? (i := 28) rfl)) (hw _ (List.mem_of_getElem? (i := 29) rfl)) (hw _ (List.mem_of_getElem? (i := 22) rfl)) (hw _ (List.mem_of_getElem? (i := 30) rfl)) (by decide) rfl (rm := ({ frames := 0, cells := 0, slots := 0, locals := 0 } : Room)) (argsL := [(.ref d), (.int (1 : Int32))]) (S := [(.ref a)]) (W := 1) (rm_cl1_1 l Z a0 hw d xs T3.heap Ad3 hxl) (lenOf pd_17 rfl) rfl (Nat.le_of_eq rfl) (by decide) (by decide) (by decide) (by decide) (by rw [hml]; rfl) (hb hby d3_45) (pc' := 48) rfl ?_
    rintro T7 _ _ ⟨rfl, e7, rfl⟩ X7
    rw [List.append_nil] at X7
    show Goes p e below T7 (mkF m 48 #[.val (.ref a), .val (.ref x), .val (.int (0 : Int32)), .val (.int (1 : Int32)), .val .null, .val (.ref d)] [(.int (1 : Int32)), (.ref a)]) _
    refine G.putFN X7 hx hZ hown (hw _ (List.mem_of_getElem? (i := 31) rfl)) Via.refl e7 F3_a_coder E3_a (Or.inr ⟨(hw _ (List.mem_of_getElem? (i := 32) rfl)), rfl, hnm⟩) (hw _ (List.mem_of_getElem? (i := 7) rfl)) (ty := .byte) (v' := (.int (nar .byte (1 : Int32)))) (by decide) rfl (fits_nar_byte _) (pc' := 51) (hb hby d3_48) rfl fun T8 h8 X8 e8 W8 => ?_
    have F8_a_value := Fld.other W8 F3_a_value (Or.inr (slot_ne (Or.inr (hw _ (List.mem_of_getElem? (i := 34) rfl))) (Or.inr (hw _ (List.mem_of_getElem? (i := 32) rfl))) (by decide) (t := (.array .byte)) (t' := .byte) (by decide) (by decide)))
    have E8_a := Exa.wr W8 E3_a
    have A8_x := Seq.other A3_x W8 (Ne.symm nax)
    have A8_d := Seq.other Ad3 W8 (Ne.symm ne_a_d)
    have K8 := Kp.wr K3 W8 (Or.inl (List.mem_of_getElem? (i := 0) rfl))
    have F8_a_coder := Fld.same W8 F3_a_coder
    refine G.aloadN X8 hx (pc' := 52) (hb hby d3_51) rfl rfl rfl ?_
    refine G.aload X8 hx (pc' := 54) (hb hby d3_52) rfl rfl rfl ?_
    refine G.putF X8 hx hZ hown (hw _ (List.mem_of_getElem? (i := 33) rfl)) Via.refl e8 F8_a_value E8_a (Or.inr ⟨(hw _ (List.mem_of_getElem? (i := 34) rfl)), rfl, hnm⟩) (hw _ (List.mem_of_getElem? (i := 7) rfl)) (ty := (.array .byte)) (by decide) rfl rfl (pc' := 57) (hb hby d3_54) rfl fun T9 h9 X9 e9 W9 => ?_
    have F9_a_coder := Fld.other W9 F8_a_coder (Or.inr (slot_ne (Or.inr (hw _ (List.mem_of_getElem? (i := 32) rfl))) (Or.inr (hw _ (List.mem_of_getElem? (i := 34) rfl))) (by decide) (t := .byte) (t' := (.array .byte)) (by decide) (by decide)))
    have E9_a := Exa.wr W9 E8_a
    have A9_x := Seq.other A8_x W9 (Ne.symm nax)
    have A9_d := Seq.other A8_d W9 (Ne.symm ne_a_d)
    have K9 := Kp.wr K8 W9 (Or.inl (List.mem_of_getElem? (i := 0) rfl))
    have F9_a_value := Fld.same W9 F8_a_value
    refine Goes.retV X9 hx hret hlk (hb hby d3_57) (by decide) (by decide) ⟨rfl, (by rw [e9]; exact K9), d, (1 : Int32), xs, (by rw [e9]; exact F9_a_coder), (by rw [e9]; exact F9_a_value), (by rw [e9]; exact A9_d), hsq, gd3⟩
set_option maxRecDepth 65536 in
set_option maxHeartbeats 40000000 in
theorem rm_s1_1 (l : Launch) (Z : State) (a0 : Array Value) (hw : ∀ d ∈ tables_1, d.before a0 Z = true) (a x : Addr) (u0 : Int32) (cs : Int32) (h0 : Heap) (SC : Sta Z h0 "java/lang/String" "COMPACT_STRINGS" "Z" (.int cs)) (hcs : ¬ cs = (0 : Int32)) (SA : Sta Z h0 "java/lang/StringUTF16" "$assertionsDisabled" "Z" (.int (1 : Int32))) (SH : Sta Z h0 "java/lang/StringUTF16" "HI_BYTE_SHIFT" "I" (.int (0 : Int32))) (SO : Sta Z h0 "java/lang/StringUTF16" "LO_BYTE_SHIFT" "I" (.int (8 : Int32))) (Ea : Exa Z h0 a "java/lang/String") (Fc : Fld Z h0 a "java/lang/String" "coder" "B" (.int (0 : Int32))) (Fv : Fld Z h0 a "java/lang/String" "value" "[B" .null) (Bx : Seq Z h0 x .char [(.int u0)]) (nax : a ≠ x) (hu0 : isCh u0) :
    Con l (⟨"java/lang/String", "<init>", "([C)V"⟩ : MethodName) jdk_42_method_3_code 2 none ({ frames := 5, cells := 2, slots := 3, locals := 74 } : Room) Z #[(.ref a), (.ref x)] h0 (fun v h L => v = none ∧ Kp h0 h [a] L ∧ ∃ b cd xs, Fld Z h a "java/lang/String" "coder" "B" (.int cd) ∧ Fld Z h a "java/lang/String" "value" "[B" (.ref b) ∧ Seq Z h b .byte xs ∧ SQ 1 u0 cd xs ∧ h0.size ≤ b) := by
  refine Con.of_body (plainFor_of_name pn_3) ?_
  intro p e s m below meth c T0 X0 hx hby hml hZ hown hnm hret hlk e0
  have hown : s.vm.findClass "java/lang/String" = some m.cls := hown
  have hml : c.maxLocals = 2 := hml
  refine Goes.cast (ef2_RR m a x) ?_
  have K0 := Kp.refl h0 [a]
  refine G.aloadN X0 hx (pc' := 1) (hb hby d2_0) rfl rfl rfl ?_
  refine G.aloadN X0 hx (pc' := 2) (hb hby d2_1) rfl rfl rfl ?_
  refine G.iconst X0 hx (pc' := 3) (hb hby d2_2) (z := (0 : Int32)) rfl rfl ?_
  refine G.aloadN X0 hx (pc' := 4) (hb hby d2_3) rfl rfl rfl ?_
  refine G.arraylength X0 hx hZ e0 Bx (pc' := 5) (hb hby d2_4) (z := (1 : Int32)) rfl rfl ?_
  refine G.aconstNull X0 hx (pc' := 6) (hb hby d2_5) rfl ?_
  refine G.callI X0 hx hZ (y := (⟨"java/lang/String", "<init>", "([CIILjava/lang/Void;)V"⟩ : MethodName)) rfl hown (hw _ (List.mem_of_getElem? (i := 12) rfl)) (hw _ (List.mem_of_getElem? (i := 13) rfl)) (hw _ (List.mem_of_getElem? (i := 8) rfl)) (hw _ (List.mem_of_getElem? (i := 15) rfl)) (by decide) e0 (rm := ({ frames := 4, cells := 2, slots := 3, locals := 57 } : Room)) (argsL := [(.ref x), (.int (0 : Int32)), (.int (1 : Int32)), .null]) (S := []) (W := 0) (a := a) (rm_s4_1 l Z a0 hw a x u0 cs h0 SC hcs SA SH SO Ea Fc Fv Bx nax hu0) (lenOf pd_18 rfl) rfl (Nat.le_of_eq rfl) (by decide) (by decide) (by decide) (by decide) (by rw [hml]; rfl) (hb hby d2_6) (pc' := 9) rfl ?_
  rintro T1 _ L1 ⟨rfl, Kq1, hrest⟩ X1
  have E1_a := Exa.keep Ea Kq1.1
  have A1_x := Seq.keep Bx Kq1.1 (ninS (Ne.symm nax) nin0)
  have K1 := Kp.call K0 Kq1 (allS (Or.inl (List.mem_of_getElem? (i := 0) rfl)) all0)
  show Goes p e below T1 (mkF m 9 #[.val (.ref a), .val (.ref x)] []) _
  refine Goes.retV X1 hx hret hlk (hb hby d2_9) (by decide) (by decide) ⟨rfl, K1, hrest⟩
set_option maxRecDepth 65536 in
set_option maxHeartbeats 40000000 in
theorem rm_make1 (l : Launch) (Z : State) (a0 : Array Value) (hw : ∀ d ∈ tables_1, d.before a0 Z = true) (u0 u1 u2 u3 cs : Int32) (h0 : Heap) (SC : Sta Z h0 "java/lang/String" "COMPACT_STRINGS" "Z" (.int cs)) (hcs : ¬ cs = (0 : Int32)) (SA : Sta Z h0 "java/lang/StringUTF16" "$assertionsDisabled" "Z" (.int (1 : Int32))) (SH : Sta Z h0 "java/lang/StringUTF16" "HI_BYTE_SHIFT" "I" (.int (0 : Int32))) (SO : Sta Z h0 "java/lang/StringUTF16" "LO_BYTE_SHIFT" "I" (.int (8 : Int32))) (hu0 : isCh u0) (hu1 : isCh u1) (hu2 : isCh u2) (hu3 : isCh u3) :
    Con l (⟨"com/example/bowerbird/bowerbird/RequiredTextPinLaw", "make", "(ICCCC)Ljava/lang/String;"⟩ : MethodName) method_3_code 6 (some (.object "java/lang/String")) ({ frames := 6, cells := 4, slots := 8, locals := 88 } : Room) Z #[(.int (1 : Int32)), (.int u0), (.int u1), (.int u2), (.int u3)] h0 (fun v h L => ∃ a, v = some (.ref a) ∧ Kp h0 h [] L ∧ Exa Z h a "java/lang/String" ∧ ∃ b cd xs, Fld Z h a "java/lang/String" "coder" "B" (.int cd) ∧ Fld Z h a "java/lang/String" "value" "[B" (.ref b) ∧ Seq Z h b .byte xs ∧ SQ 1 u0 cd xs) := by
  refine Con.of_body (plainFor_of_name pn_20) ?_
  intro p e s m below meth c T0 X0 hx hby hml hZ hown hnm hret hlk e0
  have hown : s.vm.findClass "com/example/bowerbird/bowerbird/RequiredTextPinLaw" = some m.cls := hown
  have hml : c.maxLocals = 6 := hml
  refine Goes.cast (ef1_IIIII m (1 : Int32) u0 u1 u2 u3) ?_
  have K0 := Kp.refl h0 []
  refine G.iloadN X0 hx (pc' := 1) (hb hby d1_0) rfl rfl ?_
  refine G.iconst X0 hx (pc' := 2) (hb hby d1_1) (z := (1 : Int32)) rfl rfl ?_
  refine G.icmpF X0 hx (pc' := 5) (hb hby d1_2) (Jvm.Free.XT.ii_ne_f rfl) rfl ?_
  refine G.iconst X0 hx (pc' := 6) (hb hby d1_5) (z := (1 : Int32)) rfl rfl ?_
  refine G.newP X0 hx hZ (hw _ (List.mem_of_getElem? (i := 5) rfl)) e0 (hb hby d1_6) (by decide) (n := 1) (cap := 1) rfl (by decide) (by decide) (by decide) (by decide) (pc' := 8) rfl fun T1 h1 x g1 X1 e1 Ex1 A1 => ?_
  have sz_x : h0.size ≤ x := Nat.le_trans K0.size (Nat.le_of_eq g1.symm)
  have K1 := Kp.ext K0 Ex1
  have A1_x : Seq Z h1 x .char [(.int (0 : Int32))] := A1
  refine G.astore X1 hx (pc' := 10) (hb hby d1_8) rfl (L' := #[.val (.int (1 : Int32)), .val (.int u0), .val (.int u1), .val (.int u2), .val (.int u3), .val (.ref x)]) rfl rfl ?_
  refine G.aload X1 hx (pc' := 12) (hb hby d1_10) rfl rfl rfl ?_
  refine G.iconst X1 hx (pc' := 13) (hb hby d1_12) (z := (0 : Int32)) rfl rfl ?_
  refine G.iloadN X1 hx (pc' := 14) (hb hby d1_13) rfl rfl ?_
  refine G.castore X1 hx hZ e1 A1_x (pc' := 15) (hb hby d1_14) (by decide) (Nat.le_of_ble_eq_true rfl) rfl fun T2 h2 X2 e2 W2 A2 => ?_
  have K2 := Kp.wr K1 W2 (Or.inr sz_x)
  have A2_x : Seq Z h2 x .char [(.int (nar .char u0))] := A2
  rw [own_nc hu0] at A2_x
  refine G.newO X2 hx hZ hown (hw _ (List.mem_of_getElem? (i := 6) rfl)) (hw _ (List.mem_of_getElem? (i := 7) rfl)) (hw _ (List.mem_of_getElem? (i := 8) rfl)) e2 (hb hby d1_15) (by decide) (by decide) (pc' := 18) rfl fun T3 h3 a g3 X3 e3 Ex3 Ea3 D3 => ?_
  have ne_x_a : x ≠ a := Nat.ne_of_lt (Nat.lt_of_lt_of_le A2_x.lt (Nat.le_of_eq g3.symm))
  have sz_a : h0.size ≤ a := Nat.le_trans K2.size (Nat.le_of_eq g3.symm)
  have A3_x := Seq.ext A2_x Ex3
  have K3 := Kp.ext K2 Ex3
  have F3_a_coder : Fld Z h3 a "java/lang/String" "coder" "B" (.int (0 : Int32)) := D3 (Or.inr (hw _ (List.mem_of_getElem? (i := 32) rfl))) (ty := .byte) (by decide)
  have F3_a_value : Fld Z h3 a "java/lang/String" "value" "[B" .null := D3 (Or.inr (hw _ (List.mem_of_getElem? (i := 34) rfl))) (ty := (.array .byte)) (by decide)
  refine G.dup X3 hx (pc' := 19) (hb hby d1_18) rfl rfl ?_
  refine G.aload X3 hx (pc' := 21) (hb hby d1_19) rfl rfl rfl ?_
  refine G.callI X3 hx hZ (y := (⟨"java/lang/String", "<init>", "([C)V"⟩ : MethodName)) rfl hown (hw _ (List.mem_of_getElem? (i := 9) rfl)) (hw _ (List.mem_of_getElem? (i := 10) rfl)) (hw _ (List.mem_of_getElem? (i := 8) rfl)) (hw _ (List.mem_of_getElem? (i := 11) rfl)) (by decide) e3 (rm := ({ frames := 5, cells := 2, slots := 3, locals := 74 } : Room)) (argsL := [(.ref x)]) (S := [(.ref a)]) (W := 1) (a := a) (rm_s1_1 l Z a0 hw a x u0 cs h3 (Sta.keep0 SC K3.1) hcs (Sta.keep0 SA K3.1) (Sta.keep0 SH K3.1) (Sta.keep0 SO K3.1) Ea3 F3_a_coder F3_a_value A3_x (Ne.symm ne_x_a) hu0) (lenOf pd_19 rfl) rfl (Nat.le_of_eq rfl) (by decide) (by decide) (by decide) (by decide) (by rw [hml]; rfl) (hb hby d1_21) (pc' := 24) rfl ?_
  rintro T4 _ L4 ⟨rfl, Kq4, b, cd, xs, Fc, Fv, Ab, hsq, gb⟩ X4
  have E4_a := Exa.keep Ea3 Kq4.1
  have A4_x := Seq.keep A3_x Kq4.1 (ninS ne_x_a nin0)
  have K4 := Kp.call K3 Kq4 (allS (Or.inr sz_a) all0)
  show Goes p e below T4 (mkF m 24 #[.val (.int (1 : Int32)), .val (.int u0), .val (.int u1), .val (.int u2), .val (.int u3), .val (.ref x)] [(.ref a)]) _
  refine Goes.retA X4 hx hret rfl hlk rfl rfl (hb hby d1_24) (by decide) (by decide) ⟨a, rfl, K4, E4_a, b, cd, xs, Fc, Fv, Ab, hsq⟩
set_option maxRecDepth 65536 in
set_option maxHeartbeats 40000000 in
theorem rm_pu0_2 (l : Launch) (Z : State) (a0 : Array Value) (hw : ∀ d ∈ tables_1, d.before a0 Z = true) (d : Addr) (xs : List Value) (u0 : Int32) (h0 : Heap) (Bd : Seq Z h0 d .byte xs) (SA : Sta Z h0 "java/lang/StringUTF16" "$assertionsDisabled" "Z" (.int (1 : Int32))) (SH : Sta Z h0 "java/lang/StringUTF16" "HI_BYTE_SHIFT" "I" (.int (0 : Int32))) (SO : Sta Z h0 "java/lang/StringUTF16" "LO_BYTE_SHIFT" "I" (.int (8 : Int32))) (hxl : xs.length = 4) :
    Con l (⟨"java/lang/StringUTF16", "putChar", "([BII)V"⟩ : MethodName) jdk_52_method_4_code 3 none ({ frames := 0, cells := 0, slots := 0, locals := 0 } : Room) Z #[(.ref d), (.int (0 : Int32)), (.int u0)] h0 (fun v h L => v = none ∧ Kp h0 h [d] L ∧ Seq Z h d .byte ((xs.set 0 (.int (lo u0))).set 1 (.int (hi u0)))) := by
  refine Con.of_body (plainFor_of_name pn_0) ?_
  intro p e s m below meth c T0 X0 hx hby hml hZ hown hnm hret hlk e0
  have hown : s.vm.findClass "java/lang/StringUTF16" = some m.cls := hown
  have hml : c.maxLocals = 3 := hml
  refine Goes.cast (ef20_RII m d (0 : Int32) u0) ?_
  have K0 := Kp.refl h0 [d]
  refine G.getS X0 hx hZ hown (hw _ (List.mem_of_getElem? (i := 92) rfl)) Via.refl e0 SA (pc' := 3) (hb hby d20_0) rfl fun T1 X1 e1 => ?_
  refine G.ifT X1 hx (pc' := 28) (hb hby d20_3) (Jvm.Free.XT.i0_ne_t (by decide)) (by decide) (by decide) ?_
  refine G.iloadN X1 hx (pc' := 29) (hb hby d20_28) rfl rfl ?_
  refine G.iconst X1 hx (pc' := 30) (hb hby d20_29) (z := (1 : Int32)) rfl rfl ?_
  refine G.ishl X1 hx (pc' := 31) (hb hby d20_30) rfl ?_
  refine G.istoreN X1 hx (pc' := 32) (hb hby d20_31) (L' := #[.val (.ref d), .val (.int ((0 : Int32) <<< ((1 : Int32) &&& 31))), .val (.int u0)]) rfl rfl ?_
  show Goes p e below T1 (mkF m 32 #[.val (.ref d), .val (.int (0 : Int32)), .val (.int u0)] []) _
  refine G.aloadN X1 hx (pc' := 33) (hb hby d20_32) rfl rfl rfl ?_
  refine G.iloadN X1 hx (pc' := 34) (hb hby d20_33) rfl rfl ?_
  refine G.iinc X1 hx (pc' := 37) (hb hby d20_34) rfl (L' := #[.val (.ref d), .val (.int ((0 : Int32) + (1 : Int32))), .val (.int u0)]) rfl rfl ?_
  refine G.iloadN X1 hx (pc' := 38) (hb hby d20_37) rfl rfl ?_
  refine G.getS X1 hx hZ hown (hw _ (List.mem_of_getElem? (i := 93) rfl)) Via.refl e1 SH (pc' := 41) (hb hby d20_38) rfl fun T2 X2 e2 => ?_
  refine G.ishr X2 hx (pc' := 42) (hb hby d20_41) rfl ?_
  refine G.i2b X2 hx (pc' := 43) (hb hby d20_42) rfl ?_
  show Goes p e below T2 (mkF m 43 #[.val (.ref d), .val (.int (1 : Int32)), .val (.int u0)] [(.int ((u0 >>> ((0 : Int32) &&& 31)).toInt8.toInt32)), (.int (0 : Int32)), (.ref d)]) _
  refine G.bastore X2 hx hZ e2 Bd (pc' := 44) (hb hby d20_43) (by decide) (by rw [hxl]; decide) rfl fun T3 h3 X3 e3 W3 A3 => ?_
  have S3__assertionsDisabled := Sta.wr W3 SA
  have S3_HI_BYTE_SHIFT := Sta.wr W3 SH
  have S3_LO_BYTE_SHIFT := Sta.wr W3 SO
  have K3 := Kp.wr K0 W3 (Or.inl (List.mem_of_getElem? (i := 0) rfl))
  have A3_d : Seq Z h3 d .byte (xs.set 0 (.int (lo u0))) := A3
  refine G.aloadN X3 hx (pc' := 45) (hb hby d20_44) rfl rfl rfl ?_
  refine G.iloadN X3 hx (pc' := 46) (hb hby d20_45) rfl rfl ?_
  refine G.iloadN X3 hx (pc' := 47) (hb hby d20_46) rfl rfl ?_
  refine G.getS X3 hx hZ hown (hw _ (List.mem_of_getElem? (i := 94) rfl)) Via.refl e3 S3_LO_BYTE_SHIFT (pc' := 50) (hb hby d20_47) rfl fun T4 X4 e4 => ?_
  refine G.ishr X4 hx (pc' := 51) (hb hby d20_50) rfl ?_
  refine G.i2b X4 hx (pc' := 52) (hb hby d20_51) rfl ?_
  refine G.bastore X4 hx hZ e4 A3_d (pc' := 53) (hb hby d20_52) (by decide) (by rw [List.length_set, hxl]; decide) rfl fun T5 h5 X5 e5 W5 A5 => ?_
  have S5__assertionsDisabled := Sta.wr W5 S3__assertionsDisabled
  have S5_HI_BYTE_SHIFT := Sta.wr W5 S3_HI_BYTE_SHIFT
  have S5_LO_BYTE_SHIFT := Sta.wr W5 S3_LO_BYTE_SHIFT
  have K5 := Kp.wr K3 W5 (Or.inl (List.mem_of_getElem? (i := 0) rfl))
  have A5_d : Seq Z h5 d .byte ((xs.set 0 (.int (lo u0))).set 1 (.int (hi u0))) := A5
  refine Goes.retV X5 hx hret hlk (hb hby d20_53) (by decide) (by decide) ⟨rfl, (by rw [e5]; exact K5), (by rw [e5]; exact A5_d)⟩
set_option maxRecDepth 65536 in
set_option maxHeartbeats 40000000 in
theorem rm_pu1_2 (l : Launch) (Z : State) (a0 : Array Value) (hw : ∀ d ∈ tables_1, d.before a0 Z = true) (d : Addr) (xs : List Value) (u0 : Int32) (h0 : Heap) (Bd : Seq Z h0 d .byte xs) (SA : Sta Z h0 "java/lang/StringUTF16" "$assertionsDisabled" "Z" (.int (1 : Int32))) (SH : Sta Z h0 "java/lang/StringUTF16" "HI_BYTE_SHIFT" "I" (.int (0 : Int32))) (SO : Sta Z h0 "java/lang/StringUTF16" "LO_BYTE_SHIFT" "I" (.int (8 : Int32))) (hxl : xs.length = 4) :
    Con l (⟨"java/lang/StringUTF16", "putChar", "([BII)V"⟩ : MethodName) jdk_52_method_4_code 3 none ({ frames := 0, cells := 0, slots := 0, locals := 0 } : Room) Z #[(.ref d), (.int (1 : Int32)), (.int u0)] h0 (fun v h L => v = none ∧ Kp h0 h [d] L ∧ Seq Z h d .byte ((xs.set 2 (.int (lo u0))).set 3 (.int (hi u0)))) := by
  refine Con.of_body (plainFor_of_name pn_0) ?_
  intro p e s m below meth c T0 X0 hx hby hml hZ hown hnm hret hlk e0
  have hown : s.vm.findClass "java/lang/StringUTF16" = some m.cls := hown
  have hml : c.maxLocals = 3 := hml
  refine Goes.cast (ef20_RII m d (1 : Int32) u0) ?_
  have K0 := Kp.refl h0 [d]
  refine G.getS X0 hx hZ hown (hw _ (List.mem_of_getElem? (i := 92) rfl)) Via.refl e0 SA (pc' := 3) (hb hby d20_0) rfl fun T1 X1 e1 => ?_
  refine G.ifT X1 hx (pc' := 28) (hb hby d20_3) (Jvm.Free.XT.i0_ne_t (by decide)) (by decide) (by decide) ?_
  refine G.iloadN X1 hx (pc' := 29) (hb hby d20_28) rfl rfl ?_
  refine G.iconst X1 hx (pc' := 30) (hb hby d20_29) (z := (1 : Int32)) rfl rfl ?_
  refine G.ishl X1 hx (pc' := 31) (hb hby d20_30) rfl ?_
  refine G.istoreN X1 hx (pc' := 32) (hb hby d20_31) (L' := #[.val (.ref d), .val (.int ((1 : Int32) <<< ((1 : Int32) &&& 31))), .val (.int u0)]) rfl rfl ?_
  show Goes p e below T1 (mkF m 32 #[.val (.ref d), .val (.int (2 : Int32)), .val (.int u0)] []) _
  refine G.aloadN X1 hx (pc' := 33) (hb hby d20_32) rfl rfl rfl ?_
  refine G.iloadN X1 hx (pc' := 34) (hb hby d20_33) rfl rfl ?_
  refine G.iinc X1 hx (pc' := 37) (hb hby d20_34) rfl (L' := #[.val (.ref d), .val (.int ((2 : Int32) + (1 : Int32))), .val (.int u0)]) rfl rfl ?_
  refine G.iloadN X1 hx (pc' := 38) (hb hby d20_37) rfl rfl ?_
  refine G.getS X1 hx hZ hown (hw _ (List.mem_of_getElem? (i := 93) rfl)) Via.refl e1 SH (pc' := 41) (hb hby d20_38) rfl fun T2 X2 e2 => ?_
  refine G.ishr X2 hx (pc' := 42) (hb hby d20_41) rfl ?_
  refine G.i2b X2 hx (pc' := 43) (hb hby d20_42) rfl ?_
  show Goes p e below T2 (mkF m 43 #[.val (.ref d), .val (.int (3 : Int32)), .val (.int u0)] [(.int ((u0 >>> ((0 : Int32) &&& 31)).toInt8.toInt32)), (.int (2 : Int32)), (.ref d)]) _
  refine G.bastore X2 hx hZ e2 Bd (pc' := 44) (hb hby d20_43) (by decide) (by rw [hxl]; decide) rfl fun T3 h3 X3 e3 W3 A3 => ?_
  have S3__assertionsDisabled := Sta.wr W3 SA
  have S3_HI_BYTE_SHIFT := Sta.wr W3 SH
  have S3_LO_BYTE_SHIFT := Sta.wr W3 SO
  have K3 := Kp.wr K0 W3 (Or.inl (List.mem_of_getElem? (i := 0) rfl))
  have A3_d : Seq Z h3 d .byte (xs.set 2 (.int (lo u0))) := A3
  refine G.aloadN X3 hx (pc' := 45) (hb hby d20_44) rfl rfl rfl ?_
  refine G.iloadN X3 hx (pc' := 46) (hb hby d20_45) rfl rfl ?_
  refine G.iloadN X3 hx (pc' := 47) (hb hby d20_46) rfl rfl ?_
  refine G.getS X3 hx hZ hown (hw _ (List.mem_of_getElem? (i := 94) rfl)) Via.refl e3 S3_LO_BYTE_SHIFT (pc' := 50) (hb hby d20_47) rfl fun T4 X4 e4 => ?_
  refine G.ishr X4 hx (pc' := 51) (hb hby d20_50) rfl ?_
  refine G.i2b X4 hx (pc' := 52) (hb hby d20_51) rfl ?_
  refine G.bastore X4 hx hZ e4 A3_d (pc' := 53) (hb hby d20_52) (by decide) (by rw [List.length_set, hxl]; decide) rfl fun T5 h5 X5 e5 W5 A5 => ?_
  have S5__assertionsDisabled := Sta.wr W5 S3__assertionsDisabled
  have S5_HI_BYTE_SHIFT := Sta.wr W5 S3_HI_BYTE_SHIFT
  have S5_LO_BYTE_SHIFT := Sta.wr W5 S3_LO_BYTE_SHIFT
  have K5 := Kp.wr K3 W5 (Or.inl (List.mem_of_getElem? (i := 0) rfl))
  have A5_d : Seq Z h5 d .byte ((xs.set 2 (.int (lo u0))).set 3 (.int (hi u0))) := A5
  refine Goes.retV X5 hx hret hlk (hb hby d20_53) (by decide) (by decide) ⟨rfl, (by rw [e5]; exact K5), (by rw [e5]; exact A5_d)⟩
set_option maxRecDepth 65536 in
set_option maxHeartbeats 40000000 in
theorem rm_nbl2 (l : Launch) (Z : State) (a0 : Array Value) (hw : ∀ d ∈ tables_1, d.before a0 Z = true)  (h0 : Heap)  :
    Con l (⟨"java/lang/StringUTF16", "newBytesLength", "(I)I"⟩ : MethodName) jdk_52_method_3_code 1 (some .int) ({ frames := 0, cells := 0, slots := 0, locals := 0 } : Room) Z #[(.int (2 : Int32))] h0 (Pur (some (.int (4 : Int32))) h0) := by
  refine Con.of_body (plainFor_of_name pn_0) ?_
  intro p e s m below meth c T0 X0 hx hby hml hZ hown hnm hret hlk e0
  have hown : s.vm.findClass "java/lang/StringUTF16" = some m.cls := hown
  have hml : c.maxLocals = 1 := hml
  refine Goes.cast (ef19_I m (2 : Int32)) ?_
  refine G.iloadN X0 hx (pc' := 1) (hb hby d19_0) rfl rfl ?_
  refine G.ifT X0 hx (pc' := 12) (hb hby d19_1) (Jvm.Free.XT.i0_ge_t (by decide)) (by decide) (by decide) ?_
  refine G.iloadN X0 hx (pc' := 13) (hb hby d19_12) rfl rfl ?_
  refine G.ldcInt X0 hx hZ hown (hw _ (List.mem_of_getElem? (i := 88) rfl)) (pc' := 15) (hb hby d19_13) rfl ?_
  refine G.icmpT X0 hx (pc' := 55) (hb hby d19_15) (Jvm.Free.XT.ii_lt_t (by decide)) (by decide) (by decide) ?_
  refine G.iloadN X0 hx (pc' := 56) (hb hby d19_55) rfl rfl ?_
  refine G.iconst X0 hx (pc' := 57) (hb hby d19_56) (z := (1 : Int32)) rfl rfl ?_
  refine G.ishl X0 hx (pc' := 58) (hb hby d19_57) rfl ?_
  refine Goes.retI X0 hx hret hlk (hb hby d19_58) (by decide) (by decide) ⟨congrArg (fun z => some (Value.int z)) (by decide), e0, rfl⟩
set_option maxRecDepth 65536 in
set_option maxHeartbeats 40000000 in
theorem rm_nbf2 (l : Launch) (Z : State) (a0 : Array Value) (hw : ∀ d ∈ tables_1, d.before a0 Z = true)  (h0 : Heap)  :
    Con l (⟨"java/lang/StringUTF16", "newBytesFor", "(I)[B"⟩ : MethodName) jdk_52_method_2_code 1 (some (.array .byte)) ({ frames := 1, cells := 1, slots := 4, locals := 12 } : Room) Z #[(.int (2 : Int32))] h0 (fun v h L => ∃ d, v = some (.ref d) ∧ Kp h0 h [] L ∧ Seq Z h d .byte [(.int (0 : Int32)), (.int (0 : Int32)), (.int (0 : Int32)), (.int (0 : Int32))] ∧ h0.size ≤ d) := by
  refine Con.of_body (plainFor_of_name pn_0) ?_
  intro p e s m below meth c T0 X0 hx hby hml hZ hown hnm hret hlk e0
  have hown : s.vm.findClass "java/lang/StringUTF16" = some m.cls := hown
  have hml : c.maxLocals = 1 := hml
  refine Goes.cast (ef18_I m (2 : Int32)) ?_
  have K0 := Kp.refl h0 []
  refine G.iloadN X0 hx (pc' := 1) (hb hby d18_0) rfl rfl ?_
  refine G.callS X0 hx hZ (y := (⟨"java/lang/StringUTF16", "newBytesLength", "(I)I"⟩ : MethodName)) hown (hw _ (List.mem_of_getElem? (i := 85) rfl)) (hw _ (List.mem_of_getElem? (i := 86) rfl)) (hw _ (List.mem_of_getElem? (i := 22) rfl)) (hw _ (List.mem_of_getElem? (i := 87) rfl)) (by decide) e0 (rm := ({ frames := 0, cells := 0, slots := 0, locals := 0 } : Room)) (argsL := [(.int (2 : Int32))]) (S := []) (W := 0) (rm_nbl2 l Z a0 hw h0) (lenOf pd_12 rfl) rfl (Nat.le_of_eq rfl) (by decide) (by decide) (by decide) (by decide) (by rw [hml]; rfl) (hb hby d18_1) (pc' := 4) rfl ?_
  rintro T1 _ _ ⟨rfl, e1, rfl⟩ X1
  rw [List.append_nil] at X1
  show Goes p e below T1 (mkF m 4 #[.val (.int (2 : Int32))] [(.int (4 : Int32))]) _
  refine G.newP X1 hx hZ (hw _ (List.mem_of_getElem? (i := 24) rfl)) e1 (hb hby d18_4) (by decide) (n := 4) (cap := 4) rfl (by decide) (by decide) (by decide) (by decide) (pc' := 6) rfl fun T2 h2 d g2 X2 e2 Ex2 A2 => ?_
  have sz_d : h0.size ≤ d := Nat.le_trans K0.size (Nat.le_of_eq g2.symm)
  have K2 := Kp.ext K0 Ex2
  have A2_d : Seq Z h2 d .byte [(.int (0 : Int32)), (.int (0 : Int32)), (.int (0 : Int32)), (.int (0 : Int32))] := A2
  refine Goes.retA X2 hx hret rfl hlk rfl rfl (hb hby d18_6) (by decide) (by decide) ⟨d, rfl, (by rw [e2]; exact K2), (by rw [e2]; exact A2_d), sz_d⟩
set_option maxRecDepth 65536 in
set_option maxHeartbeats 40000000 in
theorem rm_tb2 (l : Launch) (Z : State) (a0 : Array Value) (hw : ∀ d ∈ tables_1, d.before a0 Z = true) (x : Addr) (u0 u1 : Int32) (h0 : Heap) (Bx : Seq Z h0 x .char [(.int u0), (.int u1)]) (SA : Sta Z h0 "java/lang/StringUTF16" "$assertionsDisabled" "Z" (.int (1 : Int32))) (SH : Sta Z h0 "java/lang/StringUTF16" "HI_BYTE_SHIFT" "I" (.int (0 : Int32))) (SO : Sta Z h0 "java/lang/StringUTF16" "LO_BYTE_SHIFT" "I" (.int (8 : Int32))) :
    Con l (⟨"java/lang/StringUTF16", "toBytes", "([CII)[B"⟩ : MethodName) jdk_52_method_14_code 5 (some (.array .byte)) ({ frames := 2, cells := 1, slots := 4, locals := 24 } : Room) Z #[(.ref x), (.int (0 : Int32)), (.int (2 : Int32))] h0 (fun v h L => ∃ d, v = some (.ref d) ∧ Kp h0 h [] L ∧ Seq Z h d .byte [(.int (lo u0)), (.int (hi u0)), (.int (lo u1)), (.int (hi u1))] ∧ h0.size ≤ d) := by
  refine Con.of_body (plainFor_of_name pn_0) ?_
  intro p e s m below meth c T0 X0 hx hby hml hZ hown hnm hret hlk e0
  have hown : s.vm.findClass "java/lang/StringUTF16" = some m.cls := hown
  have hml : c.maxLocals = 5 := hml
  refine Goes.cast (ef17_RII m x (0 : Int32) (2 : Int32)) ?_
  have K0 := Kp.refl h0 []
  refine G.iloadN X0 hx (pc' := 1) (hb hby d17_0) rfl rfl ?_
  refine G.callS X0 hx hZ (y := (⟨"java/lang/StringUTF16", "newBytesFor", "(I)[B"⟩ : MethodName)) hown (hw _ (List.mem_of_getElem? (i := 82) rfl)) (hw _ (List.mem_of_getElem? (i := 83) rfl)) (hw _ (List.mem_of_getElem? (i := 22) rfl)) (hw _ (List.mem_of_getElem? (i := 84) rfl)) (by decide) e0 (rm := ({ frames := 1, cells := 1, slots := 4, locals := 12 } : Room)) (argsL := [(.int (2 : Int32))]) (S := []) (W := 0) (rm_nbf2 l Z a0 hw h0) (lenOf pd_13 rfl) rfl (Nat.le_of_eq rfl) (by decide) (by decide) (by decide) (by decide) (by rw [hml]; rfl) (hb hby d17_1) (pc' := 4) rfl ?_
  rintro T1 _ L1 ⟨d, rfl, Kq1, Ad1, gd1⟩ X1
  have A1_x := Seq.keep Bx Kq1.1 nin0
  have K1 := Kp.call K0 Kq1 all0
  have ne_x_d : x ≠ d := Nat.ne_of_lt (Nat.lt_of_lt_of_le Bx.lt gd1)
  have sz_d : h0.size ≤ d := gd1
  show Goes p e below T1 (mkF m 4 #[.val (.ref x), .val (.int (0 : Int32)), .val (.int (2 : Int32)), .unset, .unset] [(.ref d)]) _
  refine G.astoreN X1 hx (pc' := 5) (hb hby d17_4) rfl (L' := #[.val (.ref x), .val (.int (0 : Int32)), .val (.int (2 : Int32)), .val (.ref d), .unset]) rfl rfl ?_
  refine G.iconst X1 hx (pc' := 6) (hb hby d17_5) (z := (0 : Int32)) rfl rfl ?_
  refine G.istore X1 hx (pc' := 8) (hb hby d17_6) (L' := #[.val (.ref x), .val (.int (0 : Int32)), .val (.int (2 : Int32)), .val (.ref d), .val (.int (0 : Int32))]) rfl rfl ?_
  refine G.iload X1 hx (pc' := 10) (hb hby d17_8) rfl rfl ?_
  refine G.iloadN X1 hx (pc' := 11) (hb hby d17_10) rfl rfl ?_
  refine G.icmpF X1 hx (pc' := 14) (hb hby d17_11) (Jvm.Free.XT.ii_ge_f (by decide)) rfl ?_
  refine G.aloadN X1 hx (pc' := 15) (hb hby d17_14) rfl rfl rfl ?_
  refine G.iload X1 hx (pc' := 17) (hb hby d17_15) rfl rfl ?_
  refine G.aloadN X1 hx (pc' := 18) (hb hby d17_17) rfl rfl rfl ?_
  refine G.iloadN X1 hx (pc' := 19) (hb hby d17_18) rfl rfl ?_
  refine G.caload X1 hx hZ rfl A1_x (pc' := 20) (v := (.int u0)) (hb hby d17_19) (by decide) rfl rfl ?_
  refine G.callS X1 hx hZ (y := (⟨"java/lang/StringUTF16", "putChar", "([BII)V"⟩ : MethodName)) hown (hw _ (List.mem_of_getElem? (i := 89) rfl)) (hw _ (List.mem_of_getElem? (i := 90) rfl)) (hw _ (List.mem_of_getElem? (i := 22) rfl)) (hw _ (List.mem_of_getElem? (i := 91) rfl)) (by decide) rfl (rm := ({ frames := 0, cells := 0, slots := 0, locals := 0 } : Room)) (argsL := [(.ref d), (.int (0 : Int32)), (.int u0)]) (S := []) (W := 0) (rm_pu0_2 l Z a0 hw d [(.int (0 : Int32)), (.int (0 : Int32)), (.int (0 : Int32)), (.int (0 : Int32))] u0 T1.heap Ad1 (Sta.keep0 SA K1.1) (Sta.keep0 SH K1.1) (Sta.keep0 SO K1.1) rfl) (lenOf pd_14 rfl) rfl (Nat.le_of_eq rfl) (by decide) (by decide) (by decide) (by decide) (by rw [hml]; rfl) (hb hby d17_20) (pc' := 23) rfl ?_
  rintro T2 _ L2 ⟨rfl, Kq2, Ad2⟩ X2
  have A2_x := Seq.keep A1_x Kq2.1 (ninS ne_x_d nin0)
  have K2 := Kp.call K1 Kq2 (allS (Or.inr sz_d) all0)
  have Ad2' : Seq Z T2.heap d .byte [(.int (lo u0)), (.int (hi u0)), (.int (0 : Int32)), (.int (0 : Int32))] := Ad2
  show Goes p e below T2 (mkF m 23 #[.val (.ref x), .val (.int (0 : Int32)), .val (.int (2 : Int32)), .val (.ref d), .val (.int (0 : Int32))] []) _
  refine G.iinc X2 hx (pc' := 26) (hb hby d17_23) rfl (L' := #[.val (.ref x), .val (.int ((0 : Int32) + (1 : Int32))), .val (.int (2 : Int32)), .val (.ref d), .val (.int (0 : Int32))]) rfl rfl ?_
  refine G.iinc X2 hx (pc' := 29) (hb hby d17_26) rfl (L' := #[.val (.ref x), .val (.int ((0 : Int32) + (1 : Int32))), .val (.int (2 : Int32)), .val (.ref d), .val (.int ((0 : Int32) + (1 : Int32)))]) rfl rfl ?_
  refine G.goto X2 hx (pc' := 8) (hb hby d17_29) (by decide) (by decide) ?_
  show Goes p e below T2 (mkF m 8 #[.val (.ref x), .val (.int (1 : Int32)), .val (.int (2 : Int32)), .val (.ref d), .val (.int (1 : Int32))] []) _
  refine G.iload X2 hx (pc' := 10) (hb hby d17_8) rfl rfl ?_
  refine G.iloadN X2 hx (pc' := 11) (hb hby d17_10) rfl rfl ?_
  refine G.icmpF X2 hx (pc' := 14) (hb hby d17_11) (Jvm.Free.XT.ii_ge_f (by decide)) rfl ?_
  refine G.aloadN X2 hx (pc' := 15) (hb hby d17_14) rfl rfl rfl ?_
  refine G.iload X2 hx (pc' := 17) (hb hby d17_15) rfl rfl ?_
  refine G.aloadN X2 hx (pc' := 18) (hb hby d17_17) rfl rfl rfl ?_
  refine G.iloadN X2 hx (pc' := 19) (hb hby d17_18) rfl rfl ?_
  refine G.caload X2 hx hZ rfl A2_x (pc' := 20) (v := (.int u1)) (hb hby d17_19) (by decide) rfl rfl ?_
  refine G.callS X2 hx hZ (y := (⟨"java/lang/StringUTF16", "putChar", "([BII)V"⟩ : MethodName)) hown (hw _ (List.mem_of_getElem? (i := 89) rfl)) (hw _ (List.mem_of_getElem? (i := 90) rfl)) (hw _ (List.mem_of_getElem? (i := 22) rfl)) (hw _ (List.mem_of_getElem? (i := 91) rfl)) (by decide) rfl (rm := ({ frames := 0, cells := 0, slots := 0, locals := 0 } : Room)) (argsL := [(.ref d), (.int (1 : Int32)), (.int u1)]) (S := []) (W := 0) (rm_pu1_2 l Z a0 hw d [(.int (lo u0)), (.int (hi u0)), (.int (0 : Int32)), (.int (0 : Int32))] u1 T2.heap Ad2' (Sta.keep0 SA K2.1) (Sta.keep0 SH K2.1) (Sta.keep0 SO K2.1) rfl) (lenOf pd_14 rfl) rfl (Nat.le_of_eq rfl) (by decide) (by decide) (by decide) (by decide) (by rw [hml]; rfl) (hb hby d17_20) (pc' := 23) rfl ?_
  rintro T3 _ L3 ⟨rfl, Kq3, Ad3⟩ X3
  have A3_x := Seq.keep A2_x Kq3.1 (ninS ne_x_d nin0)
  have K3 := Kp.call K2 Kq3 (allS (Or.inr sz_d) all0)
  have Ad3' : Seq Z T3.heap d .byte [(.int (lo u0)), (.int (hi u0)), (.int (lo u1)), (.int (hi u1))] := Ad3
  show Goes p e below T3 (mkF m 23 #[.val (.ref x), .val (.int (1 : Int32)), .val (.int (2 : Int32)), .val (.ref d), .val (.int (1 : Int32))] []) _
  refine G.iinc X3 hx (pc' := 26) (hb hby d17_23) rfl (L' := #[.val (.ref x), .val (.int ((1 : Int32) + (1 : Int32))), .val (.int (2 : Int32)), .val (.ref d), .val (.int (1 : Int32))]) rfl rfl ?_
  refine G.iinc X3 hx (pc' := 29) (hb hby d17_26) rfl (L' := #[.val (.ref x), .val (.int ((1 : Int32) + (1 : Int32))), .val (.int (2 : Int32)), .val (.ref d), .val (.int ((1 : Int32) + (1 : Int32)))]) rfl rfl ?_
  refine G.goto X3 hx (pc' := 8) (hb hby d17_29) (by decide) (by decide) ?_
  show Goes p e below T3 (mkF m 8 #[.val (.ref x), .val (.int (2 : Int32)), .val (.int (2 : Int32)), .val (.ref d), .val (.int (2 : Int32))] []) _
  refine G.iload X3 hx (pc' := 10) (hb hby d17_8) rfl rfl ?_
  refine G.iloadN X3 hx (pc' := 11) (hb hby d17_10) rfl rfl ?_
  refine G.icmpT X3 hx (pc' := 32) (hb hby d17_11) (Jvm.Free.XT.ii_ge_t (by decide)) (by decide) (by decide) ?_
  refine G.aloadN X3 hx (pc' := 33) (hb hby d17_32) rfl rfl rfl ?_
  refine Goes.retA X3 hx hret rfl hlk rfl rfl (hb hby d17_33) (by decide) (by decide) ⟨d, rfl, K3, Ad3', sz_d⟩
set_option maxRecDepth 65536 in
set_option maxHeartbeats 40000000 in
theorem rm_c5_2_0 (l : Launch) (Z : State) (a0 : Array Value) (hw : ∀ d ∈ tables_1, d.before a0 Z = true) (x d : Addr) (u0 u1 : Int32) (h0 : Heap) (Bx : Seq Z h0 x .char [(.int u0), (.int u1)]) (Bd : Seq Z h0 d .byte [(.int (0 : Int32)), (.int (0 : Int32))]) (nxd : x ≠ d)  (hg : (255 : Int32) < u0) :
    Con l (⟨"java/lang/StringUTF16", "compress", "([CI[BII)I"⟩ : MethodName) jdk_52_method_21_code 7 (some .int) ({ frames := 0, cells := 0, slots := 0, locals := 0 } : Room) Z #[(.ref x), (.int (0 : Int32)), (.ref d), (.int (0 : Int32)), (.int (2 : Int32))] h0 (fun v h L => v = some (.int (0 : Int32)) ∧ Kp h0 h [d] L) := by
  refine Con.of_body (plainFor_of_name pn_0) ?_
  intro p e s m below meth c T0 X0 hx hby hml hZ hown hnm hret hlk e0
  have hown : s.vm.findClass "java/lang/StringUTF16" = some m.cls := hown
  have hml : c.maxLocals = 7 := hml
  refine Goes.cast (ef6_RIRII m x (0 : Int32) d (0 : Int32) (2 : Int32)) ?_
  have K0 := Kp.refl h0 [d]
  refine G.iconst X0 hx (pc' := 1) (hb hby d6_0) (z := (0 : Int32)) rfl rfl ?_
  refine G.istore X0 hx (pc' := 3) (hb hby d6_1) (L' := #[.val (.ref x), .val (.int (0 : Int32)), .val (.ref d), .val (.int (0 : Int32)), .val (.int (2 : Int32)), .val (.int (0 : Int32)), .unset]) rfl rfl ?_
  refine G.iload X0 hx (pc' := 5) (hb hby d6_3) rfl rfl ?_
  refine G.iload X0 hx (pc' := 7) (hb hby d6_5) rfl rfl ?_
  refine G.icmpF X0 hx (pc' := 10) (hb hby d6_7) (Jvm.Free.XT.ii_ge_f (by decide)) rfl ?_
  refine G.aloadN X0 hx (pc' := 11) (hb hby d6_10) rfl rfl rfl ?_
  refine G.iloadN X0 hx (pc' := 12) (hb hby d6_11) rfl rfl ?_
  refine G.caload X0 hx hZ e0 Bx (pc' := 13) (v := (.int u0)) (hb hby d6_12) (by decide) rfl rfl ?_
  refine G.istore X0 hx (pc' := 15) (hb hby d6_13) (L' := #[.val (.ref x), .val (.int (0 : Int32)), .val (.ref d), .val (.int (0 : Int32)), .val (.int (2 : Int32)), .val (.int (0 : Int32)), .val (.int u0)]) rfl rfl ?_
  refine G.iload X0 hx (pc' := 17) (hb hby d6_15) rfl rfl ?_
  refine G.sipush X0 hx (pc' := 20) (hb hby d6_17) (z := (255 : Int32)) rfl rfl ?_
  refine G.icmpF X0 hx (pc' := 23) (hb hby d6_20) (Jvm.Free.XT.ii_le_f hg) rfl ?_
  refine G.iload X0 hx (pc' := 25) (hb hby d6_23) rfl rfl ?_
  refine Goes.retI X0 hx hret hlk (hb hby d6_25) (by decide) (by decide) ⟨rfl, (by rw [e0]; exact K0)⟩
set_option maxRecDepth 65536 in
set_option maxHeartbeats 40000000 in
theorem rm_c5_2_1 (l : Launch) (Z : State) (a0 : Array Value) (hw : ∀ d ∈ tables_1, d.before a0 Z = true) (x d : Addr) (u0 u1 : Int32) (h0 : Heap) (Bx : Seq Z h0 x .char [(.int u0), (.int u1)]) (Bd : Seq Z h0 d .byte [(.int (0 : Int32)), (.int (0 : Int32))]) (nxd : x ≠ d) (hl0 : ¬ (255 : Int32) < u0) (hg : (255 : Int32) < u1) :
    Con l (⟨"java/lang/StringUTF16", "compress", "([CI[BII)I"⟩ : MethodName) jdk_52_method_21_code 7 (some .int) ({ frames := 0, cells := 0, slots := 0, locals := 0 } : Room) Z #[(.ref x), (.int (0 : Int32)), (.ref d), (.int (0 : Int32)), (.int (2 : Int32))] h0 (fun v h L => v = some (.int (1 : Int32)) ∧ Kp h0 h [d] L) := by
  refine Con.of_body (plainFor_of_name pn_0) ?_
  intro p e s m below meth c T0 X0 hx hby hml hZ hown hnm hret hlk e0
  have hown : s.vm.findClass "java/lang/StringUTF16" = some m.cls := hown
  have hml : c.maxLocals = 7 := hml
  refine Goes.cast (ef6_RIRII m x (0 : Int32) d (0 : Int32) (2 : Int32)) ?_
  have K0 := Kp.refl h0 [d]
  refine G.iconst X0 hx (pc' := 1) (hb hby d6_0) (z := (0 : Int32)) rfl rfl ?_
  refine G.istore X0 hx (pc' := 3) (hb hby d6_1) (L' := #[.val (.ref x), .val (.int (0 : Int32)), .val (.ref d), .val (.int (0 : Int32)), .val (.int (2 : Int32)), .val (.int (0 : Int32)), .unset]) rfl rfl ?_
  refine G.iload X0 hx (pc' := 5) (hb hby d6_3) rfl rfl ?_
  refine G.iload X0 hx (pc' := 7) (hb hby d6_5) rfl rfl ?_
  refine G.icmpF X0 hx (pc' := 10) (hb hby d6_7) (Jvm.Free.XT.ii_ge_f (by decide)) rfl ?_
  refine G.aloadN X0 hx (pc' := 11) (hb hby d6_10) rfl rfl rfl ?_
  refine G.iloadN X0 hx (pc' := 12) (hb hby d6_11) rfl rfl ?_
  refine G.caload X0 hx hZ e0 Bx (pc' := 13) (v := (.int u0)) (hb hby d6_12) (by decide) rfl rfl ?_
  refine G.istore X0 hx (pc' := 15) (hb hby d6_13) (L' := #[.val (.ref x), .val (.int (0 : Int32)), .val (.ref d), .val (.int (0 : Int32)), .val (.int (2 : Int32)), .val (.int (0 : Int32)), .val (.int u0)]) rfl rfl ?_
  refine G.iload X0 hx (pc' := 17) (hb hby d6_15) rfl rfl ?_
  refine G.sipush X0 hx (pc' := 20) (hb hby d6_17) (z := (255 : Int32)) rfl rfl ?_
  refine G.icmpT X0 hx (pc' := 26) (hb hby d6_20) (Jvm.Free.XT.ii_le_t hl0) (by decide) (by decide) ?_
  refine G.aloadN X0 hx (pc' := 27) (hb hby d6_26) rfl rfl rfl ?_
  refine G.iloadN X0 hx (pc' := 28) (hb hby d6_27) rfl rfl ?_
  refine G.iload X0 hx (pc' := 30) (hb hby d6_28) rfl rfl ?_
  refine G.i2b X0 hx (pc' := 31) (hb hby d6_30) rfl ?_
  refine G.bastore X0 hx hZ e0 Bd (pc' := 32) (hb hby d6_31) (by decide) (Nat.le_of_ble_eq_true rfl) rfl fun T1 h1 X1 e1 W1 A1 => ?_
  have A1_x := Seq.other Bx W1 nxd
  have K1 := Kp.wr K0 W1 (Or.inl (List.mem_of_getElem? (i := 0) rfl))
  have A1_d : Seq Z h1 d .byte [(.int (lb u0)), (.int (0 : Int32))] := A1
  refine G.iinc X1 hx (pc' := 35) (hb hby d6_32) rfl (L' := #[.val (.ref x), .val (.int ((0 : Int32) + (1 : Int32))), .val (.ref d), .val (.int (0 : Int32)), .val (.int (2 : Int32)), .val (.int (0 : Int32)), .val (.int u0)]) rfl rfl ?_
  refine G.iinc X1 hx (pc' := 38) (hb hby d6_35) rfl (L' := #[.val (.ref x), .val (.int ((0 : Int32) + (1 : Int32))), .val (.ref d), .val (.int ((0 : Int32) + (1 : Int32))), .val (.int (2 : Int32)), .val (.int (0 : Int32)), .val (.int u0)]) rfl rfl ?_
  refine G.iinc X1 hx (pc' := 41) (hb hby d6_38) rfl (L' := #[.val (.ref x), .val (.int ((0 : Int32) + (1 : Int32))), .val (.ref d), .val (.int ((0 : Int32) + (1 : Int32))), .val (.int (2 : Int32)), .val (.int ((0 : Int32) + (1 : Int32))), .val (.int u0)]) rfl rfl ?_
  refine G.goto X1 hx (pc' := 3) (hb hby d6_41) (by decide) (by decide) ?_
  show Goes p e below T1 (mkF m 3 #[.val (.ref x), .val (.int (1 : Int32)), .val (.ref d), .val (.int (1 : Int32)), .val (.int (2 : Int32)), .val (.int (1 : Int32)), .val (.int u0)] []) _
  refine G.iload X1 hx (pc' := 5) (hb hby d6_3) rfl rfl ?_
  refine G.iload X1 hx (pc' := 7) (hb hby d6_5) rfl rfl ?_
  refine G.icmpF X1 hx (pc' := 10) (hb hby d6_7) (Jvm.Free.XT.ii_ge_f (by decide)) rfl ?_
  refine G.aloadN X1 hx (pc' := 11) (hb hby d6_10) rfl rfl rfl ?_
  refine G.iloadN X1 hx (pc' := 12) (hb hby d6_11) rfl rfl ?_
  refine G.caload X1 hx hZ e1 A1_x (pc' := 13) (v := (.int u1)) (hb hby d6_12) (by decide) rfl rfl ?_
  refine G.istore X1 hx (pc' := 15) (hb hby d6_13) (L' := #[.val (.ref x), .val (.int (1 : Int32)), .val (.ref d), .val (.int (1 : Int32)), .val (.int (2 : Int32)), .val (.int (1 : Int32)), .val (.int u1)]) rfl rfl ?_
  refine G.iload X1 hx (pc' := 17) (hb hby d6_15) rfl rfl ?_
  refine G.sipush X1 hx (pc' := 20) (hb hby d6_17) (z := (255 : Int32)) rfl rfl ?_
  refine G.icmpF X1 hx (pc' := 23) (hb hby d6_20) (Jvm.Free.XT.ii_le_f hg) rfl ?_
  refine G.iload X1 hx (pc' := 25) (hb hby d6_23) rfl rfl ?_
  refine Goes.retI X1 hx hret hlk (hb hby d6_25) (by decide) (by decide) ⟨rfl, (by rw [e1]; exact K1)⟩
set_option maxRecDepth 65536 in
set_option maxHeartbeats 40000000 in
theorem rm_c5_2_2 (l : Launch) (Z : State) (a0 : Array Value) (hw : ∀ d ∈ tables_1, d.before a0 Z = true) (x d : Addr) (u0 u1 : Int32) (h0 : Heap) (Bx : Seq Z h0 x .char [(.int u0), (.int u1)]) (Bd : Seq Z h0 d .byte [(.int (0 : Int32)), (.int (0 : Int32))]) (nxd : x ≠ d) (hl0 : ¬ (255 : Int32) < u0) (hl1 : ¬ (255 : Int32) < u1) :
    Con l (⟨"java/lang/StringUTF16", "compress", "([CI[BII)I"⟩ : MethodName) jdk_52_method_21_code 7 (some .int) ({ frames := 0, cells := 0, slots := 0, locals := 0 } : Room) Z #[(.ref x), (.int (0 : Int32)), (.ref d), (.int (0 : Int32)), (.int (2 : Int32))] h0 (fun v h L => v = some (.int (2 : Int32)) ∧ Kp h0 h [d] L ∧ Seq Z h d .byte [(.int (lb u0)), (.int (lb u1))]) := by
  refine Con.of_body (plainFor_of_name pn_0) ?_
  intro p e s m below meth c T0 X0 hx hby hml hZ hown hnm hret hlk e0
  have hown : s.vm.findClass "java/lang/StringUTF16" = some m.cls := hown
  have hml : c.maxLocals = 7 := hml
  refine Goes.cast (ef6_RIRII m x (0 : Int32) d (0 : Int32) (2 : Int32)) ?_
  have K0 := Kp.refl h0 [d]
  refine G.iconst X0 hx (pc' := 1) (hb hby d6_0) (z := (0 : Int32)) rfl rfl ?_
  refine G.istore X0 hx (pc' := 3) (hb hby d6_1) (L' := #[.val (.ref x), .val (.int (0 : Int32)), .val (.ref d), .val (.int (0 : Int32)), .val (.int (2 : Int32)), .val (.int (0 : Int32)), .unset]) rfl rfl ?_
  refine G.iload X0 hx (pc' := 5) (hb hby d6_3) rfl rfl ?_
  refine G.iload X0 hx (pc' := 7) (hb hby d6_5) rfl rfl ?_
  refine G.icmpF X0 hx (pc' := 10) (hb hby d6_7) (Jvm.Free.XT.ii_ge_f (by decide)) rfl ?_
  refine G.aloadN X0 hx (pc' := 11) (hb hby d6_10) rfl rfl rfl ?_
  refine G.iloadN X0 hx (pc' := 12) (hb hby d6_11) rfl rfl ?_
  refine G.caload X0 hx hZ e0 Bx (pc' := 13) (v := (.int u0)) (hb hby d6_12) (by decide) rfl rfl ?_
  refine G.istore X0 hx (pc' := 15) (hb hby d6_13) (L' := #[.val (.ref x), .val (.int (0 : Int32)), .val (.ref d), .val (.int (0 : Int32)), .val (.int (2 : Int32)), .val (.int (0 : Int32)), .val (.int u0)]) rfl rfl ?_
  refine G.iload X0 hx (pc' := 17) (hb hby d6_15) rfl rfl ?_
  refine G.sipush X0 hx (pc' := 20) (hb hby d6_17) (z := (255 : Int32)) rfl rfl ?_
  refine G.icmpT X0 hx (pc' := 26) (hb hby d6_20) (Jvm.Free.XT.ii_le_t hl0) (by decide) (by decide) ?_
  refine G.aloadN X0 hx (pc' := 27) (hb hby d6_26) rfl rfl rfl ?_
  refine G.iloadN X0 hx (pc' := 28) (hb hby d6_27) rfl rfl ?_
  refine G.iload X0 hx (pc' := 30) (hb hby d6_28) rfl rfl ?_
  refine G.i2b X0 hx (pc' := 31) (hb hby d6_30) rfl ?_
  refine G.bastore X0 hx hZ e0 Bd (pc' := 32) (hb hby d6_31) (by decide) (Nat.le_of_ble_eq_true rfl) rfl fun T1 h1 X1 e1 W1 A1 => ?_
  have A1_x := Seq.other Bx W1 nxd
  have K1 := Kp.wr K0 W1 (Or.inl (List.mem_of_getElem? (i := 0) rfl))
  have A1_d : Seq Z h1 d .byte [(.int (lb u0)), (.int (0 : Int32))] := A1
  refine G.iinc X1 hx (pc' := 35) (hb hby d6_32) rfl (L' := #[.val (.ref x), .val (.int ((0 : Int32) + (1 : Int32))), .val (.ref d), .val (.int (0 : Int32)), .val (.int (2 : Int32)), .val (.int (0 : Int32)), .val (.int u0)]) rfl rfl ?_
  refine G.iinc X1 hx (pc' := 38) (hb hby d6_35) rfl (L' := #[.val (.ref x), .val (.int ((0 : Int32) + (1 : Int32))), .val (.ref d), .val (.int ((0 : Int32) + (1 : Int32))), .val (.int (2 : Int32)), .val (.int (0 : Int32)), .val (.int u0)]) rfl rfl ?_
  refine G.iinc X1 hx (pc' := 41) (hb hby d6_38) rfl (L' := #[.val (.ref x), .val (.int ((0 : Int32) + (1 : Int32))), .val (.ref d), .val (.int ((0 : Int32) + (1 : Int32))), .val (.int (2 : Int32)), .val (.int ((0 : Int32) + (1 : Int32))), .val (.int u0)]) rfl rfl ?_
  refine G.goto X1 hx (pc' := 3) (hb hby d6_41) (by decide) (by decide) ?_
  show Goes p e below T1 (mkF m 3 #[.val (.ref x), .val (.int (1 : Int32)), .val (.ref d), .val (.int (1 : Int32)), .val (.int (2 : Int32)), .val (.int (1 : Int32)), .val (.int u0)] []) _
  refine G.iload X1 hx (pc' := 5) (hb hby d6_3) rfl rfl ?_
  refine G.iload X1 hx (pc' := 7) (hb hby d6_5) rfl rfl ?_
  refine G.icmpF X1 hx (pc' := 10) (hb hby d6_7) (Jvm.Free.XT.ii_ge_f (by decide)) rfl ?_
  refine G.aloadN X1 hx (pc' := 11) (hb hby d6_10) rfl rfl rfl ?_
  refine G.iloadN X1 hx (pc' := 12) (hb hby d6_11) rfl rfl ?_
  refine G.caload X1 hx hZ e1 A1_x (pc' := 13) (v := (.int u1)) (hb hby d6_12) (by decide) rfl rfl ?_
  refine G.istore X1 hx (pc' := 15) (hb hby d6_13) (L' := #[.val (.ref x), .val (.int (1 : Int32)), .val (.ref d), .val (.int (1 : Int32)), .val (.int (2 : Int32)), .val (.int (1 : Int32)), .val (.int u1)]) rfl rfl ?_
  refine G.iload X1 hx (pc' := 17) (hb hby d6_15) rfl rfl ?_
  refine G.sipush X1 hx (pc' := 20) (hb hby d6_17) (z := (255 : Int32)) rfl rfl ?_
  refine G.icmpT X1 hx (pc' := 26) (hb hby d6_20) (Jvm.Free.XT.ii_le_t hl1) (by decide) (by decide) ?_
  refine G.aloadN X1 hx (pc' := 27) (hb hby d6_26) rfl rfl rfl ?_
  refine G.iloadN X1 hx (pc' := 28) (hb hby d6_27) rfl rfl ?_
  refine G.iload X1 hx (pc' := 30) (hb hby d6_28) rfl rfl ?_
  refine G.i2b X1 hx (pc' := 31) (hb hby d6_30) rfl ?_
  refine G.bastore X1 hx hZ e1 A1_d (pc' := 32) (hb hby d6_31) (by decide) (Nat.le_of_ble_eq_true rfl) rfl fun T2 h2 X2 e2 W2 A2 => ?_
  have A2_x := Seq.other A1_x W2 nxd
  have K2 := Kp.wr K1 W2 (Or.inl (List.mem_of_getElem? (i := 0) rfl))
  have A2_d : Seq Z h2 d .byte [(.int (lb u0)), (.int (lb u1))] := A2
  refine G.iinc X2 hx (pc' := 35) (hb hby d6_32) rfl (L' := #[.val (.ref x), .val (.int ((1 : Int32) + (1 : Int32))), .val (.ref d), .val (.int (1 : Int32)), .val (.int (2 : Int32)), .val (.int (1 : Int32)), .val (.int u1)]) rfl rfl ?_
  refine G.iinc X2 hx (pc' := 38) (hb hby d6_35) rfl (L' := #[.val (.ref x), .val (.int ((1 : Int32) + (1 : Int32))), .val (.ref d), .val (.int ((1 : Int32) + (1 : Int32))), .val (.int (2 : Int32)), .val (.int (1 : Int32)), .val (.int u1)]) rfl rfl ?_
  refine G.iinc X2 hx (pc' := 41) (hb hby d6_38) rfl (L' := #[.val (.ref x), .val (.int ((1 : Int32) + (1 : Int32))), .val (.ref d), .val (.int ((1 : Int32) + (1 : Int32))), .val (.int (2 : Int32)), .val (.int ((1 : Int32) + (1 : Int32))), .val (.int u1)]) rfl rfl ?_
  refine G.goto X2 hx (pc' := 3) (hb hby d6_41) (by decide) (by decide) ?_
  show Goes p e below T2 (mkF m 3 #[.val (.ref x), .val (.int (2 : Int32)), .val (.ref d), .val (.int (2 : Int32)), .val (.int (2 : Int32)), .val (.int (2 : Int32)), .val (.int u1)] []) _
  refine G.iload X2 hx (pc' := 5) (hb hby d6_3) rfl rfl ?_
  refine G.iload X2 hx (pc' := 7) (hb hby d6_5) rfl rfl ?_
  refine G.icmpT X2 hx (pc' := 44) (hb hby d6_7) (Jvm.Free.XT.ii_ge_t (by decide)) (by decide) (by decide) ?_
  refine G.iload X2 hx (pc' := 46) (hb hby d6_44) rfl rfl ?_
  refine Goes.retI X2 hx hret hlk (hb hby d6_46) (by decide) (by decide) ⟨rfl, (by rw [e2]; exact K2), (by rw [e2]; exact A2_d)⟩
set_option maxRecDepth 65536 in
set_option maxHeartbeats 40000000 in
theorem rm_c3_2 (l : Launch) (Z : State) (a0 : Array Value) (hw : ∀ d ∈ tables_1, d.before a0 Z = true) (x : Addr) (u0 u1 : Int32) (h0 : Heap) (Bx : Seq Z h0 x .char [(.int u0), (.int u1)]) (SA : Sta Z h0 "java/lang/StringUTF16" "$assertionsDisabled" "Z" (.int (1 : Int32))) (SH : Sta Z h0 "java/lang/StringUTF16" "HI_BYTE_SHIFT" "I" (.int (0 : Int32))) (SO : Sta Z h0 "java/lang/StringUTF16" "LO_BYTE_SHIFT" "I" (.int (8 : Int32))) (hu0 : isCh u0) (hu1 : isCh u1) :
    Con l (⟨"java/lang/StringUTF16", "compress", "([CII)[B"⟩ : MethodName) jdk_52_method_16_code 6 (some (.array .byte)) ({ frames := 3, cells := 2, slots := 6, locals := 40 } : Room) Z #[(.ref x), (.int (0 : Int32)), (.int (2 : Int32))] h0 (fun v h L => ∃ d cd xs, v = some (.ref d) ∧ Kp h0 h [] L ∧ Seq Z h d .byte xs ∧ SQ 2 u0 cd xs ∧ h0.size ≤ d) := by
  refine Con.of_body (plainFor_of_name pn_0) ?_
  intro p e s m below meth c T0 X0 hx hby hml hZ hown hnm hret hlk e0
  have hown : s.vm.findClass "java/lang/StringUTF16" = some m.cls := hown
  have hml : c.maxLocals = 6 := hml
  refine Goes.cast (ef5_RII m x (0 : Int32) (2 : Int32)) ?_
  have K0 := Kp.refl h0 []
  refine G.iloadN X0 hx (pc' := 1) (hb hby d5_0) rfl rfl ?_
  refine G.newP X0 hx hZ (hw _ (List.mem_of_getElem? (i := 24) rfl)) e0 (hb hby d5_1) (by decide) (n := 2) (cap := 2) rfl (by decide) (by decide) (by decide) (by decide) (pc' := 3) rfl fun T1 h1 d g1 X1 e1 Ex1 A1 => ?_
  have ne_x_d : x ≠ d := Nat.ne_of_lt (Nat.lt_of_lt_of_le Bx.lt (Nat.le_of_eq g1.symm))
  have sz_d : h0.size ≤ d := Nat.le_trans K0.size (Nat.le_of_eq g1.symm)
  have A1_x := Seq.ext Bx Ex1
  have K1 := Kp.ext K0 Ex1
  have A1_d : Seq Z h1 d .byte [(.int (0 : Int32)), (.int (0 : Int32))] := A1
  refine G.astoreN X1 hx (pc' := 4) (hb hby d5_3) rfl (L' := #[.val (.ref x), .val (.int (0 : Int32)), .val (.int (2 : Int32)), .val (.ref d), .unset, .unset]) rfl rfl ?_
  refine G.aloadN X1 hx (pc' := 5) (hb hby d5_4) rfl rfl rfl ?_
  refine G.iloadN X1 hx (pc' := 6) (hb hby d5_5) rfl rfl ?_
  refine G.aloadN X1 hx (pc' := 7) (hb hby d5_6) rfl rfl rfl ?_
  refine G.iconst X1 hx (pc' := 8) (hb hby d5_7) (z := (0 : Int32)) rfl rfl ?_
  refine G.iloadN X1 hx (pc' := 9) (hb hby d5_8) rfl rfl ?_
  by_cases hl0 : (255 : Int32) < u0
  · have hg := hl0
    refine G.callS X1 hx hZ (y := (⟨"java/lang/StringUTF16", "compress", "([CI[BII)I"⟩ : MethodName)) hown (hw _ (List.mem_of_getElem? (i := 25) rfl)) (hw _ (List.mem_of_getElem? (i := 26) rfl)) (hw _ (List.mem_of_getElem? (i := 22) rfl)) (hw _ (List.mem_of_getElem? (i := 27) rfl)) (by decide) e1 (rm := ({ frames := 0, cells := 0, slots := 0, locals := 0 } : Room)) (argsL := [(.ref x), (.int (0 : Int32)), (.ref d), (.int (0 : Int32)), (.int (2 : Int32))]) (S := []) (W := 0) (rm_c5_2_0 l Z a0 hw x d u0 u1 h1 A1_x A1_d ne_x_d hg) (lenOf pd_15 rfl) rfl (Nat.le_of_eq rfl) (by decide) (by decide) (by decide) (by decide) (by rw [hml]; rfl) (hb hby d5_9) (pc' := 12) rfl ?_
    rintro T2 _ L2 ⟨rfl, Kq2⟩ X2
    have A2_x := Seq.keep A1_x Kq2.1 (ninS ne_x_d nin0)
    have K2 := Kp.call K1 Kq2 (allS (Or.inr sz_d) all0)
    show Goes p e below T2 (mkF m 12 #[.val (.ref x), .val (.int (0 : Int32)), .val (.int (2 : Int32)), .val (.ref d), .unset, .unset] [(.int (0 : Int32))]) _
    refine G.istore X2 hx (pc' := 14) (hb hby d5_12) (L' := #[.val (.ref x), .val (.int (0 : Int32)), .val (.int (2 : Int32)), .val (.ref d), .val (.int (0 : Int32)), .unset]) rfl rfl ?_
    refine G.iload X2 hx (pc' := 16) (hb hby d5_14) rfl rfl ?_
    refine G.iloadN X2 hx (pc' := 17) (hb hby d5_16) rfl rfl ?_
    refine G.icmpF X2 hx (pc' := 20) (hb hby d5_17) (Jvm.Free.XT.ii_eq_f (by decide)) rfl ?_
    refine G.aloadN X2 hx (pc' := 21) (hb hby d5_20) rfl rfl rfl ?_
    refine G.iloadN X2 hx (pc' := 22) (hb hby d5_21) rfl rfl ?_
    refine G.iloadN X2 hx (pc' := 23) (hb hby d5_22) rfl rfl ?_
    refine G.callS X2 hx hZ (y := (⟨"java/lang/StringUTF16", "toBytes", "([CII)[B"⟩ : MethodName)) hown (hw _ (List.mem_of_getElem? (i := 79) rfl)) (hw _ (List.mem_of_getElem? (i := 80) rfl)) (hw _ (List.mem_of_getElem? (i := 22) rfl)) (hw _ (List.mem_of_getElem? (i := 81) rfl)) (by decide) rfl (rm := ({ frames := 2, cells := 1, slots := 4, locals := 24 } : Room)) (argsL := [(.ref x), (.int (0 : Int32)), (.int (2 : Int32))]) (S := []) (W := 0) (rm_tb2 l Z a0 hw x u0 u1 T2.heap A2_x (Sta.keep0 SA K2.1) (Sta.keep0 SH K2.1) (Sta.keep0 SO K2.1)) (lenOf pd_16 rfl) rfl (Nat.le_of_eq rfl) (by decide) (by decide) (by decide) (by decide) (by rw [hml]; rfl) (hb hby d5_23) (pc' := 26) rfl ?_
    rintro T3 _ L3 ⟨e_, rfl, Kq3, Ae3, gd3⟩ X3
    have A3_x := Seq.keep A2_x Kq3.1 nin0
    have K3 := Kp.call K2 Kq3 all0
    have sz_e : h0.size ≤ e_ := Nat.le_trans K2.size gd3
    show Goes p e below T3 (mkF m 26 #[.val (.ref x), .val (.int (0 : Int32)), .val (.int (2 : Int32)), .val (.ref d), .val (.int (0 : Int32)), .unset] [(.ref e_)]) _
    refine G.astore X3 hx (pc' := 28) (hb hby d5_26) rfl (L' := #[.val (.ref x), .val (.int (0 : Int32)), .val (.int (2 : Int32)), .val (.ref d), .val (.int (0 : Int32)), .val (.ref e_)]) rfl rfl ?_
    refine G.aload X3 hx (pc' := 30) (hb hby d5_28) rfl rfl rfl ?_
    refine G.iload X3 hx (pc' := 32) (hb hby d5_30) rfl rfl ?_
    refine G.callS X3 hx hZ (y := (⟨"java/lang/StringUTF16", "getChar", "([BI)C"⟩ : MethodName)) hown (hw _ (List.mem_of_getElem? (i := 95) rfl)) (hw _ (List.mem_of_getElem? (i := 96) rfl)) (hw _ (List.mem_of_getElem? (i := 22) rfl)) (hw _ (List.mem_of_getElem? (i := 97) rfl)) (by decide) rfl (rm := ({ frames := 0, cells := 0, slots := 0, locals := 0 } : Room)) (argsL := [(.ref e_), (.int (0 : Int32))]) (S := []) (W := 0) (rm_gc0 l Z a0 hw e_ [(.int (lo u0)), (.int (hi u0)), (.int (lo u1)), (.int (hi u1))] u0 T3.heap Ae3 (Sta.keep0 SA K3.1) (Sta.keep0 SH K3.1) (Sta.keep0 SO K3.1) rfl rfl hu0) (lenOf pd_8 rfl) rfl (Nat.le_of_eq rfl) (by decide) (by decide) (by decide) (by decide) (by rw [hml]; rfl) (hb hby d5_32) (pc' := 35) rfl ?_
    rintro T4 _ _ ⟨rfl, e4, rfl⟩ X4
    rw [List.append_nil] at X4
    show Goes p e below T4 (mkF m 35 #[.val (.ref x), .val (.int (0 : Int32)), .val (.int (2 : Int32)), .val (.ref d), .val (.int (0 : Int32)), .val (.ref e_)] [(.int u0)]) _
    refine G.sipush X4 hx (pc' := 38) (hb hby d5_35) (z := (255 : Int32)) rfl rfl ?_
    refine G.icmpT X4 hx (pc' := 54) (hb hby d5_38) (Jvm.Free.XT.ii_gt_t hg) (by decide) (by decide) ?_
    refine G.aload X4 hx (pc' := 56) (hb hby d5_54) rfl rfl rfl ?_
    refine Goes.retA X4 hx hret rfl hlk rfl rfl (hb hby d5_56) (by decide) (by decide) ⟨e_, (1 : Int32), _, rfl, (by rw [e4]; exact K3), (by rw [e4]; exact Ae3), Or.inr ⟨rfl, rfl, rfl, rfl⟩, sz_e⟩
  · by_cases hl1 : (255 : Int32) < u1
    · have hg := hl1
      refine G.callS X1 hx hZ (y := (⟨"java/lang/StringUTF16", "compress", "([CI[BII)I"⟩ : MethodName)) hown (hw _ (List.mem_of_getElem? (i := 25) rfl)) (hw _ (List.mem_of_getElem? (i := 26) rfl)) (hw _ (List.mem_of_getElem? (i := 22) rfl)) (hw _ (List.mem_of_getElem? (i := 27) rfl)) (by decide) e1 (rm := ({ frames := 0, cells := 0, slots := 0, locals := 0 } : Room)) (argsL := [(.ref x), (.int (0 : Int32)), (.ref d), (.int (0 : Int32)), (.int (2 : Int32))]) (S := []) (W := 0) (rm_c5_2_1 l Z a0 hw x d u0 u1 h1 A1_x A1_d ne_x_d hl0 hg) (lenOf pd_15 rfl) rfl (Nat.le_of_eq rfl) (by decide) (by decide) (by decide) (by decide) (by rw [hml]; rfl) (hb hby d5_9) (pc' := 12) rfl ?_
      rintro T5 _ L5 ⟨rfl, Kq5⟩ X5
      have A5_x := Seq.keep A1_x Kq5.1 (ninS ne_x_d nin0)
      have K5 := Kp.call K1 Kq5 (allS (Or.inr sz_d) all0)
      show Goes p e below T5 (mkF m 12 #[.val (.ref x), .val (.int (0 : Int32)), .val (.int (2 : Int32)), .val (.ref d), .unset, .unset] [(.int (1 : Int32))]) _
      refine G.istore X5 hx (pc' := 14) (hb hby d5_12) (L' := #[.val (.ref x), .val (.int (0 : Int32)), .val (.int (2 : Int32)), .val (.ref d), .val (.int (1 : Int32)), .unset]) rfl rfl ?_
      refine G.iload X5 hx (pc' := 16) (hb hby d5_14) rfl rfl ?_
      refine G.iloadN X5 hx (pc' := 17) (hb hby d5_16) rfl rfl ?_
      refine G.icmpF X5 hx (pc' := 20) (hb hby d5_17) (Jvm.Free.XT.ii_eq_f (by decide)) rfl ?_
      refine G.aloadN X5 hx (pc' := 21) (hb hby d5_20) rfl rfl rfl ?_
      refine G.iloadN X5 hx (pc' := 22) (hb hby d5_21) rfl rfl ?_
      refine G.iloadN X5 hx (pc' := 23) (hb hby d5_22) rfl rfl ?_
      refine G.callS X5 hx hZ (y := (⟨"java/lang/StringUTF16", "toBytes", "([CII)[B"⟩ : MethodName)) hown (hw _ (List.mem_of_getElem? (i := 79) rfl)) (hw _ (List.mem_of_getElem? (i := 80) rfl)) (hw _ (List.mem_of_getElem? (i := 22) rfl)) (hw _ (List.mem_of_getElem? (i := 81) rfl)) (by decide) rfl (rm := ({ frames := 2, cells := 1, slots := 4, locals := 24 } : Room)) (argsL := [(.ref x), (.int (0 : Int32)), (.int (2 : Int32))]) (S := []) (W := 0) (rm_tb2 l Z a0 hw x u0 u1 T5.heap A5_x (Sta.keep0 SA K5.1) (Sta.keep0 SH K5.1) (Sta.keep0 SO K5.1)) (lenOf pd_16 rfl) rfl (Nat.le_of_eq rfl) (by decide) (by decide) (by decide) (by decide) (by rw [hml]; rfl) (hb hby d5_23) (pc' := 26) rfl ?_
      rintro T6 _ L6 ⟨e_, rfl, Kq6, Ae6, gd6⟩ X6
      have A6_x := Seq.keep A5_x Kq6.1 nin0
      have K6 := Kp.call K5 Kq6 all0
      have sz_e : h0.size ≤ e_ := Nat.le_trans K5.size gd6
      show Goes p e below T6 (mkF m 26 #[.val (.ref x), .val (.int (0 : Int32)), .val (.int (2 : Int32)), .val (.ref d), .val (.int (1 : Int32)), .unset] [(.ref e_)]) _
      refine G.astore X6 hx (pc' := 28) (hb hby d5_26) rfl (L' := #[.val (.ref x), .val (.int (0 : Int32)), .val (.int (2 : Int32)), .val (.ref d), .val (.int (1 : Int32)), .val (.ref e_)]) rfl rfl ?_
      refine G.aload X6 hx (pc' := 30) (hb hby d5_28) rfl rfl rfl ?_
      refine G.iload X6 hx (pc' := 32) (hb hby d5_30) rfl rfl ?_
      refine G.callS X6 hx hZ (y := (⟨"java/lang/StringUTF16", "getChar", "([BI)C"⟩ : MethodName)) hown (hw _ (List.mem_of_getElem? (i := 95) rfl)) (hw _ (List.mem_of_getElem? (i := 96) rfl)) (hw _ (List.mem_of_getElem? (i := 22) rfl)) (hw _ (List.mem_of_getElem? (i := 97) rfl)) (by decide) rfl (rm := ({ frames := 0, cells := 0, slots := 0, locals := 0 } : Room)) (argsL := [(.ref e_), (.int (1 : Int32))]) (S := []) (W := 0) (rm_gc1 l Z a0 hw e_ [(.int (lo u0)), (.int (hi u0)), (.int (lo u1)), (.int (hi u1))] u1 T6.heap Ae6 (Sta.keep0 SA K6.1) (Sta.keep0 SH K6.1) (Sta.keep0 SO K6.1) rfl rfl hu1) (lenOf pd_8 rfl) rfl (Nat.le_of_eq rfl) (by decide) (by decide) (by decide) (by decide) (by rw [hml]; rfl) (hb hby d5_32) (pc' := 35) rfl ?_
      rintro T7 _ _ ⟨rfl, e7, rfl⟩ X7
      rw [List.append_nil] at X7
      show Goes p e below T7 (mkF m 35 #[.val (.ref x), .val (.int (0 : Int32)), .val (.int (2 : Int32)), .val (.ref d), .val (.int (1 : Int32)), .val (.ref e_)] [(.int u1)]) _
      refine G.sipush X7 hx (pc' := 38) (hb hby d5_35) (z := (255 : Int32)) rfl rfl ?_
      refine G.icmpT X7 hx (pc' := 54) (hb hby d5_38) (Jvm.Free.XT.ii_gt_t hg) (by decide) (by decide) ?_
      refine G.aload X7 hx (pc' := 56) (hb hby d5_54) rfl rfl rfl ?_
      refine Goes.retA X7 hx hret rfl hlk rfl rfl (hb hby d5_56) (by decide) (by decide) ⟨e_, (1 : Int32), _, rfl, (by rw [e7]; exact K6), (by rw [e7]; exact Ae6), Or.inr ⟨rfl, rfl, rfl, rfl⟩, sz_e⟩
    · refine G.callS X1 hx hZ (y := (⟨"java/lang/StringUTF16", "compress", "([CI[BII)I"⟩ : MethodName)) hown (hw _ (List.mem_of_getElem? (i := 25) rfl)) (hw _ (List.mem_of_getElem? (i := 26) rfl)) (hw _ (List.mem_of_getElem? (i := 22) rfl)) (hw _ (List.mem_of_getElem? (i := 27) rfl)) (by decide) e1 (rm := ({ frames := 0, cells := 0, slots := 0, locals := 0 } : Room)) (argsL := [(.ref x), (.int (0 : Int32)), (.ref d), (.int (0 : Int32)), (.int (2 : Int32))]) (S := []) (W := 0) (rm_c5_2_2 l Z a0 hw x d u0 u1 h1 A1_x A1_d ne_x_d hl0 hl1) (lenOf pd_15 rfl) rfl (Nat.le_of_eq rfl) (by decide) (by decide) (by decide) (by decide) (by rw [hml]; rfl) (hb hby d5_9) (pc' := 12) rfl ?_
      rintro T8 _ L8 ⟨rfl, Kq8, Ad8⟩ X8
      have A8_x := Seq.keep A1_x Kq8.1 (ninS ne_x_d nin0)
      have K8 := Kp.call K1 Kq8 (allS (Or.inr sz_d) all0)
      show Goes p e below T8 (mkF m 12 #[.val (.ref x), .val (.int (0 : Int32)), .val (.int (2 : Int32)), .val (.ref d), .unset, .unset] [(.int (2 : Int32))]) _
      refine G.istore X8 hx (pc' := 14) (hb hby d5_12) (L' := #[.val (.ref x), .val (.int (0 : Int32)), .val (.int (2 : Int32)), .val (.ref d), .val (.int (2 : Int32)), .unset]) rfl rfl ?_
      refine G.iload X8 hx (pc' := 16) (hb hby d5_14) rfl rfl ?_
      refine G.iloadN X8 hx (pc' := 17) (hb hby d5_16) rfl rfl ?_
      refine G.icmpT X8 hx (pc' := 57) (hb hby d5_17) (Jvm.Free.XT.ii_eq_t rfl) (by decide) (by decide) ?_
      refine G.aloadN X8 hx (pc' := 58) (hb hby d5_57) rfl rfl rfl ?_
      refine Goes.retA X8 hx hret rfl hlk rfl rfl (hb hby d5_58) (by decide) (by decide) ⟨d, (0 : Int32), _, rfl, K8, Ad8, Or.inl ⟨rfl, rfl, rfl, hl0⟩, sz_d⟩
set_option maxRecDepth 65536 in
set_option maxHeartbeats 40000000 in
theorem rm_cl2_0 (l : Launch) (Z : State) (a0 : Array Value) (hw : ∀ d ∈ tables_1, d.before a0 Z = true) (d : Addr) (xs : List Value) (h0 : Heap) (Bd : Seq Z h0 d .byte xs) (hxl : xs.length = 2) :
    Con l (⟨"java/lang/StringUTF16", "coderFromArrayLen", "([BI)B"⟩ : MethodName) jdk_52_method_15_code 2 (some .byte) ({ frames := 0, cells := 0, slots := 0, locals := 0 } : Room) Z #[(.ref d), (.int (2 : Int32))] h0 (Pur (some (.int (0 : Int32))) h0) := by
  refine Con.of_body (plainFor_of_name pn_0) ?_
  intro p e s m below meth c T0 X0 hx hby hml hZ hown hnm hret hlk e0
  have hown : s.vm.findClass "java/lang/StringUTF16" = some m.cls := hown
  have hml : c.maxLocals = 2 := hml
  refine Goes.cast (ef7_RI m d (2 : Int32)) ?_
  refine G.iloadN X0 hx (pc' := 1) (hb hby d7_0) rfl rfl ?_
  refine G.aloadN X0 hx (pc' := 2) (hb hby d7_1) rfl rfl rfl ?_
  refine G.arraylength X0 hx hZ e0 Bd (pc' := 3) (hb hby d7_2) (z := (2 : Int32)) (by rw [hxl]; rfl) rfl ?_
  refine G.isub X0 hx (pc' := 4) (hb hby d7_3) rfl ?_
  refine G.bipush X0 hx (pc' := 6) (hb hby d7_4) (z := (31 : Int32)) rfl rfl ?_
  refine G.iushr X0 hx (pc' := 7) (hb hby d7_6) rfl ?_
  refine G.i2b X0 hx (pc' := 8) (hb hby d7_7) rfl ?_
  refine Goes.retN X0 hx hret (by simp) hlk (hb hby d7_8) (by decide) (by decide) ⟨congrArg (fun z => some (Value.int z)) (by decide), e0, rfl⟩
set_option maxRecDepth 65536 in
set_option maxHeartbeats 40000000 in
theorem rm_cl2_1 (l : Launch) (Z : State) (a0 : Array Value) (hw : ∀ d ∈ tables_1, d.before a0 Z = true) (d : Addr) (xs : List Value) (h0 : Heap) (Bd : Seq Z h0 d .byte xs) (hxl : xs.length = 4) :
    Con l (⟨"java/lang/StringUTF16", "coderFromArrayLen", "([BI)B"⟩ : MethodName) jdk_52_method_15_code 2 (some .byte) ({ frames := 0, cells := 0, slots := 0, locals := 0 } : Room) Z #[(.ref d), (.int (2 : Int32))] h0 (Pur (some (.int (1 : Int32))) h0) := by
  refine Con.of_body (plainFor_of_name pn_0) ?_
  intro p e s m below meth c T0 X0 hx hby hml hZ hown hnm hret hlk e0
  have hown : s.vm.findClass "java/lang/StringUTF16" = some m.cls := hown
  have hml : c.maxLocals = 2 := hml
  refine Goes.cast (ef7_RI m d (2 : Int32)) ?_
  refine G.iloadN X0 hx (pc' := 1) (hb hby d7_0) rfl rfl ?_
  refine G.aloadN X0 hx (pc' := 2) (hb hby d7_1) rfl rfl rfl ?_
  refine G.arraylength X0 hx hZ e0 Bd (pc' := 3) (hb hby d7_2) (z := (4 : Int32)) (by rw [hxl]; rfl) rfl ?_
  refine G.isub X0 hx (pc' := 4) (hb hby d7_3) rfl ?_
  refine G.bipush X0 hx (pc' := 6) (hb hby d7_4) (z := (31 : Int32)) rfl rfl ?_
  refine G.iushr X0 hx (pc' := 7) (hb hby d7_6) rfl ?_
  refine G.i2b X0 hx (pc' := 8) (hb hby d7_7) rfl ?_
  refine Goes.retN X0 hx hret (by simp) hlk (hb hby d7_8) (by decide) (by decide) ⟨congrArg (fun z => some (Value.int z)) (by decide), e0, rfl⟩
set_option maxRecDepth 65536 in
set_option maxHeartbeats 40000000 in
theorem rm_s4_2 (l : Launch) (Z : State) (a0 : Array Value) (hw : ∀ d ∈ tables_1, d.before a0 Z = true) (a x : Addr) (u0 u1 : Int32) (cs : Int32) (h0 : Heap) (SC : Sta Z h0 "java/lang/String" "COMPACT_STRINGS" "Z" (.int cs)) (hcs : ¬ cs = (0 : Int32)) (SA : Sta Z h0 "java/lang/StringUTF16" "$assertionsDisabled" "Z" (.int (1 : Int32))) (SH : Sta Z h0 "java/lang/StringUTF16" "HI_BYTE_SHIFT" "I" (.int (0 : Int32))) (SO : Sta Z h0 "java/lang/StringUTF16" "LO_BYTE_SHIFT" "I" (.int (8 : Int32))) (Ea : Exa Z h0 a "java/lang/String") (Fc : Fld Z h0 a "java/lang/String" "coder" "B" (.int (0 : Int32))) (Fv : Fld Z h0 a "java/lang/String" "value" "[B" .null) (Bx : Seq Z h0 x .char [(.int u0), (.int u1)]) (nax : a ≠ x) (hu0 : isCh u0) (hu1 : isCh u1) :
    Con l (⟨"java/lang/String", "<init>", "([CIILjava/lang/Void;)V"⟩ : MethodName) jdk_42_method_149_code 6 none ({ frames := 4, cells := 2, slots := 6, locals := 57 } : Room) Z #[(.ref a), (.ref x), (.int (0 : Int32)), (.int (2 : Int32)), .null] h0 (fun v h L => v = none ∧ Kp h0 h [a] L ∧ ∃ b cd xs, Fld Z h a "java/lang/String" "coder" "B" (.int cd) ∧ Fld Z h a "java/lang/String" "value" "[B" (.ref b) ∧ Seq Z h b .byte xs ∧ SQ 2 u0 cd xs ∧ h0.size ≤ b) := by
  refine Con.of_body (plainFor_of_name pn_3) ?_
  intro p e s m below meth c T0 X0 hx hby hml hZ hown hnm hret hlk e0
  have hown : s.vm.findClass "java/lang/String" = some m.cls := hown
  have hml : c.maxLocals = 6 := hml
  refine Goes.cast (ef3_RRIIN m a x (0 : Int32) (2 : Int32)) ?_
  have K0 := Kp.refl h0 [a]
  refine G.aloadN X0 hx (pc' := 1) (hb hby d3_0) rfl rfl rfl ?_
  refine G.initO X0 hx hZ hown (hw _ (List.mem_of_getElem? (i := 16) rfl)) (hw _ (List.mem_of_getElem? (i := 17) rfl)) (hw _ (List.mem_of_getElem? (i := 18) rfl)) e0 (by rw [hml]; rfl) (hb hby d3_1) (by decide) (W := 0) (Nat.le_of_eq rfl) (by decide) (pc' := 4) rfl fun T1 X1 e1 => ?_
  refine G.iloadN X1 hx (pc' := 5) (hb hby d3_4) rfl rfl ?_
  refine G.ifT X1 hx (pc' := 27) (hb hby d3_5) (Jvm.Free.XT.i0_ne_t (by decide)) (by decide) (by decide) ?_
  refine G.getS X1 hx hZ hown (hw _ (List.mem_of_getElem? (i := 19) rfl)) Via.refl e1 SC (pc' := 30) (hb hby d3_27) rfl fun T2 X2 e2 => ?_
  refine G.ifF X2 hx (pc' := 33) (hb hby d3_30) (Jvm.Free.XT.i0_eq_f hcs) rfl ?_
  refine G.aloadN X2 hx (pc' := 34) (hb hby d3_33) rfl rfl rfl ?_
  refine G.iloadN X2 hx (pc' := 35) (hb hby d3_34) rfl rfl ?_
  refine G.iloadN X2 hx (pc' := 36) (hb hby d3_35) rfl rfl ?_
  refine G.callS X2 hx hZ (y := (⟨"java/lang/StringUTF16", "compress", "([CII)[B"⟩ : MethodName)) hown (hw _ (List.mem_of_getElem? (i := 20) rfl)) (hw _ (List.mem_of_getElem? (i := 21) rfl)) (hw _ (List.mem_of_getElem? (i := 22) rfl)) (hw _ (List.mem_of_getElem? (i := 23) rfl)) (by decide) e2 (rm := ({ frames := 3, cells := 2, slots := 6, locals := 40 } : Room)) (argsL := [(.ref x), (.int (0 : Int32)), (.int (2 : Int32))]) (S := []) (W := 0) (rm_c3_2 l Z a0 hw x u0 u1 h0 Bx SA SH SO hu0 hu1) (lenOf pd_16 rfl) rfl (Nat.le_of_eq rfl) (by decide) (by decide) (by decide) (by decide) (by rw [hml]; rfl) (hb hby d3_36) (pc' := 39) rfl ?_
  rintro T3 _ L3 ⟨d, cd, xs, rfl, Kq3, Ad3, hsq, gd3⟩ X3
  have F3_a_coder := Fld.keep Fc Kq3.1 nin0
  have F3_a_value := Fld.keep Fv Kq3.1 nin0
  have E3_a := Exa.keep Ea Kq3.1
  have A3_x := Seq.keep Bx Kq3.1 nin0
  have K3 := Kp.call K0 Kq3 all0
  have ne_a_d : a ≠ d := Nat.ne_of_lt (Nat.lt_of_lt_of_le Ea.lt gd3)
  have ne_x_d : x ≠ d := Nat.ne_of_lt (Nat.lt_of_lt_of_le Bx.lt gd3)
  show Goes p e below T3 (mkF m 39 #[.val (.ref a), .val (.ref x), .val (.int (0 : Int32)), .val (.int (2 : Int32)), .val .null, .unset] [(.ref d)]) _
  refine G.astore X3 hx (pc' := 41) (hb hby d3_39) rfl (L' := #[.val (.ref a), .val (.ref x), .val (.int (0 : Int32)), .val (.int (2 : Int32)), .val .null, .val (.ref d)]) rfl rfl ?_
  refine G.aloadN X3 hx (pc' := 42) (hb hby d3_41) rfl rfl rfl ?_
  refine G.aload X3 hx (pc' := 44) (hb hby d3_42) rfl rfl rfl ?_
  refine G.iloadN X3 hx (pc' := 45) (hb hby d3_44) rfl rfl ?_
  have hsq' := hsq
  rcases hsq' with ⟨rfl, hxl, -, -⟩ | ⟨rfl, hxl, -, -⟩
  · refine G.callS X3 hx hZ (y := (⟨"java/lang/StringUTF16", "coderFromArrayLen", "([BI)B"⟩ : MethodName)) hown (hw _ (List.mem_of_getElem? (i := 28) rfl)) (hw _ (List.mem_of_getElem? (i := 29) rfl)) (hw _ (List.mem_of_getElem? (i := 22) rfl)) (hw _ (List.mem_of_getElem? (i := 30) rfl)) (by decide) rfl (rm := ({ frames := 0, cells := 0, slots := 0, locals := 0 } : Room)) (argsL := [(.ref d), (.int (2 : Int32))]) (S := [(.ref a)]) (W := 1) (rm_cl2_0 l Z a0 hw d xs T3.heap Ad3 hxl) (lenOf pd_17 rfl) rfl (Nat.le_of_eq rfl) (by decide) (by decide) (by decide) (by decide) (by rw [hml]; rfl) (hb hby d3_45) (pc' := 48) rfl ?_
    rintro T4 _ _ ⟨rfl, e4, rfl⟩ X4
    rw [List.append_nil] at X4
    show Goes p e below T4 (mkF m 48 #[.val (.ref a), .val (.ref x), .val (.int (0 : Int32)), .val (.int (2 : Int32)), .val .null, .val (.ref d)] [(.int (0 : Int32)), (.ref a)]) _
    refine G.putFN X4 hx hZ hown (hw _ (List.mem_of_getElem? (i := 31) rfl)) Via.refl e4 F3_a_coder E3_a (Or.inr ⟨(hw _ (List.mem_of_getElem? (i := 32) rfl)), rfl, hnm⟩) (hw _ (List.mem_of_getElem? (i := 7) rfl)) (ty := .byte) (v' := (.int (nar .byte (0 : Int32)))) (by decide) rfl (fits_nar_byte _) (pc' := 51) (hb hby d3_48) rfl fun T5 h5 X5 e5 W5 => ?_
    have F5_a_value := Fld.other W5 F3_a_value (Or.inr (slot_ne (Or.inr (hw _ (List.mem_of_getElem? (i := 34) rfl))) (Or.inr (hw _ (List.mem_of_getElem? (i := 32) rfl))) (by decide) (t := (.array .byte)) (t' := .byte) (by decide) (by decide)))
    have E5_a := Exa.wr W5 E3_a
    have A5_x := Seq.other A3_x W5 (Ne.symm nax)
    have A5_d := Seq.other Ad3 W5 (Ne.symm ne_a_d)
    have K5 := Kp.wr K3 W5 (Or.inl (List.mem_of_getElem? (i := 0) rfl))
    have F5_a_coder := Fld.same W5 F3_a_coder
    refine G.aloadN X5 hx (pc' := 52) (hb hby d3_51) rfl rfl rfl ?_
    refine G.aload X5 hx (pc' := 54) (hb hby d3_52) rfl rfl rfl ?_
    refine G.putF X5 hx hZ hown (hw _ (List.mem_of_getElem? (i := 33) rfl)) Via.refl e5 F5_a_value E5_a (Or.inr ⟨(hw _ (List.mem_of_getElem? (i := 34) rfl)), rfl, hnm⟩) (hw _ (List.mem_of_getElem? (i := 7) rfl)) (ty := (.array .byte)) (by decide) rfl rfl (pc' := 57) (hb hby d3_54) rfl fun T6 h6 X6 e6 W6 => ?_
    have F6_a_coder := Fld.other W6 F5_a_coder (Or.inr (slot_ne (Or.inr (hw _ (List.mem_of_getElem? (i := 32) rfl))) (Or.inr (hw _ (List.mem_of_getElem? (i := 34) rfl))) (by decide) (t := .byte) (t' := (.array .byte)) (by decide) (by decide)))
    have E6_a := Exa.wr W6 E5_a
    have A6_x := Seq.other A5_x W6 (Ne.symm nax)
    have A6_d := Seq.other A5_d W6 (Ne.symm ne_a_d)
    have K6 := Kp.wr K5 W6 (Or.inl (List.mem_of_getElem? (i := 0) rfl))
    have F6_a_value := Fld.same W6 F5_a_value
    refine Goes.retV X6 hx hret hlk (hb hby d3_57) (by decide) (by decide) ⟨rfl, (by rw [e6]; exact K6), d, (0 : Int32), xs, (by rw [e6]; exact F6_a_coder), (by rw [e6]; exact F6_a_value), (by rw [e6]; exact A6_d), hsq, gd3⟩
  · refine G.callS X3 hx hZ (y := (⟨"java/lang/StringUTF16", "coderFromArrayLen", "([BI)B"⟩ : MethodName)) hown (hw _ (List.mem_of_getElem? (i := 28) rfl)) (hw _ (List.mem_of_getElem? (i := 29) rfl)) (hw _ (List.mem_of_getElem? (i := 22) rfl)) (hw _ (List.mem_of_getElem? (i := 30) rfl)) (by decide) rfl (rm := ({ frames := 0, cells := 0, slots := 0, locals := 0 } : Room)) (argsL := [(.ref d), (.int (2 : Int32))]) (S := [(.ref a)]) (W := 1) (rm_cl2_1 l Z a0 hw d xs T3.heap Ad3 hxl) (lenOf pd_17 rfl) rfl (Nat.le_of_eq rfl) (by decide) (by decide) (by decide) (by decide) (by rw [hml]; rfl) (hb hby d3_45) (pc' := 48) rfl ?_
    rintro T7 _ _ ⟨rfl, e7, rfl⟩ X7
    rw [List.append_nil] at X7
    show Goes p e below T7 (mkF m 48 #[.val (.ref a), .val (.ref x), .val (.int (0 : Int32)), .val (.int (2 : Int32)), .val .null, .val (.ref d)] [(.int (1 : Int32)), (.ref a)]) _
    refine G.putFN X7 hx hZ hown (hw _ (List.mem_of_getElem? (i := 31) rfl)) Via.refl e7 F3_a_coder E3_a (Or.inr ⟨(hw _ (List.mem_of_getElem? (i := 32) rfl)), rfl, hnm⟩) (hw _ (List.mem_of_getElem? (i := 7) rfl)) (ty := .byte) (v' := (.int (nar .byte (1 : Int32)))) (by decide) rfl (fits_nar_byte _) (pc' := 51) (hb hby d3_48) rfl fun T8 h8 X8 e8 W8 => ?_
    have F8_a_value := Fld.other W8 F3_a_value (Or.inr (slot_ne (Or.inr (hw _ (List.mem_of_getElem? (i := 34) rfl))) (Or.inr (hw _ (List.mem_of_getElem? (i := 32) rfl))) (by decide) (t := (.array .byte)) (t' := .byte) (by decide) (by decide)))
    have E8_a := Exa.wr W8 E3_a
    have A8_x := Seq.other A3_x W8 (Ne.symm nax)
    have A8_d := Seq.other Ad3 W8 (Ne.symm ne_a_d)
    have K8 := Kp.wr K3 W8 (Or.inl (List.mem_of_getElem? (i := 0) rfl))
    have F8_a_coder := Fld.same W8 F3_a_coder
    refine G.aloadN X8 hx (pc' := 52) (hb hby d3_51) rfl rfl rfl ?_
    refine G.aload X8 hx (pc' := 54) (hb hby d3_52) rfl rfl rfl ?_
    refine G.putF X8 hx hZ hown (hw _ (List.mem_of_getElem? (i := 33) rfl)) Via.refl e8 F8_a_value E8_a (Or.inr ⟨(hw _ (List.mem_of_getElem? (i := 34) rfl)), rfl, hnm⟩) (hw _ (List.mem_of_getElem? (i := 7) rfl)) (ty := (.array .byte)) (by decide) rfl rfl (pc' := 57) (hb hby d3_54) rfl fun T9 h9 X9 e9 W9 => ?_
    have F9_a_coder := Fld.other W9 F8_a_coder (Or.inr (slot_ne (Or.inr (hw _ (List.mem_of_getElem? (i := 32) rfl))) (Or.inr (hw _ (List.mem_of_getElem? (i := 34) rfl))) (by decide) (t := .byte) (t' := (.array .byte)) (by decide) (by decide)))
    have E9_a := Exa.wr W9 E8_a
    have A9_x := Seq.other A8_x W9 (Ne.symm nax)
    have A9_d := Seq.other A8_d W9 (Ne.symm ne_a_d)
    have K9 := Kp.wr K8 W9 (Or.inl (List.mem_of_getElem? (i := 0) rfl))
    have F9_a_value := Fld.same W9 F8_a_value
    refine Goes.retV X9 hx hret hlk (hb hby d3_57) (by decide) (by decide) ⟨rfl, (by rw [e9]; exact K9), d, (1 : Int32), xs, (by rw [e9]; exact F9_a_coder), (by rw [e9]; exact F9_a_value), (by rw [e9]; exact A9_d), hsq, gd3⟩
set_option maxRecDepth 65536 in
set_option maxHeartbeats 40000000 in
theorem rm_s1_2 (l : Launch) (Z : State) (a0 : Array Value) (hw : ∀ d ∈ tables_1, d.before a0 Z = true) (a x : Addr) (u0 u1 : Int32) (cs : Int32) (h0 : Heap) (SC : Sta Z h0 "java/lang/String" "COMPACT_STRINGS" "Z" (.int cs)) (hcs : ¬ cs = (0 : Int32)) (SA : Sta Z h0 "java/lang/StringUTF16" "$assertionsDisabled" "Z" (.int (1 : Int32))) (SH : Sta Z h0 "java/lang/StringUTF16" "HI_BYTE_SHIFT" "I" (.int (0 : Int32))) (SO : Sta Z h0 "java/lang/StringUTF16" "LO_BYTE_SHIFT" "I" (.int (8 : Int32))) (Ea : Exa Z h0 a "java/lang/String") (Fc : Fld Z h0 a "java/lang/String" "coder" "B" (.int (0 : Int32))) (Fv : Fld Z h0 a "java/lang/String" "value" "[B" .null) (Bx : Seq Z h0 x .char [(.int u0), (.int u1)]) (nax : a ≠ x) (hu0 : isCh u0) (hu1 : isCh u1) :
    Con l (⟨"java/lang/String", "<init>", "([C)V"⟩ : MethodName) jdk_42_method_3_code 2 none ({ frames := 5, cells := 2, slots := 6, locals := 74 } : Room) Z #[(.ref a), (.ref x)] h0 (fun v h L => v = none ∧ Kp h0 h [a] L ∧ ∃ b cd xs, Fld Z h a "java/lang/String" "coder" "B" (.int cd) ∧ Fld Z h a "java/lang/String" "value" "[B" (.ref b) ∧ Seq Z h b .byte xs ∧ SQ 2 u0 cd xs ∧ h0.size ≤ b) := by
  refine Con.of_body (plainFor_of_name pn_3) ?_
  intro p e s m below meth c T0 X0 hx hby hml hZ hown hnm hret hlk e0
  have hown : s.vm.findClass "java/lang/String" = some m.cls := hown
  have hml : c.maxLocals = 2 := hml
  refine Goes.cast (ef2_RR m a x) ?_
  have K0 := Kp.refl h0 [a]
  refine G.aloadN X0 hx (pc' := 1) (hb hby d2_0) rfl rfl rfl ?_
  refine G.aloadN X0 hx (pc' := 2) (hb hby d2_1) rfl rfl rfl ?_
  refine G.iconst X0 hx (pc' := 3) (hb hby d2_2) (z := (0 : Int32)) rfl rfl ?_
  refine G.aloadN X0 hx (pc' := 4) (hb hby d2_3) rfl rfl rfl ?_
  refine G.arraylength X0 hx hZ e0 Bx (pc' := 5) (hb hby d2_4) (z := (2 : Int32)) rfl rfl ?_
  refine G.aconstNull X0 hx (pc' := 6) (hb hby d2_5) rfl ?_
  refine G.callI X0 hx hZ (y := (⟨"java/lang/String", "<init>", "([CIILjava/lang/Void;)V"⟩ : MethodName)) rfl hown (hw _ (List.mem_of_getElem? (i := 12) rfl)) (hw _ (List.mem_of_getElem? (i := 13) rfl)) (hw _ (List.mem_of_getElem? (i := 8) rfl)) (hw _ (List.mem_of_getElem? (i := 15) rfl)) (by decide) e0 (rm := ({ frames := 4, cells := 2, slots := 6, locals := 57 } : Room)) (argsL := [(.ref x), (.int (0 : Int32)), (.int (2 : Int32)), .null]) (S := []) (W := 0) (a := a) (rm_s4_2 l Z a0 hw a x u0 u1 cs h0 SC hcs SA SH SO Ea Fc Fv Bx nax hu0 hu1) (lenOf pd_18 rfl) rfl (Nat.le_of_eq rfl) (by decide) (by decide) (by decide) (by decide) (by rw [hml]; rfl) (hb hby d2_6) (pc' := 9) rfl ?_
  rintro T1 _ L1 ⟨rfl, Kq1, hrest⟩ X1
  have E1_a := Exa.keep Ea Kq1.1
  have A1_x := Seq.keep Bx Kq1.1 (ninS (Ne.symm nax) nin0)
  have K1 := Kp.call K0 Kq1 (allS (Or.inl (List.mem_of_getElem? (i := 0) rfl)) all0)
  show Goes p e below T1 (mkF m 9 #[.val (.ref a), .val (.ref x)] []) _
  refine Goes.retV X1 hx hret hlk (hb hby d2_9) (by decide) (by decide) ⟨rfl, K1, hrest⟩
set_option maxRecDepth 65536 in
set_option maxHeartbeats 40000000 in
theorem rm_make2 (l : Launch) (Z : State) (a0 : Array Value) (hw : ∀ d ∈ tables_1, d.before a0 Z = true) (u0 u1 u2 u3 cs : Int32) (h0 : Heap) (SC : Sta Z h0 "java/lang/String" "COMPACT_STRINGS" "Z" (.int cs)) (hcs : ¬ cs = (0 : Int32)) (SA : Sta Z h0 "java/lang/StringUTF16" "$assertionsDisabled" "Z" (.int (1 : Int32))) (SH : Sta Z h0 "java/lang/StringUTF16" "HI_BYTE_SHIFT" "I" (.int (0 : Int32))) (SO : Sta Z h0 "java/lang/StringUTF16" "LO_BYTE_SHIFT" "I" (.int (8 : Int32))) (hu0 : isCh u0) (hu1 : isCh u1) (hu2 : isCh u2) (hu3 : isCh u3) :
    Con l (⟨"com/example/bowerbird/bowerbird/RequiredTextPinLaw", "make", "(ICCCC)Ljava/lang/String;"⟩ : MethodName) method_3_code 6 (some (.object "java/lang/String")) ({ frames := 6, cells := 4, slots := 12, locals := 88 } : Room) Z #[(.int (2 : Int32)), (.int u0), (.int u1), (.int u2), (.int u3)] h0 (fun v h L => ∃ a, v = some (.ref a) ∧ Kp h0 h [] L ∧ Exa Z h a "java/lang/String" ∧ ∃ b cd xs, Fld Z h a "java/lang/String" "coder" "B" (.int cd) ∧ Fld Z h a "java/lang/String" "value" "[B" (.ref b) ∧ Seq Z h b .byte xs ∧ SQ 2 u0 cd xs) := by
  refine Con.of_body (plainFor_of_name pn_20) ?_
  intro p e s m below meth c T0 X0 hx hby hml hZ hown hnm hret hlk e0
  have hown : s.vm.findClass "com/example/bowerbird/bowerbird/RequiredTextPinLaw" = some m.cls := hown
  have hml : c.maxLocals = 6 := hml
  refine Goes.cast (ef1_IIIII m (2 : Int32) u0 u1 u2 u3) ?_
  have K0 := Kp.refl h0 []
  refine G.iloadN X0 hx (pc' := 1) (hb hby d1_0) rfl rfl ?_
  refine G.iconst X0 hx (pc' := 2) (hb hby d1_1) (z := (1 : Int32)) rfl rfl ?_
  refine G.icmpT X0 hx (pc' := 25) (hb hby d1_2) (Jvm.Free.XT.ii_ne_t (by decide)) (by decide) (by decide) ?_
  refine G.iloadN X0 hx (pc' := 26) (hb hby d1_25) rfl rfl ?_
  refine G.iconst X0 hx (pc' := 27) (hb hby d1_26) (z := (2 : Int32)) rfl rfl ?_
  refine G.icmpF X0 hx (pc' := 30) (hb hby d1_27) (Jvm.Free.XT.ii_ne_f rfl) rfl ?_
  refine G.iconst X0 hx (pc' := 31) (hb hby d1_30) (z := (2 : Int32)) rfl rfl ?_
  refine G.newP X0 hx hZ (hw _ (List.mem_of_getElem? (i := 5) rfl)) e0 (hb hby d1_31) (by decide) (n := 2) (cap := 2) rfl (by decide) (by decide) (by decide) (by decide) (pc' := 33) rfl fun T1 h1 x g1 X1 e1 Ex1 A1 => ?_
  have sz_x : h0.size ≤ x := Nat.le_trans K0.size (Nat.le_of_eq g1.symm)
  have K1 := Kp.ext K0 Ex1
  have A1_x : Seq Z h1 x .char [(.int (0 : Int32)), (.int (0 : Int32))] := A1
  refine G.astore X1 hx (pc' := 35) (hb hby d1_33) rfl (L' := #[.val (.int (2 : Int32)), .val (.int u0), .val (.int u1), .val (.int u2), .val (.int u3), .val (.ref x)]) rfl rfl ?_
  refine G.aload X1 hx (pc' := 37) (hb hby d1_35) rfl rfl rfl ?_
  refine G.iconst X1 hx (pc' := 38) (hb hby d1_37) (z := (0 : Int32)) rfl rfl ?_
  refine G.iloadN X1 hx (pc' := 39) (hb hby d1_38) rfl rfl ?_
  refine G.castore X1 hx hZ e1 A1_x (pc' := 40) (hb hby d1_39) (by decide) (Nat.le_of_ble_eq_true rfl) rfl fun T2 h2 X2 e2 W2 A2 => ?_
  have K2 := Kp.wr K1 W2 (Or.inr sz_x)
  have A2_x : Seq Z h2 x .char [(.int (nar .char u0)), (.int (0 : Int32))] := A2
  rw [own_nc hu0] at A2_x
  refine G.aload X2 hx (pc' := 42) (hb hby d1_40) rfl rfl rfl ?_
  refine G.iconst X2 hx (pc' := 43) (hb hby d1_42) (z := (1 : Int32)) rfl rfl ?_
  refine G.iloadN X2 hx (pc' := 44) (hb hby d1_43) rfl rfl ?_
  refine G.castore X2 hx hZ e2 A2_x (pc' := 45) (hb hby d1_44) (by decide) (Nat.le_of_ble_eq_true rfl) rfl fun T3 h3 X3 e3 W3 A3 => ?_
  have K3 := Kp.wr K2 W3 (Or.inr sz_x)
  have A3_x : Seq Z h3 x .char [(.int u0), (.int (nar .char u1))] := A3
  rw [own_nc hu1] at A3_x
  refine G.newO X3 hx hZ hown (hw _ (List.mem_of_getElem? (i := 6) rfl)) (hw _ (List.mem_of_getElem? (i := 7) rfl)) (hw _ (List.mem_of_getElem? (i := 8) rfl)) e3 (hb hby d1_45) (by decide) (by decide) (pc' := 48) rfl fun T4 h4 a g4 X4 e4 Ex4 Ea4 D4 => ?_
  have ne_x_a : x ≠ a := Nat.ne_of_lt (Nat.lt_of_lt_of_le A3_x.lt (Nat.le_of_eq g4.symm))
  have sz_a : h0.size ≤ a := Nat.le_trans K3.size (Nat.le_of_eq g4.symm)
  have A4_x := Seq.ext A3_x Ex4
  have K4 := Kp.ext K3 Ex4
  have F4_a_coder : Fld Z h4 a "java/lang/String" "coder" "B" (.int (0 : Int32)) := D4 (Or.inr (hw _ (List.mem_of_getElem? (i := 32) rfl))) (ty := .byte) (by decide)
  have F4_a_value : Fld Z h4 a "java/lang/String" "value" "[B" .null := D4 (Or.inr (hw _ (List.mem_of_getElem? (i := 34) rfl))) (ty := (.array .byte)) (by decide)
  refine G.dup X4 hx (pc' := 49) (hb hby d1_48) rfl rfl ?_
  refine G.aload X4 hx (pc' := 51) (hb hby d1_49) rfl rfl rfl ?_
  refine G.callI X4 hx hZ (y := (⟨"java/lang/String", "<init>", "([C)V"⟩ : MethodName)) rfl hown (hw _ (List.mem_of_getElem? (i := 9) rfl)) (hw _ (List.mem_of_getElem? (i := 10) rfl)) (hw _ (List.mem_of_getElem? (i := 8) rfl)) (hw _ (List.mem_of_getElem? (i := 11) rfl)) (by decide) e4 (rm := ({ frames := 5, cells := 2, slots := 6, locals := 74 } : Room)) (argsL := [(.ref x)]) (S := [(.ref a)]) (W := 1) (a := a) (rm_s1_2 l Z a0 hw a x u0 u1 cs h4 (Sta.keep0 SC K4.1) hcs (Sta.keep0 SA K4.1) (Sta.keep0 SH K4.1) (Sta.keep0 SO K4.1) Ea4 F4_a_coder F4_a_value A4_x (Ne.symm ne_x_a) hu0 hu1) (lenOf pd_19 rfl) rfl (Nat.le_of_eq rfl) (by decide) (by decide) (by decide) (by decide) (by rw [hml]; rfl) (hb hby d1_51) (pc' := 54) rfl ?_
  rintro T5 _ L5 ⟨rfl, Kq5, b, cd, xs, Fc, Fv, Ab, hsq, gb⟩ X5
  have E5_a := Exa.keep Ea4 Kq5.1
  have A5_x := Seq.keep A4_x Kq5.1 (ninS ne_x_a nin0)
  have K5 := Kp.call K4 Kq5 (allS (Or.inr sz_a) all0)
  show Goes p e below T5 (mkF m 54 #[.val (.int (2 : Int32)), .val (.int u0), .val (.int u1), .val (.int u2), .val (.int u3), .val (.ref x)] [(.ref a)]) _
  refine Goes.retA X5 hx hret rfl hlk rfl rfl (hb hby d1_54) (by decide) (by decide) ⟨a, rfl, K5, E5_a, b, cd, xs, Fc, Fv, Ab, hsq⟩
set_option maxRecDepth 65536 in
set_option maxHeartbeats 40000000 in
theorem rm_pu0_3 (l : Launch) (Z : State) (a0 : Array Value) (hw : ∀ d ∈ tables_1, d.before a0 Z = true) (d : Addr) (xs : List Value) (u0 : Int32) (h0 : Heap) (Bd : Seq Z h0 d .byte xs) (SA : Sta Z h0 "java/lang/StringUTF16" "$assertionsDisabled" "Z" (.int (1 : Int32))) (SH : Sta Z h0 "java/lang/StringUTF16" "HI_BYTE_SHIFT" "I" (.int (0 : Int32))) (SO : Sta Z h0 "java/lang/StringUTF16" "LO_BYTE_SHIFT" "I" (.int (8 : Int32))) (hxl : xs.length = 6) :
    Con l (⟨"java/lang/StringUTF16", "putChar", "([BII)V"⟩ : MethodName) jdk_52_method_4_code 3 none ({ frames := 0, cells := 0, slots := 0, locals := 0 } : Room) Z #[(.ref d), (.int (0 : Int32)), (.int u0)] h0 (fun v h L => v = none ∧ Kp h0 h [d] L ∧ Seq Z h d .byte ((xs.set 0 (.int (lo u0))).set 1 (.int (hi u0)))) := by
  refine Con.of_body (plainFor_of_name pn_0) ?_
  intro p e s m below meth c T0 X0 hx hby hml hZ hown hnm hret hlk e0
  have hown : s.vm.findClass "java/lang/StringUTF16" = some m.cls := hown
  have hml : c.maxLocals = 3 := hml
  refine Goes.cast (ef20_RII m d (0 : Int32) u0) ?_
  have K0 := Kp.refl h0 [d]
  refine G.getS X0 hx hZ hown (hw _ (List.mem_of_getElem? (i := 92) rfl)) Via.refl e0 SA (pc' := 3) (hb hby d20_0) rfl fun T1 X1 e1 => ?_
  refine G.ifT X1 hx (pc' := 28) (hb hby d20_3) (Jvm.Free.XT.i0_ne_t (by decide)) (by decide) (by decide) ?_
  refine G.iloadN X1 hx (pc' := 29) (hb hby d20_28) rfl rfl ?_
  refine G.iconst X1 hx (pc' := 30) (hb hby d20_29) (z := (1 : Int32)) rfl rfl ?_
  refine G.ishl X1 hx (pc' := 31) (hb hby d20_30) rfl ?_
  refine G.istoreN X1 hx (pc' := 32) (hb hby d20_31) (L' := #[.val (.ref d), .val (.int ((0 : Int32) <<< ((1 : Int32) &&& 31))), .val (.int u0)]) rfl rfl ?_
  show Goes p e below T1 (mkF m 32 #[.val (.ref d), .val (.int (0 : Int32)), .val (.int u0)] []) _
  refine G.aloadN X1 hx (pc' := 33) (hb hby d20_32) rfl rfl rfl ?_
  refine G.iloadN X1 hx (pc' := 34) (hb hby d20_33) rfl rfl ?_
  refine G.iinc X1 hx (pc' := 37) (hb hby d20_34) rfl (L' := #[.val (.ref d), .val (.int ((0 : Int32) + (1 : Int32))), .val (.int u0)]) rfl rfl ?_
  refine G.iloadN X1 hx (pc' := 38) (hb hby d20_37) rfl rfl ?_
  refine G.getS X1 hx hZ hown (hw _ (List.mem_of_getElem? (i := 93) rfl)) Via.refl e1 SH (pc' := 41) (hb hby d20_38) rfl fun T2 X2 e2 => ?_
  refine G.ishr X2 hx (pc' := 42) (hb hby d20_41) rfl ?_
  refine G.i2b X2 hx (pc' := 43) (hb hby d20_42) rfl ?_
  show Goes p e below T2 (mkF m 43 #[.val (.ref d), .val (.int (1 : Int32)), .val (.int u0)] [(.int ((u0 >>> ((0 : Int32) &&& 31)).toInt8.toInt32)), (.int (0 : Int32)), (.ref d)]) _
  refine G.bastore X2 hx hZ e2 Bd (pc' := 44) (hb hby d20_43) (by decide) (by rw [hxl]; decide) rfl fun T3 h3 X3 e3 W3 A3 => ?_
  have S3__assertionsDisabled := Sta.wr W3 SA
  have S3_HI_BYTE_SHIFT := Sta.wr W3 SH
  have S3_LO_BYTE_SHIFT := Sta.wr W3 SO
  have K3 := Kp.wr K0 W3 (Or.inl (List.mem_of_getElem? (i := 0) rfl))
  have A3_d : Seq Z h3 d .byte (xs.set 0 (.int (lo u0))) := A3
  refine G.aloadN X3 hx (pc' := 45) (hb hby d20_44) rfl rfl rfl ?_
  refine G.iloadN X3 hx (pc' := 46) (hb hby d20_45) rfl rfl ?_
  refine G.iloadN X3 hx (pc' := 47) (hb hby d20_46) rfl rfl ?_
  refine G.getS X3 hx hZ hown (hw _ (List.mem_of_getElem? (i := 94) rfl)) Via.refl e3 S3_LO_BYTE_SHIFT (pc' := 50) (hb hby d20_47) rfl fun T4 X4 e4 => ?_
  refine G.ishr X4 hx (pc' := 51) (hb hby d20_50) rfl ?_
  refine G.i2b X4 hx (pc' := 52) (hb hby d20_51) rfl ?_
  refine G.bastore X4 hx hZ e4 A3_d (pc' := 53) (hb hby d20_52) (by decide) (by rw [List.length_set, hxl]; decide) rfl fun T5 h5 X5 e5 W5 A5 => ?_
  have S5__assertionsDisabled := Sta.wr W5 S3__assertionsDisabled
  have S5_HI_BYTE_SHIFT := Sta.wr W5 S3_HI_BYTE_SHIFT
  have S5_LO_BYTE_SHIFT := Sta.wr W5 S3_LO_BYTE_SHIFT
  have K5 := Kp.wr K3 W5 (Or.inl (List.mem_of_getElem? (i := 0) rfl))
  have A5_d : Seq Z h5 d .byte ((xs.set 0 (.int (lo u0))).set 1 (.int (hi u0))) := A5
  refine Goes.retV X5 hx hret hlk (hb hby d20_53) (by decide) (by decide) ⟨rfl, (by rw [e5]; exact K5), (by rw [e5]; exact A5_d)⟩
set_option maxRecDepth 65536 in
set_option maxHeartbeats 40000000 in
theorem rm_pu1_3 (l : Launch) (Z : State) (a0 : Array Value) (hw : ∀ d ∈ tables_1, d.before a0 Z = true) (d : Addr) (xs : List Value) (u0 : Int32) (h0 : Heap) (Bd : Seq Z h0 d .byte xs) (SA : Sta Z h0 "java/lang/StringUTF16" "$assertionsDisabled" "Z" (.int (1 : Int32))) (SH : Sta Z h0 "java/lang/StringUTF16" "HI_BYTE_SHIFT" "I" (.int (0 : Int32))) (SO : Sta Z h0 "java/lang/StringUTF16" "LO_BYTE_SHIFT" "I" (.int (8 : Int32))) (hxl : xs.length = 6) :
    Con l (⟨"java/lang/StringUTF16", "putChar", "([BII)V"⟩ : MethodName) jdk_52_method_4_code 3 none ({ frames := 0, cells := 0, slots := 0, locals := 0 } : Room) Z #[(.ref d), (.int (1 : Int32)), (.int u0)] h0 (fun v h L => v = none ∧ Kp h0 h [d] L ∧ Seq Z h d .byte ((xs.set 2 (.int (lo u0))).set 3 (.int (hi u0)))) := by
  refine Con.of_body (plainFor_of_name pn_0) ?_
  intro p e s m below meth c T0 X0 hx hby hml hZ hown hnm hret hlk e0
  have hown : s.vm.findClass "java/lang/StringUTF16" = some m.cls := hown
  have hml : c.maxLocals = 3 := hml
  refine Goes.cast (ef20_RII m d (1 : Int32) u0) ?_
  have K0 := Kp.refl h0 [d]
  refine G.getS X0 hx hZ hown (hw _ (List.mem_of_getElem? (i := 92) rfl)) Via.refl e0 SA (pc' := 3) (hb hby d20_0) rfl fun T1 X1 e1 => ?_
  refine G.ifT X1 hx (pc' := 28) (hb hby d20_3) (Jvm.Free.XT.i0_ne_t (by decide)) (by decide) (by decide) ?_
  refine G.iloadN X1 hx (pc' := 29) (hb hby d20_28) rfl rfl ?_
  refine G.iconst X1 hx (pc' := 30) (hb hby d20_29) (z := (1 : Int32)) rfl rfl ?_
  refine G.ishl X1 hx (pc' := 31) (hb hby d20_30) rfl ?_
  refine G.istoreN X1 hx (pc' := 32) (hb hby d20_31) (L' := #[.val (.ref d), .val (.int ((1 : Int32) <<< ((1 : Int32) &&& 31))), .val (.int u0)]) rfl rfl ?_
  show Goes p e below T1 (mkF m 32 #[.val (.ref d), .val (.int (2 : Int32)), .val (.int u0)] []) _
  refine G.aloadN X1 hx (pc' := 33) (hb hby d20_32) rfl rfl rfl ?_
  refine G.iloadN X1 hx (pc' := 34) (hb hby d20_33) rfl rfl ?_
  refine G.iinc X1 hx (pc' := 37) (hb hby d20_34) rfl (L' := #[.val (.ref d), .val (.int ((2 : Int32) + (1 : Int32))), .val (.int u0)]) rfl rfl ?_
  refine G.iloadN X1 hx (pc' := 38) (hb hby d20_37) rfl rfl ?_
  refine G.getS X1 hx hZ hown (hw _ (List.mem_of_getElem? (i := 93) rfl)) Via.refl e1 SH (pc' := 41) (hb hby d20_38) rfl fun T2 X2 e2 => ?_
  refine G.ishr X2 hx (pc' := 42) (hb hby d20_41) rfl ?_
  refine G.i2b X2 hx (pc' := 43) (hb hby d20_42) rfl ?_
  show Goes p e below T2 (mkF m 43 #[.val (.ref d), .val (.int (3 : Int32)), .val (.int u0)] [(.int ((u0 >>> ((0 : Int32) &&& 31)).toInt8.toInt32)), (.int (2 : Int32)), (.ref d)]) _
  refine G.bastore X2 hx hZ e2 Bd (pc' := 44) (hb hby d20_43) (by decide) (by rw [hxl]; decide) rfl fun T3 h3 X3 e3 W3 A3 => ?_
  have S3__assertionsDisabled := Sta.wr W3 SA
  have S3_HI_BYTE_SHIFT := Sta.wr W3 SH
  have S3_LO_BYTE_SHIFT := Sta.wr W3 SO
  have K3 := Kp.wr K0 W3 (Or.inl (List.mem_of_getElem? (i := 0) rfl))
  have A3_d : Seq Z h3 d .byte (xs.set 2 (.int (lo u0))) := A3
  refine G.aloadN X3 hx (pc' := 45) (hb hby d20_44) rfl rfl rfl ?_
  refine G.iloadN X3 hx (pc' := 46) (hb hby d20_45) rfl rfl ?_
  refine G.iloadN X3 hx (pc' := 47) (hb hby d20_46) rfl rfl ?_
  refine G.getS X3 hx hZ hown (hw _ (List.mem_of_getElem? (i := 94) rfl)) Via.refl e3 S3_LO_BYTE_SHIFT (pc' := 50) (hb hby d20_47) rfl fun T4 X4 e4 => ?_
  refine G.ishr X4 hx (pc' := 51) (hb hby d20_50) rfl ?_
  refine G.i2b X4 hx (pc' := 52) (hb hby d20_51) rfl ?_
  refine G.bastore X4 hx hZ e4 A3_d (pc' := 53) (hb hby d20_52) (by decide) (by rw [List.length_set, hxl]; decide) rfl fun T5 h5 X5 e5 W5 A5 => ?_
  have S5__assertionsDisabled := Sta.wr W5 S3__assertionsDisabled
  have S5_HI_BYTE_SHIFT := Sta.wr W5 S3_HI_BYTE_SHIFT
  have S5_LO_BYTE_SHIFT := Sta.wr W5 S3_LO_BYTE_SHIFT
  have K5 := Kp.wr K3 W5 (Or.inl (List.mem_of_getElem? (i := 0) rfl))
  have A5_d : Seq Z h5 d .byte ((xs.set 2 (.int (lo u0))).set 3 (.int (hi u0))) := A5
  refine Goes.retV X5 hx hret hlk (hb hby d20_53) (by decide) (by decide) ⟨rfl, (by rw [e5]; exact K5), (by rw [e5]; exact A5_d)⟩
set_option maxRecDepth 65536 in
set_option maxHeartbeats 40000000 in
theorem rm_pu2_3 (l : Launch) (Z : State) (a0 : Array Value) (hw : ∀ d ∈ tables_1, d.before a0 Z = true) (d : Addr) (xs : List Value) (u0 : Int32) (h0 : Heap) (Bd : Seq Z h0 d .byte xs) (SA : Sta Z h0 "java/lang/StringUTF16" "$assertionsDisabled" "Z" (.int (1 : Int32))) (SH : Sta Z h0 "java/lang/StringUTF16" "HI_BYTE_SHIFT" "I" (.int (0 : Int32))) (SO : Sta Z h0 "java/lang/StringUTF16" "LO_BYTE_SHIFT" "I" (.int (8 : Int32))) (hxl : xs.length = 6) :
    Con l (⟨"java/lang/StringUTF16", "putChar", "([BII)V"⟩ : MethodName) jdk_52_method_4_code 3 none ({ frames := 0, cells := 0, slots := 0, locals := 0 } : Room) Z #[(.ref d), (.int (2 : Int32)), (.int u0)] h0 (fun v h L => v = none ∧ Kp h0 h [d] L ∧ Seq Z h d .byte ((xs.set 4 (.int (lo u0))).set 5 (.int (hi u0)))) := by
  refine Con.of_body (plainFor_of_name pn_0) ?_
  intro p e s m below meth c T0 X0 hx hby hml hZ hown hnm hret hlk e0
  have hown : s.vm.findClass "java/lang/StringUTF16" = some m.cls := hown
  have hml : c.maxLocals = 3 := hml
  refine Goes.cast (ef20_RII m d (2 : Int32) u0) ?_
  have K0 := Kp.refl h0 [d]
  refine G.getS X0 hx hZ hown (hw _ (List.mem_of_getElem? (i := 92) rfl)) Via.refl e0 SA (pc' := 3) (hb hby d20_0) rfl fun T1 X1 e1 => ?_
  refine G.ifT X1 hx (pc' := 28) (hb hby d20_3) (Jvm.Free.XT.i0_ne_t (by decide)) (by decide) (by decide) ?_
  refine G.iloadN X1 hx (pc' := 29) (hb hby d20_28) rfl rfl ?_
  refine G.iconst X1 hx (pc' := 30) (hb hby d20_29) (z := (1 : Int32)) rfl rfl ?_
  refine G.ishl X1 hx (pc' := 31) (hb hby d20_30) rfl ?_
  refine G.istoreN X1 hx (pc' := 32) (hb hby d20_31) (L' := #[.val (.ref d), .val (.int ((2 : Int32) <<< ((1 : Int32) &&& 31))), .val (.int u0)]) rfl rfl ?_
  show Goes p e below T1 (mkF m 32 #[.val (.ref d), .val (.int (4 : Int32)), .val (.int u0)] []) _
  refine G.aloadN X1 hx (pc' := 33) (hb hby d20_32) rfl rfl rfl ?_
  refine G.iloadN X1 hx (pc' := 34) (hb hby d20_33) rfl rfl ?_
  refine G.iinc X1 hx (pc' := 37) (hb hby d20_34) rfl (L' := #[.val (.ref d), .val (.int ((4 : Int32) + (1 : Int32))), .val (.int u0)]) rfl rfl ?_
  refine G.iloadN X1 hx (pc' := 38) (hb hby d20_37) rfl rfl ?_
  refine G.getS X1 hx hZ hown (hw _ (List.mem_of_getElem? (i := 93) rfl)) Via.refl e1 SH (pc' := 41) (hb hby d20_38) rfl fun T2 X2 e2 => ?_
  refine G.ishr X2 hx (pc' := 42) (hb hby d20_41) rfl ?_
  refine G.i2b X2 hx (pc' := 43) (hb hby d20_42) rfl ?_
  show Goes p e below T2 (mkF m 43 #[.val (.ref d), .val (.int (5 : Int32)), .val (.int u0)] [(.int ((u0 >>> ((0 : Int32) &&& 31)).toInt8.toInt32)), (.int (4 : Int32)), (.ref d)]) _
  refine G.bastore X2 hx hZ e2 Bd (pc' := 44) (hb hby d20_43) (by decide) (by rw [hxl]; decide) rfl fun T3 h3 X3 e3 W3 A3 => ?_
  have S3__assertionsDisabled := Sta.wr W3 SA
  have S3_HI_BYTE_SHIFT := Sta.wr W3 SH
  have S3_LO_BYTE_SHIFT := Sta.wr W3 SO
  have K3 := Kp.wr K0 W3 (Or.inl (List.mem_of_getElem? (i := 0) rfl))
  have A3_d : Seq Z h3 d .byte (xs.set 4 (.int (lo u0))) := A3
  refine G.aloadN X3 hx (pc' := 45) (hb hby d20_44) rfl rfl rfl ?_
  refine G.iloadN X3 hx (pc' := 46) (hb hby d20_45) rfl rfl ?_
  refine G.iloadN X3 hx (pc' := 47) (hb hby d20_46) rfl rfl ?_
  refine G.getS X3 hx hZ hown (hw _ (List.mem_of_getElem? (i := 94) rfl)) Via.refl e3 S3_LO_BYTE_SHIFT (pc' := 50) (hb hby d20_47) rfl fun T4 X4 e4 => ?_
  refine G.ishr X4 hx (pc' := 51) (hb hby d20_50) rfl ?_
  refine G.i2b X4 hx (pc' := 52) (hb hby d20_51) rfl ?_
  refine G.bastore X4 hx hZ e4 A3_d (pc' := 53) (hb hby d20_52) (by decide) (by rw [List.length_set, hxl]; decide) rfl fun T5 h5 X5 e5 W5 A5 => ?_
  have S5__assertionsDisabled := Sta.wr W5 S3__assertionsDisabled
  have S5_HI_BYTE_SHIFT := Sta.wr W5 S3_HI_BYTE_SHIFT
  have S5_LO_BYTE_SHIFT := Sta.wr W5 S3_LO_BYTE_SHIFT
  have K5 := Kp.wr K3 W5 (Or.inl (List.mem_of_getElem? (i := 0) rfl))
  have A5_d : Seq Z h5 d .byte ((xs.set 4 (.int (lo u0))).set 5 (.int (hi u0))) := A5
  refine Goes.retV X5 hx hret hlk (hb hby d20_53) (by decide) (by decide) ⟨rfl, (by rw [e5]; exact K5), (by rw [e5]; exact A5_d)⟩
set_option maxRecDepth 65536 in
set_option maxHeartbeats 40000000 in
theorem rm_nbl3 (l : Launch) (Z : State) (a0 : Array Value) (hw : ∀ d ∈ tables_1, d.before a0 Z = true)  (h0 : Heap)  :
    Con l (⟨"java/lang/StringUTF16", "newBytesLength", "(I)I"⟩ : MethodName) jdk_52_method_3_code 1 (some .int) ({ frames := 0, cells := 0, slots := 0, locals := 0 } : Room) Z #[(.int (3 : Int32))] h0 (Pur (some (.int (6 : Int32))) h0) := by
  refine Con.of_body (plainFor_of_name pn_0) ?_
  intro p e s m below meth c T0 X0 hx hby hml hZ hown hnm hret hlk e0
  have hown : s.vm.findClass "java/lang/StringUTF16" = some m.cls := hown
  have hml : c.maxLocals = 1 := hml
  refine Goes.cast (ef19_I m (3 : Int32)) ?_
  refine G.iloadN X0 hx (pc' := 1) (hb hby d19_0) rfl rfl ?_
  refine G.ifT X0 hx (pc' := 12) (hb hby d19_1) (Jvm.Free.XT.i0_ge_t (by decide)) (by decide) (by decide) ?_
  refine G.iloadN X0 hx (pc' := 13) (hb hby d19_12) rfl rfl ?_
  refine G.ldcInt X0 hx hZ hown (hw _ (List.mem_of_getElem? (i := 88) rfl)) (pc' := 15) (hb hby d19_13) rfl ?_
  refine G.icmpT X0 hx (pc' := 55) (hb hby d19_15) (Jvm.Free.XT.ii_lt_t (by decide)) (by decide) (by decide) ?_
  refine G.iloadN X0 hx (pc' := 56) (hb hby d19_55) rfl rfl ?_
  refine G.iconst X0 hx (pc' := 57) (hb hby d19_56) (z := (1 : Int32)) rfl rfl ?_
  refine G.ishl X0 hx (pc' := 58) (hb hby d19_57) rfl ?_
  refine Goes.retI X0 hx hret hlk (hb hby d19_58) (by decide) (by decide) ⟨congrArg (fun z => some (Value.int z)) (by decide), e0, rfl⟩
set_option maxRecDepth 65536 in
set_option maxHeartbeats 40000000 in
theorem rm_nbf3 (l : Launch) (Z : State) (a0 : Array Value) (hw : ∀ d ∈ tables_1, d.before a0 Z = true)  (h0 : Heap)  :
    Con l (⟨"java/lang/StringUTF16", "newBytesFor", "(I)[B"⟩ : MethodName) jdk_52_method_2_code 1 (some (.array .byte)) ({ frames := 1, cells := 1, slots := 6, locals := 12 } : Room) Z #[(.int (3 : Int32))] h0 (fun v h L => ∃ d, v = some (.ref d) ∧ Kp h0 h [] L ∧ Seq Z h d .byte [(.int (0 : Int32)), (.int (0 : Int32)), (.int (0 : Int32)), (.int (0 : Int32)), (.int (0 : Int32)), (.int (0 : Int32))] ∧ h0.size ≤ d) := by
  refine Con.of_body (plainFor_of_name pn_0) ?_
  intro p e s m below meth c T0 X0 hx hby hml hZ hown hnm hret hlk e0
  have hown : s.vm.findClass "java/lang/StringUTF16" = some m.cls := hown
  have hml : c.maxLocals = 1 := hml
  refine Goes.cast (ef18_I m (3 : Int32)) ?_
  have K0 := Kp.refl h0 []
  refine G.iloadN X0 hx (pc' := 1) (hb hby d18_0) rfl rfl ?_
  refine G.callS X0 hx hZ (y := (⟨"java/lang/StringUTF16", "newBytesLength", "(I)I"⟩ : MethodName)) hown (hw _ (List.mem_of_getElem? (i := 85) rfl)) (hw _ (List.mem_of_getElem? (i := 86) rfl)) (hw _ (List.mem_of_getElem? (i := 22) rfl)) (hw _ (List.mem_of_getElem? (i := 87) rfl)) (by decide) e0 (rm := ({ frames := 0, cells := 0, slots := 0, locals := 0 } : Room)) (argsL := [(.int (3 : Int32))]) (S := []) (W := 0) (rm_nbl3 l Z a0 hw h0) (lenOf pd_12 rfl) rfl (Nat.le_of_eq rfl) (by decide) (by decide) (by decide) (by decide) (by rw [hml]; rfl) (hb hby d18_1) (pc' := 4) rfl ?_
  rintro T1 _ _ ⟨rfl, e1, rfl⟩ X1
  rw [List.append_nil] at X1
  show Goes p e below T1 (mkF m 4 #[.val (.int (3 : Int32))] [(.int (6 : Int32))]) _
  refine G.newP X1 hx hZ (hw _ (List.mem_of_getElem? (i := 24) rfl)) e1 (hb hby d18_4) (by decide) (n := 6) (cap := 6) rfl (by decide) (by decide) (by decide) (by decide) (pc' := 6) rfl fun T2 h2 d g2 X2 e2 Ex2 A2 => ?_
  have sz_d : h0.size ≤ d := Nat.le_trans K0.size (Nat.le_of_eq g2.symm)
  have K2 := Kp.ext K0 Ex2
  have A2_d : Seq Z h2 d .byte [(.int (0 : Int32)), (.int (0 : Int32)), (.int (0 : Int32)), (.int (0 : Int32)), (.int (0 : Int32)), (.int (0 : Int32))] := A2
  refine Goes.retA X2 hx hret rfl hlk rfl rfl (hb hby d18_6) (by decide) (by decide) ⟨d, rfl, (by rw [e2]; exact K2), (by rw [e2]; exact A2_d), sz_d⟩
set_option maxRecDepth 65536 in
set_option maxHeartbeats 40000000 in
theorem rm_tb3 (l : Launch) (Z : State) (a0 : Array Value) (hw : ∀ d ∈ tables_1, d.before a0 Z = true) (x : Addr) (u0 u1 u2 : Int32) (h0 : Heap) (Bx : Seq Z h0 x .char [(.int u0), (.int u1), (.int u2)]) (SA : Sta Z h0 "java/lang/StringUTF16" "$assertionsDisabled" "Z" (.int (1 : Int32))) (SH : Sta Z h0 "java/lang/StringUTF16" "HI_BYTE_SHIFT" "I" (.int (0 : Int32))) (SO : Sta Z h0 "java/lang/StringUTF16" "LO_BYTE_SHIFT" "I" (.int (8 : Int32))) :
    Con l (⟨"java/lang/StringUTF16", "toBytes", "([CII)[B"⟩ : MethodName) jdk_52_method_14_code 5 (some (.array .byte)) ({ frames := 2, cells := 1, slots := 6, locals := 24 } : Room) Z #[(.ref x), (.int (0 : Int32)), (.int (3 : Int32))] h0 (fun v h L => ∃ d, v = some (.ref d) ∧ Kp h0 h [] L ∧ Seq Z h d .byte [(.int (lo u0)), (.int (hi u0)), (.int (lo u1)), (.int (hi u1)), (.int (lo u2)), (.int (hi u2))] ∧ h0.size ≤ d) := by
  refine Con.of_body (plainFor_of_name pn_0) ?_
  intro p e s m below meth c T0 X0 hx hby hml hZ hown hnm hret hlk e0
  have hown : s.vm.findClass "java/lang/StringUTF16" = some m.cls := hown
  have hml : c.maxLocals = 5 := hml
  refine Goes.cast (ef17_RII m x (0 : Int32) (3 : Int32)) ?_
  have K0 := Kp.refl h0 []
  refine G.iloadN X0 hx (pc' := 1) (hb hby d17_0) rfl rfl ?_
  refine G.callS X0 hx hZ (y := (⟨"java/lang/StringUTF16", "newBytesFor", "(I)[B"⟩ : MethodName)) hown (hw _ (List.mem_of_getElem? (i := 82) rfl)) (hw _ (List.mem_of_getElem? (i := 83) rfl)) (hw _ (List.mem_of_getElem? (i := 22) rfl)) (hw _ (List.mem_of_getElem? (i := 84) rfl)) (by decide) e0 (rm := ({ frames := 1, cells := 1, slots := 6, locals := 12 } : Room)) (argsL := [(.int (3 : Int32))]) (S := []) (W := 0) (rm_nbf3 l Z a0 hw h0) (lenOf pd_13 rfl) rfl (Nat.le_of_eq rfl) (by decide) (by decide) (by decide) (by decide) (by rw [hml]; rfl) (hb hby d17_1) (pc' := 4) rfl ?_
  rintro T1 _ L1 ⟨d, rfl, Kq1, Ad1, gd1⟩ X1
  have A1_x := Seq.keep Bx Kq1.1 nin0
  have K1 := Kp.call K0 Kq1 all0
  have ne_x_d : x ≠ d := Nat.ne_of_lt (Nat.lt_of_lt_of_le Bx.lt gd1)
  have sz_d : h0.size ≤ d := gd1
  show Goes p e below T1 (mkF m 4 #[.val (.ref x), .val (.int (0 : Int32)), .val (.int (3 : Int32)), .unset, .unset] [(.ref d)]) _
  refine G.astoreN X1 hx (pc' := 5) (hb hby d17_4) rfl (L' := #[.val (.ref x), .val (.int (0 : Int32)), .val (.int (3 : Int32)), .val (.ref d), .unset]) rfl rfl ?_
  refine G.iconst X1 hx (pc' := 6) (hb hby d17_5) (z := (0 : Int32)) rfl rfl ?_
  refine G.istore X1 hx (pc' := 8) (hb hby d17_6) (L' := #[.val (.ref x), .val (.int (0 : Int32)), .val (.int (3 : Int32)), .val (.ref d), .val (.int (0 : Int32))]) rfl rfl ?_
  refine G.iload X1 hx (pc' := 10) (hb hby d17_8) rfl rfl ?_
  refine G.iloadN X1 hx (pc' := 11) (hb hby d17_10) rfl rfl ?_
  refine G.icmpF X1 hx (pc' := 14) (hb hby d17_11) (Jvm.Free.XT.ii_ge_f (by decide)) rfl ?_
  refine G.aloadN X1 hx (pc' := 15) (hb hby d17_14) rfl rfl rfl ?_
  refine G.iload X1 hx (pc' := 17) (hb hby d17_15) rfl rfl ?_
  refine G.aloadN X1 hx (pc' := 18) (hb hby d17_17) rfl rfl rfl ?_
  refine G.iloadN X1 hx (pc' := 19) (hb hby d17_18) rfl rfl ?_
  refine G.caload X1 hx hZ rfl A1_x (pc' := 20) (v := (.int u0)) (hb hby d17_19) (by decide) rfl rfl ?_
  refine G.callS X1 hx hZ (y := (⟨"java/lang/StringUTF16", "putChar", "([BII)V"⟩ : MethodName)) hown (hw _ (List.mem_of_getElem? (i := 89) rfl)) (hw _ (List.mem_of_getElem? (i := 90) rfl)) (hw _ (List.mem_of_getElem? (i := 22) rfl)) (hw _ (List.mem_of_getElem? (i := 91) rfl)) (by decide) rfl (rm := ({ frames := 0, cells := 0, slots := 0, locals := 0 } : Room)) (argsL := [(.ref d), (.int (0 : Int32)), (.int u0)]) (S := []) (W := 0) (rm_pu0_3 l Z a0 hw d [(.int (0 : Int32)), (.int (0 : Int32)), (.int (0 : Int32)), (.int (0 : Int32)), (.int (0 : Int32)), (.int (0 : Int32))] u0 T1.heap Ad1 (Sta.keep0 SA K1.1) (Sta.keep0 SH K1.1) (Sta.keep0 SO K1.1) rfl) (lenOf pd_14 rfl) rfl (Nat.le_of_eq rfl) (by decide) (by decide) (by decide) (by decide) (by rw [hml]; rfl) (hb hby d17_20) (pc' := 23) rfl ?_
  rintro T2 _ L2 ⟨rfl, Kq2, Ad2⟩ X2
  have A2_x := Seq.keep A1_x Kq2.1 (ninS ne_x_d nin0)
  have K2 := Kp.call K1 Kq2 (allS (Or.inr sz_d) all0)
  have Ad2' : Seq Z T2.heap d .byte [(.int (lo u0)), (.int (hi u0)), (.int (0 : Int32)), (.int (0 : Int32)), (.int (0 : Int32)), (.int (0 : Int32))] := Ad2
  show Goes p e below T2 (mkF m 23 #[.val (.ref x), .val (.int (0 : Int32)), .val (.int (3 : Int32)), .val (.ref d), .val (.int (0 : Int32))] []) _
  refine G.iinc X2 hx (pc' := 26) (hb hby d17_23) rfl (L' := #[.val (.ref x), .val (.int ((0 : Int32) + (1 : Int32))), .val (.int (3 : Int32)), .val (.ref d), .val (.int (0 : Int32))]) rfl rfl ?_
  refine G.iinc X2 hx (pc' := 29) (hb hby d17_26) rfl (L' := #[.val (.ref x), .val (.int ((0 : Int32) + (1 : Int32))), .val (.int (3 : Int32)), .val (.ref d), .val (.int ((0 : Int32) + (1 : Int32)))]) rfl rfl ?_
  refine G.goto X2 hx (pc' := 8) (hb hby d17_29) (by decide) (by decide) ?_
  show Goes p e below T2 (mkF m 8 #[.val (.ref x), .val (.int (1 : Int32)), .val (.int (3 : Int32)), .val (.ref d), .val (.int (1 : Int32))] []) _
  refine G.iload X2 hx (pc' := 10) (hb hby d17_8) rfl rfl ?_
  refine G.iloadN X2 hx (pc' := 11) (hb hby d17_10) rfl rfl ?_
  refine G.icmpF X2 hx (pc' := 14) (hb hby d17_11) (Jvm.Free.XT.ii_ge_f (by decide)) rfl ?_
  refine G.aloadN X2 hx (pc' := 15) (hb hby d17_14) rfl rfl rfl ?_
  refine G.iload X2 hx (pc' := 17) (hb hby d17_15) rfl rfl ?_
  refine G.aloadN X2 hx (pc' := 18) (hb hby d17_17) rfl rfl rfl ?_
  refine G.iloadN X2 hx (pc' := 19) (hb hby d17_18) rfl rfl ?_
  refine G.caload X2 hx hZ rfl A2_x (pc' := 20) (v := (.int u1)) (hb hby d17_19) (by decide) rfl rfl ?_
  refine G.callS X2 hx hZ (y := (⟨"java/lang/StringUTF16", "putChar", "([BII)V"⟩ : MethodName)) hown (hw _ (List.mem_of_getElem? (i := 89) rfl)) (hw _ (List.mem_of_getElem? (i := 90) rfl)) (hw _ (List.mem_of_getElem? (i := 22) rfl)) (hw _ (List.mem_of_getElem? (i := 91) rfl)) (by decide) rfl (rm := ({ frames := 0, cells := 0, slots := 0, locals := 0 } : Room)) (argsL := [(.ref d), (.int (1 : Int32)), (.int u1)]) (S := []) (W := 0) (rm_pu1_3 l Z a0 hw d [(.int (lo u0)), (.int (hi u0)), (.int (0 : Int32)), (.int (0 : Int32)), (.int (0 : Int32)), (.int (0 : Int32))] u1 T2.heap Ad2' (Sta.keep0 SA K2.1) (Sta.keep0 SH K2.1) (Sta.keep0 SO K2.1) rfl) (lenOf pd_14 rfl) rfl (Nat.le_of_eq rfl) (by decide) (by decide) (by decide) (by decide) (by rw [hml]; rfl) (hb hby d17_20) (pc' := 23) rfl ?_
  rintro T3 _ L3 ⟨rfl, Kq3, Ad3⟩ X3
  have A3_x := Seq.keep A2_x Kq3.1 (ninS ne_x_d nin0)
  have K3 := Kp.call K2 Kq3 (allS (Or.inr sz_d) all0)
  have Ad3' : Seq Z T3.heap d .byte [(.int (lo u0)), (.int (hi u0)), (.int (lo u1)), (.int (hi u1)), (.int (0 : Int32)), (.int (0 : Int32))] := Ad3
  show Goes p e below T3 (mkF m 23 #[.val (.ref x), .val (.int (1 : Int32)), .val (.int (3 : Int32)), .val (.ref d), .val (.int (1 : Int32))] []) _
  refine G.iinc X3 hx (pc' := 26) (hb hby d17_23) rfl (L' := #[.val (.ref x), .val (.int ((1 : Int32) + (1 : Int32))), .val (.int (3 : Int32)), .val (.ref d), .val (.int (1 : Int32))]) rfl rfl ?_
  refine G.iinc X3 hx (pc' := 29) (hb hby d17_26) rfl (L' := #[.val (.ref x), .val (.int ((1 : Int32) + (1 : Int32))), .val (.int (3 : Int32)), .val (.ref d), .val (.int ((1 : Int32) + (1 : Int32)))]) rfl rfl ?_
  refine G.goto X3 hx (pc' := 8) (hb hby d17_29) (by decide) (by decide) ?_
  show Goes p e below T3 (mkF m 8 #[.val (.ref x), .val (.int (2 : Int32)), .val (.int (3 : Int32)), .val (.ref d), .val (.int (2 : Int32))] []) _
  refine G.iload X3 hx (pc' := 10) (hb hby d17_8) rfl rfl ?_
  refine G.iloadN X3 hx (pc' := 11) (hb hby d17_10) rfl rfl ?_
  refine G.icmpF X3 hx (pc' := 14) (hb hby d17_11) (Jvm.Free.XT.ii_ge_f (by decide)) rfl ?_
  refine G.aloadN X3 hx (pc' := 15) (hb hby d17_14) rfl rfl rfl ?_
  refine G.iload X3 hx (pc' := 17) (hb hby d17_15) rfl rfl ?_
  refine G.aloadN X3 hx (pc' := 18) (hb hby d17_17) rfl rfl rfl ?_
  refine G.iloadN X3 hx (pc' := 19) (hb hby d17_18) rfl rfl ?_
  refine G.caload X3 hx hZ rfl A3_x (pc' := 20) (v := (.int u2)) (hb hby d17_19) (by decide) rfl rfl ?_
  refine G.callS X3 hx hZ (y := (⟨"java/lang/StringUTF16", "putChar", "([BII)V"⟩ : MethodName)) hown (hw _ (List.mem_of_getElem? (i := 89) rfl)) (hw _ (List.mem_of_getElem? (i := 90) rfl)) (hw _ (List.mem_of_getElem? (i := 22) rfl)) (hw _ (List.mem_of_getElem? (i := 91) rfl)) (by decide) rfl (rm := ({ frames := 0, cells := 0, slots := 0, locals := 0 } : Room)) (argsL := [(.ref d), (.int (2 : Int32)), (.int u2)]) (S := []) (W := 0) (rm_pu2_3 l Z a0 hw d [(.int (lo u0)), (.int (hi u0)), (.int (lo u1)), (.int (hi u1)), (.int (0 : Int32)), (.int (0 : Int32))] u2 T3.heap Ad3' (Sta.keep0 SA K3.1) (Sta.keep0 SH K3.1) (Sta.keep0 SO K3.1) rfl) (lenOf pd_14 rfl) rfl (Nat.le_of_eq rfl) (by decide) (by decide) (by decide) (by decide) (by rw [hml]; rfl) (hb hby d17_20) (pc' := 23) rfl ?_
  rintro T4 _ L4 ⟨rfl, Kq4, Ad4⟩ X4
  have A4_x := Seq.keep A3_x Kq4.1 (ninS ne_x_d nin0)
  have K4 := Kp.call K3 Kq4 (allS (Or.inr sz_d) all0)
  have Ad4' : Seq Z T4.heap d .byte [(.int (lo u0)), (.int (hi u0)), (.int (lo u1)), (.int (hi u1)), (.int (lo u2)), (.int (hi u2))] := Ad4
  show Goes p e below T4 (mkF m 23 #[.val (.ref x), .val (.int (2 : Int32)), .val (.int (3 : Int32)), .val (.ref d), .val (.int (2 : Int32))] []) _
  refine G.iinc X4 hx (pc' := 26) (hb hby d17_23) rfl (L' := #[.val (.ref x), .val (.int ((2 : Int32) + (1 : Int32))), .val (.int (3 : Int32)), .val (.ref d), .val (.int (2 : Int32))]) rfl rfl ?_
  refine G.iinc X4 hx (pc' := 29) (hb hby d17_26) rfl (L' := #[.val (.ref x), .val (.int ((2 : Int32) + (1 : Int32))), .val (.int (3 : Int32)), .val (.ref d), .val (.int ((2 : Int32) + (1 : Int32)))]) rfl rfl ?_
  refine G.goto X4 hx (pc' := 8) (hb hby d17_29) (by decide) (by decide) ?_
  show Goes p e below T4 (mkF m 8 #[.val (.ref x), .val (.int (3 : Int32)), .val (.int (3 : Int32)), .val (.ref d), .val (.int (3 : Int32))] []) _
  refine G.iload X4 hx (pc' := 10) (hb hby d17_8) rfl rfl ?_
  refine G.iloadN X4 hx (pc' := 11) (hb hby d17_10) rfl rfl ?_
  refine G.icmpT X4 hx (pc' := 32) (hb hby d17_11) (Jvm.Free.XT.ii_ge_t (by decide)) (by decide) (by decide) ?_
  refine G.aloadN X4 hx (pc' := 33) (hb hby d17_32) rfl rfl rfl ?_
  refine Goes.retA X4 hx hret rfl hlk rfl rfl (hb hby d17_33) (by decide) (by decide) ⟨d, rfl, K4, Ad4', sz_d⟩
set_option maxRecDepth 65536 in
set_option maxHeartbeats 40000000 in
theorem rm_c5_3_0 (l : Launch) (Z : State) (a0 : Array Value) (hw : ∀ d ∈ tables_1, d.before a0 Z = true) (x d : Addr) (u0 u1 u2 : Int32) (h0 : Heap) (Bx : Seq Z h0 x .char [(.int u0), (.int u1), (.int u2)]) (Bd : Seq Z h0 d .byte [(.int (0 : Int32)), (.int (0 : Int32)), (.int (0 : Int32))]) (nxd : x ≠ d)  (hg : (255 : Int32) < u0) :
    Con l (⟨"java/lang/StringUTF16", "compress", "([CI[BII)I"⟩ : MethodName) jdk_52_method_21_code 7 (some .int) ({ frames := 0, cells := 0, slots := 0, locals := 0 } : Room) Z #[(.ref x), (.int (0 : Int32)), (.ref d), (.int (0 : Int32)), (.int (3 : Int32))] h0 (fun v h L => v = some (.int (0 : Int32)) ∧ Kp h0 h [d] L) := by
  refine Con.of_body (plainFor_of_name pn_0) ?_
  intro p e s m below meth c T0 X0 hx hby hml hZ hown hnm hret hlk e0
  have hown : s.vm.findClass "java/lang/StringUTF16" = some m.cls := hown
  have hml : c.maxLocals = 7 := hml
  refine Goes.cast (ef6_RIRII m x (0 : Int32) d (0 : Int32) (3 : Int32)) ?_
  have K0 := Kp.refl h0 [d]
  refine G.iconst X0 hx (pc' := 1) (hb hby d6_0) (z := (0 : Int32)) rfl rfl ?_
  refine G.istore X0 hx (pc' := 3) (hb hby d6_1) (L' := #[.val (.ref x), .val (.int (0 : Int32)), .val (.ref d), .val (.int (0 : Int32)), .val (.int (3 : Int32)), .val (.int (0 : Int32)), .unset]) rfl rfl ?_
  refine G.iload X0 hx (pc' := 5) (hb hby d6_3) rfl rfl ?_
  refine G.iload X0 hx (pc' := 7) (hb hby d6_5) rfl rfl ?_
  refine G.icmpF X0 hx (pc' := 10) (hb hby d6_7) (Jvm.Free.XT.ii_ge_f (by decide)) rfl ?_
  refine G.aloadN X0 hx (pc' := 11) (hb hby d6_10) rfl rfl rfl ?_
  refine G.iloadN X0 hx (pc' := 12) (hb hby d6_11) rfl rfl ?_
  refine G.caload X0 hx hZ e0 Bx (pc' := 13) (v := (.int u0)) (hb hby d6_12) (by decide) rfl rfl ?_
  refine G.istore X0 hx (pc' := 15) (hb hby d6_13) (L' := #[.val (.ref x), .val (.int (0 : Int32)), .val (.ref d), .val (.int (0 : Int32)), .val (.int (3 : Int32)), .val (.int (0 : Int32)), .val (.int u0)]) rfl rfl ?_
  refine G.iload X0 hx (pc' := 17) (hb hby d6_15) rfl rfl ?_
  refine G.sipush X0 hx (pc' := 20) (hb hby d6_17) (z := (255 : Int32)) rfl rfl ?_
  refine G.icmpF X0 hx (pc' := 23) (hb hby d6_20) (Jvm.Free.XT.ii_le_f hg) rfl ?_
  refine G.iload X0 hx (pc' := 25) (hb hby d6_23) rfl rfl ?_
  refine Goes.retI X0 hx hret hlk (hb hby d6_25) (by decide) (by decide) ⟨rfl, (by rw [e0]; exact K0)⟩
set_option maxRecDepth 65536 in
set_option maxHeartbeats 40000000 in
theorem rm_c5_3_1 (l : Launch) (Z : State) (a0 : Array Value) (hw : ∀ d ∈ tables_1, d.before a0 Z = true) (x d : Addr) (u0 u1 u2 : Int32) (h0 : Heap) (Bx : Seq Z h0 x .char [(.int u0), (.int u1), (.int u2)]) (Bd : Seq Z h0 d .byte [(.int (0 : Int32)), (.int (0 : Int32)), (.int (0 : Int32))]) (nxd : x ≠ d) (hl0 : ¬ (255 : Int32) < u0) (hg : (255 : Int32) < u1) :
    Con l (⟨"java/lang/StringUTF16", "compress", "([CI[BII)I"⟩ : MethodName) jdk_52_method_21_code 7 (some .int) ({ frames := 0, cells := 0, slots := 0, locals := 0 } : Room) Z #[(.ref x), (.int (0 : Int32)), (.ref d), (.int (0 : Int32)), (.int (3 : Int32))] h0 (fun v h L => v = some (.int (1 : Int32)) ∧ Kp h0 h [d] L) := by
  refine Con.of_body (plainFor_of_name pn_0) ?_
  intro p e s m below meth c T0 X0 hx hby hml hZ hown hnm hret hlk e0
  have hown : s.vm.findClass "java/lang/StringUTF16" = some m.cls := hown
  have hml : c.maxLocals = 7 := hml
  refine Goes.cast (ef6_RIRII m x (0 : Int32) d (0 : Int32) (3 : Int32)) ?_
  have K0 := Kp.refl h0 [d]
  refine G.iconst X0 hx (pc' := 1) (hb hby d6_0) (z := (0 : Int32)) rfl rfl ?_
  refine G.istore X0 hx (pc' := 3) (hb hby d6_1) (L' := #[.val (.ref x), .val (.int (0 : Int32)), .val (.ref d), .val (.int (0 : Int32)), .val (.int (3 : Int32)), .val (.int (0 : Int32)), .unset]) rfl rfl ?_
  refine G.iload X0 hx (pc' := 5) (hb hby d6_3) rfl rfl ?_
  refine G.iload X0 hx (pc' := 7) (hb hby d6_5) rfl rfl ?_
  refine G.icmpF X0 hx (pc' := 10) (hb hby d6_7) (Jvm.Free.XT.ii_ge_f (by decide)) rfl ?_
  refine G.aloadN X0 hx (pc' := 11) (hb hby d6_10) rfl rfl rfl ?_
  refine G.iloadN X0 hx (pc' := 12) (hb hby d6_11) rfl rfl ?_
  refine G.caload X0 hx hZ e0 Bx (pc' := 13) (v := (.int u0)) (hb hby d6_12) (by decide) rfl rfl ?_
  refine G.istore X0 hx (pc' := 15) (hb hby d6_13) (L' := #[.val (.ref x), .val (.int (0 : Int32)), .val (.ref d), .val (.int (0 : Int32)), .val (.int (3 : Int32)), .val (.int (0 : Int32)), .val (.int u0)]) rfl rfl ?_
  refine G.iload X0 hx (pc' := 17) (hb hby d6_15) rfl rfl ?_
  refine G.sipush X0 hx (pc' := 20) (hb hby d6_17) (z := (255 : Int32)) rfl rfl ?_
  refine G.icmpT X0 hx (pc' := 26) (hb hby d6_20) (Jvm.Free.XT.ii_le_t hl0) (by decide) (by decide) ?_
  refine G.aloadN X0 hx (pc' := 27) (hb hby d6_26) rfl rfl rfl ?_
  refine G.iloadN X0 hx (pc' := 28) (hb hby d6_27) rfl rfl ?_
  refine G.iload X0 hx (pc' := 30) (hb hby d6_28) rfl rfl ?_
  refine G.i2b X0 hx (pc' := 31) (hb hby d6_30) rfl ?_
  refine G.bastore X0 hx hZ e0 Bd (pc' := 32) (hb hby d6_31) (by decide) (Nat.le_of_ble_eq_true rfl) rfl fun T1 h1 X1 e1 W1 A1 => ?_
  have A1_x := Seq.other Bx W1 nxd
  have K1 := Kp.wr K0 W1 (Or.inl (List.mem_of_getElem? (i := 0) rfl))
  have A1_d : Seq Z h1 d .byte [(.int (lb u0)), (.int (0 : Int32)), (.int (0 : Int32))] := A1
  refine G.iinc X1 hx (pc' := 35) (hb hby d6_32) rfl (L' := #[.val (.ref x), .val (.int ((0 : Int32) + (1 : Int32))), .val (.ref d), .val (.int (0 : Int32)), .val (.int (3 : Int32)), .val (.int (0 : Int32)), .val (.int u0)]) rfl rfl ?_
  refine G.iinc X1 hx (pc' := 38) (hb hby d6_35) rfl (L' := #[.val (.ref x), .val (.int ((0 : Int32) + (1 : Int32))), .val (.ref d), .val (.int ((0 : Int32) + (1 : Int32))), .val (.int (3 : Int32)), .val (.int (0 : Int32)), .val (.int u0)]) rfl rfl ?_
  refine G.iinc X1 hx (pc' := 41) (hb hby d6_38) rfl (L' := #[.val (.ref x), .val (.int ((0 : Int32) + (1 : Int32))), .val (.ref d), .val (.int ((0 : Int32) + (1 : Int32))), .val (.int (3 : Int32)), .val (.int ((0 : Int32) + (1 : Int32))), .val (.int u0)]) rfl rfl ?_
  refine G.goto X1 hx (pc' := 3) (hb hby d6_41) (by decide) (by decide) ?_
  show Goes p e below T1 (mkF m 3 #[.val (.ref x), .val (.int (1 : Int32)), .val (.ref d), .val (.int (1 : Int32)), .val (.int (3 : Int32)), .val (.int (1 : Int32)), .val (.int u0)] []) _
  refine G.iload X1 hx (pc' := 5) (hb hby d6_3) rfl rfl ?_
  refine G.iload X1 hx (pc' := 7) (hb hby d6_5) rfl rfl ?_
  refine G.icmpF X1 hx (pc' := 10) (hb hby d6_7) (Jvm.Free.XT.ii_ge_f (by decide)) rfl ?_
  refine G.aloadN X1 hx (pc' := 11) (hb hby d6_10) rfl rfl rfl ?_
  refine G.iloadN X1 hx (pc' := 12) (hb hby d6_11) rfl rfl ?_
  refine G.caload X1 hx hZ e1 A1_x (pc' := 13) (v := (.int u1)) (hb hby d6_12) (by decide) rfl rfl ?_
  refine G.istore X1 hx (pc' := 15) (hb hby d6_13) (L' := #[.val (.ref x), .val (.int (1 : Int32)), .val (.ref d), .val (.int (1 : Int32)), .val (.int (3 : Int32)), .val (.int (1 : Int32)), .val (.int u1)]) rfl rfl ?_
  refine G.iload X1 hx (pc' := 17) (hb hby d6_15) rfl rfl ?_
  refine G.sipush X1 hx (pc' := 20) (hb hby d6_17) (z := (255 : Int32)) rfl rfl ?_
  refine G.icmpF X1 hx (pc' := 23) (hb hby d6_20) (Jvm.Free.XT.ii_le_f hg) rfl ?_
  refine G.iload X1 hx (pc' := 25) (hb hby d6_23) rfl rfl ?_
  refine Goes.retI X1 hx hret hlk (hb hby d6_25) (by decide) (by decide) ⟨rfl, (by rw [e1]; exact K1)⟩
set_option maxRecDepth 65536 in
set_option maxHeartbeats 40000000 in
theorem rm_c5_3_2 (l : Launch) (Z : State) (a0 : Array Value) (hw : ∀ d ∈ tables_1, d.before a0 Z = true) (x d : Addr) (u0 u1 u2 : Int32) (h0 : Heap) (Bx : Seq Z h0 x .char [(.int u0), (.int u1), (.int u2)]) (Bd : Seq Z h0 d .byte [(.int (0 : Int32)), (.int (0 : Int32)), (.int (0 : Int32))]) (nxd : x ≠ d) (hl0 : ¬ (255 : Int32) < u0) (hl1 : ¬ (255 : Int32) < u1) (hg : (255 : Int32) < u2) :
    Con l (⟨"java/lang/StringUTF16", "compress", "([CI[BII)I"⟩ : MethodName) jdk_52_method_21_code 7 (some .int) ({ frames := 0, cells := 0, slots := 0, locals := 0 } : Room) Z #[(.ref x), (.int (0 : Int32)), (.ref d), (.int (0 : Int32)), (.int (3 : Int32))] h0 (fun v h L => v = some (.int (2 : Int32)) ∧ Kp h0 h [d] L) := by
  refine Con.of_body (plainFor_of_name pn_0) ?_
  intro p e s m below meth c T0 X0 hx hby hml hZ hown hnm hret hlk e0
  have hown : s.vm.findClass "java/lang/StringUTF16" = some m.cls := hown
  have hml : c.maxLocals = 7 := hml
  refine Goes.cast (ef6_RIRII m x (0 : Int32) d (0 : Int32) (3 : Int32)) ?_
  have K0 := Kp.refl h0 [d]
  refine G.iconst X0 hx (pc' := 1) (hb hby d6_0) (z := (0 : Int32)) rfl rfl ?_
  refine G.istore X0 hx (pc' := 3) (hb hby d6_1) (L' := #[.val (.ref x), .val (.int (0 : Int32)), .val (.ref d), .val (.int (0 : Int32)), .val (.int (3 : Int32)), .val (.int (0 : Int32)), .unset]) rfl rfl ?_
  refine G.iload X0 hx (pc' := 5) (hb hby d6_3) rfl rfl ?_
  refine G.iload X0 hx (pc' := 7) (hb hby d6_5) rfl rfl ?_
  refine G.icmpF X0 hx (pc' := 10) (hb hby d6_7) (Jvm.Free.XT.ii_ge_f (by decide)) rfl ?_
  refine G.aloadN X0 hx (pc' := 11) (hb hby d6_10) rfl rfl rfl ?_
  refine G.iloadN X0 hx (pc' := 12) (hb hby d6_11) rfl rfl ?_
  refine G.caload X0 hx hZ e0 Bx (pc' := 13) (v := (.int u0)) (hb hby d6_12) (by decide) rfl rfl ?_
  refine G.istore X0 hx (pc' := 15) (hb hby d6_13) (L' := #[.val (.ref x), .val (.int (0 : Int32)), .val (.ref d), .val (.int (0 : Int32)), .val (.int (3 : Int32)), .val (.int (0 : Int32)), .val (.int u0)]) rfl rfl ?_
  refine G.iload X0 hx (pc' := 17) (hb hby d6_15) rfl rfl ?_
  refine G.sipush X0 hx (pc' := 20) (hb hby d6_17) (z := (255 : Int32)) rfl rfl ?_
  refine G.icmpT X0 hx (pc' := 26) (hb hby d6_20) (Jvm.Free.XT.ii_le_t hl0) (by decide) (by decide) ?_
  refine G.aloadN X0 hx (pc' := 27) (hb hby d6_26) rfl rfl rfl ?_
  refine G.iloadN X0 hx (pc' := 28) (hb hby d6_27) rfl rfl ?_
  refine G.iload X0 hx (pc' := 30) (hb hby d6_28) rfl rfl ?_
  refine G.i2b X0 hx (pc' := 31) (hb hby d6_30) rfl ?_
  refine G.bastore X0 hx hZ e0 Bd (pc' := 32) (hb hby d6_31) (by decide) (Nat.le_of_ble_eq_true rfl) rfl fun T1 h1 X1 e1 W1 A1 => ?_
  have A1_x := Seq.other Bx W1 nxd
  have K1 := Kp.wr K0 W1 (Or.inl (List.mem_of_getElem? (i := 0) rfl))
  have A1_d : Seq Z h1 d .byte [(.int (lb u0)), (.int (0 : Int32)), (.int (0 : Int32))] := A1
  refine G.iinc X1 hx (pc' := 35) (hb hby d6_32) rfl (L' := #[.val (.ref x), .val (.int ((0 : Int32) + (1 : Int32))), .val (.ref d), .val (.int (0 : Int32)), .val (.int (3 : Int32)), .val (.int (0 : Int32)), .val (.int u0)]) rfl rfl ?_
  refine G.iinc X1 hx (pc' := 38) (hb hby d6_35) rfl (L' := #[.val (.ref x), .val (.int ((0 : Int32) + (1 : Int32))), .val (.ref d), .val (.int ((0 : Int32) + (1 : Int32))), .val (.int (3 : Int32)), .val (.int (0 : Int32)), .val (.int u0)]) rfl rfl ?_
  refine G.iinc X1 hx (pc' := 41) (hb hby d6_38) rfl (L' := #[.val (.ref x), .val (.int ((0 : Int32) + (1 : Int32))), .val (.ref d), .val (.int ((0 : Int32) + (1 : Int32))), .val (.int (3 : Int32)), .val (.int ((0 : Int32) + (1 : Int32))), .val (.int u0)]) rfl rfl ?_
  refine G.goto X1 hx (pc' := 3) (hb hby d6_41) (by decide) (by decide) ?_
  show Goes p e below T1 (mkF m 3 #[.val (.ref x), .val (.int (1 : Int32)), .val (.ref d), .val (.int (1 : Int32)), .val (.int (3 : Int32)), .val (.int (1 : Int32)), .val (.int u0)] []) _
  refine G.iload X1 hx (pc' := 5) (hb hby d6_3) rfl rfl ?_
  refine G.iload X1 hx (pc' := 7) (hb hby d6_5) rfl rfl ?_
  refine G.icmpF X1 hx (pc' := 10) (hb hby d6_7) (Jvm.Free.XT.ii_ge_f (by decide)) rfl ?_
  refine G.aloadN X1 hx (pc' := 11) (hb hby d6_10) rfl rfl rfl ?_
  refine G.iloadN X1 hx (pc' := 12) (hb hby d6_11) rfl rfl ?_
  refine G.caload X1 hx hZ e1 A1_x (pc' := 13) (v := (.int u1)) (hb hby d6_12) (by decide) rfl rfl ?_
  refine G.istore X1 hx (pc' := 15) (hb hby d6_13) (L' := #[.val (.ref x), .val (.int (1 : Int32)), .val (.ref d), .val (.int (1 : Int32)), .val (.int (3 : Int32)), .val (.int (1 : Int32)), .val (.int u1)]) rfl rfl ?_
  refine G.iload X1 hx (pc' := 17) (hb hby d6_15) rfl rfl ?_
  refine G.sipush X1 hx (pc' := 20) (hb hby d6_17) (z := (255 : Int32)) rfl rfl ?_
  refine G.icmpT X1 hx (pc' := 26) (hb hby d6_20) (Jvm.Free.XT.ii_le_t hl1) (by decide) (by decide) ?_
  refine G.aloadN X1 hx (pc' := 27) (hb hby d6_26) rfl rfl rfl ?_
  refine G.iloadN X1 hx (pc' := 28) (hb hby d6_27) rfl rfl ?_
  refine G.iload X1 hx (pc' := 30) (hb hby d6_28) rfl rfl ?_
  refine G.i2b X1 hx (pc' := 31) (hb hby d6_30) rfl ?_
  refine G.bastore X1 hx hZ e1 A1_d (pc' := 32) (hb hby d6_31) (by decide) (Nat.le_of_ble_eq_true rfl) rfl fun T2 h2 X2 e2 W2 A2 => ?_
  have A2_x := Seq.other A1_x W2 nxd
  have K2 := Kp.wr K1 W2 (Or.inl (List.mem_of_getElem? (i := 0) rfl))
  have A2_d : Seq Z h2 d .byte [(.int (lb u0)), (.int (lb u1)), (.int (0 : Int32))] := A2
  refine G.iinc X2 hx (pc' := 35) (hb hby d6_32) rfl (L' := #[.val (.ref x), .val (.int ((1 : Int32) + (1 : Int32))), .val (.ref d), .val (.int (1 : Int32)), .val (.int (3 : Int32)), .val (.int (1 : Int32)), .val (.int u1)]) rfl rfl ?_
  refine G.iinc X2 hx (pc' := 38) (hb hby d6_35) rfl (L' := #[.val (.ref x), .val (.int ((1 : Int32) + (1 : Int32))), .val (.ref d), .val (.int ((1 : Int32) + (1 : Int32))), .val (.int (3 : Int32)), .val (.int (1 : Int32)), .val (.int u1)]) rfl rfl ?_
  refine G.iinc X2 hx (pc' := 41) (hb hby d6_38) rfl (L' := #[.val (.ref x), .val (.int ((1 : Int32) + (1 : Int32))), .val (.ref d), .val (.int ((1 : Int32) + (1 : Int32))), .val (.int (3 : Int32)), .val (.int ((1 : Int32) + (1 : Int32))), .val (.int u1)]) rfl rfl ?_
  refine G.goto X2 hx (pc' := 3) (hb hby d6_41) (by decide) (by decide) ?_
  show Goes p e below T2 (mkF m 3 #[.val (.ref x), .val (.int (2 : Int32)), .val (.ref d), .val (.int (2 : Int32)), .val (.int (3 : Int32)), .val (.int (2 : Int32)), .val (.int u1)] []) _
  refine G.iload X2 hx (pc' := 5) (hb hby d6_3) rfl rfl ?_
  refine G.iload X2 hx (pc' := 7) (hb hby d6_5) rfl rfl ?_
  refine G.icmpF X2 hx (pc' := 10) (hb hby d6_7) (Jvm.Free.XT.ii_ge_f (by decide)) rfl ?_
  refine G.aloadN X2 hx (pc' := 11) (hb hby d6_10) rfl rfl rfl ?_
  refine G.iloadN X2 hx (pc' := 12) (hb hby d6_11) rfl rfl ?_
  refine G.caload X2 hx hZ e2 A2_x (pc' := 13) (v := (.int u2)) (hb hby d6_12) (by decide) rfl rfl ?_
  refine G.istore X2 hx (pc' := 15) (hb hby d6_13) (L' := #[.val (.ref x), .val (.int (2 : Int32)), .val (.ref d), .val (.int (2 : Int32)), .val (.int (3 : Int32)), .val (.int (2 : Int32)), .val (.int u2)]) rfl rfl ?_
  refine G.iload X2 hx (pc' := 17) (hb hby d6_15) rfl rfl ?_
  refine G.sipush X2 hx (pc' := 20) (hb hby d6_17) (z := (255 : Int32)) rfl rfl ?_
  refine G.icmpF X2 hx (pc' := 23) (hb hby d6_20) (Jvm.Free.XT.ii_le_f hg) rfl ?_
  refine G.iload X2 hx (pc' := 25) (hb hby d6_23) rfl rfl ?_
  refine Goes.retI X2 hx hret hlk (hb hby d6_25) (by decide) (by decide) ⟨rfl, (by rw [e2]; exact K2)⟩
set_option maxRecDepth 65536 in
set_option maxHeartbeats 40000000 in
theorem rm_c5_3_3 (l : Launch) (Z : State) (a0 : Array Value) (hw : ∀ d ∈ tables_1, d.before a0 Z = true) (x d : Addr) (u0 u1 u2 : Int32) (h0 : Heap) (Bx : Seq Z h0 x .char [(.int u0), (.int u1), (.int u2)]) (Bd : Seq Z h0 d .byte [(.int (0 : Int32)), (.int (0 : Int32)), (.int (0 : Int32))]) (nxd : x ≠ d) (hl0 : ¬ (255 : Int32) < u0) (hl1 : ¬ (255 : Int32) < u1) (hl2 : ¬ (255 : Int32) < u2) :
    Con l (⟨"java/lang/StringUTF16", "compress", "([CI[BII)I"⟩ : MethodName) jdk_52_method_21_code 7 (some .int) ({ frames := 0, cells := 0, slots := 0, locals := 0 } : Room) Z #[(.ref x), (.int (0 : Int32)), (.ref d), (.int (0 : Int32)), (.int (3 : Int32))] h0 (fun v h L => v = some (.int (3 : Int32)) ∧ Kp h0 h [d] L ∧ Seq Z h d .byte [(.int (lb u0)), (.int (lb u1)), (.int (lb u2))]) := by
  refine Con.of_body (plainFor_of_name pn_0) ?_
  intro p e s m below meth c T0 X0 hx hby hml hZ hown hnm hret hlk e0
  have hown : s.vm.findClass "java/lang/StringUTF16" = some m.cls := hown
  have hml : c.maxLocals = 7 := hml
  refine Goes.cast (ef6_RIRII m x (0 : Int32) d (0 : Int32) (3 : Int32)) ?_
  have K0 := Kp.refl h0 [d]
  refine G.iconst X0 hx (pc' := 1) (hb hby d6_0) (z := (0 : Int32)) rfl rfl ?_
  refine G.istore X0 hx (pc' := 3) (hb hby d6_1) (L' := #[.val (.ref x), .val (.int (0 : Int32)), .val (.ref d), .val (.int (0 : Int32)), .val (.int (3 : Int32)), .val (.int (0 : Int32)), .unset]) rfl rfl ?_
  refine G.iload X0 hx (pc' := 5) (hb hby d6_3) rfl rfl ?_
  refine G.iload X0 hx (pc' := 7) (hb hby d6_5) rfl rfl ?_
  refine G.icmpF X0 hx (pc' := 10) (hb hby d6_7) (Jvm.Free.XT.ii_ge_f (by decide)) rfl ?_
  refine G.aloadN X0 hx (pc' := 11) (hb hby d6_10) rfl rfl rfl ?_
  refine G.iloadN X0 hx (pc' := 12) (hb hby d6_11) rfl rfl ?_
  refine G.caload X0 hx hZ e0 Bx (pc' := 13) (v := (.int u0)) (hb hby d6_12) (by decide) rfl rfl ?_
  refine G.istore X0 hx (pc' := 15) (hb hby d6_13) (L' := #[.val (.ref x), .val (.int (0 : Int32)), .val (.ref d), .val (.int (0 : Int32)), .val (.int (3 : Int32)), .val (.int (0 : Int32)), .val (.int u0)]) rfl rfl ?_
  refine G.iload X0 hx (pc' := 17) (hb hby d6_15) rfl rfl ?_
  refine G.sipush X0 hx (pc' := 20) (hb hby d6_17) (z := (255 : Int32)) rfl rfl ?_
  refine G.icmpT X0 hx (pc' := 26) (hb hby d6_20) (Jvm.Free.XT.ii_le_t hl0) (by decide) (by decide) ?_
  refine G.aloadN X0 hx (pc' := 27) (hb hby d6_26) rfl rfl rfl ?_
  refine G.iloadN X0 hx (pc' := 28) (hb hby d6_27) rfl rfl ?_
  refine G.iload X0 hx (pc' := 30) (hb hby d6_28) rfl rfl ?_
  refine G.i2b X0 hx (pc' := 31) (hb hby d6_30) rfl ?_
  refine G.bastore X0 hx hZ e0 Bd (pc' := 32) (hb hby d6_31) (by decide) (Nat.le_of_ble_eq_true rfl) rfl fun T1 h1 X1 e1 W1 A1 => ?_
  have A1_x := Seq.other Bx W1 nxd
  have K1 := Kp.wr K0 W1 (Or.inl (List.mem_of_getElem? (i := 0) rfl))
  have A1_d : Seq Z h1 d .byte [(.int (lb u0)), (.int (0 : Int32)), (.int (0 : Int32))] := A1
  refine G.iinc X1 hx (pc' := 35) (hb hby d6_32) rfl (L' := #[.val (.ref x), .val (.int ((0 : Int32) + (1 : Int32))), .val (.ref d), .val (.int (0 : Int32)), .val (.int (3 : Int32)), .val (.int (0 : Int32)), .val (.int u0)]) rfl rfl ?_
  refine G.iinc X1 hx (pc' := 38) (hb hby d6_35) rfl (L' := #[.val (.ref x), .val (.int ((0 : Int32) + (1 : Int32))), .val (.ref d), .val (.int ((0 : Int32) + (1 : Int32))), .val (.int (3 : Int32)), .val (.int (0 : Int32)), .val (.int u0)]) rfl rfl ?_
  refine G.iinc X1 hx (pc' := 41) (hb hby d6_38) rfl (L' := #[.val (.ref x), .val (.int ((0 : Int32) + (1 : Int32))), .val (.ref d), .val (.int ((0 : Int32) + (1 : Int32))), .val (.int (3 : Int32)), .val (.int ((0 : Int32) + (1 : Int32))), .val (.int u0)]) rfl rfl ?_
  refine G.goto X1 hx (pc' := 3) (hb hby d6_41) (by decide) (by decide) ?_
  show Goes p e below T1 (mkF m 3 #[.val (.ref x), .val (.int (1 : Int32)), .val (.ref d), .val (.int (1 : Int32)), .val (.int (3 : Int32)), .val (.int (1 : Int32)), .val (.int u0)] []) _
  refine G.iload X1 hx (pc' := 5) (hb hby d6_3) rfl rfl ?_
  refine G.iload X1 hx (pc' := 7) (hb hby d6_5) rfl rfl ?_
  refine G.icmpF X1 hx (pc' := 10) (hb hby d6_7) (Jvm.Free.XT.ii_ge_f (by decide)) rfl ?_
  refine G.aloadN X1 hx (pc' := 11) (hb hby d6_10) rfl rfl rfl ?_
  refine G.iloadN X1 hx (pc' := 12) (hb hby d6_11) rfl rfl ?_
  refine G.caload X1 hx hZ e1 A1_x (pc' := 13) (v := (.int u1)) (hb hby d6_12) (by decide) rfl rfl ?_
  refine G.istore X1 hx (pc' := 15) (hb hby d6_13) (L' := #[.val (.ref x), .val (.int (1 : Int32)), .val (.ref d), .val (.int (1 : Int32)), .val (.int (3 : Int32)), .val (.int (1 : Int32)), .val (.int u1)]) rfl rfl ?_
  refine G.iload X1 hx (pc' := 17) (hb hby d6_15) rfl rfl ?_
  refine G.sipush X1 hx (pc' := 20) (hb hby d6_17) (z := (255 : Int32)) rfl rfl ?_
  refine G.icmpT X1 hx (pc' := 26) (hb hby d6_20) (Jvm.Free.XT.ii_le_t hl1) (by decide) (by decide) ?_
  refine G.aloadN X1 hx (pc' := 27) (hb hby d6_26) rfl rfl rfl ?_
  refine G.iloadN X1 hx (pc' := 28) (hb hby d6_27) rfl rfl ?_
  refine G.iload X1 hx (pc' := 30) (hb hby d6_28) rfl rfl ?_
  refine G.i2b X1 hx (pc' := 31) (hb hby d6_30) rfl ?_
  refine G.bastore X1 hx hZ e1 A1_d (pc' := 32) (hb hby d6_31) (by decide) (Nat.le_of_ble_eq_true rfl) rfl fun T2 h2 X2 e2 W2 A2 => ?_
  have A2_x := Seq.other A1_x W2 nxd
  have K2 := Kp.wr K1 W2 (Or.inl (List.mem_of_getElem? (i := 0) rfl))
  have A2_d : Seq Z h2 d .byte [(.int (lb u0)), (.int (lb u1)), (.int (0 : Int32))] := A2
  refine G.iinc X2 hx (pc' := 35) (hb hby d6_32) rfl (L' := #[.val (.ref x), .val (.int ((1 : Int32) + (1 : Int32))), .val (.ref d), .val (.int (1 : Int32)), .val (.int (3 : Int32)), .val (.int (1 : Int32)), .val (.int u1)]) rfl rfl ?_
  refine G.iinc X2 hx (pc' := 38) (hb hby d6_35) rfl (L' := #[.val (.ref x), .val (.int ((1 : Int32) + (1 : Int32))), .val (.ref d), .val (.int ((1 : Int32) + (1 : Int32))), .val (.int (3 : Int32)), .val (.int (1 : Int32)), .val (.int u1)]) rfl rfl ?_
  refine G.iinc X2 hx (pc' := 41) (hb hby d6_38) rfl (L' := #[.val (.ref x), .val (.int ((1 : Int32) + (1 : Int32))), .val (.ref d), .val (.int ((1 : Int32) + (1 : Int32))), .val (.int (3 : Int32)), .val (.int ((1 : Int32) + (1 : Int32))), .val (.int u1)]) rfl rfl ?_
  refine G.goto X2 hx (pc' := 3) (hb hby d6_41) (by decide) (by decide) ?_
  show Goes p e below T2 (mkF m 3 #[.val (.ref x), .val (.int (2 : Int32)), .val (.ref d), .val (.int (2 : Int32)), .val (.int (3 : Int32)), .val (.int (2 : Int32)), .val (.int u1)] []) _
  refine G.iload X2 hx (pc' := 5) (hb hby d6_3) rfl rfl ?_
  refine G.iload X2 hx (pc' := 7) (hb hby d6_5) rfl rfl ?_
  refine G.icmpF X2 hx (pc' := 10) (hb hby d6_7) (Jvm.Free.XT.ii_ge_f (by decide)) rfl ?_
  refine G.aloadN X2 hx (pc' := 11) (hb hby d6_10) rfl rfl rfl ?_
  refine G.iloadN X2 hx (pc' := 12) (hb hby d6_11) rfl rfl ?_
  refine G.caload X2 hx hZ e2 A2_x (pc' := 13) (v := (.int u2)) (hb hby d6_12) (by decide) rfl rfl ?_
  refine G.istore X2 hx (pc' := 15) (hb hby d6_13) (L' := #[.val (.ref x), .val (.int (2 : Int32)), .val (.ref d), .val (.int (2 : Int32)), .val (.int (3 : Int32)), .val (.int (2 : Int32)), .val (.int u2)]) rfl rfl ?_
  refine G.iload X2 hx (pc' := 17) (hb hby d6_15) rfl rfl ?_
  refine G.sipush X2 hx (pc' := 20) (hb hby d6_17) (z := (255 : Int32)) rfl rfl ?_
  refine G.icmpT X2 hx (pc' := 26) (hb hby d6_20) (Jvm.Free.XT.ii_le_t hl2) (by decide) (by decide) ?_
  refine G.aloadN X2 hx (pc' := 27) (hb hby d6_26) rfl rfl rfl ?_
  refine G.iloadN X2 hx (pc' := 28) (hb hby d6_27) rfl rfl ?_
  refine G.iload X2 hx (pc' := 30) (hb hby d6_28) rfl rfl ?_
  refine G.i2b X2 hx (pc' := 31) (hb hby d6_30) rfl ?_
  refine G.bastore X2 hx hZ e2 A2_d (pc' := 32) (hb hby d6_31) (by decide) (Nat.le_of_ble_eq_true rfl) rfl fun T3 h3 X3 e3 W3 A3 => ?_
  have A3_x := Seq.other A2_x W3 nxd
  have K3 := Kp.wr K2 W3 (Or.inl (List.mem_of_getElem? (i := 0) rfl))
  have A3_d : Seq Z h3 d .byte [(.int (lb u0)), (.int (lb u1)), (.int (lb u2))] := A3
  refine G.iinc X3 hx (pc' := 35) (hb hby d6_32) rfl (L' := #[.val (.ref x), .val (.int ((2 : Int32) + (1 : Int32))), .val (.ref d), .val (.int (2 : Int32)), .val (.int (3 : Int32)), .val (.int (2 : Int32)), .val (.int u2)]) rfl rfl ?_
  refine G.iinc X3 hx (pc' := 38) (hb hby d6_35) rfl (L' := #[.val (.ref x), .val (.int ((2 : Int32) + (1 : Int32))), .val (.ref d), .val (.int ((2 : Int32) + (1 : Int32))), .val (.int (3 : Int32)), .val (.int (2 : Int32)), .val (.int u2)]) rfl rfl ?_
  refine G.iinc X3 hx (pc' := 41) (hb hby d6_38) rfl (L' := #[.val (.ref x), .val (.int ((2 : Int32) + (1 : Int32))), .val (.ref d), .val (.int ((2 : Int32) + (1 : Int32))), .val (.int (3 : Int32)), .val (.int ((2 : Int32) + (1 : Int32))), .val (.int u2)]) rfl rfl ?_
  refine G.goto X3 hx (pc' := 3) (hb hby d6_41) (by decide) (by decide) ?_
  show Goes p e below T3 (mkF m 3 #[.val (.ref x), .val (.int (3 : Int32)), .val (.ref d), .val (.int (3 : Int32)), .val (.int (3 : Int32)), .val (.int (3 : Int32)), .val (.int u2)] []) _
  refine G.iload X3 hx (pc' := 5) (hb hby d6_3) rfl rfl ?_
  refine G.iload X3 hx (pc' := 7) (hb hby d6_5) rfl rfl ?_
  refine G.icmpT X3 hx (pc' := 44) (hb hby d6_7) (Jvm.Free.XT.ii_ge_t (by decide)) (by decide) (by decide) ?_
  refine G.iload X3 hx (pc' := 46) (hb hby d6_44) rfl rfl ?_
  refine Goes.retI X3 hx hret hlk (hb hby d6_46) (by decide) (by decide) ⟨rfl, (by rw [e3]; exact K3), (by rw [e3]; exact A3_d)⟩
set_option maxRecDepth 65536 in
set_option maxHeartbeats 40000000 in
theorem rm_c3_3 (l : Launch) (Z : State) (a0 : Array Value) (hw : ∀ d ∈ tables_1, d.before a0 Z = true) (x : Addr) (u0 u1 u2 : Int32) (h0 : Heap) (Bx : Seq Z h0 x .char [(.int u0), (.int u1), (.int u2)]) (SA : Sta Z h0 "java/lang/StringUTF16" "$assertionsDisabled" "Z" (.int (1 : Int32))) (SH : Sta Z h0 "java/lang/StringUTF16" "HI_BYTE_SHIFT" "I" (.int (0 : Int32))) (SO : Sta Z h0 "java/lang/StringUTF16" "LO_BYTE_SHIFT" "I" (.int (8 : Int32))) (hu0 : isCh u0) (hu1 : isCh u1) (hu2 : isCh u2) :
    Con l (⟨"java/lang/StringUTF16", "compress", "([CII)[B"⟩ : MethodName) jdk_52_method_16_code 6 (some (.array .byte)) ({ frames := 3, cells := 2, slots := 9, locals := 40 } : Room) Z #[(.ref x), (.int (0 : Int32)), (.int (3 : Int32))] h0 (fun v h L => ∃ d cd xs, v = some (.ref d) ∧ Kp h0 h [] L ∧ Seq Z h d .byte xs ∧ SQ 3 u0 cd xs ∧ h0.size ≤ d) := by
  refine Con.of_body (plainFor_of_name pn_0) ?_
  intro p e s m below meth c T0 X0 hx hby hml hZ hown hnm hret hlk e0
  have hown : s.vm.findClass "java/lang/StringUTF16" = some m.cls := hown
  have hml : c.maxLocals = 6 := hml
  refine Goes.cast (ef5_RII m x (0 : Int32) (3 : Int32)) ?_
  have K0 := Kp.refl h0 []
  refine G.iloadN X0 hx (pc' := 1) (hb hby d5_0) rfl rfl ?_
  refine G.newP X0 hx hZ (hw _ (List.mem_of_getElem? (i := 24) rfl)) e0 (hb hby d5_1) (by decide) (n := 3) (cap := 3) rfl (by decide) (by decide) (by decide) (by decide) (pc' := 3) rfl fun T1 h1 d g1 X1 e1 Ex1 A1 => ?_
  have ne_x_d : x ≠ d := Nat.ne_of_lt (Nat.lt_of_lt_of_le Bx.lt (Nat.le_of_eq g1.symm))
  have sz_d : h0.size ≤ d := Nat.le_trans K0.size (Nat.le_of_eq g1.symm)
  have A1_x := Seq.ext Bx Ex1
  have K1 := Kp.ext K0 Ex1
  have A1_d : Seq Z h1 d .byte [(.int (0 : Int32)), (.int (0 : Int32)), (.int (0 : Int32))] := A1
  refine G.astoreN X1 hx (pc' := 4) (hb hby d5_3) rfl (L' := #[.val (.ref x), .val (.int (0 : Int32)), .val (.int (3 : Int32)), .val (.ref d), .unset, .unset]) rfl rfl ?_
  refine G.aloadN X1 hx (pc' := 5) (hb hby d5_4) rfl rfl rfl ?_
  refine G.iloadN X1 hx (pc' := 6) (hb hby d5_5) rfl rfl ?_
  refine G.aloadN X1 hx (pc' := 7) (hb hby d5_6) rfl rfl rfl ?_
  refine G.iconst X1 hx (pc' := 8) (hb hby d5_7) (z := (0 : Int32)) rfl rfl ?_
  refine G.iloadN X1 hx (pc' := 9) (hb hby d5_8) rfl rfl ?_
  by_cases hl0 : (255 : Int32) < u0
  · have hg := hl0
    refine G.callS X1 hx hZ (y := (⟨"java/lang/StringUTF16", "compress", "([CI[BII)I"⟩ : MethodName)) hown (hw _ (List.mem_of_getElem? (i := 25) rfl)) (hw _ (List.mem_of_getElem? (i := 26) rfl)) (hw _ (List.mem_of_getElem? (i := 22) rfl)) (hw _ (List.mem_of_getElem? (i := 27) rfl)) (by decide) e1 (rm := ({ frames := 0, cells := 0, slots := 0, locals := 0 } : Room)) (argsL := [(.ref x), (.int (0 : Int32)), (.ref d), (.int (0 : Int32)), (.int (3 : Int32))]) (S := []) (W := 0) (rm_c5_3_0 l Z a0 hw x d u0 u1 u2 h1 A1_x A1_d ne_x_d hg) (lenOf pd_15 rfl) rfl (Nat.le_of_eq rfl) (by decide) (by decide) (by decide) (by decide) (by rw [hml]; rfl) (hb hby d5_9) (pc' := 12) rfl ?_
    rintro T2 _ L2 ⟨rfl, Kq2⟩ X2
    have A2_x := Seq.keep A1_x Kq2.1 (ninS ne_x_d nin0)
    have K2 := Kp.call K1 Kq2 (allS (Or.inr sz_d) all0)
    show Goes p e below T2 (mkF m 12 #[.val (.ref x), .val (.int (0 : Int32)), .val (.int (3 : Int32)), .val (.ref d), .unset, .unset] [(.int (0 : Int32))]) _
    refine G.istore X2 hx (pc' := 14) (hb hby d5_12) (L' := #[.val (.ref x), .val (.int (0 : Int32)), .val (.int (3 : Int32)), .val (.ref d), .val (.int (0 : Int32)), .unset]) rfl rfl ?_
    refine G.iload X2 hx (pc' := 16) (hb hby d5_14) rfl rfl ?_
    refine G.iloadN X2 hx (pc' := 17) (hb hby d5_16) rfl rfl ?_
    refine G.icmpF X2 hx (pc' := 20) (hb hby d5_17) (Jvm.Free.XT.ii_eq_f (by decide)) rfl ?_
    refine G.aloadN X2 hx (pc' := 21) (hb hby d5_20) rfl rfl rfl ?_
    refine G.iloadN X2 hx (pc' := 22) (hb hby d5_21) rfl rfl ?_
    refine G.iloadN X2 hx (pc' := 23) (hb hby d5_22) rfl rfl ?_
    refine G.callS X2 hx hZ (y := (⟨"java/lang/StringUTF16", "toBytes", "([CII)[B"⟩ : MethodName)) hown (hw _ (List.mem_of_getElem? (i := 79) rfl)) (hw _ (List.mem_of_getElem? (i := 80) rfl)) (hw _ (List.mem_of_getElem? (i := 22) rfl)) (hw _ (List.mem_of_getElem? (i := 81) rfl)) (by decide) rfl (rm := ({ frames := 2, cells := 1, slots := 6, locals := 24 } : Room)) (argsL := [(.ref x), (.int (0 : Int32)), (.int (3 : Int32))]) (S := []) (W := 0) (rm_tb3 l Z a0 hw x u0 u1 u2 T2.heap A2_x (Sta.keep0 SA K2.1) (Sta.keep0 SH K2.1) (Sta.keep0 SO K2.1)) (lenOf pd_16 rfl) rfl (Nat.le_of_eq rfl) (by decide) (by decide) (by decide) (by decide) (by rw [hml]; rfl) (hb hby d5_23) (pc' := 26) rfl ?_
    rintro T3 _ L3 ⟨e_, rfl, Kq3, Ae3, gd3⟩ X3
    have A3_x := Seq.keep A2_x Kq3.1 nin0
    have K3 := Kp.call K2 Kq3 all0
    have sz_e : h0.size ≤ e_ := Nat.le_trans K2.size gd3
    show Goes p e below T3 (mkF m 26 #[.val (.ref x), .val (.int (0 : Int32)), .val (.int (3 : Int32)), .val (.ref d), .val (.int (0 : Int32)), .unset] [(.ref e_)]) _
    refine G.astore X3 hx (pc' := 28) (hb hby d5_26) rfl (L' := #[.val (.ref x), .val (.int (0 : Int32)), .val (.int (3 : Int32)), .val (.ref d), .val (.int (0 : Int32)), .val (.ref e_)]) rfl rfl ?_
    refine G.aload X3 hx (pc' := 30) (hb hby d5_28) rfl rfl rfl ?_
    refine G.iload X3 hx (pc' := 32) (hb hby d5_30) rfl rfl ?_
    refine G.callS X3 hx hZ (y := (⟨"java/lang/StringUTF16", "getChar", "([BI)C"⟩ : MethodName)) hown (hw _ (List.mem_of_getElem? (i := 95) rfl)) (hw _ (List.mem_of_getElem? (i := 96) rfl)) (hw _ (List.mem_of_getElem? (i := 22) rfl)) (hw _ (List.mem_of_getElem? (i := 97) rfl)) (by decide) rfl (rm := ({ frames := 0, cells := 0, slots := 0, locals := 0 } : Room)) (argsL := [(.ref e_), (.int (0 : Int32))]) (S := []) (W := 0) (rm_gc0 l Z a0 hw e_ [(.int (lo u0)), (.int (hi u0)), (.int (lo u1)), (.int (hi u1)), (.int (lo u2)), (.int (hi u2))] u0 T3.heap Ae3 (Sta.keep0 SA K3.1) (Sta.keep0 SH K3.1) (Sta.keep0 SO K3.1) rfl rfl hu0) (lenOf pd_8 rfl) rfl (Nat.le_of_eq rfl) (by decide) (by decide) (by decide) (by decide) (by rw [hml]; rfl) (hb hby d5_32) (pc' := 35) rfl ?_
    rintro T4 _ _ ⟨rfl, e4, rfl⟩ X4
    rw [List.append_nil] at X4
    show Goes p e below T4 (mkF m 35 #[.val (.ref x), .val (.int (0 : Int32)), .val (.int (3 : Int32)), .val (.ref d), .val (.int (0 : Int32)), .val (.ref e_)] [(.int u0)]) _
    refine G.sipush X4 hx (pc' := 38) (hb hby d5_35) (z := (255 : Int32)) rfl rfl ?_
    refine G.icmpT X4 hx (pc' := 54) (hb hby d5_38) (Jvm.Free.XT.ii_gt_t hg) (by decide) (by decide) ?_
    refine G.aload X4 hx (pc' := 56) (hb hby d5_54) rfl rfl rfl ?_
    refine Goes.retA X4 hx hret rfl hlk rfl rfl (hb hby d5_56) (by decide) (by decide) ⟨e_, (1 : Int32), _, rfl, (by rw [e4]; exact K3), (by rw [e4]; exact Ae3), Or.inr ⟨rfl, rfl, rfl, rfl⟩, sz_e⟩
  · by_cases hl1 : (255 : Int32) < u1
    · have hg := hl1
      refine G.callS X1 hx hZ (y := (⟨"java/lang/StringUTF16", "compress", "([CI[BII)I"⟩ : MethodName)) hown (hw _ (List.mem_of_getElem? (i := 25) rfl)) (hw _ (List.mem_of_getElem? (i := 26) rfl)) (hw _ (List.mem_of_getElem? (i := 22) rfl)) (hw _ (List.mem_of_getElem? (i := 27) rfl)) (by decide) e1 (rm := ({ frames := 0, cells := 0, slots := 0, locals := 0 } : Room)) (argsL := [(.ref x), (.int (0 : Int32)), (.ref d), (.int (0 : Int32)), (.int (3 : Int32))]) (S := []) (W := 0) (rm_c5_3_1 l Z a0 hw x d u0 u1 u2 h1 A1_x A1_d ne_x_d hl0 hg) (lenOf pd_15 rfl) rfl (Nat.le_of_eq rfl) (by decide) (by decide) (by decide) (by decide) (by rw [hml]; rfl) (hb hby d5_9) (pc' := 12) rfl ?_
      rintro T5 _ L5 ⟨rfl, Kq5⟩ X5
      have A5_x := Seq.keep A1_x Kq5.1 (ninS ne_x_d nin0)
      have K5 := Kp.call K1 Kq5 (allS (Or.inr sz_d) all0)
      show Goes p e below T5 (mkF m 12 #[.val (.ref x), .val (.int (0 : Int32)), .val (.int (3 : Int32)), .val (.ref d), .unset, .unset] [(.int (1 : Int32))]) _
      refine G.istore X5 hx (pc' := 14) (hb hby d5_12) (L' := #[.val (.ref x), .val (.int (0 : Int32)), .val (.int (3 : Int32)), .val (.ref d), .val (.int (1 : Int32)), .unset]) rfl rfl ?_
      refine G.iload X5 hx (pc' := 16) (hb hby d5_14) rfl rfl ?_
      refine G.iloadN X5 hx (pc' := 17) (hb hby d5_16) rfl rfl ?_
      refine G.icmpF X5 hx (pc' := 20) (hb hby d5_17) (Jvm.Free.XT.ii_eq_f (by decide)) rfl ?_
      refine G.aloadN X5 hx (pc' := 21) (hb hby d5_20) rfl rfl rfl ?_
      refine G.iloadN X5 hx (pc' := 22) (hb hby d5_21) rfl rfl ?_
      refine G.iloadN X5 hx (pc' := 23) (hb hby d5_22) rfl rfl ?_
      refine G.callS X5 hx hZ (y := (⟨"java/lang/StringUTF16", "toBytes", "([CII)[B"⟩ : MethodName)) hown (hw _ (List.mem_of_getElem? (i := 79) rfl)) (hw _ (List.mem_of_getElem? (i := 80) rfl)) (hw _ (List.mem_of_getElem? (i := 22) rfl)) (hw _ (List.mem_of_getElem? (i := 81) rfl)) (by decide) rfl (rm := ({ frames := 2, cells := 1, slots := 6, locals := 24 } : Room)) (argsL := [(.ref x), (.int (0 : Int32)), (.int (3 : Int32))]) (S := []) (W := 0) (rm_tb3 l Z a0 hw x u0 u1 u2 T5.heap A5_x (Sta.keep0 SA K5.1) (Sta.keep0 SH K5.1) (Sta.keep0 SO K5.1)) (lenOf pd_16 rfl) rfl (Nat.le_of_eq rfl) (by decide) (by decide) (by decide) (by decide) (by rw [hml]; rfl) (hb hby d5_23) (pc' := 26) rfl ?_
      rintro T6 _ L6 ⟨e_, rfl, Kq6, Ae6, gd6⟩ X6
      have A6_x := Seq.keep A5_x Kq6.1 nin0
      have K6 := Kp.call K5 Kq6 all0
      have sz_e : h0.size ≤ e_ := Nat.le_trans K5.size gd6
      show Goes p e below T6 (mkF m 26 #[.val (.ref x), .val (.int (0 : Int32)), .val (.int (3 : Int32)), .val (.ref d), .val (.int (1 : Int32)), .unset] [(.ref e_)]) _
      refine G.astore X6 hx (pc' := 28) (hb hby d5_26) rfl (L' := #[.val (.ref x), .val (.int (0 : Int32)), .val (.int (3 : Int32)), .val (.ref d), .val (.int (1 : Int32)), .val (.ref e_)]) rfl rfl ?_
      refine G.aload X6 hx (pc' := 30) (hb hby d5_28) rfl rfl rfl ?_
      refine G.iload X6 hx (pc' := 32) (hb hby d5_30) rfl rfl ?_
      refine G.callS X6 hx hZ (y := (⟨"java/lang/StringUTF16", "getChar", "([BI)C"⟩ : MethodName)) hown (hw _ (List.mem_of_getElem? (i := 95) rfl)) (hw _ (List.mem_of_getElem? (i := 96) rfl)) (hw _ (List.mem_of_getElem? (i := 22) rfl)) (hw _ (List.mem_of_getElem? (i := 97) rfl)) (by decide) rfl (rm := ({ frames := 0, cells := 0, slots := 0, locals := 0 } : Room)) (argsL := [(.ref e_), (.int (1 : Int32))]) (S := []) (W := 0) (rm_gc1 l Z a0 hw e_ [(.int (lo u0)), (.int (hi u0)), (.int (lo u1)), (.int (hi u1)), (.int (lo u2)), (.int (hi u2))] u1 T6.heap Ae6 (Sta.keep0 SA K6.1) (Sta.keep0 SH K6.1) (Sta.keep0 SO K6.1) rfl rfl hu1) (lenOf pd_8 rfl) rfl (Nat.le_of_eq rfl) (by decide) (by decide) (by decide) (by decide) (by rw [hml]; rfl) (hb hby d5_32) (pc' := 35) rfl ?_
      rintro T7 _ _ ⟨rfl, e7, rfl⟩ X7
      rw [List.append_nil] at X7
      show Goes p e below T7 (mkF m 35 #[.val (.ref x), .val (.int (0 : Int32)), .val (.int (3 : Int32)), .val (.ref d), .val (.int (1 : Int32)), .val (.ref e_)] [(.int u1)]) _
      refine G.sipush X7 hx (pc' := 38) (hb hby d5_35) (z := (255 : Int32)) rfl rfl ?_
      refine G.icmpT X7 hx (pc' := 54) (hb hby d5_38) (Jvm.Free.XT.ii_gt_t hg) (by decide) (by decide) ?_
      refine G.aload X7 hx (pc' := 56) (hb hby d5_54) rfl rfl rfl ?_
      refine Goes.retA X7 hx hret rfl hlk rfl rfl (hb hby d5_56) (by decide) (by decide) ⟨e_, (1 : Int32), _, rfl, (by rw [e7]; exact K6), (by rw [e7]; exact Ae6), Or.inr ⟨rfl, rfl, rfl, rfl⟩, sz_e⟩
    · by_cases hl2 : (255 : Int32) < u2
      · have hg := hl2
        refine G.callS X1 hx hZ (y := (⟨"java/lang/StringUTF16", "compress", "([CI[BII)I"⟩ : MethodName)) hown (hw _ (List.mem_of_getElem? (i := 25) rfl)) (hw _ (List.mem_of_getElem? (i := 26) rfl)) (hw _ (List.mem_of_getElem? (i := 22) rfl)) (hw _ (List.mem_of_getElem? (i := 27) rfl)) (by decide) e1 (rm := ({ frames := 0, cells := 0, slots := 0, locals := 0 } : Room)) (argsL := [(.ref x), (.int (0 : Int32)), (.ref d), (.int (0 : Int32)), (.int (3 : Int32))]) (S := []) (W := 0) (rm_c5_3_2 l Z a0 hw x d u0 u1 u2 h1 A1_x A1_d ne_x_d hl0 hl1 hg) (lenOf pd_15 rfl) rfl (Nat.le_of_eq rfl) (by decide) (by decide) (by decide) (by decide) (by rw [hml]; rfl) (hb hby d5_9) (pc' := 12) rfl ?_
        rintro T8 _ L8 ⟨rfl, Kq8⟩ X8
        have A8_x := Seq.keep A1_x Kq8.1 (ninS ne_x_d nin0)
        have K8 := Kp.call K1 Kq8 (allS (Or.inr sz_d) all0)
        show Goes p e below T8 (mkF m 12 #[.val (.ref x), .val (.int (0 : Int32)), .val (.int (3 : Int32)), .val (.ref d), .unset, .unset] [(.int (2 : Int32))]) _
        refine G.istore X8 hx (pc' := 14) (hb hby d5_12) (L' := #[.val (.ref x), .val (.int (0 : Int32)), .val (.int (3 : Int32)), .val (.ref d), .val (.int (2 : Int32)), .unset]) rfl rfl ?_
        refine G.iload X8 hx (pc' := 16) (hb hby d5_14) rfl rfl ?_
        refine G.iloadN X8 hx (pc' := 17) (hb hby d5_16) rfl rfl ?_
        refine G.icmpF X8 hx (pc' := 20) (hb hby d5_17) (Jvm.Free.XT.ii_eq_f (by decide)) rfl ?_
        refine G.aloadN X8 hx (pc' := 21) (hb hby d5_20) rfl rfl rfl ?_
        refine G.iloadN X8 hx (pc' := 22) (hb hby d5_21) rfl rfl ?_
        refine G.iloadN X8 hx (pc' := 23) (hb hby d5_22) rfl rfl ?_
        refine G.callS X8 hx hZ (y := (⟨"java/lang/StringUTF16", "toBytes", "([CII)[B"⟩ : MethodName)) hown (hw _ (List.mem_of_getElem? (i := 79) rfl)) (hw _ (List.mem_of_getElem? (i := 80) rfl)) (hw _ (List.mem_of_getElem? (i := 22) rfl)) (hw _ (List.mem_of_getElem? (i := 81) rfl)) (by decide) rfl (rm := ({ frames := 2, cells := 1, slots := 6, locals := 24 } : Room)) (argsL := [(.ref x), (.int (0 : Int32)), (.int (3 : Int32))]) (S := []) (W := 0) (rm_tb3 l Z a0 hw x u0 u1 u2 T8.heap A8_x (Sta.keep0 SA K8.1) (Sta.keep0 SH K8.1) (Sta.keep0 SO K8.1)) (lenOf pd_16 rfl) rfl (Nat.le_of_eq rfl) (by decide) (by decide) (by decide) (by decide) (by rw [hml]; rfl) (hb hby d5_23) (pc' := 26) rfl ?_
        rintro T9 _ L9 ⟨e_, rfl, Kq9, Ae9, gd9⟩ X9
        have A9_x := Seq.keep A8_x Kq9.1 nin0
        have K9 := Kp.call K8 Kq9 all0
        have sz_e : h0.size ≤ e_ := Nat.le_trans K8.size gd9
        show Goes p e below T9 (mkF m 26 #[.val (.ref x), .val (.int (0 : Int32)), .val (.int (3 : Int32)), .val (.ref d), .val (.int (2 : Int32)), .unset] [(.ref e_)]) _
        refine G.astore X9 hx (pc' := 28) (hb hby d5_26) rfl (L' := #[.val (.ref x), .val (.int (0 : Int32)), .val (.int (3 : Int32)), .val (.ref d), .val (.int (2 : Int32)), .val (.ref e_)]) rfl rfl ?_
        refine G.aload X9 hx (pc' := 30) (hb hby d5_28) rfl rfl rfl ?_
        refine G.iload X9 hx (pc' := 32) (hb hby d5_30) rfl rfl ?_
        refine G.callS X9 hx hZ (y := (⟨"java/lang/StringUTF16", "getChar", "([BI)C"⟩ : MethodName)) hown (hw _ (List.mem_of_getElem? (i := 95) rfl)) (hw _ (List.mem_of_getElem? (i := 96) rfl)) (hw _ (List.mem_of_getElem? (i := 22) rfl)) (hw _ (List.mem_of_getElem? (i := 97) rfl)) (by decide) rfl (rm := ({ frames := 0, cells := 0, slots := 0, locals := 0 } : Room)) (argsL := [(.ref e_), (.int (2 : Int32))]) (S := []) (W := 0) (rm_gc2 l Z a0 hw e_ [(.int (lo u0)), (.int (hi u0)), (.int (lo u1)), (.int (hi u1)), (.int (lo u2)), (.int (hi u2))] u2 T9.heap Ae9 (Sta.keep0 SA K9.1) (Sta.keep0 SH K9.1) (Sta.keep0 SO K9.1) rfl rfl hu2) (lenOf pd_8 rfl) rfl (Nat.le_of_eq rfl) (by decide) (by decide) (by decide) (by decide) (by rw [hml]; rfl) (hb hby d5_32) (pc' := 35) rfl ?_
        rintro T10 _ _ ⟨rfl, e10, rfl⟩ X10
        rw [List.append_nil] at X10
        show Goes p e below T10 (mkF m 35 #[.val (.ref x), .val (.int (0 : Int32)), .val (.int (3 : Int32)), .val (.ref d), .val (.int (2 : Int32)), .val (.ref e_)] [(.int u2)]) _
        refine G.sipush X10 hx (pc' := 38) (hb hby d5_35) (z := (255 : Int32)) rfl rfl ?_
        refine G.icmpT X10 hx (pc' := 54) (hb hby d5_38) (Jvm.Free.XT.ii_gt_t hg) (by decide) (by decide) ?_
        refine G.aload X10 hx (pc' := 56) (hb hby d5_54) rfl rfl rfl ?_
        refine Goes.retA X10 hx hret rfl hlk rfl rfl (hb hby d5_56) (by decide) (by decide) ⟨e_, (1 : Int32), _, rfl, (by rw [e10]; exact K9), (by rw [e10]; exact Ae9), Or.inr ⟨rfl, rfl, rfl, rfl⟩, sz_e⟩
      · refine G.callS X1 hx hZ (y := (⟨"java/lang/StringUTF16", "compress", "([CI[BII)I"⟩ : MethodName)) hown (hw _ (List.mem_of_getElem? (i := 25) rfl)) (hw _ (List.mem_of_getElem? (i := 26) rfl)) (hw _ (List.mem_of_getElem? (i := 22) rfl)) (hw _ (List.mem_of_getElem? (i := 27) rfl)) (by decide) e1 (rm := ({ frames := 0, cells := 0, slots := 0, locals := 0 } : Room)) (argsL := [(.ref x), (.int (0 : Int32)), (.ref d), (.int (0 : Int32)), (.int (3 : Int32))]) (S := []) (W := 0) (rm_c5_3_3 l Z a0 hw x d u0 u1 u2 h1 A1_x A1_d ne_x_d hl0 hl1 hl2) (lenOf pd_15 rfl) rfl (Nat.le_of_eq rfl) (by decide) (by decide) (by decide) (by decide) (by rw [hml]; rfl) (hb hby d5_9) (pc' := 12) rfl ?_
        rintro T11 _ L11 ⟨rfl, Kq11, Ad11⟩ X11
        have A11_x := Seq.keep A1_x Kq11.1 (ninS ne_x_d nin0)
        have K11 := Kp.call K1 Kq11 (allS (Or.inr sz_d) all0)
        show Goes p e below T11 (mkF m 12 #[.val (.ref x), .val (.int (0 : Int32)), .val (.int (3 : Int32)), .val (.ref d), .unset, .unset] [(.int (3 : Int32))]) _
        refine G.istore X11 hx (pc' := 14) (hb hby d5_12) (L' := #[.val (.ref x), .val (.int (0 : Int32)), .val (.int (3 : Int32)), .val (.ref d), .val (.int (3 : Int32)), .unset]) rfl rfl ?_
        refine G.iload X11 hx (pc' := 16) (hb hby d5_14) rfl rfl ?_
        refine G.iloadN X11 hx (pc' := 17) (hb hby d5_16) rfl rfl ?_
        refine G.icmpT X11 hx (pc' := 57) (hb hby d5_17) (Jvm.Free.XT.ii_eq_t rfl) (by decide) (by decide) ?_
        refine G.aloadN X11 hx (pc' := 58) (hb hby d5_57) rfl rfl rfl ?_
        refine Goes.retA X11 hx hret rfl hlk rfl rfl (hb hby d5_58) (by decide) (by decide) ⟨d, (0 : Int32), _, rfl, K11, Ad11, Or.inl ⟨rfl, rfl, rfl, hl0⟩, sz_d⟩
set_option maxRecDepth 65536 in
set_option maxHeartbeats 40000000 in
theorem rm_cl3_0 (l : Launch) (Z : State) (a0 : Array Value) (hw : ∀ d ∈ tables_1, d.before a0 Z = true) (d : Addr) (xs : List Value) (h0 : Heap) (Bd : Seq Z h0 d .byte xs) (hxl : xs.length = 3) :
    Con l (⟨"java/lang/StringUTF16", "coderFromArrayLen", "([BI)B"⟩ : MethodName) jdk_52_method_15_code 2 (some .byte) ({ frames := 0, cells := 0, slots := 0, locals := 0 } : Room) Z #[(.ref d), (.int (3 : Int32))] h0 (Pur (some (.int (0 : Int32))) h0) := by
  refine Con.of_body (plainFor_of_name pn_0) ?_
  intro p e s m below meth c T0 X0 hx hby hml hZ hown hnm hret hlk e0
  have hown : s.vm.findClass "java/lang/StringUTF16" = some m.cls := hown
  have hml : c.maxLocals = 2 := hml
  refine Goes.cast (ef7_RI m d (3 : Int32)) ?_
  refine G.iloadN X0 hx (pc' := 1) (hb hby d7_0) rfl rfl ?_
  refine G.aloadN X0 hx (pc' := 2) (hb hby d7_1) rfl rfl rfl ?_
  refine G.arraylength X0 hx hZ e0 Bd (pc' := 3) (hb hby d7_2) (z := (3 : Int32)) (by rw [hxl]; rfl) rfl ?_
  refine G.isub X0 hx (pc' := 4) (hb hby d7_3) rfl ?_
  refine G.bipush X0 hx (pc' := 6) (hb hby d7_4) (z := (31 : Int32)) rfl rfl ?_
  refine G.iushr X0 hx (pc' := 7) (hb hby d7_6) rfl ?_
  refine G.i2b X0 hx (pc' := 8) (hb hby d7_7) rfl ?_
  refine Goes.retN X0 hx hret (by simp) hlk (hb hby d7_8) (by decide) (by decide) ⟨congrArg (fun z => some (Value.int z)) (by decide), e0, rfl⟩
set_option maxRecDepth 65536 in
set_option maxHeartbeats 40000000 in
theorem rm_cl3_1 (l : Launch) (Z : State) (a0 : Array Value) (hw : ∀ d ∈ tables_1, d.before a0 Z = true) (d : Addr) (xs : List Value) (h0 : Heap) (Bd : Seq Z h0 d .byte xs) (hxl : xs.length = 6) :
    Con l (⟨"java/lang/StringUTF16", "coderFromArrayLen", "([BI)B"⟩ : MethodName) jdk_52_method_15_code 2 (some .byte) ({ frames := 0, cells := 0, slots := 0, locals := 0 } : Room) Z #[(.ref d), (.int (3 : Int32))] h0 (Pur (some (.int (1 : Int32))) h0) := by
  refine Con.of_body (plainFor_of_name pn_0) ?_
  intro p e s m below meth c T0 X0 hx hby hml hZ hown hnm hret hlk e0
  have hown : s.vm.findClass "java/lang/StringUTF16" = some m.cls := hown
  have hml : c.maxLocals = 2 := hml
  refine Goes.cast (ef7_RI m d (3 : Int32)) ?_
  refine G.iloadN X0 hx (pc' := 1) (hb hby d7_0) rfl rfl ?_
  refine G.aloadN X0 hx (pc' := 2) (hb hby d7_1) rfl rfl rfl ?_
  refine G.arraylength X0 hx hZ e0 Bd (pc' := 3) (hb hby d7_2) (z := (6 : Int32)) (by rw [hxl]; rfl) rfl ?_
  refine G.isub X0 hx (pc' := 4) (hb hby d7_3) rfl ?_
  refine G.bipush X0 hx (pc' := 6) (hb hby d7_4) (z := (31 : Int32)) rfl rfl ?_
  refine G.iushr X0 hx (pc' := 7) (hb hby d7_6) rfl ?_
  refine G.i2b X0 hx (pc' := 8) (hb hby d7_7) rfl ?_
  refine Goes.retN X0 hx hret (by simp) hlk (hb hby d7_8) (by decide) (by decide) ⟨congrArg (fun z => some (Value.int z)) (by decide), e0, rfl⟩
set_option maxRecDepth 65536 in
set_option maxHeartbeats 40000000 in
theorem rm_s4_3 (l : Launch) (Z : State) (a0 : Array Value) (hw : ∀ d ∈ tables_1, d.before a0 Z = true) (a x : Addr) (u0 u1 u2 : Int32) (cs : Int32) (h0 : Heap) (SC : Sta Z h0 "java/lang/String" "COMPACT_STRINGS" "Z" (.int cs)) (hcs : ¬ cs = (0 : Int32)) (SA : Sta Z h0 "java/lang/StringUTF16" "$assertionsDisabled" "Z" (.int (1 : Int32))) (SH : Sta Z h0 "java/lang/StringUTF16" "HI_BYTE_SHIFT" "I" (.int (0 : Int32))) (SO : Sta Z h0 "java/lang/StringUTF16" "LO_BYTE_SHIFT" "I" (.int (8 : Int32))) (Ea : Exa Z h0 a "java/lang/String") (Fc : Fld Z h0 a "java/lang/String" "coder" "B" (.int (0 : Int32))) (Fv : Fld Z h0 a "java/lang/String" "value" "[B" .null) (Bx : Seq Z h0 x .char [(.int u0), (.int u1), (.int u2)]) (nax : a ≠ x) (hu0 : isCh u0) (hu1 : isCh u1) (hu2 : isCh u2) :
    Con l (⟨"java/lang/String", "<init>", "([CIILjava/lang/Void;)V"⟩ : MethodName) jdk_42_method_149_code 6 none ({ frames := 4, cells := 2, slots := 9, locals := 57 } : Room) Z #[(.ref a), (.ref x), (.int (0 : Int32)), (.int (3 : Int32)), .null] h0 (fun v h L => v = none ∧ Kp h0 h [a] L ∧ ∃ b cd xs, Fld Z h a "java/lang/String" "coder" "B" (.int cd) ∧ Fld Z h a "java/lang/String" "value" "[B" (.ref b) ∧ Seq Z h b .byte xs ∧ SQ 3 u0 cd xs ∧ h0.size ≤ b) := by
  refine Con.of_body (plainFor_of_name pn_3) ?_
  intro p e s m below meth c T0 X0 hx hby hml hZ hown hnm hret hlk e0
  have hown : s.vm.findClass "java/lang/String" = some m.cls := hown
  have hml : c.maxLocals = 6 := hml
  refine Goes.cast (ef3_RRIIN m a x (0 : Int32) (3 : Int32)) ?_
  have K0 := Kp.refl h0 [a]
  refine G.aloadN X0 hx (pc' := 1) (hb hby d3_0) rfl rfl rfl ?_
  refine G.initO X0 hx hZ hown (hw _ (List.mem_of_getElem? (i := 16) rfl)) (hw _ (List.mem_of_getElem? (i := 17) rfl)) (hw _ (List.mem_of_getElem? (i := 18) rfl)) e0 (by rw [hml]; rfl) (hb hby d3_1) (by decide) (W := 0) (Nat.le_of_eq rfl) (by decide) (pc' := 4) rfl fun T1 X1 e1 => ?_
  refine G.iloadN X1 hx (pc' := 5) (hb hby d3_4) rfl rfl ?_
  refine G.ifT X1 hx (pc' := 27) (hb hby d3_5) (Jvm.Free.XT.i0_ne_t (by decide)) (by decide) (by decide) ?_
  refine G.getS X1 hx hZ hown (hw _ (List.mem_of_getElem? (i := 19) rfl)) Via.refl e1 SC (pc' := 30) (hb hby d3_27) rfl fun T2 X2 e2 => ?_
  refine G.ifF X2 hx (pc' := 33) (hb hby d3_30) (Jvm.Free.XT.i0_eq_f hcs) rfl ?_
  refine G.aloadN X2 hx (pc' := 34) (hb hby d3_33) rfl rfl rfl ?_
  refine G.iloadN X2 hx (pc' := 35) (hb hby d3_34) rfl rfl ?_
  refine G.iloadN X2 hx (pc' := 36) (hb hby d3_35) rfl rfl ?_
  refine G.callS X2 hx hZ (y := (⟨"java/lang/StringUTF16", "compress", "([CII)[B"⟩ : MethodName)) hown (hw _ (List.mem_of_getElem? (i := 20) rfl)) (hw _ (List.mem_of_getElem? (i := 21) rfl)) (hw _ (List.mem_of_getElem? (i := 22) rfl)) (hw _ (List.mem_of_getElem? (i := 23) rfl)) (by decide) e2 (rm := ({ frames := 3, cells := 2, slots := 9, locals := 40 } : Room)) (argsL := [(.ref x), (.int (0 : Int32)), (.int (3 : Int32))]) (S := []) (W := 0) (rm_c3_3 l Z a0 hw x u0 u1 u2 h0 Bx SA SH SO hu0 hu1 hu2) (lenOf pd_16 rfl) rfl (Nat.le_of_eq rfl) (by decide) (by decide) (by decide) (by decide) (by rw [hml]; rfl) (hb hby d3_36) (pc' := 39) rfl ?_
  rintro T3 _ L3 ⟨d, cd, xs, rfl, Kq3, Ad3, hsq, gd3⟩ X3
  have F3_a_coder := Fld.keep Fc Kq3.1 nin0
  have F3_a_value := Fld.keep Fv Kq3.1 nin0
  have E3_a := Exa.keep Ea Kq3.1
  have A3_x := Seq.keep Bx Kq3.1 nin0
  have K3 := Kp.call K0 Kq3 all0
  have ne_a_d : a ≠ d := Nat.ne_of_lt (Nat.lt_of_lt_of_le Ea.lt gd3)
  have ne_x_d : x ≠ d := Nat.ne_of_lt (Nat.lt_of_lt_of_le Bx.lt gd3)
  show Goes p e below T3 (mkF m 39 #[.val (.ref a), .val (.ref x), .val (.int (0 : Int32)), .val (.int (3 : Int32)), .val .null, .unset] [(.ref d)]) _
  refine G.astore X3 hx (pc' := 41) (hb hby d3_39) rfl (L' := #[.val (.ref a), .val (.ref x), .val (.int (0 : Int32)), .val (.int (3 : Int32)), .val .null, .val (.ref d)]) rfl rfl ?_
  refine G.aloadN X3 hx (pc' := 42) (hb hby d3_41) rfl rfl rfl ?_
  refine G.aload X3 hx (pc' := 44) (hb hby d3_42) rfl rfl rfl ?_
  refine G.iloadN X3 hx (pc' := 45) (hb hby d3_44) rfl rfl ?_
  have hsq' := hsq
  rcases hsq' with ⟨rfl, hxl, -, -⟩ | ⟨rfl, hxl, -, -⟩
  · refine G.callS X3 hx hZ (y := (⟨"java/lang/StringUTF16", "coderFromArrayLen", "([BI)B"⟩ : MethodName)) hown (hw _ (List.mem_of_getElem? (i := 28) rfl)) (hw _ (List.mem_of_getElem? (i := 29) rfl)) (hw _ (List.mem_of_getElem? (i := 22) rfl)) (hw _ (List.mem_of_getElem? (i := 30) rfl)) (by decide) rfl (rm := ({ frames := 0, cells := 0, slots := 0, locals := 0 } : Room)) (argsL := [(.ref d), (.int (3 : Int32))]) (S := [(.ref a)]) (W := 1) (rm_cl3_0 l Z a0 hw d xs T3.heap Ad3 hxl) (lenOf pd_17 rfl) rfl (Nat.le_of_eq rfl) (by decide) (by decide) (by decide) (by decide) (by rw [hml]; rfl) (hb hby d3_45) (pc' := 48) rfl ?_
    rintro T4 _ _ ⟨rfl, e4, rfl⟩ X4
    rw [List.append_nil] at X4
    show Goes p e below T4 (mkF m 48 #[.val (.ref a), .val (.ref x), .val (.int (0 : Int32)), .val (.int (3 : Int32)), .val .null, .val (.ref d)] [(.int (0 : Int32)), (.ref a)]) _
    refine G.putFN X4 hx hZ hown (hw _ (List.mem_of_getElem? (i := 31) rfl)) Via.refl e4 F3_a_coder E3_a (Or.inr ⟨(hw _ (List.mem_of_getElem? (i := 32) rfl)), rfl, hnm⟩) (hw _ (List.mem_of_getElem? (i := 7) rfl)) (ty := .byte) (v' := (.int (nar .byte (0 : Int32)))) (by decide) rfl (fits_nar_byte _) (pc' := 51) (hb hby d3_48) rfl fun T5 h5 X5 e5 W5 => ?_
    have F5_a_value := Fld.other W5 F3_a_value (Or.inr (slot_ne (Or.inr (hw _ (List.mem_of_getElem? (i := 34) rfl))) (Or.inr (hw _ (List.mem_of_getElem? (i := 32) rfl))) (by decide) (t := (.array .byte)) (t' := .byte) (by decide) (by decide)))
    have E5_a := Exa.wr W5 E3_a
    have A5_x := Seq.other A3_x W5 (Ne.symm nax)
    have A5_d := Seq.other Ad3 W5 (Ne.symm ne_a_d)
    have K5 := Kp.wr K3 W5 (Or.inl (List.mem_of_getElem? (i := 0) rfl))
    have F5_a_coder := Fld.same W5 F3_a_coder
    refine G.aloadN X5 hx (pc' := 52) (hb hby d3_51) rfl rfl rfl ?_
    refine G.aload X5 hx (pc' := 54) (hb hby d3_52) rfl rfl rfl ?_
    refine G.putF X5 hx hZ hown (hw _ (List.mem_of_getElem? (i := 33) rfl)) Via.refl e5 F5_a_value E5_a (Or.inr ⟨(hw _ (List.mem_of_getElem? (i := 34) rfl)), rfl, hnm⟩) (hw _ (List.mem_of_getElem? (i := 7) rfl)) (ty := (.array .byte)) (by decide) rfl rfl (pc' := 57) (hb hby d3_54) rfl fun T6 h6 X6 e6 W6 => ?_
    have F6_a_coder := Fld.other W6 F5_a_coder (Or.inr (slot_ne (Or.inr (hw _ (List.mem_of_getElem? (i := 32) rfl))) (Or.inr (hw _ (List.mem_of_getElem? (i := 34) rfl))) (by decide) (t := .byte) (t' := (.array .byte)) (by decide) (by decide)))
    have E6_a := Exa.wr W6 E5_a
    have A6_x := Seq.other A5_x W6 (Ne.symm nax)
    have A6_d := Seq.other A5_d W6 (Ne.symm ne_a_d)
    have K6 := Kp.wr K5 W6 (Or.inl (List.mem_of_getElem? (i := 0) rfl))
    have F6_a_value := Fld.same W6 F5_a_value
    refine Goes.retV X6 hx hret hlk (hb hby d3_57) (by decide) (by decide) ⟨rfl, (by rw [e6]; exact K6), d, (0 : Int32), xs, (by rw [e6]; exact F6_a_coder), (by rw [e6]; exact F6_a_value), (by rw [e6]; exact A6_d), hsq, gd3⟩
  · refine G.callS X3 hx hZ (y := (⟨"java/lang/StringUTF16", "coderFromArrayLen", "([BI)B"⟩ : MethodName)) hown (hw _ (List.mem_of_getElem? (i := 28) rfl)) (hw _ (List.mem_of_getElem? (i := 29) rfl)) (hw _ (List.mem_of_getElem? (i := 22) rfl)) (hw _ (List.mem_of_getElem? (i := 30) rfl)) (by decide) rfl (rm := ({ frames := 0, cells := 0, slots := 0, locals := 0 } : Room)) (argsL := [(.ref d), (.int (3 : Int32))]) (S := [(.ref a)]) (W := 1) (rm_cl3_1 l Z a0 hw d xs T3.heap Ad3 hxl) (lenOf pd_17 rfl) rfl (Nat.le_of_eq rfl) (by decide) (by decide) (by decide) (by decide) (by rw [hml]; rfl) (hb hby d3_45) (pc' := 48) rfl ?_
    rintro T7 _ _ ⟨rfl, e7, rfl⟩ X7
    rw [List.append_nil] at X7
    show Goes p e below T7 (mkF m 48 #[.val (.ref a), .val (.ref x), .val (.int (0 : Int32)), .val (.int (3 : Int32)), .val .null, .val (.ref d)] [(.int (1 : Int32)), (.ref a)]) _
    refine G.putFN X7 hx hZ hown (hw _ (List.mem_of_getElem? (i := 31) rfl)) Via.refl e7 F3_a_coder E3_a (Or.inr ⟨(hw _ (List.mem_of_getElem? (i := 32) rfl)), rfl, hnm⟩) (hw _ (List.mem_of_getElem? (i := 7) rfl)) (ty := .byte) (v' := (.int (nar .byte (1 : Int32)))) (by decide) rfl (fits_nar_byte _) (pc' := 51) (hb hby d3_48) rfl fun T8 h8 X8 e8 W8 => ?_
    have F8_a_value := Fld.other W8 F3_a_value (Or.inr (slot_ne (Or.inr (hw _ (List.mem_of_getElem? (i := 34) rfl))) (Or.inr (hw _ (List.mem_of_getElem? (i := 32) rfl))) (by decide) (t := (.array .byte)) (t' := .byte) (by decide) (by decide)))
    have E8_a := Exa.wr W8 E3_a
    have A8_x := Seq.other A3_x W8 (Ne.symm nax)
    have A8_d := Seq.other Ad3 W8 (Ne.symm ne_a_d)
    have K8 := Kp.wr K3 W8 (Or.inl (List.mem_of_getElem? (i := 0) rfl))
    have F8_a_coder := Fld.same W8 F3_a_coder
    refine G.aloadN X8 hx (pc' := 52) (hb hby d3_51) rfl rfl rfl ?_
    refine G.aload X8 hx (pc' := 54) (hb hby d3_52) rfl rfl rfl ?_
    refine G.putF X8 hx hZ hown (hw _ (List.mem_of_getElem? (i := 33) rfl)) Via.refl e8 F8_a_value E8_a (Or.inr ⟨(hw _ (List.mem_of_getElem? (i := 34) rfl)), rfl, hnm⟩) (hw _ (List.mem_of_getElem? (i := 7) rfl)) (ty := (.array .byte)) (by decide) rfl rfl (pc' := 57) (hb hby d3_54) rfl fun T9 h9 X9 e9 W9 => ?_
    have F9_a_coder := Fld.other W9 F8_a_coder (Or.inr (slot_ne (Or.inr (hw _ (List.mem_of_getElem? (i := 32) rfl))) (Or.inr (hw _ (List.mem_of_getElem? (i := 34) rfl))) (by decide) (t := .byte) (t' := (.array .byte)) (by decide) (by decide)))
    have E9_a := Exa.wr W9 E8_a
    have A9_x := Seq.other A8_x W9 (Ne.symm nax)
    have A9_d := Seq.other A8_d W9 (Ne.symm ne_a_d)
    have K9 := Kp.wr K8 W9 (Or.inl (List.mem_of_getElem? (i := 0) rfl))
    have F9_a_value := Fld.same W9 F8_a_value
    refine Goes.retV X9 hx hret hlk (hb hby d3_57) (by decide) (by decide) ⟨rfl, (by rw [e9]; exact K9), d, (1 : Int32), xs, (by rw [e9]; exact F9_a_coder), (by rw [e9]; exact F9_a_value), (by rw [e9]; exact A9_d), hsq, gd3⟩
set_option maxRecDepth 65536 in
set_option maxHeartbeats 40000000 in
theorem rm_s1_3 (l : Launch) (Z : State) (a0 : Array Value) (hw : ∀ d ∈ tables_1, d.before a0 Z = true) (a x : Addr) (u0 u1 u2 : Int32) (cs : Int32) (h0 : Heap) (SC : Sta Z h0 "java/lang/String" "COMPACT_STRINGS" "Z" (.int cs)) (hcs : ¬ cs = (0 : Int32)) (SA : Sta Z h0 "java/lang/StringUTF16" "$assertionsDisabled" "Z" (.int (1 : Int32))) (SH : Sta Z h0 "java/lang/StringUTF16" "HI_BYTE_SHIFT" "I" (.int (0 : Int32))) (SO : Sta Z h0 "java/lang/StringUTF16" "LO_BYTE_SHIFT" "I" (.int (8 : Int32))) (Ea : Exa Z h0 a "java/lang/String") (Fc : Fld Z h0 a "java/lang/String" "coder" "B" (.int (0 : Int32))) (Fv : Fld Z h0 a "java/lang/String" "value" "[B" .null) (Bx : Seq Z h0 x .char [(.int u0), (.int u1), (.int u2)]) (nax : a ≠ x) (hu0 : isCh u0) (hu1 : isCh u1) (hu2 : isCh u2) :
    Con l (⟨"java/lang/String", "<init>", "([C)V"⟩ : MethodName) jdk_42_method_3_code 2 none ({ frames := 5, cells := 2, slots := 9, locals := 74 } : Room) Z #[(.ref a), (.ref x)] h0 (fun v h L => v = none ∧ Kp h0 h [a] L ∧ ∃ b cd xs, Fld Z h a "java/lang/String" "coder" "B" (.int cd) ∧ Fld Z h a "java/lang/String" "value" "[B" (.ref b) ∧ Seq Z h b .byte xs ∧ SQ 3 u0 cd xs ∧ h0.size ≤ b) := by
  refine Con.of_body (plainFor_of_name pn_3) ?_
  intro p e s m below meth c T0 X0 hx hby hml hZ hown hnm hret hlk e0
  have hown : s.vm.findClass "java/lang/String" = some m.cls := hown
  have hml : c.maxLocals = 2 := hml
  refine Goes.cast (ef2_RR m a x) ?_
  have K0 := Kp.refl h0 [a]
  refine G.aloadN X0 hx (pc' := 1) (hb hby d2_0) rfl rfl rfl ?_
  refine G.aloadN X0 hx (pc' := 2) (hb hby d2_1) rfl rfl rfl ?_
  refine G.iconst X0 hx (pc' := 3) (hb hby d2_2) (z := (0 : Int32)) rfl rfl ?_
  refine G.aloadN X0 hx (pc' := 4) (hb hby d2_3) rfl rfl rfl ?_
  refine G.arraylength X0 hx hZ e0 Bx (pc' := 5) (hb hby d2_4) (z := (3 : Int32)) rfl rfl ?_
  refine G.aconstNull X0 hx (pc' := 6) (hb hby d2_5) rfl ?_
  refine G.callI X0 hx hZ (y := (⟨"java/lang/String", "<init>", "([CIILjava/lang/Void;)V"⟩ : MethodName)) rfl hown (hw _ (List.mem_of_getElem? (i := 12) rfl)) (hw _ (List.mem_of_getElem? (i := 13) rfl)) (hw _ (List.mem_of_getElem? (i := 8) rfl)) (hw _ (List.mem_of_getElem? (i := 15) rfl)) (by decide) e0 (rm := ({ frames := 4, cells := 2, slots := 9, locals := 57 } : Room)) (argsL := [(.ref x), (.int (0 : Int32)), (.int (3 : Int32)), .null]) (S := []) (W := 0) (a := a) (rm_s4_3 l Z a0 hw a x u0 u1 u2 cs h0 SC hcs SA SH SO Ea Fc Fv Bx nax hu0 hu1 hu2) (lenOf pd_18 rfl) rfl (Nat.le_of_eq rfl) (by decide) (by decide) (by decide) (by decide) (by rw [hml]; rfl) (hb hby d2_6) (pc' := 9) rfl ?_
  rintro T1 _ L1 ⟨rfl, Kq1, hrest⟩ X1
  have E1_a := Exa.keep Ea Kq1.1
  have A1_x := Seq.keep Bx Kq1.1 (ninS (Ne.symm nax) nin0)
  have K1 := Kp.call K0 Kq1 (allS (Or.inl (List.mem_of_getElem? (i := 0) rfl)) all0)
  show Goes p e below T1 (mkF m 9 #[.val (.ref a), .val (.ref x)] []) _
  refine Goes.retV X1 hx hret hlk (hb hby d2_9) (by decide) (by decide) ⟨rfl, K1, hrest⟩
set_option maxRecDepth 65536 in
set_option maxHeartbeats 40000000 in
theorem rm_make3 (l : Launch) (Z : State) (a0 : Array Value) (hw : ∀ d ∈ tables_1, d.before a0 Z = true) (u0 u1 u2 u3 cs : Int32) (h0 : Heap) (SC : Sta Z h0 "java/lang/String" "COMPACT_STRINGS" "Z" (.int cs)) (hcs : ¬ cs = (0 : Int32)) (SA : Sta Z h0 "java/lang/StringUTF16" "$assertionsDisabled" "Z" (.int (1 : Int32))) (SH : Sta Z h0 "java/lang/StringUTF16" "HI_BYTE_SHIFT" "I" (.int (0 : Int32))) (SO : Sta Z h0 "java/lang/StringUTF16" "LO_BYTE_SHIFT" "I" (.int (8 : Int32))) (hu0 : isCh u0) (hu1 : isCh u1) (hu2 : isCh u2) (hu3 : isCh u3) :
    Con l (⟨"com/example/bowerbird/bowerbird/RequiredTextPinLaw", "make", "(ICCCC)Ljava/lang/String;"⟩ : MethodName) method_3_code 6 (some (.object "java/lang/String")) ({ frames := 6, cells := 4, slots := 16, locals := 88 } : Room) Z #[(.int (3 : Int32)), (.int u0), (.int u1), (.int u2), (.int u3)] h0 (fun v h L => ∃ a, v = some (.ref a) ∧ Kp h0 h [] L ∧ Exa Z h a "java/lang/String" ∧ ∃ b cd xs, Fld Z h a "java/lang/String" "coder" "B" (.int cd) ∧ Fld Z h a "java/lang/String" "value" "[B" (.ref b) ∧ Seq Z h b .byte xs ∧ SQ 3 u0 cd xs) := by
  refine Con.of_body (plainFor_of_name pn_20) ?_
  intro p e s m below meth c T0 X0 hx hby hml hZ hown hnm hret hlk e0
  have hown : s.vm.findClass "com/example/bowerbird/bowerbird/RequiredTextPinLaw" = some m.cls := hown
  have hml : c.maxLocals = 6 := hml
  refine Goes.cast (ef1_IIIII m (3 : Int32) u0 u1 u2 u3) ?_
  have K0 := Kp.refl h0 []
  refine G.iloadN X0 hx (pc' := 1) (hb hby d1_0) rfl rfl ?_
  refine G.iconst X0 hx (pc' := 2) (hb hby d1_1) (z := (1 : Int32)) rfl rfl ?_
  refine G.icmpT X0 hx (pc' := 25) (hb hby d1_2) (Jvm.Free.XT.ii_ne_t (by decide)) (by decide) (by decide) ?_
  refine G.iloadN X0 hx (pc' := 26) (hb hby d1_25) rfl rfl ?_
  refine G.iconst X0 hx (pc' := 27) (hb hby d1_26) (z := (2 : Int32)) rfl rfl ?_
  refine G.icmpT X0 hx (pc' := 55) (hb hby d1_27) (Jvm.Free.XT.ii_ne_t (by decide)) (by decide) (by decide) ?_
  refine G.iloadN X0 hx (pc' := 56) (hb hby d1_55) rfl rfl ?_
  refine G.iconst X0 hx (pc' := 57) (hb hby d1_56) (z := (3 : Int32)) rfl rfl ?_
  refine G.icmpF X0 hx (pc' := 60) (hb hby d1_57) (Jvm.Free.XT.ii_ne_f rfl) rfl ?_
  refine G.iconst X0 hx (pc' := 61) (hb hby d1_60) (z := (3 : Int32)) rfl rfl ?_
  refine G.newP X0 hx hZ (hw _ (List.mem_of_getElem? (i := 5) rfl)) e0 (hb hby d1_61) (by decide) (n := 3) (cap := 3) rfl (by decide) (by decide) (by decide) (by decide) (pc' := 63) rfl fun T1 h1 x g1 X1 e1 Ex1 A1 => ?_
  have sz_x : h0.size ≤ x := Nat.le_trans K0.size (Nat.le_of_eq g1.symm)
  have K1 := Kp.ext K0 Ex1
  have A1_x : Seq Z h1 x .char [(.int (0 : Int32)), (.int (0 : Int32)), (.int (0 : Int32))] := A1
  refine G.astore X1 hx (pc' := 65) (hb hby d1_63) rfl (L' := #[.val (.int (3 : Int32)), .val (.int u0), .val (.int u1), .val (.int u2), .val (.int u3), .val (.ref x)]) rfl rfl ?_
  refine G.aload X1 hx (pc' := 67) (hb hby d1_65) rfl rfl rfl ?_
  refine G.iconst X1 hx (pc' := 68) (hb hby d1_67) (z := (0 : Int32)) rfl rfl ?_
  refine G.iloadN X1 hx (pc' := 69) (hb hby d1_68) rfl rfl ?_
  refine G.castore X1 hx hZ e1 A1_x (pc' := 70) (hb hby d1_69) (by decide) (Nat.le_of_ble_eq_true rfl) rfl fun T2 h2 X2 e2 W2 A2 => ?_
  have K2 := Kp.wr K1 W2 (Or.inr sz_x)
  have A2_x : Seq Z h2 x .char [(.int (nar .char u0)), (.int (0 : Int32)), (.int (0 : Int32))] := A2
  rw [own_nc hu0] at A2_x
  refine G.aload X2 hx (pc' := 72) (hb hby d1_70) rfl rfl rfl ?_
  refine G.iconst X2 hx (pc' := 73) (hb hby d1_72) (z := (1 : Int32)) rfl rfl ?_
  refine G.iloadN X2 hx (pc' := 74) (hb hby d1_73) rfl rfl ?_
  refine G.castore X2 hx hZ e2 A2_x (pc' := 75) (hb hby d1_74) (by decide) (Nat.le_of_ble_eq_true rfl) rfl fun T3 h3 X3 e3 W3 A3 => ?_
  have K3 := Kp.wr K2 W3 (Or.inr sz_x)
  have A3_x : Seq Z h3 x .char [(.int u0), (.int (nar .char u1)), (.int (0 : Int32))] := A3
  rw [own_nc hu1] at A3_x
  refine G.aload X3 hx (pc' := 77) (hb hby d1_75) rfl rfl rfl ?_
  refine G.iconst X3 hx (pc' := 78) (hb hby d1_77) (z := (2 : Int32)) rfl rfl ?_
  refine G.iloadN X3 hx (pc' := 79) (hb hby d1_78) rfl rfl ?_
  refine G.castore X3 hx hZ e3 A3_x (pc' := 80) (hb hby d1_79) (by decide) (Nat.le_of_ble_eq_true rfl) rfl fun T4 h4 X4 e4 W4 A4 => ?_
  have K4 := Kp.wr K3 W4 (Or.inr sz_x)
  have A4_x : Seq Z h4 x .char [(.int u0), (.int u1), (.int (nar .char u2))] := A4
  rw [own_nc hu2] at A4_x
  refine G.newO X4 hx hZ hown (hw _ (List.mem_of_getElem? (i := 6) rfl)) (hw _ (List.mem_of_getElem? (i := 7) rfl)) (hw _ (List.mem_of_getElem? (i := 8) rfl)) e4 (hb hby d1_80) (by decide) (by decide) (pc' := 83) rfl fun T5 h5 a g5 X5 e5 Ex5 Ea5 D5 => ?_
  have ne_x_a : x ≠ a := Nat.ne_of_lt (Nat.lt_of_lt_of_le A4_x.lt (Nat.le_of_eq g5.symm))
  have sz_a : h0.size ≤ a := Nat.le_trans K4.size (Nat.le_of_eq g5.symm)
  have A5_x := Seq.ext A4_x Ex5
  have K5 := Kp.ext K4 Ex5
  have F5_a_coder : Fld Z h5 a "java/lang/String" "coder" "B" (.int (0 : Int32)) := D5 (Or.inr (hw _ (List.mem_of_getElem? (i := 32) rfl))) (ty := .byte) (by decide)
  have F5_a_value : Fld Z h5 a "java/lang/String" "value" "[B" .null := D5 (Or.inr (hw _ (List.mem_of_getElem? (i := 34) rfl))) (ty := (.array .byte)) (by decide)
  refine G.dup X5 hx (pc' := 84) (hb hby d1_83) rfl rfl ?_
  refine G.aload X5 hx (pc' := 86) (hb hby d1_84) rfl rfl rfl ?_
  refine G.callI X5 hx hZ (y := (⟨"java/lang/String", "<init>", "([C)V"⟩ : MethodName)) rfl hown (hw _ (List.mem_of_getElem? (i := 9) rfl)) (hw _ (List.mem_of_getElem? (i := 10) rfl)) (hw _ (List.mem_of_getElem? (i := 8) rfl)) (hw _ (List.mem_of_getElem? (i := 11) rfl)) (by decide) e5 (rm := ({ frames := 5, cells := 2, slots := 9, locals := 74 } : Room)) (argsL := [(.ref x)]) (S := [(.ref a)]) (W := 1) (a := a) (rm_s1_3 l Z a0 hw a x u0 u1 u2 cs h5 (Sta.keep0 SC K5.1) hcs (Sta.keep0 SA K5.1) (Sta.keep0 SH K5.1) (Sta.keep0 SO K5.1) Ea5 F5_a_coder F5_a_value A5_x (Ne.symm ne_x_a) hu0 hu1 hu2) (lenOf pd_19 rfl) rfl (Nat.le_of_eq rfl) (by decide) (by decide) (by decide) (by decide) (by rw [hml]; rfl) (hb hby d1_86) (pc' := 89) rfl ?_
  rintro T6 _ L6 ⟨rfl, Kq6, b, cd, xs, Fc, Fv, Ab, hsq, gb⟩ X6
  have E6_a := Exa.keep Ea5 Kq6.1
  have A6_x := Seq.keep A5_x Kq6.1 (ninS ne_x_a nin0)
  have K6 := Kp.call K5 Kq6 (allS (Or.inr sz_a) all0)
  show Goes p e below T6 (mkF m 89 #[.val (.int (3 : Int32)), .val (.int u0), .val (.int u1), .val (.int u2), .val (.int u3), .val (.ref x)] [(.ref a)]) _
  refine Goes.retA X6 hx hret rfl hlk rfl rfl (hb hby d1_89) (by decide) (by decide) ⟨a, rfl, K6, E6_a, b, cd, xs, Fc, Fv, Ab, hsq⟩
set_option maxRecDepth 65536 in
set_option maxHeartbeats 40000000 in
theorem rm_pu0_4 (l : Launch) (Z : State) (a0 : Array Value) (hw : ∀ d ∈ tables_1, d.before a0 Z = true) (d : Addr) (xs : List Value) (u0 : Int32) (h0 : Heap) (Bd : Seq Z h0 d .byte xs) (SA : Sta Z h0 "java/lang/StringUTF16" "$assertionsDisabled" "Z" (.int (1 : Int32))) (SH : Sta Z h0 "java/lang/StringUTF16" "HI_BYTE_SHIFT" "I" (.int (0 : Int32))) (SO : Sta Z h0 "java/lang/StringUTF16" "LO_BYTE_SHIFT" "I" (.int (8 : Int32))) (hxl : xs.length = 8) :
    Con l (⟨"java/lang/StringUTF16", "putChar", "([BII)V"⟩ : MethodName) jdk_52_method_4_code 3 none ({ frames := 0, cells := 0, slots := 0, locals := 0 } : Room) Z #[(.ref d), (.int (0 : Int32)), (.int u0)] h0 (fun v h L => v = none ∧ Kp h0 h [d] L ∧ Seq Z h d .byte ((xs.set 0 (.int (lo u0))).set 1 (.int (hi u0)))) := by
  refine Con.of_body (plainFor_of_name pn_0) ?_
  intro p e s m below meth c T0 X0 hx hby hml hZ hown hnm hret hlk e0
  have hown : s.vm.findClass "java/lang/StringUTF16" = some m.cls := hown
  have hml : c.maxLocals = 3 := hml
  refine Goes.cast (ef20_RII m d (0 : Int32) u0) ?_
  have K0 := Kp.refl h0 [d]
  refine G.getS X0 hx hZ hown (hw _ (List.mem_of_getElem? (i := 92) rfl)) Via.refl e0 SA (pc' := 3) (hb hby d20_0) rfl fun T1 X1 e1 => ?_
  refine G.ifT X1 hx (pc' := 28) (hb hby d20_3) (Jvm.Free.XT.i0_ne_t (by decide)) (by decide) (by decide) ?_
  refine G.iloadN X1 hx (pc' := 29) (hb hby d20_28) rfl rfl ?_
  refine G.iconst X1 hx (pc' := 30) (hb hby d20_29) (z := (1 : Int32)) rfl rfl ?_
  refine G.ishl X1 hx (pc' := 31) (hb hby d20_30) rfl ?_
  refine G.istoreN X1 hx (pc' := 32) (hb hby d20_31) (L' := #[.val (.ref d), .val (.int ((0 : Int32) <<< ((1 : Int32) &&& 31))), .val (.int u0)]) rfl rfl ?_
  show Goes p e below T1 (mkF m 32 #[.val (.ref d), .val (.int (0 : Int32)), .val (.int u0)] []) _
  refine G.aloadN X1 hx (pc' := 33) (hb hby d20_32) rfl rfl rfl ?_
  refine G.iloadN X1 hx (pc' := 34) (hb hby d20_33) rfl rfl ?_
  refine G.iinc X1 hx (pc' := 37) (hb hby d20_34) rfl (L' := #[.val (.ref d), .val (.int ((0 : Int32) + (1 : Int32))), .val (.int u0)]) rfl rfl ?_
  refine G.iloadN X1 hx (pc' := 38) (hb hby d20_37) rfl rfl ?_
  refine G.getS X1 hx hZ hown (hw _ (List.mem_of_getElem? (i := 93) rfl)) Via.refl e1 SH (pc' := 41) (hb hby d20_38) rfl fun T2 X2 e2 => ?_
  refine G.ishr X2 hx (pc' := 42) (hb hby d20_41) rfl ?_
  refine G.i2b X2 hx (pc' := 43) (hb hby d20_42) rfl ?_
  show Goes p e below T2 (mkF m 43 #[.val (.ref d), .val (.int (1 : Int32)), .val (.int u0)] [(.int ((u0 >>> ((0 : Int32) &&& 31)).toInt8.toInt32)), (.int (0 : Int32)), (.ref d)]) _
  refine G.bastore X2 hx hZ e2 Bd (pc' := 44) (hb hby d20_43) (by decide) (by rw [hxl]; decide) rfl fun T3 h3 X3 e3 W3 A3 => ?_
  have S3__assertionsDisabled := Sta.wr W3 SA
  have S3_HI_BYTE_SHIFT := Sta.wr W3 SH
  have S3_LO_BYTE_SHIFT := Sta.wr W3 SO
  have K3 := Kp.wr K0 W3 (Or.inl (List.mem_of_getElem? (i := 0) rfl))
  have A3_d : Seq Z h3 d .byte (xs.set 0 (.int (lo u0))) := A3
  refine G.aloadN X3 hx (pc' := 45) (hb hby d20_44) rfl rfl rfl ?_
  refine G.iloadN X3 hx (pc' := 46) (hb hby d20_45) rfl rfl ?_
  refine G.iloadN X3 hx (pc' := 47) (hb hby d20_46) rfl rfl ?_
  refine G.getS X3 hx hZ hown (hw _ (List.mem_of_getElem? (i := 94) rfl)) Via.refl e3 S3_LO_BYTE_SHIFT (pc' := 50) (hb hby d20_47) rfl fun T4 X4 e4 => ?_
  refine G.ishr X4 hx (pc' := 51) (hb hby d20_50) rfl ?_
  refine G.i2b X4 hx (pc' := 52) (hb hby d20_51) rfl ?_
  refine G.bastore X4 hx hZ e4 A3_d (pc' := 53) (hb hby d20_52) (by decide) (by rw [List.length_set, hxl]; decide) rfl fun T5 h5 X5 e5 W5 A5 => ?_
  have S5__assertionsDisabled := Sta.wr W5 S3__assertionsDisabled
  have S5_HI_BYTE_SHIFT := Sta.wr W5 S3_HI_BYTE_SHIFT
  have S5_LO_BYTE_SHIFT := Sta.wr W5 S3_LO_BYTE_SHIFT
  have K5 := Kp.wr K3 W5 (Or.inl (List.mem_of_getElem? (i := 0) rfl))
  have A5_d : Seq Z h5 d .byte ((xs.set 0 (.int (lo u0))).set 1 (.int (hi u0))) := A5
  refine Goes.retV X5 hx hret hlk (hb hby d20_53) (by decide) (by decide) ⟨rfl, (by rw [e5]; exact K5), (by rw [e5]; exact A5_d)⟩
set_option maxRecDepth 65536 in
set_option maxHeartbeats 40000000 in
theorem rm_pu1_4 (l : Launch) (Z : State) (a0 : Array Value) (hw : ∀ d ∈ tables_1, d.before a0 Z = true) (d : Addr) (xs : List Value) (u0 : Int32) (h0 : Heap) (Bd : Seq Z h0 d .byte xs) (SA : Sta Z h0 "java/lang/StringUTF16" "$assertionsDisabled" "Z" (.int (1 : Int32))) (SH : Sta Z h0 "java/lang/StringUTF16" "HI_BYTE_SHIFT" "I" (.int (0 : Int32))) (SO : Sta Z h0 "java/lang/StringUTF16" "LO_BYTE_SHIFT" "I" (.int (8 : Int32))) (hxl : xs.length = 8) :
    Con l (⟨"java/lang/StringUTF16", "putChar", "([BII)V"⟩ : MethodName) jdk_52_method_4_code 3 none ({ frames := 0, cells := 0, slots := 0, locals := 0 } : Room) Z #[(.ref d), (.int (1 : Int32)), (.int u0)] h0 (fun v h L => v = none ∧ Kp h0 h [d] L ∧ Seq Z h d .byte ((xs.set 2 (.int (lo u0))).set 3 (.int (hi u0)))) := by
  refine Con.of_body (plainFor_of_name pn_0) ?_
  intro p e s m below meth c T0 X0 hx hby hml hZ hown hnm hret hlk e0
  have hown : s.vm.findClass "java/lang/StringUTF16" = some m.cls := hown
  have hml : c.maxLocals = 3 := hml
  refine Goes.cast (ef20_RII m d (1 : Int32) u0) ?_
  have K0 := Kp.refl h0 [d]
  refine G.getS X0 hx hZ hown (hw _ (List.mem_of_getElem? (i := 92) rfl)) Via.refl e0 SA (pc' := 3) (hb hby d20_0) rfl fun T1 X1 e1 => ?_
  refine G.ifT X1 hx (pc' := 28) (hb hby d20_3) (Jvm.Free.XT.i0_ne_t (by decide)) (by decide) (by decide) ?_
  refine G.iloadN X1 hx (pc' := 29) (hb hby d20_28) rfl rfl ?_
  refine G.iconst X1 hx (pc' := 30) (hb hby d20_29) (z := (1 : Int32)) rfl rfl ?_
  refine G.ishl X1 hx (pc' := 31) (hb hby d20_30) rfl ?_
  refine G.istoreN X1 hx (pc' := 32) (hb hby d20_31) (L' := #[.val (.ref d), .val (.int ((1 : Int32) <<< ((1 : Int32) &&& 31))), .val (.int u0)]) rfl rfl ?_
  show Goes p e below T1 (mkF m 32 #[.val (.ref d), .val (.int (2 : Int32)), .val (.int u0)] []) _
  refine G.aloadN X1 hx (pc' := 33) (hb hby d20_32) rfl rfl rfl ?_
  refine G.iloadN X1 hx (pc' := 34) (hb hby d20_33) rfl rfl ?_
  refine G.iinc X1 hx (pc' := 37) (hb hby d20_34) rfl (L' := #[.val (.ref d), .val (.int ((2 : Int32) + (1 : Int32))), .val (.int u0)]) rfl rfl ?_
  refine G.iloadN X1 hx (pc' := 38) (hb hby d20_37) rfl rfl ?_
  refine G.getS X1 hx hZ hown (hw _ (List.mem_of_getElem? (i := 93) rfl)) Via.refl e1 SH (pc' := 41) (hb hby d20_38) rfl fun T2 X2 e2 => ?_
  refine G.ishr X2 hx (pc' := 42) (hb hby d20_41) rfl ?_
  refine G.i2b X2 hx (pc' := 43) (hb hby d20_42) rfl ?_
  show Goes p e below T2 (mkF m 43 #[.val (.ref d), .val (.int (3 : Int32)), .val (.int u0)] [(.int ((u0 >>> ((0 : Int32) &&& 31)).toInt8.toInt32)), (.int (2 : Int32)), (.ref d)]) _
  refine G.bastore X2 hx hZ e2 Bd (pc' := 44) (hb hby d20_43) (by decide) (by rw [hxl]; decide) rfl fun T3 h3 X3 e3 W3 A3 => ?_
  have S3__assertionsDisabled := Sta.wr W3 SA
  have S3_HI_BYTE_SHIFT := Sta.wr W3 SH
  have S3_LO_BYTE_SHIFT := Sta.wr W3 SO
  have K3 := Kp.wr K0 W3 (Or.inl (List.mem_of_getElem? (i := 0) rfl))
  have A3_d : Seq Z h3 d .byte (xs.set 2 (.int (lo u0))) := A3
  refine G.aloadN X3 hx (pc' := 45) (hb hby d20_44) rfl rfl rfl ?_
  refine G.iloadN X3 hx (pc' := 46) (hb hby d20_45) rfl rfl ?_
  refine G.iloadN X3 hx (pc' := 47) (hb hby d20_46) rfl rfl ?_
  refine G.getS X3 hx hZ hown (hw _ (List.mem_of_getElem? (i := 94) rfl)) Via.refl e3 S3_LO_BYTE_SHIFT (pc' := 50) (hb hby d20_47) rfl fun T4 X4 e4 => ?_
  refine G.ishr X4 hx (pc' := 51) (hb hby d20_50) rfl ?_
  refine G.i2b X4 hx (pc' := 52) (hb hby d20_51) rfl ?_
  refine G.bastore X4 hx hZ e4 A3_d (pc' := 53) (hb hby d20_52) (by decide) (by rw [List.length_set, hxl]; decide) rfl fun T5 h5 X5 e5 W5 A5 => ?_
  have S5__assertionsDisabled := Sta.wr W5 S3__assertionsDisabled
  have S5_HI_BYTE_SHIFT := Sta.wr W5 S3_HI_BYTE_SHIFT
  have S5_LO_BYTE_SHIFT := Sta.wr W5 S3_LO_BYTE_SHIFT
  have K5 := Kp.wr K3 W5 (Or.inl (List.mem_of_getElem? (i := 0) rfl))
  have A5_d : Seq Z h5 d .byte ((xs.set 2 (.int (lo u0))).set 3 (.int (hi u0))) := A5
  refine Goes.retV X5 hx hret hlk (hb hby d20_53) (by decide) (by decide) ⟨rfl, (by rw [e5]; exact K5), (by rw [e5]; exact A5_d)⟩
set_option maxRecDepth 65536 in
set_option maxHeartbeats 40000000 in
theorem rm_pu2_4 (l : Launch) (Z : State) (a0 : Array Value) (hw : ∀ d ∈ tables_1, d.before a0 Z = true) (d : Addr) (xs : List Value) (u0 : Int32) (h0 : Heap) (Bd : Seq Z h0 d .byte xs) (SA : Sta Z h0 "java/lang/StringUTF16" "$assertionsDisabled" "Z" (.int (1 : Int32))) (SH : Sta Z h0 "java/lang/StringUTF16" "HI_BYTE_SHIFT" "I" (.int (0 : Int32))) (SO : Sta Z h0 "java/lang/StringUTF16" "LO_BYTE_SHIFT" "I" (.int (8 : Int32))) (hxl : xs.length = 8) :
    Con l (⟨"java/lang/StringUTF16", "putChar", "([BII)V"⟩ : MethodName) jdk_52_method_4_code 3 none ({ frames := 0, cells := 0, slots := 0, locals := 0 } : Room) Z #[(.ref d), (.int (2 : Int32)), (.int u0)] h0 (fun v h L => v = none ∧ Kp h0 h [d] L ∧ Seq Z h d .byte ((xs.set 4 (.int (lo u0))).set 5 (.int (hi u0)))) := by
  refine Con.of_body (plainFor_of_name pn_0) ?_
  intro p e s m below meth c T0 X0 hx hby hml hZ hown hnm hret hlk e0
  have hown : s.vm.findClass "java/lang/StringUTF16" = some m.cls := hown
  have hml : c.maxLocals = 3 := hml
  refine Goes.cast (ef20_RII m d (2 : Int32) u0) ?_
  have K0 := Kp.refl h0 [d]
  refine G.getS X0 hx hZ hown (hw _ (List.mem_of_getElem? (i := 92) rfl)) Via.refl e0 SA (pc' := 3) (hb hby d20_0) rfl fun T1 X1 e1 => ?_
  refine G.ifT X1 hx (pc' := 28) (hb hby d20_3) (Jvm.Free.XT.i0_ne_t (by decide)) (by decide) (by decide) ?_
  refine G.iloadN X1 hx (pc' := 29) (hb hby d20_28) rfl rfl ?_
  refine G.iconst X1 hx (pc' := 30) (hb hby d20_29) (z := (1 : Int32)) rfl rfl ?_
  refine G.ishl X1 hx (pc' := 31) (hb hby d20_30) rfl ?_
  refine G.istoreN X1 hx (pc' := 32) (hb hby d20_31) (L' := #[.val (.ref d), .val (.int ((2 : Int32) <<< ((1 : Int32) &&& 31))), .val (.int u0)]) rfl rfl ?_
  show Goes p e below T1 (mkF m 32 #[.val (.ref d), .val (.int (4 : Int32)), .val (.int u0)] []) _
  refine G.aloadN X1 hx (pc' := 33) (hb hby d20_32) rfl rfl rfl ?_
  refine G.iloadN X1 hx (pc' := 34) (hb hby d20_33) rfl rfl ?_
  refine G.iinc X1 hx (pc' := 37) (hb hby d20_34) rfl (L' := #[.val (.ref d), .val (.int ((4 : Int32) + (1 : Int32))), .val (.int u0)]) rfl rfl ?_
  refine G.iloadN X1 hx (pc' := 38) (hb hby d20_37) rfl rfl ?_
  refine G.getS X1 hx hZ hown (hw _ (List.mem_of_getElem? (i := 93) rfl)) Via.refl e1 SH (pc' := 41) (hb hby d20_38) rfl fun T2 X2 e2 => ?_
  refine G.ishr X2 hx (pc' := 42) (hb hby d20_41) rfl ?_
  refine G.i2b X2 hx (pc' := 43) (hb hby d20_42) rfl ?_
  show Goes p e below T2 (mkF m 43 #[.val (.ref d), .val (.int (5 : Int32)), .val (.int u0)] [(.int ((u0 >>> ((0 : Int32) &&& 31)).toInt8.toInt32)), (.int (4 : Int32)), (.ref d)]) _
  refine G.bastore X2 hx hZ e2 Bd (pc' := 44) (hb hby d20_43) (by decide) (by rw [hxl]; decide) rfl fun T3 h3 X3 e3 W3 A3 => ?_
  have S3__assertionsDisabled := Sta.wr W3 SA
  have S3_HI_BYTE_SHIFT := Sta.wr W3 SH
  have S3_LO_BYTE_SHIFT := Sta.wr W3 SO
  have K3 := Kp.wr K0 W3 (Or.inl (List.mem_of_getElem? (i := 0) rfl))
  have A3_d : Seq Z h3 d .byte (xs.set 4 (.int (lo u0))) := A3
  refine G.aloadN X3 hx (pc' := 45) (hb hby d20_44) rfl rfl rfl ?_
  refine G.iloadN X3 hx (pc' := 46) (hb hby d20_45) rfl rfl ?_
  refine G.iloadN X3 hx (pc' := 47) (hb hby d20_46) rfl rfl ?_
  refine G.getS X3 hx hZ hown (hw _ (List.mem_of_getElem? (i := 94) rfl)) Via.refl e3 S3_LO_BYTE_SHIFT (pc' := 50) (hb hby d20_47) rfl fun T4 X4 e4 => ?_
  refine G.ishr X4 hx (pc' := 51) (hb hby d20_50) rfl ?_
  refine G.i2b X4 hx (pc' := 52) (hb hby d20_51) rfl ?_
  refine G.bastore X4 hx hZ e4 A3_d (pc' := 53) (hb hby d20_52) (by decide) (by rw [List.length_set, hxl]; decide) rfl fun T5 h5 X5 e5 W5 A5 => ?_
  have S5__assertionsDisabled := Sta.wr W5 S3__assertionsDisabled
  have S5_HI_BYTE_SHIFT := Sta.wr W5 S3_HI_BYTE_SHIFT
  have S5_LO_BYTE_SHIFT := Sta.wr W5 S3_LO_BYTE_SHIFT
  have K5 := Kp.wr K3 W5 (Or.inl (List.mem_of_getElem? (i := 0) rfl))
  have A5_d : Seq Z h5 d .byte ((xs.set 4 (.int (lo u0))).set 5 (.int (hi u0))) := A5
  refine Goes.retV X5 hx hret hlk (hb hby d20_53) (by decide) (by decide) ⟨rfl, (by rw [e5]; exact K5), (by rw [e5]; exact A5_d)⟩
set_option maxRecDepth 65536 in
set_option maxHeartbeats 40000000 in
theorem rm_pu3_4 (l : Launch) (Z : State) (a0 : Array Value) (hw : ∀ d ∈ tables_1, d.before a0 Z = true) (d : Addr) (xs : List Value) (u0 : Int32) (h0 : Heap) (Bd : Seq Z h0 d .byte xs) (SA : Sta Z h0 "java/lang/StringUTF16" "$assertionsDisabled" "Z" (.int (1 : Int32))) (SH : Sta Z h0 "java/lang/StringUTF16" "HI_BYTE_SHIFT" "I" (.int (0 : Int32))) (SO : Sta Z h0 "java/lang/StringUTF16" "LO_BYTE_SHIFT" "I" (.int (8 : Int32))) (hxl : xs.length = 8) :
    Con l (⟨"java/lang/StringUTF16", "putChar", "([BII)V"⟩ : MethodName) jdk_52_method_4_code 3 none ({ frames := 0, cells := 0, slots := 0, locals := 0 } : Room) Z #[(.ref d), (.int (3 : Int32)), (.int u0)] h0 (fun v h L => v = none ∧ Kp h0 h [d] L ∧ Seq Z h d .byte ((xs.set 6 (.int (lo u0))).set 7 (.int (hi u0)))) := by
  refine Con.of_body (plainFor_of_name pn_0) ?_
  intro p e s m below meth c T0 X0 hx hby hml hZ hown hnm hret hlk e0
  have hown : s.vm.findClass "java/lang/StringUTF16" = some m.cls := hown
  have hml : c.maxLocals = 3 := hml
  refine Goes.cast (ef20_RII m d (3 : Int32) u0) ?_
  have K0 := Kp.refl h0 [d]
  refine G.getS X0 hx hZ hown (hw _ (List.mem_of_getElem? (i := 92) rfl)) Via.refl e0 SA (pc' := 3) (hb hby d20_0) rfl fun T1 X1 e1 => ?_
  refine G.ifT X1 hx (pc' := 28) (hb hby d20_3) (Jvm.Free.XT.i0_ne_t (by decide)) (by decide) (by decide) ?_
  refine G.iloadN X1 hx (pc' := 29) (hb hby d20_28) rfl rfl ?_
  refine G.iconst X1 hx (pc' := 30) (hb hby d20_29) (z := (1 : Int32)) rfl rfl ?_
  refine G.ishl X1 hx (pc' := 31) (hb hby d20_30) rfl ?_
  refine G.istoreN X1 hx (pc' := 32) (hb hby d20_31) (L' := #[.val (.ref d), .val (.int ((3 : Int32) <<< ((1 : Int32) &&& 31))), .val (.int u0)]) rfl rfl ?_
  show Goes p e below T1 (mkF m 32 #[.val (.ref d), .val (.int (6 : Int32)), .val (.int u0)] []) _
  refine G.aloadN X1 hx (pc' := 33) (hb hby d20_32) rfl rfl rfl ?_
  refine G.iloadN X1 hx (pc' := 34) (hb hby d20_33) rfl rfl ?_
  refine G.iinc X1 hx (pc' := 37) (hb hby d20_34) rfl (L' := #[.val (.ref d), .val (.int ((6 : Int32) + (1 : Int32))), .val (.int u0)]) rfl rfl ?_
  refine G.iloadN X1 hx (pc' := 38) (hb hby d20_37) rfl rfl ?_
  refine G.getS X1 hx hZ hown (hw _ (List.mem_of_getElem? (i := 93) rfl)) Via.refl e1 SH (pc' := 41) (hb hby d20_38) rfl fun T2 X2 e2 => ?_
  refine G.ishr X2 hx (pc' := 42) (hb hby d20_41) rfl ?_
  refine G.i2b X2 hx (pc' := 43) (hb hby d20_42) rfl ?_
  show Goes p e below T2 (mkF m 43 #[.val (.ref d), .val (.int (7 : Int32)), .val (.int u0)] [(.int ((u0 >>> ((0 : Int32) &&& 31)).toInt8.toInt32)), (.int (6 : Int32)), (.ref d)]) _
  refine G.bastore X2 hx hZ e2 Bd (pc' := 44) (hb hby d20_43) (by decide) (by rw [hxl]; decide) rfl fun T3 h3 X3 e3 W3 A3 => ?_
  have S3__assertionsDisabled := Sta.wr W3 SA
  have S3_HI_BYTE_SHIFT := Sta.wr W3 SH
  have S3_LO_BYTE_SHIFT := Sta.wr W3 SO
  have K3 := Kp.wr K0 W3 (Or.inl (List.mem_of_getElem? (i := 0) rfl))
  have A3_d : Seq Z h3 d .byte (xs.set 6 (.int (lo u0))) := A3
  refine G.aloadN X3 hx (pc' := 45) (hb hby d20_44) rfl rfl rfl ?_
  refine G.iloadN X3 hx (pc' := 46) (hb hby d20_45) rfl rfl ?_
  refine G.iloadN X3 hx (pc' := 47) (hb hby d20_46) rfl rfl ?_
  refine G.getS X3 hx hZ hown (hw _ (List.mem_of_getElem? (i := 94) rfl)) Via.refl e3 S3_LO_BYTE_SHIFT (pc' := 50) (hb hby d20_47) rfl fun T4 X4 e4 => ?_
  refine G.ishr X4 hx (pc' := 51) (hb hby d20_50) rfl ?_
  refine G.i2b X4 hx (pc' := 52) (hb hby d20_51) rfl ?_
  refine G.bastore X4 hx hZ e4 A3_d (pc' := 53) (hb hby d20_52) (by decide) (by rw [List.length_set, hxl]; decide) rfl fun T5 h5 X5 e5 W5 A5 => ?_
  have S5__assertionsDisabled := Sta.wr W5 S3__assertionsDisabled
  have S5_HI_BYTE_SHIFT := Sta.wr W5 S3_HI_BYTE_SHIFT
  have S5_LO_BYTE_SHIFT := Sta.wr W5 S3_LO_BYTE_SHIFT
  have K5 := Kp.wr K3 W5 (Or.inl (List.mem_of_getElem? (i := 0) rfl))
  have A5_d : Seq Z h5 d .byte ((xs.set 6 (.int (lo u0))).set 7 (.int (hi u0))) := A5
  refine Goes.retV X5 hx hret hlk (hb hby d20_53) (by decide) (by decide) ⟨rfl, (by rw [e5]; exact K5), (by rw [e5]; exact A5_d)⟩
set_option maxRecDepth 65536 in
set_option maxHeartbeats 40000000 in
theorem rm_nbl4 (l : Launch) (Z : State) (a0 : Array Value) (hw : ∀ d ∈ tables_1, d.before a0 Z = true)  (h0 : Heap)  :
    Con l (⟨"java/lang/StringUTF16", "newBytesLength", "(I)I"⟩ : MethodName) jdk_52_method_3_code 1 (some .int) ({ frames := 0, cells := 0, slots := 0, locals := 0 } : Room) Z #[(.int (4 : Int32))] h0 (Pur (some (.int (8 : Int32))) h0) := by
  refine Con.of_body (plainFor_of_name pn_0) ?_
  intro p e s m below meth c T0 X0 hx hby hml hZ hown hnm hret hlk e0
  have hown : s.vm.findClass "java/lang/StringUTF16" = some m.cls := hown
  have hml : c.maxLocals = 1 := hml
  refine Goes.cast (ef19_I m (4 : Int32)) ?_
  refine G.iloadN X0 hx (pc' := 1) (hb hby d19_0) rfl rfl ?_
  refine G.ifT X0 hx (pc' := 12) (hb hby d19_1) (Jvm.Free.XT.i0_ge_t (by decide)) (by decide) (by decide) ?_
  refine G.iloadN X0 hx (pc' := 13) (hb hby d19_12) rfl rfl ?_
  refine G.ldcInt X0 hx hZ hown (hw _ (List.mem_of_getElem? (i := 88) rfl)) (pc' := 15) (hb hby d19_13) rfl ?_
  refine G.icmpT X0 hx (pc' := 55) (hb hby d19_15) (Jvm.Free.XT.ii_lt_t (by decide)) (by decide) (by decide) ?_
  refine G.iloadN X0 hx (pc' := 56) (hb hby d19_55) rfl rfl ?_
  refine G.iconst X0 hx (pc' := 57) (hb hby d19_56) (z := (1 : Int32)) rfl rfl ?_
  refine G.ishl X0 hx (pc' := 58) (hb hby d19_57) rfl ?_
  refine Goes.retI X0 hx hret hlk (hb hby d19_58) (by decide) (by decide) ⟨congrArg (fun z => some (Value.int z)) (by decide), e0, rfl⟩
set_option maxRecDepth 65536 in
set_option maxHeartbeats 40000000 in
theorem rm_nbf4 (l : Launch) (Z : State) (a0 : Array Value) (hw : ∀ d ∈ tables_1, d.before a0 Z = true)  (h0 : Heap)  :
    Con l (⟨"java/lang/StringUTF16", "newBytesFor", "(I)[B"⟩ : MethodName) jdk_52_method_2_code 1 (some (.array .byte)) ({ frames := 1, cells := 1, slots := 8, locals := 12 } : Room) Z #[(.int (4 : Int32))] h0 (fun v h L => ∃ d, v = some (.ref d) ∧ Kp h0 h [] L ∧ Seq Z h d .byte [(.int (0 : Int32)), (.int (0 : Int32)), (.int (0 : Int32)), (.int (0 : Int32)), (.int (0 : Int32)), (.int (0 : Int32)), (.int (0 : Int32)), (.int (0 : Int32))] ∧ h0.size ≤ d) := by
  refine Con.of_body (plainFor_of_name pn_0) ?_
  intro p e s m below meth c T0 X0 hx hby hml hZ hown hnm hret hlk e0
  have hown : s.vm.findClass "java/lang/StringUTF16" = some m.cls := hown
  have hml : c.maxLocals = 1 := hml
  refine Goes.cast (ef18_I m (4 : Int32)) ?_
  have K0 := Kp.refl h0 []
  refine G.iloadN X0 hx (pc' := 1) (hb hby d18_0) rfl rfl ?_
  refine G.callS X0 hx hZ (y := (⟨"java/lang/StringUTF16", "newBytesLength", "(I)I"⟩ : MethodName)) hown (hw _ (List.mem_of_getElem? (i := 85) rfl)) (hw _ (List.mem_of_getElem? (i := 86) rfl)) (hw _ (List.mem_of_getElem? (i := 22) rfl)) (hw _ (List.mem_of_getElem? (i := 87) rfl)) (by decide) e0 (rm := ({ frames := 0, cells := 0, slots := 0, locals := 0 } : Room)) (argsL := [(.int (4 : Int32))]) (S := []) (W := 0) (rm_nbl4 l Z a0 hw h0) (lenOf pd_12 rfl) rfl (Nat.le_of_eq rfl) (by decide) (by decide) (by decide) (by decide) (by rw [hml]; rfl) (hb hby d18_1) (pc' := 4) rfl ?_
  rintro T1 _ _ ⟨rfl, e1, rfl⟩ X1
  rw [List.append_nil] at X1
  show Goes p e below T1 (mkF m 4 #[.val (.int (4 : Int32))] [(.int (8 : Int32))]) _
  refine G.newP X1 hx hZ (hw _ (List.mem_of_getElem? (i := 24) rfl)) e1 (hb hby d18_4) (by decide) (n := 8) (cap := 8) rfl (by decide) (by decide) (by decide) (by decide) (pc' := 6) rfl fun T2 h2 d g2 X2 e2 Ex2 A2 => ?_
  have sz_d : h0.size ≤ d := Nat.le_trans K0.size (Nat.le_of_eq g2.symm)
  have K2 := Kp.ext K0 Ex2
  have A2_d : Seq Z h2 d .byte [(.int (0 : Int32)), (.int (0 : Int32)), (.int (0 : Int32)), (.int (0 : Int32)), (.int (0 : Int32)), (.int (0 : Int32)), (.int (0 : Int32)), (.int (0 : Int32))] := A2
  refine Goes.retA X2 hx hret rfl hlk rfl rfl (hb hby d18_6) (by decide) (by decide) ⟨d, rfl, (by rw [e2]; exact K2), (by rw [e2]; exact A2_d), sz_d⟩
set_option maxRecDepth 65536 in
set_option maxHeartbeats 40000000 in
theorem rm_tb4 (l : Launch) (Z : State) (a0 : Array Value) (hw : ∀ d ∈ tables_1, d.before a0 Z = true) (x : Addr) (u0 u1 u2 u3 : Int32) (h0 : Heap) (Bx : Seq Z h0 x .char [(.int u0), (.int u1), (.int u2), (.int u3)]) (SA : Sta Z h0 "java/lang/StringUTF16" "$assertionsDisabled" "Z" (.int (1 : Int32))) (SH : Sta Z h0 "java/lang/StringUTF16" "HI_BYTE_SHIFT" "I" (.int (0 : Int32))) (SO : Sta Z h0 "java/lang/StringUTF16" "LO_BYTE_SHIFT" "I" (.int (8 : Int32))) :
    Con l (⟨"java/lang/StringUTF16", "toBytes", "([CII)[B"⟩ : MethodName) jdk_52_method_14_code 5 (some (.array .byte)) ({ frames := 2, cells := 1, slots := 8, locals := 24 } : Room) Z #[(.ref x), (.int (0 : Int32)), (.int (4 : Int32))] h0 (fun v h L => ∃ d, v = some (.ref d) ∧ Kp h0 h [] L ∧ Seq Z h d .byte [(.int (lo u0)), (.int (hi u0)), (.int (lo u1)), (.int (hi u1)), (.int (lo u2)), (.int (hi u2)), (.int (lo u3)), (.int (hi u3))] ∧ h0.size ≤ d) := by
  refine Con.of_body (plainFor_of_name pn_0) ?_
  intro p e s m below meth c T0 X0 hx hby hml hZ hown hnm hret hlk e0
  have hown : s.vm.findClass "java/lang/StringUTF16" = some m.cls := hown
  have hml : c.maxLocals = 5 := hml
  refine Goes.cast (ef17_RII m x (0 : Int32) (4 : Int32)) ?_
  have K0 := Kp.refl h0 []
  refine G.iloadN X0 hx (pc' := 1) (hb hby d17_0) rfl rfl ?_
  refine G.callS X0 hx hZ (y := (⟨"java/lang/StringUTF16", "newBytesFor", "(I)[B"⟩ : MethodName)) hown (hw _ (List.mem_of_getElem? (i := 82) rfl)) (hw _ (List.mem_of_getElem? (i := 83) rfl)) (hw _ (List.mem_of_getElem? (i := 22) rfl)) (hw _ (List.mem_of_getElem? (i := 84) rfl)) (by decide) e0 (rm := ({ frames := 1, cells := 1, slots := 8, locals := 12 } : Room)) (argsL := [(.int (4 : Int32))]) (S := []) (W := 0) (rm_nbf4 l Z a0 hw h0) (lenOf pd_13 rfl) rfl (Nat.le_of_eq rfl) (by decide) (by decide) (by decide) (by decide) (by rw [hml]; rfl) (hb hby d17_1) (pc' := 4) rfl ?_
  rintro T1 _ L1 ⟨d, rfl, Kq1, Ad1, gd1⟩ X1
  have A1_x := Seq.keep Bx Kq1.1 nin0
  have K1 := Kp.call K0 Kq1 all0
  have ne_x_d : x ≠ d := Nat.ne_of_lt (Nat.lt_of_lt_of_le Bx.lt gd1)
  have sz_d : h0.size ≤ d := gd1
  show Goes p e below T1 (mkF m 4 #[.val (.ref x), .val (.int (0 : Int32)), .val (.int (4 : Int32)), .unset, .unset] [(.ref d)]) _
  refine G.astoreN X1 hx (pc' := 5) (hb hby d17_4) rfl (L' := #[.val (.ref x), .val (.int (0 : Int32)), .val (.int (4 : Int32)), .val (.ref d), .unset]) rfl rfl ?_
  refine G.iconst X1 hx (pc' := 6) (hb hby d17_5) (z := (0 : Int32)) rfl rfl ?_
  refine G.istore X1 hx (pc' := 8) (hb hby d17_6) (L' := #[.val (.ref x), .val (.int (0 : Int32)), .val (.int (4 : Int32)), .val (.ref d), .val (.int (0 : Int32))]) rfl rfl ?_
  refine G.iload X1 hx (pc' := 10) (hb hby d17_8) rfl rfl ?_
  refine G.iloadN X1 hx (pc' := 11) (hb hby d17_10) rfl rfl ?_
  refine G.icmpF X1 hx (pc' := 14) (hb hby d17_11) (Jvm.Free.XT.ii_ge_f (by decide)) rfl ?_
  refine G.aloadN X1 hx (pc' := 15) (hb hby d17_14) rfl rfl rfl ?_
  refine G.iload X1 hx (pc' := 17) (hb hby d17_15) rfl rfl ?_
  refine G.aloadN X1 hx (pc' := 18) (hb hby d17_17) rfl rfl rfl ?_
  refine G.iloadN X1 hx (pc' := 19) (hb hby d17_18) rfl rfl ?_
  refine G.caload X1 hx hZ rfl A1_x (pc' := 20) (v := (.int u0)) (hb hby d17_19) (by decide) rfl rfl ?_
  refine G.callS X1 hx hZ (y := (⟨"java/lang/StringUTF16", "putChar", "([BII)V"⟩ : MethodName)) hown (hw _ (List.mem_of_getElem? (i := 89) rfl)) (hw _ (List.mem_of_getElem? (i := 90) rfl)) (hw _ (List.mem_of_getElem? (i := 22) rfl)) (hw _ (List.mem_of_getElem? (i := 91) rfl)) (by decide) rfl (rm := ({ frames := 0, cells := 0, slots := 0, locals := 0 } : Room)) (argsL := [(.ref d), (.int (0 : Int32)), (.int u0)]) (S := []) (W := 0) (rm_pu0_4 l Z a0 hw d [(.int (0 : Int32)), (.int (0 : Int32)), (.int (0 : Int32)), (.int (0 : Int32)), (.int (0 : Int32)), (.int (0 : Int32)), (.int (0 : Int32)), (.int (0 : Int32))] u0 T1.heap Ad1 (Sta.keep0 SA K1.1) (Sta.keep0 SH K1.1) (Sta.keep0 SO K1.1) rfl) (lenOf pd_14 rfl) rfl (Nat.le_of_eq rfl) (by decide) (by decide) (by decide) (by decide) (by rw [hml]; rfl) (hb hby d17_20) (pc' := 23) rfl ?_
  rintro T2 _ L2 ⟨rfl, Kq2, Ad2⟩ X2
  have A2_x := Seq.keep A1_x Kq2.1 (ninS ne_x_d nin0)
  have K2 := Kp.call K1 Kq2 (allS (Or.inr sz_d) all0)
  have Ad2' : Seq Z T2.heap d .byte [(.int (lo u0)), (.int (hi u0)), (.int (0 : Int32)), (.int (0 : Int32)), (.int (0 : Int32)), (.int (0 : Int32)), (.int (0 : Int32)), (.int (0 : Int32))] := Ad2
  show Goes p e below T2 (mkF m 23 #[.val (.ref x), .val (.int (0 : Int32)), .val (.int (4 : Int32)), .val (.ref d), .val (.int (0 : Int32))] []) _
  refine G.iinc X2 hx (pc' := 26) (hb hby d17_23) rfl (L' := #[.val (.ref x), .val (.int ((0 : Int32) + (1 : Int32))), .val (.int (4 : Int32)), .val (.ref d), .val (.int (0 : Int32))]) rfl rfl ?_
  refine G.iinc X2 hx (pc' := 29) (hb hby d17_26) rfl (L' := #[.val (.ref x), .val (.int ((0 : Int32) + (1 : Int32))), .val (.int (4 : Int32)), .val (.ref d), .val (.int ((0 : Int32) + (1 : Int32)))]) rfl rfl ?_
  refine G.goto X2 hx (pc' := 8) (hb hby d17_29) (by decide) (by decide) ?_
  show Goes p e below T2 (mkF m 8 #[.val (.ref x), .val (.int (1 : Int32)), .val (.int (4 : Int32)), .val (.ref d), .val (.int (1 : Int32))] []) _
  refine G.iload X2 hx (pc' := 10) (hb hby d17_8) rfl rfl ?_
  refine G.iloadN X2 hx (pc' := 11) (hb hby d17_10) rfl rfl ?_
  refine G.icmpF X2 hx (pc' := 14) (hb hby d17_11) (Jvm.Free.XT.ii_ge_f (by decide)) rfl ?_
  refine G.aloadN X2 hx (pc' := 15) (hb hby d17_14) rfl rfl rfl ?_
  refine G.iload X2 hx (pc' := 17) (hb hby d17_15) rfl rfl ?_
  refine G.aloadN X2 hx (pc' := 18) (hb hby d17_17) rfl rfl rfl ?_
  refine G.iloadN X2 hx (pc' := 19) (hb hby d17_18) rfl rfl ?_
  refine G.caload X2 hx hZ rfl A2_x (pc' := 20) (v := (.int u1)) (hb hby d17_19) (by decide) rfl rfl ?_
  refine G.callS X2 hx hZ (y := (⟨"java/lang/StringUTF16", "putChar", "([BII)V"⟩ : MethodName)) hown (hw _ (List.mem_of_getElem? (i := 89) rfl)) (hw _ (List.mem_of_getElem? (i := 90) rfl)) (hw _ (List.mem_of_getElem? (i := 22) rfl)) (hw _ (List.mem_of_getElem? (i := 91) rfl)) (by decide) rfl (rm := ({ frames := 0, cells := 0, slots := 0, locals := 0 } : Room)) (argsL := [(.ref d), (.int (1 : Int32)), (.int u1)]) (S := []) (W := 0) (rm_pu1_4 l Z a0 hw d [(.int (lo u0)), (.int (hi u0)), (.int (0 : Int32)), (.int (0 : Int32)), (.int (0 : Int32)), (.int (0 : Int32)), (.int (0 : Int32)), (.int (0 : Int32))] u1 T2.heap Ad2' (Sta.keep0 SA K2.1) (Sta.keep0 SH K2.1) (Sta.keep0 SO K2.1) rfl) (lenOf pd_14 rfl) rfl (Nat.le_of_eq rfl) (by decide) (by decide) (by decide) (by decide) (by rw [hml]; rfl) (hb hby d17_20) (pc' := 23) rfl ?_
  rintro T3 _ L3 ⟨rfl, Kq3, Ad3⟩ X3
  have A3_x := Seq.keep A2_x Kq3.1 (ninS ne_x_d nin0)
  have K3 := Kp.call K2 Kq3 (allS (Or.inr sz_d) all0)
  have Ad3' : Seq Z T3.heap d .byte [(.int (lo u0)), (.int (hi u0)), (.int (lo u1)), (.int (hi u1)), (.int (0 : Int32)), (.int (0 : Int32)), (.int (0 : Int32)), (.int (0 : Int32))] := Ad3
  show Goes p e below T3 (mkF m 23 #[.val (.ref x), .val (.int (1 : Int32)), .val (.int (4 : Int32)), .val (.ref d), .val (.int (1 : Int32))] []) _
  refine G.iinc X3 hx (pc' := 26) (hb hby d17_23) rfl (L' := #[.val (.ref x), .val (.int ((1 : Int32) + (1 : Int32))), .val (.int (4 : Int32)), .val (.ref d), .val (.int (1 : Int32))]) rfl rfl ?_
  refine G.iinc X3 hx (pc' := 29) (hb hby d17_26) rfl (L' := #[.val (.ref x), .val (.int ((1 : Int32) + (1 : Int32))), .val (.int (4 : Int32)), .val (.ref d), .val (.int ((1 : Int32) + (1 : Int32)))]) rfl rfl ?_
  refine G.goto X3 hx (pc' := 8) (hb hby d17_29) (by decide) (by decide) ?_
  show Goes p e below T3 (mkF m 8 #[.val (.ref x), .val (.int (2 : Int32)), .val (.int (4 : Int32)), .val (.ref d), .val (.int (2 : Int32))] []) _
  refine G.iload X3 hx (pc' := 10) (hb hby d17_8) rfl rfl ?_
  refine G.iloadN X3 hx (pc' := 11) (hb hby d17_10) rfl rfl ?_
  refine G.icmpF X3 hx (pc' := 14) (hb hby d17_11) (Jvm.Free.XT.ii_ge_f (by decide)) rfl ?_
  refine G.aloadN X3 hx (pc' := 15) (hb hby d17_14) rfl rfl rfl ?_
  refine G.iload X3 hx (pc' := 17) (hb hby d17_15) rfl rfl ?_
  refine G.aloadN X3 hx (pc' := 18) (hb hby d17_17) rfl rfl rfl ?_
  refine G.iloadN X3 hx (pc' := 19) (hb hby d17_18) rfl rfl ?_
  refine G.caload X3 hx hZ rfl A3_x (pc' := 20) (v := (.int u2)) (hb hby d17_19) (by decide) rfl rfl ?_
  refine G.callS X3 hx hZ (y := (⟨"java/lang/StringUTF16", "putChar", "([BII)V"⟩ : MethodName)) hown (hw _ (List.mem_of_getElem? (i := 89) rfl)) (hw _ (List.mem_of_getElem? (i := 90) rfl)) (hw _ (List.mem_of_getElem? (i := 22) rfl)) (hw _ (List.mem_of_getElem? (i := 91) rfl)) (by decide) rfl (rm := ({ frames := 0, cells := 0, slots := 0, locals := 0 } : Room)) (argsL := [(.ref d), (.int (2 : Int32)), (.int u2)]) (S := []) (W := 0) (rm_pu2_4 l Z a0 hw d [(.int (lo u0)), (.int (hi u0)), (.int (lo u1)), (.int (hi u1)), (.int (0 : Int32)), (.int (0 : Int32)), (.int (0 : Int32)), (.int (0 : Int32))] u2 T3.heap Ad3' (Sta.keep0 SA K3.1) (Sta.keep0 SH K3.1) (Sta.keep0 SO K3.1) rfl) (lenOf pd_14 rfl) rfl (Nat.le_of_eq rfl) (by decide) (by decide) (by decide) (by decide) (by rw [hml]; rfl) (hb hby d17_20) (pc' := 23) rfl ?_
  rintro T4 _ L4 ⟨rfl, Kq4, Ad4⟩ X4
  have A4_x := Seq.keep A3_x Kq4.1 (ninS ne_x_d nin0)
  have K4 := Kp.call K3 Kq4 (allS (Or.inr sz_d) all0)
  have Ad4' : Seq Z T4.heap d .byte [(.int (lo u0)), (.int (hi u0)), (.int (lo u1)), (.int (hi u1)), (.int (lo u2)), (.int (hi u2)), (.int (0 : Int32)), (.int (0 : Int32))] := Ad4
  show Goes p e below T4 (mkF m 23 #[.val (.ref x), .val (.int (2 : Int32)), .val (.int (4 : Int32)), .val (.ref d), .val (.int (2 : Int32))] []) _
  refine G.iinc X4 hx (pc' := 26) (hb hby d17_23) rfl (L' := #[.val (.ref x), .val (.int ((2 : Int32) + (1 : Int32))), .val (.int (4 : Int32)), .val (.ref d), .val (.int (2 : Int32))]) rfl rfl ?_
  refine G.iinc X4 hx (pc' := 29) (hb hby d17_26) rfl (L' := #[.val (.ref x), .val (.int ((2 : Int32) + (1 : Int32))), .val (.int (4 : Int32)), .val (.ref d), .val (.int ((2 : Int32) + (1 : Int32)))]) rfl rfl ?_
  refine G.goto X4 hx (pc' := 8) (hb hby d17_29) (by decide) (by decide) ?_
  show Goes p e below T4 (mkF m 8 #[.val (.ref x), .val (.int (3 : Int32)), .val (.int (4 : Int32)), .val (.ref d), .val (.int (3 : Int32))] []) _
  refine G.iload X4 hx (pc' := 10) (hb hby d17_8) rfl rfl ?_
  refine G.iloadN X4 hx (pc' := 11) (hb hby d17_10) rfl rfl ?_
  refine G.icmpF X4 hx (pc' := 14) (hb hby d17_11) (Jvm.Free.XT.ii_ge_f (by decide)) rfl ?_
  refine G.aloadN X4 hx (pc' := 15) (hb hby d17_14) rfl rfl rfl ?_
  refine G.iload X4 hx (pc' := 17) (hb hby d17_15) rfl rfl ?_
  refine G.aloadN X4 hx (pc' := 18) (hb hby d17_17) rfl rfl rfl ?_
  refine G.iloadN X4 hx (pc' := 19) (hb hby d17_18) rfl rfl ?_
  refine G.caload X4 hx hZ rfl A4_x (pc' := 20) (v := (.int u3)) (hb hby d17_19) (by decide) rfl rfl ?_
  refine G.callS X4 hx hZ (y := (⟨"java/lang/StringUTF16", "putChar", "([BII)V"⟩ : MethodName)) hown (hw _ (List.mem_of_getElem? (i := 89) rfl)) (hw _ (List.mem_of_getElem? (i := 90) rfl)) (hw _ (List.mem_of_getElem? (i := 22) rfl)) (hw _ (List.mem_of_getElem? (i := 91) rfl)) (by decide) rfl (rm := ({ frames := 0, cells := 0, slots := 0, locals := 0 } : Room)) (argsL := [(.ref d), (.int (3 : Int32)), (.int u3)]) (S := []) (W := 0) (rm_pu3_4 l Z a0 hw d [(.int (lo u0)), (.int (hi u0)), (.int (lo u1)), (.int (hi u1)), (.int (lo u2)), (.int (hi u2)), (.int (0 : Int32)), (.int (0 : Int32))] u3 T4.heap Ad4' (Sta.keep0 SA K4.1) (Sta.keep0 SH K4.1) (Sta.keep0 SO K4.1) rfl) (lenOf pd_14 rfl) rfl (Nat.le_of_eq rfl) (by decide) (by decide) (by decide) (by decide) (by rw [hml]; rfl) (hb hby d17_20) (pc' := 23) rfl ?_
  rintro T5 _ L5 ⟨rfl, Kq5, Ad5⟩ X5
  have A5_x := Seq.keep A4_x Kq5.1 (ninS ne_x_d nin0)
  have K5 := Kp.call K4 Kq5 (allS (Or.inr sz_d) all0)
  have Ad5' : Seq Z T5.heap d .byte [(.int (lo u0)), (.int (hi u0)), (.int (lo u1)), (.int (hi u1)), (.int (lo u2)), (.int (hi u2)), (.int (lo u3)), (.int (hi u3))] := Ad5
  show Goes p e below T5 (mkF m 23 #[.val (.ref x), .val (.int (3 : Int32)), .val (.int (4 : Int32)), .val (.ref d), .val (.int (3 : Int32))] []) _
  refine G.iinc X5 hx (pc' := 26) (hb hby d17_23) rfl (L' := #[.val (.ref x), .val (.int ((3 : Int32) + (1 : Int32))), .val (.int (4 : Int32)), .val (.ref d), .val (.int (3 : Int32))]) rfl rfl ?_
  refine G.iinc X5 hx (pc' := 29) (hb hby d17_26) rfl (L' := #[.val (.ref x), .val (.int ((3 : Int32) + (1 : Int32))), .val (.int (4 : Int32)), .val (.ref d), .val (.int ((3 : Int32) + (1 : Int32)))]) rfl rfl ?_
  refine G.goto X5 hx (pc' := 8) (hb hby d17_29) (by decide) (by decide) ?_
  show Goes p e below T5 (mkF m 8 #[.val (.ref x), .val (.int (4 : Int32)), .val (.int (4 : Int32)), .val (.ref d), .val (.int (4 : Int32))] []) _
  refine G.iload X5 hx (pc' := 10) (hb hby d17_8) rfl rfl ?_
  refine G.iloadN X5 hx (pc' := 11) (hb hby d17_10) rfl rfl ?_
  refine G.icmpT X5 hx (pc' := 32) (hb hby d17_11) (Jvm.Free.XT.ii_ge_t (by decide)) (by decide) (by decide) ?_
  refine G.aloadN X5 hx (pc' := 33) (hb hby d17_32) rfl rfl rfl ?_
  refine Goes.retA X5 hx hret rfl hlk rfl rfl (hb hby d17_33) (by decide) (by decide) ⟨d, rfl, K5, Ad5', sz_d⟩
set_option maxRecDepth 65536 in
set_option maxHeartbeats 40000000 in
theorem rm_c5_4_0 (l : Launch) (Z : State) (a0 : Array Value) (hw : ∀ d ∈ tables_1, d.before a0 Z = true) (x d : Addr) (u0 u1 u2 u3 : Int32) (h0 : Heap) (Bx : Seq Z h0 x .char [(.int u0), (.int u1), (.int u2), (.int u3)]) (Bd : Seq Z h0 d .byte [(.int (0 : Int32)), (.int (0 : Int32)), (.int (0 : Int32)), (.int (0 : Int32))]) (nxd : x ≠ d)  (hg : (255 : Int32) < u0) :
    Con l (⟨"java/lang/StringUTF16", "compress", "([CI[BII)I"⟩ : MethodName) jdk_52_method_21_code 7 (some .int) ({ frames := 0, cells := 0, slots := 0, locals := 0 } : Room) Z #[(.ref x), (.int (0 : Int32)), (.ref d), (.int (0 : Int32)), (.int (4 : Int32))] h0 (fun v h L => v = some (.int (0 : Int32)) ∧ Kp h0 h [d] L) := by
  refine Con.of_body (plainFor_of_name pn_0) ?_
  intro p e s m below meth c T0 X0 hx hby hml hZ hown hnm hret hlk e0
  have hown : s.vm.findClass "java/lang/StringUTF16" = some m.cls := hown
  have hml : c.maxLocals = 7 := hml
  refine Goes.cast (ef6_RIRII m x (0 : Int32) d (0 : Int32) (4 : Int32)) ?_
  have K0 := Kp.refl h0 [d]
  refine G.iconst X0 hx (pc' := 1) (hb hby d6_0) (z := (0 : Int32)) rfl rfl ?_
  refine G.istore X0 hx (pc' := 3) (hb hby d6_1) (L' := #[.val (.ref x), .val (.int (0 : Int32)), .val (.ref d), .val (.int (0 : Int32)), .val (.int (4 : Int32)), .val (.int (0 : Int32)), .unset]) rfl rfl ?_
  refine G.iload X0 hx (pc' := 5) (hb hby d6_3) rfl rfl ?_
  refine G.iload X0 hx (pc' := 7) (hb hby d6_5) rfl rfl ?_
  refine G.icmpF X0 hx (pc' := 10) (hb hby d6_7) (Jvm.Free.XT.ii_ge_f (by decide)) rfl ?_
  refine G.aloadN X0 hx (pc' := 11) (hb hby d6_10) rfl rfl rfl ?_
  refine G.iloadN X0 hx (pc' := 12) (hb hby d6_11) rfl rfl ?_
  refine G.caload X0 hx hZ e0 Bx (pc' := 13) (v := (.int u0)) (hb hby d6_12) (by decide) rfl rfl ?_
  refine G.istore X0 hx (pc' := 15) (hb hby d6_13) (L' := #[.val (.ref x), .val (.int (0 : Int32)), .val (.ref d), .val (.int (0 : Int32)), .val (.int (4 : Int32)), .val (.int (0 : Int32)), .val (.int u0)]) rfl rfl ?_
  refine G.iload X0 hx (pc' := 17) (hb hby d6_15) rfl rfl ?_
  refine G.sipush X0 hx (pc' := 20) (hb hby d6_17) (z := (255 : Int32)) rfl rfl ?_
  refine G.icmpF X0 hx (pc' := 23) (hb hby d6_20) (Jvm.Free.XT.ii_le_f hg) rfl ?_
  refine G.iload X0 hx (pc' := 25) (hb hby d6_23) rfl rfl ?_
  refine Goes.retI X0 hx hret hlk (hb hby d6_25) (by decide) (by decide) ⟨rfl, (by rw [e0]; exact K0)⟩
set_option maxRecDepth 65536 in
set_option maxHeartbeats 40000000 in
theorem rm_c5_4_1 (l : Launch) (Z : State) (a0 : Array Value) (hw : ∀ d ∈ tables_1, d.before a0 Z = true) (x d : Addr) (u0 u1 u2 u3 : Int32) (h0 : Heap) (Bx : Seq Z h0 x .char [(.int u0), (.int u1), (.int u2), (.int u3)]) (Bd : Seq Z h0 d .byte [(.int (0 : Int32)), (.int (0 : Int32)), (.int (0 : Int32)), (.int (0 : Int32))]) (nxd : x ≠ d) (hl0 : ¬ (255 : Int32) < u0) (hg : (255 : Int32) < u1) :
    Con l (⟨"java/lang/StringUTF16", "compress", "([CI[BII)I"⟩ : MethodName) jdk_52_method_21_code 7 (some .int) ({ frames := 0, cells := 0, slots := 0, locals := 0 } : Room) Z #[(.ref x), (.int (0 : Int32)), (.ref d), (.int (0 : Int32)), (.int (4 : Int32))] h0 (fun v h L => v = some (.int (1 : Int32)) ∧ Kp h0 h [d] L) := by
  refine Con.of_body (plainFor_of_name pn_0) ?_
  intro p e s m below meth c T0 X0 hx hby hml hZ hown hnm hret hlk e0
  have hown : s.vm.findClass "java/lang/StringUTF16" = some m.cls := hown
  have hml : c.maxLocals = 7 := hml
  refine Goes.cast (ef6_RIRII m x (0 : Int32) d (0 : Int32) (4 : Int32)) ?_
  have K0 := Kp.refl h0 [d]
  refine G.iconst X0 hx (pc' := 1) (hb hby d6_0) (z := (0 : Int32)) rfl rfl ?_
  refine G.istore X0 hx (pc' := 3) (hb hby d6_1) (L' := #[.val (.ref x), .val (.int (0 : Int32)), .val (.ref d), .val (.int (0 : Int32)), .val (.int (4 : Int32)), .val (.int (0 : Int32)), .unset]) rfl rfl ?_
  refine G.iload X0 hx (pc' := 5) (hb hby d6_3) rfl rfl ?_
  refine G.iload X0 hx (pc' := 7) (hb hby d6_5) rfl rfl ?_
  refine G.icmpF X0 hx (pc' := 10) (hb hby d6_7) (Jvm.Free.XT.ii_ge_f (by decide)) rfl ?_
  refine G.aloadN X0 hx (pc' := 11) (hb hby d6_10) rfl rfl rfl ?_
  refine G.iloadN X0 hx (pc' := 12) (hb hby d6_11) rfl rfl ?_
  refine G.caload X0 hx hZ e0 Bx (pc' := 13) (v := (.int u0)) (hb hby d6_12) (by decide) rfl rfl ?_
  refine G.istore X0 hx (pc' := 15) (hb hby d6_13) (L' := #[.val (.ref x), .val (.int (0 : Int32)), .val (.ref d), .val (.int (0 : Int32)), .val (.int (4 : Int32)), .val (.int (0 : Int32)), .val (.int u0)]) rfl rfl ?_
  refine G.iload X0 hx (pc' := 17) (hb hby d6_15) rfl rfl ?_
  refine G.sipush X0 hx (pc' := 20) (hb hby d6_17) (z := (255 : Int32)) rfl rfl ?_
  refine G.icmpT X0 hx (pc' := 26) (hb hby d6_20) (Jvm.Free.XT.ii_le_t hl0) (by decide) (by decide) ?_
  refine G.aloadN X0 hx (pc' := 27) (hb hby d6_26) rfl rfl rfl ?_
  refine G.iloadN X0 hx (pc' := 28) (hb hby d6_27) rfl rfl ?_
  refine G.iload X0 hx (pc' := 30) (hb hby d6_28) rfl rfl ?_
  refine G.i2b X0 hx (pc' := 31) (hb hby d6_30) rfl ?_
  refine G.bastore X0 hx hZ e0 Bd (pc' := 32) (hb hby d6_31) (by decide) (Nat.le_of_ble_eq_true rfl) rfl fun T1 h1 X1 e1 W1 A1 => ?_
  have A1_x := Seq.other Bx W1 nxd
  have K1 := Kp.wr K0 W1 (Or.inl (List.mem_of_getElem? (i := 0) rfl))
  have A1_d : Seq Z h1 d .byte [(.int (lb u0)), (.int (0 : Int32)), (.int (0 : Int32)), (.int (0 : Int32))] := A1
  refine G.iinc X1 hx (pc' := 35) (hb hby d6_32) rfl (L' := #[.val (.ref x), .val (.int ((0 : Int32) + (1 : Int32))), .val (.ref d), .val (.int (0 : Int32)), .val (.int (4 : Int32)), .val (.int (0 : Int32)), .val (.int u0)]) rfl rfl ?_
  refine G.iinc X1 hx (pc' := 38) (hb hby d6_35) rfl (L' := #[.val (.ref x), .val (.int ((0 : Int32) + (1 : Int32))), .val (.ref d), .val (.int ((0 : Int32) + (1 : Int32))), .val (.int (4 : Int32)), .val (.int (0 : Int32)), .val (.int u0)]) rfl rfl ?_
  refine G.iinc X1 hx (pc' := 41) (hb hby d6_38) rfl (L' := #[.val (.ref x), .val (.int ((0 : Int32) + (1 : Int32))), .val (.ref d), .val (.int ((0 : Int32) + (1 : Int32))), .val (.int (4 : Int32)), .val (.int ((0 : Int32) + (1 : Int32))), .val (.int u0)]) rfl rfl ?_
  refine G.goto X1 hx (pc' := 3) (hb hby d6_41) (by decide) (by decide) ?_
  show Goes p e below T1 (mkF m 3 #[.val (.ref x), .val (.int (1 : Int32)), .val (.ref d), .val (.int (1 : Int32)), .val (.int (4 : Int32)), .val (.int (1 : Int32)), .val (.int u0)] []) _
  refine G.iload X1 hx (pc' := 5) (hb hby d6_3) rfl rfl ?_
  refine G.iload X1 hx (pc' := 7) (hb hby d6_5) rfl rfl ?_
  refine G.icmpF X1 hx (pc' := 10) (hb hby d6_7) (Jvm.Free.XT.ii_ge_f (by decide)) rfl ?_
  refine G.aloadN X1 hx (pc' := 11) (hb hby d6_10) rfl rfl rfl ?_
  refine G.iloadN X1 hx (pc' := 12) (hb hby d6_11) rfl rfl ?_
  refine G.caload X1 hx hZ e1 A1_x (pc' := 13) (v := (.int u1)) (hb hby d6_12) (by decide) rfl rfl ?_
  refine G.istore X1 hx (pc' := 15) (hb hby d6_13) (L' := #[.val (.ref x), .val (.int (1 : Int32)), .val (.ref d), .val (.int (1 : Int32)), .val (.int (4 : Int32)), .val (.int (1 : Int32)), .val (.int u1)]) rfl rfl ?_
  refine G.iload X1 hx (pc' := 17) (hb hby d6_15) rfl rfl ?_
  refine G.sipush X1 hx (pc' := 20) (hb hby d6_17) (z := (255 : Int32)) rfl rfl ?_
  refine G.icmpF X1 hx (pc' := 23) (hb hby d6_20) (Jvm.Free.XT.ii_le_f hg) rfl ?_
  refine G.iload X1 hx (pc' := 25) (hb hby d6_23) rfl rfl ?_
  refine Goes.retI X1 hx hret hlk (hb hby d6_25) (by decide) (by decide) ⟨rfl, (by rw [e1]; exact K1)⟩
set_option maxRecDepth 65536 in
set_option maxHeartbeats 40000000 in
theorem rm_c5_4_2 (l : Launch) (Z : State) (a0 : Array Value) (hw : ∀ d ∈ tables_1, d.before a0 Z = true) (x d : Addr) (u0 u1 u2 u3 : Int32) (h0 : Heap) (Bx : Seq Z h0 x .char [(.int u0), (.int u1), (.int u2), (.int u3)]) (Bd : Seq Z h0 d .byte [(.int (0 : Int32)), (.int (0 : Int32)), (.int (0 : Int32)), (.int (0 : Int32))]) (nxd : x ≠ d) (hl0 : ¬ (255 : Int32) < u0) (hl1 : ¬ (255 : Int32) < u1) (hg : (255 : Int32) < u2) :
    Con l (⟨"java/lang/StringUTF16", "compress", "([CI[BII)I"⟩ : MethodName) jdk_52_method_21_code 7 (some .int) ({ frames := 0, cells := 0, slots := 0, locals := 0 } : Room) Z #[(.ref x), (.int (0 : Int32)), (.ref d), (.int (0 : Int32)), (.int (4 : Int32))] h0 (fun v h L => v = some (.int (2 : Int32)) ∧ Kp h0 h [d] L) := by
  refine Con.of_body (plainFor_of_name pn_0) ?_
  intro p e s m below meth c T0 X0 hx hby hml hZ hown hnm hret hlk e0
  have hown : s.vm.findClass "java/lang/StringUTF16" = some m.cls := hown
  have hml : c.maxLocals = 7 := hml
  refine Goes.cast (ef6_RIRII m x (0 : Int32) d (0 : Int32) (4 : Int32)) ?_
  have K0 := Kp.refl h0 [d]
  refine G.iconst X0 hx (pc' := 1) (hb hby d6_0) (z := (0 : Int32)) rfl rfl ?_
  refine G.istore X0 hx (pc' := 3) (hb hby d6_1) (L' := #[.val (.ref x), .val (.int (0 : Int32)), .val (.ref d), .val (.int (0 : Int32)), .val (.int (4 : Int32)), .val (.int (0 : Int32)), .unset]) rfl rfl ?_
  refine G.iload X0 hx (pc' := 5) (hb hby d6_3) rfl rfl ?_
  refine G.iload X0 hx (pc' := 7) (hb hby d6_5) rfl rfl ?_
  refine G.icmpF X0 hx (pc' := 10) (hb hby d6_7) (Jvm.Free.XT.ii_ge_f (by decide)) rfl ?_
  refine G.aloadN X0 hx (pc' := 11) (hb hby d6_10) rfl rfl rfl ?_
  refine G.iloadN X0 hx (pc' := 12) (hb hby d6_11) rfl rfl ?_
  refine G.caload X0 hx hZ e0 Bx (pc' := 13) (v := (.int u0)) (hb hby d6_12) (by decide) rfl rfl ?_
  refine G.istore X0 hx (pc' := 15) (hb hby d6_13) (L' := #[.val (.ref x), .val (.int (0 : Int32)), .val (.ref d), .val (.int (0 : Int32)), .val (.int (4 : Int32)), .val (.int (0 : Int32)), .val (.int u0)]) rfl rfl ?_
  refine G.iload X0 hx (pc' := 17) (hb hby d6_15) rfl rfl ?_
  refine G.sipush X0 hx (pc' := 20) (hb hby d6_17) (z := (255 : Int32)) rfl rfl ?_
  refine G.icmpT X0 hx (pc' := 26) (hb hby d6_20) (Jvm.Free.XT.ii_le_t hl0) (by decide) (by decide) ?_
  refine G.aloadN X0 hx (pc' := 27) (hb hby d6_26) rfl rfl rfl ?_
  refine G.iloadN X0 hx (pc' := 28) (hb hby d6_27) rfl rfl ?_
  refine G.iload X0 hx (pc' := 30) (hb hby d6_28) rfl rfl ?_
  refine G.i2b X0 hx (pc' := 31) (hb hby d6_30) rfl ?_
  refine G.bastore X0 hx hZ e0 Bd (pc' := 32) (hb hby d6_31) (by decide) (Nat.le_of_ble_eq_true rfl) rfl fun T1 h1 X1 e1 W1 A1 => ?_
  have A1_x := Seq.other Bx W1 nxd
  have K1 := Kp.wr K0 W1 (Or.inl (List.mem_of_getElem? (i := 0) rfl))
  have A1_d : Seq Z h1 d .byte [(.int (lb u0)), (.int (0 : Int32)), (.int (0 : Int32)), (.int (0 : Int32))] := A1
  refine G.iinc X1 hx (pc' := 35) (hb hby d6_32) rfl (L' := #[.val (.ref x), .val (.int ((0 : Int32) + (1 : Int32))), .val (.ref d), .val (.int (0 : Int32)), .val (.int (4 : Int32)), .val (.int (0 : Int32)), .val (.int u0)]) rfl rfl ?_
  refine G.iinc X1 hx (pc' := 38) (hb hby d6_35) rfl (L' := #[.val (.ref x), .val (.int ((0 : Int32) + (1 : Int32))), .val (.ref d), .val (.int ((0 : Int32) + (1 : Int32))), .val (.int (4 : Int32)), .val (.int (0 : Int32)), .val (.int u0)]) rfl rfl ?_
  refine G.iinc X1 hx (pc' := 41) (hb hby d6_38) rfl (L' := #[.val (.ref x), .val (.int ((0 : Int32) + (1 : Int32))), .val (.ref d), .val (.int ((0 : Int32) + (1 : Int32))), .val (.int (4 : Int32)), .val (.int ((0 : Int32) + (1 : Int32))), .val (.int u0)]) rfl rfl ?_
  refine G.goto X1 hx (pc' := 3) (hb hby d6_41) (by decide) (by decide) ?_
  show Goes p e below T1 (mkF m 3 #[.val (.ref x), .val (.int (1 : Int32)), .val (.ref d), .val (.int (1 : Int32)), .val (.int (4 : Int32)), .val (.int (1 : Int32)), .val (.int u0)] []) _
  refine G.iload X1 hx (pc' := 5) (hb hby d6_3) rfl rfl ?_
  refine G.iload X1 hx (pc' := 7) (hb hby d6_5) rfl rfl ?_
  refine G.icmpF X1 hx (pc' := 10) (hb hby d6_7) (Jvm.Free.XT.ii_ge_f (by decide)) rfl ?_
  refine G.aloadN X1 hx (pc' := 11) (hb hby d6_10) rfl rfl rfl ?_
  refine G.iloadN X1 hx (pc' := 12) (hb hby d6_11) rfl rfl ?_
  refine G.caload X1 hx hZ e1 A1_x (pc' := 13) (v := (.int u1)) (hb hby d6_12) (by decide) rfl rfl ?_
  refine G.istore X1 hx (pc' := 15) (hb hby d6_13) (L' := #[.val (.ref x), .val (.int (1 : Int32)), .val (.ref d), .val (.int (1 : Int32)), .val (.int (4 : Int32)), .val (.int (1 : Int32)), .val (.int u1)]) rfl rfl ?_
  refine G.iload X1 hx (pc' := 17) (hb hby d6_15) rfl rfl ?_
  refine G.sipush X1 hx (pc' := 20) (hb hby d6_17) (z := (255 : Int32)) rfl rfl ?_
  refine G.icmpT X1 hx (pc' := 26) (hb hby d6_20) (Jvm.Free.XT.ii_le_t hl1) (by decide) (by decide) ?_
  refine G.aloadN X1 hx (pc' := 27) (hb hby d6_26) rfl rfl rfl ?_
  refine G.iloadN X1 hx (pc' := 28) (hb hby d6_27) rfl rfl ?_
  refine G.iload X1 hx (pc' := 30) (hb hby d6_28) rfl rfl ?_
  refine G.i2b X1 hx (pc' := 31) (hb hby d6_30) rfl ?_
  refine G.bastore X1 hx hZ e1 A1_d (pc' := 32) (hb hby d6_31) (by decide) (Nat.le_of_ble_eq_true rfl) rfl fun T2 h2 X2 e2 W2 A2 => ?_
  have A2_x := Seq.other A1_x W2 nxd
  have K2 := Kp.wr K1 W2 (Or.inl (List.mem_of_getElem? (i := 0) rfl))
  have A2_d : Seq Z h2 d .byte [(.int (lb u0)), (.int (lb u1)), (.int (0 : Int32)), (.int (0 : Int32))] := A2
  refine G.iinc X2 hx (pc' := 35) (hb hby d6_32) rfl (L' := #[.val (.ref x), .val (.int ((1 : Int32) + (1 : Int32))), .val (.ref d), .val (.int (1 : Int32)), .val (.int (4 : Int32)), .val (.int (1 : Int32)), .val (.int u1)]) rfl rfl ?_
  refine G.iinc X2 hx (pc' := 38) (hb hby d6_35) rfl (L' := #[.val (.ref x), .val (.int ((1 : Int32) + (1 : Int32))), .val (.ref d), .val (.int ((1 : Int32) + (1 : Int32))), .val (.int (4 : Int32)), .val (.int (1 : Int32)), .val (.int u1)]) rfl rfl ?_
  refine G.iinc X2 hx (pc' := 41) (hb hby d6_38) rfl (L' := #[.val (.ref x), .val (.int ((1 : Int32) + (1 : Int32))), .val (.ref d), .val (.int ((1 : Int32) + (1 : Int32))), .val (.int (4 : Int32)), .val (.int ((1 : Int32) + (1 : Int32))), .val (.int u1)]) rfl rfl ?_
  refine G.goto X2 hx (pc' := 3) (hb hby d6_41) (by decide) (by decide) ?_
  show Goes p e below T2 (mkF m 3 #[.val (.ref x), .val (.int (2 : Int32)), .val (.ref d), .val (.int (2 : Int32)), .val (.int (4 : Int32)), .val (.int (2 : Int32)), .val (.int u1)] []) _
  refine G.iload X2 hx (pc' := 5) (hb hby d6_3) rfl rfl ?_
  refine G.iload X2 hx (pc' := 7) (hb hby d6_5) rfl rfl ?_
  refine G.icmpF X2 hx (pc' := 10) (hb hby d6_7) (Jvm.Free.XT.ii_ge_f (by decide)) rfl ?_
  refine G.aloadN X2 hx (pc' := 11) (hb hby d6_10) rfl rfl rfl ?_
  refine G.iloadN X2 hx (pc' := 12) (hb hby d6_11) rfl rfl ?_
  refine G.caload X2 hx hZ e2 A2_x (pc' := 13) (v := (.int u2)) (hb hby d6_12) (by decide) rfl rfl ?_
  refine G.istore X2 hx (pc' := 15) (hb hby d6_13) (L' := #[.val (.ref x), .val (.int (2 : Int32)), .val (.ref d), .val (.int (2 : Int32)), .val (.int (4 : Int32)), .val (.int (2 : Int32)), .val (.int u2)]) rfl rfl ?_
  refine G.iload X2 hx (pc' := 17) (hb hby d6_15) rfl rfl ?_
  refine G.sipush X2 hx (pc' := 20) (hb hby d6_17) (z := (255 : Int32)) rfl rfl ?_
  refine G.icmpF X2 hx (pc' := 23) (hb hby d6_20) (Jvm.Free.XT.ii_le_f hg) rfl ?_
  refine G.iload X2 hx (pc' := 25) (hb hby d6_23) rfl rfl ?_
  refine Goes.retI X2 hx hret hlk (hb hby d6_25) (by decide) (by decide) ⟨rfl, (by rw [e2]; exact K2)⟩
set_option maxRecDepth 65536 in
set_option maxHeartbeats 40000000 in
theorem rm_c5_4_3 (l : Launch) (Z : State) (a0 : Array Value) (hw : ∀ d ∈ tables_1, d.before a0 Z = true) (x d : Addr) (u0 u1 u2 u3 : Int32) (h0 : Heap) (Bx : Seq Z h0 x .char [(.int u0), (.int u1), (.int u2), (.int u3)]) (Bd : Seq Z h0 d .byte [(.int (0 : Int32)), (.int (0 : Int32)), (.int (0 : Int32)), (.int (0 : Int32))]) (nxd : x ≠ d) (hl0 : ¬ (255 : Int32) < u0) (hl1 : ¬ (255 : Int32) < u1) (hl2 : ¬ (255 : Int32) < u2) (hg : (255 : Int32) < u3) :
    Con l (⟨"java/lang/StringUTF16", "compress", "([CI[BII)I"⟩ : MethodName) jdk_52_method_21_code 7 (some .int) ({ frames := 0, cells := 0, slots := 0, locals := 0 } : Room) Z #[(.ref x), (.int (0 : Int32)), (.ref d), (.int (0 : Int32)), (.int (4 : Int32))] h0 (fun v h L => v = some (.int (3 : Int32)) ∧ Kp h0 h [d] L) := by
  refine Con.of_body (plainFor_of_name pn_0) ?_
  intro p e s m below meth c T0 X0 hx hby hml hZ hown hnm hret hlk e0
  have hown : s.vm.findClass "java/lang/StringUTF16" = some m.cls := hown
  have hml : c.maxLocals = 7 := hml
  refine Goes.cast (ef6_RIRII m x (0 : Int32) d (0 : Int32) (4 : Int32)) ?_
  have K0 := Kp.refl h0 [d]
  refine G.iconst X0 hx (pc' := 1) (hb hby d6_0) (z := (0 : Int32)) rfl rfl ?_
  refine G.istore X0 hx (pc' := 3) (hb hby d6_1) (L' := #[.val (.ref x), .val (.int (0 : Int32)), .val (.ref d), .val (.int (0 : Int32)), .val (.int (4 : Int32)), .val (.int (0 : Int32)), .unset]) rfl rfl ?_
  refine G.iload X0 hx (pc' := 5) (hb hby d6_3) rfl rfl ?_
  refine G.iload X0 hx (pc' := 7) (hb hby d6_5) rfl rfl ?_
  refine G.icmpF X0 hx (pc' := 10) (hb hby d6_7) (Jvm.Free.XT.ii_ge_f (by decide)) rfl ?_
  refine G.aloadN X0 hx (pc' := 11) (hb hby d6_10) rfl rfl rfl ?_
  refine G.iloadN X0 hx (pc' := 12) (hb hby d6_11) rfl rfl ?_
  refine G.caload X0 hx hZ e0 Bx (pc' := 13) (v := (.int u0)) (hb hby d6_12) (by decide) rfl rfl ?_
  refine G.istore X0 hx (pc' := 15) (hb hby d6_13) (L' := #[.val (.ref x), .val (.int (0 : Int32)), .val (.ref d), .val (.int (0 : Int32)), .val (.int (4 : Int32)), .val (.int (0 : Int32)), .val (.int u0)]) rfl rfl ?_
  refine G.iload X0 hx (pc' := 17) (hb hby d6_15) rfl rfl ?_
  refine G.sipush X0 hx (pc' := 20) (hb hby d6_17) (z := (255 : Int32)) rfl rfl ?_
  refine G.icmpT X0 hx (pc' := 26) (hb hby d6_20) (Jvm.Free.XT.ii_le_t hl0) (by decide) (by decide) ?_
  refine G.aloadN X0 hx (pc' := 27) (hb hby d6_26) rfl rfl rfl ?_
  refine G.iloadN X0 hx (pc' := 28) (hb hby d6_27) rfl rfl ?_
  refine G.iload X0 hx (pc' := 30) (hb hby d6_28) rfl rfl ?_
  refine G.i2b X0 hx (pc' := 31) (hb hby d6_30) rfl ?_
  refine G.bastore X0 hx hZ e0 Bd (pc' := 32) (hb hby d6_31) (by decide) (Nat.le_of_ble_eq_true rfl) rfl fun T1 h1 X1 e1 W1 A1 => ?_
  have A1_x := Seq.other Bx W1 nxd
  have K1 := Kp.wr K0 W1 (Or.inl (List.mem_of_getElem? (i := 0) rfl))
  have A1_d : Seq Z h1 d .byte [(.int (lb u0)), (.int (0 : Int32)), (.int (0 : Int32)), (.int (0 : Int32))] := A1
  refine G.iinc X1 hx (pc' := 35) (hb hby d6_32) rfl (L' := #[.val (.ref x), .val (.int ((0 : Int32) + (1 : Int32))), .val (.ref d), .val (.int (0 : Int32)), .val (.int (4 : Int32)), .val (.int (0 : Int32)), .val (.int u0)]) rfl rfl ?_
  refine G.iinc X1 hx (pc' := 38) (hb hby d6_35) rfl (L' := #[.val (.ref x), .val (.int ((0 : Int32) + (1 : Int32))), .val (.ref d), .val (.int ((0 : Int32) + (1 : Int32))), .val (.int (4 : Int32)), .val (.int (0 : Int32)), .val (.int u0)]) rfl rfl ?_
  refine G.iinc X1 hx (pc' := 41) (hb hby d6_38) rfl (L' := #[.val (.ref x), .val (.int ((0 : Int32) + (1 : Int32))), .val (.ref d), .val (.int ((0 : Int32) + (1 : Int32))), .val (.int (4 : Int32)), .val (.int ((0 : Int32) + (1 : Int32))), .val (.int u0)]) rfl rfl ?_
  refine G.goto X1 hx (pc' := 3) (hb hby d6_41) (by decide) (by decide) ?_
  show Goes p e below T1 (mkF m 3 #[.val (.ref x), .val (.int (1 : Int32)), .val (.ref d), .val (.int (1 : Int32)), .val (.int (4 : Int32)), .val (.int (1 : Int32)), .val (.int u0)] []) _
  refine G.iload X1 hx (pc' := 5) (hb hby d6_3) rfl rfl ?_
  refine G.iload X1 hx (pc' := 7) (hb hby d6_5) rfl rfl ?_
  refine G.icmpF X1 hx (pc' := 10) (hb hby d6_7) (Jvm.Free.XT.ii_ge_f (by decide)) rfl ?_
  refine G.aloadN X1 hx (pc' := 11) (hb hby d6_10) rfl rfl rfl ?_
  refine G.iloadN X1 hx (pc' := 12) (hb hby d6_11) rfl rfl ?_
  refine G.caload X1 hx hZ e1 A1_x (pc' := 13) (v := (.int u1)) (hb hby d6_12) (by decide) rfl rfl ?_
  refine G.istore X1 hx (pc' := 15) (hb hby d6_13) (L' := #[.val (.ref x), .val (.int (1 : Int32)), .val (.ref d), .val (.int (1 : Int32)), .val (.int (4 : Int32)), .val (.int (1 : Int32)), .val (.int u1)]) rfl rfl ?_
  refine G.iload X1 hx (pc' := 17) (hb hby d6_15) rfl rfl ?_
  refine G.sipush X1 hx (pc' := 20) (hb hby d6_17) (z := (255 : Int32)) rfl rfl ?_
  refine G.icmpT X1 hx (pc' := 26) (hb hby d6_20) (Jvm.Free.XT.ii_le_t hl1) (by decide) (by decide) ?_
  refine G.aloadN X1 hx (pc' := 27) (hb hby d6_26) rfl rfl rfl ?_
  refine G.iloadN X1 hx (pc' := 28) (hb hby d6_27) rfl rfl ?_
  refine G.iload X1 hx (pc' := 30) (hb hby d6_28) rfl rfl ?_
  refine G.i2b X1 hx (pc' := 31) (hb hby d6_30) rfl ?_
  refine G.bastore X1 hx hZ e1 A1_d (pc' := 32) (hb hby d6_31) (by decide) (Nat.le_of_ble_eq_true rfl) rfl fun T2 h2 X2 e2 W2 A2 => ?_
  have A2_x := Seq.other A1_x W2 nxd
  have K2 := Kp.wr K1 W2 (Or.inl (List.mem_of_getElem? (i := 0) rfl))
  have A2_d : Seq Z h2 d .byte [(.int (lb u0)), (.int (lb u1)), (.int (0 : Int32)), (.int (0 : Int32))] := A2
  refine G.iinc X2 hx (pc' := 35) (hb hby d6_32) rfl (L' := #[.val (.ref x), .val (.int ((1 : Int32) + (1 : Int32))), .val (.ref d), .val (.int (1 : Int32)), .val (.int (4 : Int32)), .val (.int (1 : Int32)), .val (.int u1)]) rfl rfl ?_
  refine G.iinc X2 hx (pc' := 38) (hb hby d6_35) rfl (L' := #[.val (.ref x), .val (.int ((1 : Int32) + (1 : Int32))), .val (.ref d), .val (.int ((1 : Int32) + (1 : Int32))), .val (.int (4 : Int32)), .val (.int (1 : Int32)), .val (.int u1)]) rfl rfl ?_
  refine G.iinc X2 hx (pc' := 41) (hb hby d6_38) rfl (L' := #[.val (.ref x), .val (.int ((1 : Int32) + (1 : Int32))), .val (.ref d), .val (.int ((1 : Int32) + (1 : Int32))), .val (.int (4 : Int32)), .val (.int ((1 : Int32) + (1 : Int32))), .val (.int u1)]) rfl rfl ?_
  refine G.goto X2 hx (pc' := 3) (hb hby d6_41) (by decide) (by decide) ?_
  show Goes p e below T2 (mkF m 3 #[.val (.ref x), .val (.int (2 : Int32)), .val (.ref d), .val (.int (2 : Int32)), .val (.int (4 : Int32)), .val (.int (2 : Int32)), .val (.int u1)] []) _
  refine G.iload X2 hx (pc' := 5) (hb hby d6_3) rfl rfl ?_
  refine G.iload X2 hx (pc' := 7) (hb hby d6_5) rfl rfl ?_
  refine G.icmpF X2 hx (pc' := 10) (hb hby d6_7) (Jvm.Free.XT.ii_ge_f (by decide)) rfl ?_
  refine G.aloadN X2 hx (pc' := 11) (hb hby d6_10) rfl rfl rfl ?_
  refine G.iloadN X2 hx (pc' := 12) (hb hby d6_11) rfl rfl ?_
  refine G.caload X2 hx hZ e2 A2_x (pc' := 13) (v := (.int u2)) (hb hby d6_12) (by decide) rfl rfl ?_
  refine G.istore X2 hx (pc' := 15) (hb hby d6_13) (L' := #[.val (.ref x), .val (.int (2 : Int32)), .val (.ref d), .val (.int (2 : Int32)), .val (.int (4 : Int32)), .val (.int (2 : Int32)), .val (.int u2)]) rfl rfl ?_
  refine G.iload X2 hx (pc' := 17) (hb hby d6_15) rfl rfl ?_
  refine G.sipush X2 hx (pc' := 20) (hb hby d6_17) (z := (255 : Int32)) rfl rfl ?_
  refine G.icmpT X2 hx (pc' := 26) (hb hby d6_20) (Jvm.Free.XT.ii_le_t hl2) (by decide) (by decide) ?_
  refine G.aloadN X2 hx (pc' := 27) (hb hby d6_26) rfl rfl rfl ?_
  refine G.iloadN X2 hx (pc' := 28) (hb hby d6_27) rfl rfl ?_
  refine G.iload X2 hx (pc' := 30) (hb hby d6_28) rfl rfl ?_
  refine G.i2b X2 hx (pc' := 31) (hb hby d6_30) rfl ?_
  refine G.bastore X2 hx hZ e2 A2_d (pc' := 32) (hb hby d6_31) (by decide) (Nat.le_of_ble_eq_true rfl) rfl fun T3 h3 X3 e3 W3 A3 => ?_
  have A3_x := Seq.other A2_x W3 nxd
  have K3 := Kp.wr K2 W3 (Or.inl (List.mem_of_getElem? (i := 0) rfl))
  have A3_d : Seq Z h3 d .byte [(.int (lb u0)), (.int (lb u1)), (.int (lb u2)), (.int (0 : Int32))] := A3
  refine G.iinc X3 hx (pc' := 35) (hb hby d6_32) rfl (L' := #[.val (.ref x), .val (.int ((2 : Int32) + (1 : Int32))), .val (.ref d), .val (.int (2 : Int32)), .val (.int (4 : Int32)), .val (.int (2 : Int32)), .val (.int u2)]) rfl rfl ?_
  refine G.iinc X3 hx (pc' := 38) (hb hby d6_35) rfl (L' := #[.val (.ref x), .val (.int ((2 : Int32) + (1 : Int32))), .val (.ref d), .val (.int ((2 : Int32) + (1 : Int32))), .val (.int (4 : Int32)), .val (.int (2 : Int32)), .val (.int u2)]) rfl rfl ?_
  refine G.iinc X3 hx (pc' := 41) (hb hby d6_38) rfl (L' := #[.val (.ref x), .val (.int ((2 : Int32) + (1 : Int32))), .val (.ref d), .val (.int ((2 : Int32) + (1 : Int32))), .val (.int (4 : Int32)), .val (.int ((2 : Int32) + (1 : Int32))), .val (.int u2)]) rfl rfl ?_
  refine G.goto X3 hx (pc' := 3) (hb hby d6_41) (by decide) (by decide) ?_
  show Goes p e below T3 (mkF m 3 #[.val (.ref x), .val (.int (3 : Int32)), .val (.ref d), .val (.int (3 : Int32)), .val (.int (4 : Int32)), .val (.int (3 : Int32)), .val (.int u2)] []) _
  refine G.iload X3 hx (pc' := 5) (hb hby d6_3) rfl rfl ?_
  refine G.iload X3 hx (pc' := 7) (hb hby d6_5) rfl rfl ?_
  refine G.icmpF X3 hx (pc' := 10) (hb hby d6_7) (Jvm.Free.XT.ii_ge_f (by decide)) rfl ?_
  refine G.aloadN X3 hx (pc' := 11) (hb hby d6_10) rfl rfl rfl ?_
  refine G.iloadN X3 hx (pc' := 12) (hb hby d6_11) rfl rfl ?_
  refine G.caload X3 hx hZ e3 A3_x (pc' := 13) (v := (.int u3)) (hb hby d6_12) (by decide) rfl rfl ?_
  refine G.istore X3 hx (pc' := 15) (hb hby d6_13) (L' := #[.val (.ref x), .val (.int (3 : Int32)), .val (.ref d), .val (.int (3 : Int32)), .val (.int (4 : Int32)), .val (.int (3 : Int32)), .val (.int u3)]) rfl rfl ?_
  refine G.iload X3 hx (pc' := 17) (hb hby d6_15) rfl rfl ?_
  refine G.sipush X3 hx (pc' := 20) (hb hby d6_17) (z := (255 : Int32)) rfl rfl ?_
  refine G.icmpF X3 hx (pc' := 23) (hb hby d6_20) (Jvm.Free.XT.ii_le_f hg) rfl ?_
  refine G.iload X3 hx (pc' := 25) (hb hby d6_23) rfl rfl ?_
  refine Goes.retI X3 hx hret hlk (hb hby d6_25) (by decide) (by decide) ⟨rfl, (by rw [e3]; exact K3)⟩
set_option maxRecDepth 65536 in
set_option maxHeartbeats 40000000 in
theorem rm_c5_4_4 (l : Launch) (Z : State) (a0 : Array Value) (hw : ∀ d ∈ tables_1, d.before a0 Z = true) (x d : Addr) (u0 u1 u2 u3 : Int32) (h0 : Heap) (Bx : Seq Z h0 x .char [(.int u0), (.int u1), (.int u2), (.int u3)]) (Bd : Seq Z h0 d .byte [(.int (0 : Int32)), (.int (0 : Int32)), (.int (0 : Int32)), (.int (0 : Int32))]) (nxd : x ≠ d) (hl0 : ¬ (255 : Int32) < u0) (hl1 : ¬ (255 : Int32) < u1) (hl2 : ¬ (255 : Int32) < u2) (hl3 : ¬ (255 : Int32) < u3) :
    Con l (⟨"java/lang/StringUTF16", "compress", "([CI[BII)I"⟩ : MethodName) jdk_52_method_21_code 7 (some .int) ({ frames := 0, cells := 0, slots := 0, locals := 0 } : Room) Z #[(.ref x), (.int (0 : Int32)), (.ref d), (.int (0 : Int32)), (.int (4 : Int32))] h0 (fun v h L => v = some (.int (4 : Int32)) ∧ Kp h0 h [d] L ∧ Seq Z h d .byte [(.int (lb u0)), (.int (lb u1)), (.int (lb u2)), (.int (lb u3))]) := by
  refine Con.of_body (plainFor_of_name pn_0) ?_
  intro p e s m below meth c T0 X0 hx hby hml hZ hown hnm hret hlk e0
  have hown : s.vm.findClass "java/lang/StringUTF16" = some m.cls := hown
  have hml : c.maxLocals = 7 := hml
  refine Goes.cast (ef6_RIRII m x (0 : Int32) d (0 : Int32) (4 : Int32)) ?_
  have K0 := Kp.refl h0 [d]
  refine G.iconst X0 hx (pc' := 1) (hb hby d6_0) (z := (0 : Int32)) rfl rfl ?_
  refine G.istore X0 hx (pc' := 3) (hb hby d6_1) (L' := #[.val (.ref x), .val (.int (0 : Int32)), .val (.ref d), .val (.int (0 : Int32)), .val (.int (4 : Int32)), .val (.int (0 : Int32)), .unset]) rfl rfl ?_
  refine G.iload X0 hx (pc' := 5) (hb hby d6_3) rfl rfl ?_
  refine G.iload X0 hx (pc' := 7) (hb hby d6_5) rfl rfl ?_
  refine G.icmpF X0 hx (pc' := 10) (hb hby d6_7) (Jvm.Free.XT.ii_ge_f (by decide)) rfl ?_
  refine G.aloadN X0 hx (pc' := 11) (hb hby d6_10) rfl rfl rfl ?_
  refine G.iloadN X0 hx (pc' := 12) (hb hby d6_11) rfl rfl ?_
  refine G.caload X0 hx hZ e0 Bx (pc' := 13) (v := (.int u0)) (hb hby d6_12) (by decide) rfl rfl ?_
  refine G.istore X0 hx (pc' := 15) (hb hby d6_13) (L' := #[.val (.ref x), .val (.int (0 : Int32)), .val (.ref d), .val (.int (0 : Int32)), .val (.int (4 : Int32)), .val (.int (0 : Int32)), .val (.int u0)]) rfl rfl ?_
  refine G.iload X0 hx (pc' := 17) (hb hby d6_15) rfl rfl ?_
  refine G.sipush X0 hx (pc' := 20) (hb hby d6_17) (z := (255 : Int32)) rfl rfl ?_
  refine G.icmpT X0 hx (pc' := 26) (hb hby d6_20) (Jvm.Free.XT.ii_le_t hl0) (by decide) (by decide) ?_
  refine G.aloadN X0 hx (pc' := 27) (hb hby d6_26) rfl rfl rfl ?_
  refine G.iloadN X0 hx (pc' := 28) (hb hby d6_27) rfl rfl ?_
  refine G.iload X0 hx (pc' := 30) (hb hby d6_28) rfl rfl ?_
  refine G.i2b X0 hx (pc' := 31) (hb hby d6_30) rfl ?_
  refine G.bastore X0 hx hZ e0 Bd (pc' := 32) (hb hby d6_31) (by decide) (Nat.le_of_ble_eq_true rfl) rfl fun T1 h1 X1 e1 W1 A1 => ?_
  have A1_x := Seq.other Bx W1 nxd
  have K1 := Kp.wr K0 W1 (Or.inl (List.mem_of_getElem? (i := 0) rfl))
  have A1_d : Seq Z h1 d .byte [(.int (lb u0)), (.int (0 : Int32)), (.int (0 : Int32)), (.int (0 : Int32))] := A1
  refine G.iinc X1 hx (pc' := 35) (hb hby d6_32) rfl (L' := #[.val (.ref x), .val (.int ((0 : Int32) + (1 : Int32))), .val (.ref d), .val (.int (0 : Int32)), .val (.int (4 : Int32)), .val (.int (0 : Int32)), .val (.int u0)]) rfl rfl ?_
  refine G.iinc X1 hx (pc' := 38) (hb hby d6_35) rfl (L' := #[.val (.ref x), .val (.int ((0 : Int32) + (1 : Int32))), .val (.ref d), .val (.int ((0 : Int32) + (1 : Int32))), .val (.int (4 : Int32)), .val (.int (0 : Int32)), .val (.int u0)]) rfl rfl ?_
  refine G.iinc X1 hx (pc' := 41) (hb hby d6_38) rfl (L' := #[.val (.ref x), .val (.int ((0 : Int32) + (1 : Int32))), .val (.ref d), .val (.int ((0 : Int32) + (1 : Int32))), .val (.int (4 : Int32)), .val (.int ((0 : Int32) + (1 : Int32))), .val (.int u0)]) rfl rfl ?_
  refine G.goto X1 hx (pc' := 3) (hb hby d6_41) (by decide) (by decide) ?_
  show Goes p e below T1 (mkF m 3 #[.val (.ref x), .val (.int (1 : Int32)), .val (.ref d), .val (.int (1 : Int32)), .val (.int (4 : Int32)), .val (.int (1 : Int32)), .val (.int u0)] []) _
  refine G.iload X1 hx (pc' := 5) (hb hby d6_3) rfl rfl ?_
  refine G.iload X1 hx (pc' := 7) (hb hby d6_5) rfl rfl ?_
  refine G.icmpF X1 hx (pc' := 10) (hb hby d6_7) (Jvm.Free.XT.ii_ge_f (by decide)) rfl ?_
  refine G.aloadN X1 hx (pc' := 11) (hb hby d6_10) rfl rfl rfl ?_
  refine G.iloadN X1 hx (pc' := 12) (hb hby d6_11) rfl rfl ?_
  refine G.caload X1 hx hZ e1 A1_x (pc' := 13) (v := (.int u1)) (hb hby d6_12) (by decide) rfl rfl ?_
  refine G.istore X1 hx (pc' := 15) (hb hby d6_13) (L' := #[.val (.ref x), .val (.int (1 : Int32)), .val (.ref d), .val (.int (1 : Int32)), .val (.int (4 : Int32)), .val (.int (1 : Int32)), .val (.int u1)]) rfl rfl ?_
  refine G.iload X1 hx (pc' := 17) (hb hby d6_15) rfl rfl ?_
  refine G.sipush X1 hx (pc' := 20) (hb hby d6_17) (z := (255 : Int32)) rfl rfl ?_
  refine G.icmpT X1 hx (pc' := 26) (hb hby d6_20) (Jvm.Free.XT.ii_le_t hl1) (by decide) (by decide) ?_
  refine G.aloadN X1 hx (pc' := 27) (hb hby d6_26) rfl rfl rfl ?_
  refine G.iloadN X1 hx (pc' := 28) (hb hby d6_27) rfl rfl ?_
  refine G.iload X1 hx (pc' := 30) (hb hby d6_28) rfl rfl ?_
  refine G.i2b X1 hx (pc' := 31) (hb hby d6_30) rfl ?_
  refine G.bastore X1 hx hZ e1 A1_d (pc' := 32) (hb hby d6_31) (by decide) (Nat.le_of_ble_eq_true rfl) rfl fun T2 h2 X2 e2 W2 A2 => ?_
  have A2_x := Seq.other A1_x W2 nxd
  have K2 := Kp.wr K1 W2 (Or.inl (List.mem_of_getElem? (i := 0) rfl))
  have A2_d : Seq Z h2 d .byte [(.int (lb u0)), (.int (lb u1)), (.int (0 : Int32)), (.int (0 : Int32))] := A2
  refine G.iinc X2 hx (pc' := 35) (hb hby d6_32) rfl (L' := #[.val (.ref x), .val (.int ((1 : Int32) + (1 : Int32))), .val (.ref d), .val (.int (1 : Int32)), .val (.int (4 : Int32)), .val (.int (1 : Int32)), .val (.int u1)]) rfl rfl ?_
  refine G.iinc X2 hx (pc' := 38) (hb hby d6_35) rfl (L' := #[.val (.ref x), .val (.int ((1 : Int32) + (1 : Int32))), .val (.ref d), .val (.int ((1 : Int32) + (1 : Int32))), .val (.int (4 : Int32)), .val (.int (1 : Int32)), .val (.int u1)]) rfl rfl ?_
  refine G.iinc X2 hx (pc' := 41) (hb hby d6_38) rfl (L' := #[.val (.ref x), .val (.int ((1 : Int32) + (1 : Int32))), .val (.ref d), .val (.int ((1 : Int32) + (1 : Int32))), .val (.int (4 : Int32)), .val (.int ((1 : Int32) + (1 : Int32))), .val (.int u1)]) rfl rfl ?_
  refine G.goto X2 hx (pc' := 3) (hb hby d6_41) (by decide) (by decide) ?_
  show Goes p e below T2 (mkF m 3 #[.val (.ref x), .val (.int (2 : Int32)), .val (.ref d), .val (.int (2 : Int32)), .val (.int (4 : Int32)), .val (.int (2 : Int32)), .val (.int u1)] []) _
  refine G.iload X2 hx (pc' := 5) (hb hby d6_3) rfl rfl ?_
  refine G.iload X2 hx (pc' := 7) (hb hby d6_5) rfl rfl ?_
  refine G.icmpF X2 hx (pc' := 10) (hb hby d6_7) (Jvm.Free.XT.ii_ge_f (by decide)) rfl ?_
  refine G.aloadN X2 hx (pc' := 11) (hb hby d6_10) rfl rfl rfl ?_
  refine G.iloadN X2 hx (pc' := 12) (hb hby d6_11) rfl rfl ?_
  refine G.caload X2 hx hZ e2 A2_x (pc' := 13) (v := (.int u2)) (hb hby d6_12) (by decide) rfl rfl ?_
  refine G.istore X2 hx (pc' := 15) (hb hby d6_13) (L' := #[.val (.ref x), .val (.int (2 : Int32)), .val (.ref d), .val (.int (2 : Int32)), .val (.int (4 : Int32)), .val (.int (2 : Int32)), .val (.int u2)]) rfl rfl ?_
  refine G.iload X2 hx (pc' := 17) (hb hby d6_15) rfl rfl ?_
  refine G.sipush X2 hx (pc' := 20) (hb hby d6_17) (z := (255 : Int32)) rfl rfl ?_
  refine G.icmpT X2 hx (pc' := 26) (hb hby d6_20) (Jvm.Free.XT.ii_le_t hl2) (by decide) (by decide) ?_
  refine G.aloadN X2 hx (pc' := 27) (hb hby d6_26) rfl rfl rfl ?_
  refine G.iloadN X2 hx (pc' := 28) (hb hby d6_27) rfl rfl ?_
  refine G.iload X2 hx (pc' := 30) (hb hby d6_28) rfl rfl ?_
  refine G.i2b X2 hx (pc' := 31) (hb hby d6_30) rfl ?_
  refine G.bastore X2 hx hZ e2 A2_d (pc' := 32) (hb hby d6_31) (by decide) (Nat.le_of_ble_eq_true rfl) rfl fun T3 h3 X3 e3 W3 A3 => ?_
  have A3_x := Seq.other A2_x W3 nxd
  have K3 := Kp.wr K2 W3 (Or.inl (List.mem_of_getElem? (i := 0) rfl))
  have A3_d : Seq Z h3 d .byte [(.int (lb u0)), (.int (lb u1)), (.int (lb u2)), (.int (0 : Int32))] := A3
  refine G.iinc X3 hx (pc' := 35) (hb hby d6_32) rfl (L' := #[.val (.ref x), .val (.int ((2 : Int32) + (1 : Int32))), .val (.ref d), .val (.int (2 : Int32)), .val (.int (4 : Int32)), .val (.int (2 : Int32)), .val (.int u2)]) rfl rfl ?_
  refine G.iinc X3 hx (pc' := 38) (hb hby d6_35) rfl (L' := #[.val (.ref x), .val (.int ((2 : Int32) + (1 : Int32))), .val (.ref d), .val (.int ((2 : Int32) + (1 : Int32))), .val (.int (4 : Int32)), .val (.int (2 : Int32)), .val (.int u2)]) rfl rfl ?_
  refine G.iinc X3 hx (pc' := 41) (hb hby d6_38) rfl (L' := #[.val (.ref x), .val (.int ((2 : Int32) + (1 : Int32))), .val (.ref d), .val (.int ((2 : Int32) + (1 : Int32))), .val (.int (4 : Int32)), .val (.int ((2 : Int32) + (1 : Int32))), .val (.int u2)]) rfl rfl ?_
  refine G.goto X3 hx (pc' := 3) (hb hby d6_41) (by decide) (by decide) ?_
  show Goes p e below T3 (mkF m 3 #[.val (.ref x), .val (.int (3 : Int32)), .val (.ref d), .val (.int (3 : Int32)), .val (.int (4 : Int32)), .val (.int (3 : Int32)), .val (.int u2)] []) _
  refine G.iload X3 hx (pc' := 5) (hb hby d6_3) rfl rfl ?_
  refine G.iload X3 hx (pc' := 7) (hb hby d6_5) rfl rfl ?_
  refine G.icmpF X3 hx (pc' := 10) (hb hby d6_7) (Jvm.Free.XT.ii_ge_f (by decide)) rfl ?_
  refine G.aloadN X3 hx (pc' := 11) (hb hby d6_10) rfl rfl rfl ?_
  refine G.iloadN X3 hx (pc' := 12) (hb hby d6_11) rfl rfl ?_
  refine G.caload X3 hx hZ e3 A3_x (pc' := 13) (v := (.int u3)) (hb hby d6_12) (by decide) rfl rfl ?_
  refine G.istore X3 hx (pc' := 15) (hb hby d6_13) (L' := #[.val (.ref x), .val (.int (3 : Int32)), .val (.ref d), .val (.int (3 : Int32)), .val (.int (4 : Int32)), .val (.int (3 : Int32)), .val (.int u3)]) rfl rfl ?_
  refine G.iload X3 hx (pc' := 17) (hb hby d6_15) rfl rfl ?_
  refine G.sipush X3 hx (pc' := 20) (hb hby d6_17) (z := (255 : Int32)) rfl rfl ?_
  refine G.icmpT X3 hx (pc' := 26) (hb hby d6_20) (Jvm.Free.XT.ii_le_t hl3) (by decide) (by decide) ?_
  refine G.aloadN X3 hx (pc' := 27) (hb hby d6_26) rfl rfl rfl ?_
  refine G.iloadN X3 hx (pc' := 28) (hb hby d6_27) rfl rfl ?_
  refine G.iload X3 hx (pc' := 30) (hb hby d6_28) rfl rfl ?_
  refine G.i2b X3 hx (pc' := 31) (hb hby d6_30) rfl ?_
  refine G.bastore X3 hx hZ e3 A3_d (pc' := 32) (hb hby d6_31) (by decide) (Nat.le_of_ble_eq_true rfl) rfl fun T4 h4 X4 e4 W4 A4 => ?_
  have A4_x := Seq.other A3_x W4 nxd
  have K4 := Kp.wr K3 W4 (Or.inl (List.mem_of_getElem? (i := 0) rfl))
  have A4_d : Seq Z h4 d .byte [(.int (lb u0)), (.int (lb u1)), (.int (lb u2)), (.int (lb u3))] := A4
  refine G.iinc X4 hx (pc' := 35) (hb hby d6_32) rfl (L' := #[.val (.ref x), .val (.int ((3 : Int32) + (1 : Int32))), .val (.ref d), .val (.int (3 : Int32)), .val (.int (4 : Int32)), .val (.int (3 : Int32)), .val (.int u3)]) rfl rfl ?_
  refine G.iinc X4 hx (pc' := 38) (hb hby d6_35) rfl (L' := #[.val (.ref x), .val (.int ((3 : Int32) + (1 : Int32))), .val (.ref d), .val (.int ((3 : Int32) + (1 : Int32))), .val (.int (4 : Int32)), .val (.int (3 : Int32)), .val (.int u3)]) rfl rfl ?_
  refine G.iinc X4 hx (pc' := 41) (hb hby d6_38) rfl (L' := #[.val (.ref x), .val (.int ((3 : Int32) + (1 : Int32))), .val (.ref d), .val (.int ((3 : Int32) + (1 : Int32))), .val (.int (4 : Int32)), .val (.int ((3 : Int32) + (1 : Int32))), .val (.int u3)]) rfl rfl ?_
  refine G.goto X4 hx (pc' := 3) (hb hby d6_41) (by decide) (by decide) ?_
  show Goes p e below T4 (mkF m 3 #[.val (.ref x), .val (.int (4 : Int32)), .val (.ref d), .val (.int (4 : Int32)), .val (.int (4 : Int32)), .val (.int (4 : Int32)), .val (.int u3)] []) _
  refine G.iload X4 hx (pc' := 5) (hb hby d6_3) rfl rfl ?_
  refine G.iload X4 hx (pc' := 7) (hb hby d6_5) rfl rfl ?_
  refine G.icmpT X4 hx (pc' := 44) (hb hby d6_7) (Jvm.Free.XT.ii_ge_t (by decide)) (by decide) (by decide) ?_
  refine G.iload X4 hx (pc' := 46) (hb hby d6_44) rfl rfl ?_
  refine Goes.retI X4 hx hret hlk (hb hby d6_46) (by decide) (by decide) ⟨rfl, (by rw [e4]; exact K4), (by rw [e4]; exact A4_d)⟩
set_option maxRecDepth 65536 in
set_option maxHeartbeats 40000000 in
theorem rm_c3_4 (l : Launch) (Z : State) (a0 : Array Value) (hw : ∀ d ∈ tables_1, d.before a0 Z = true) (x : Addr) (u0 u1 u2 u3 : Int32) (h0 : Heap) (Bx : Seq Z h0 x .char [(.int u0), (.int u1), (.int u2), (.int u3)]) (SA : Sta Z h0 "java/lang/StringUTF16" "$assertionsDisabled" "Z" (.int (1 : Int32))) (SH : Sta Z h0 "java/lang/StringUTF16" "HI_BYTE_SHIFT" "I" (.int (0 : Int32))) (SO : Sta Z h0 "java/lang/StringUTF16" "LO_BYTE_SHIFT" "I" (.int (8 : Int32))) (hu0 : isCh u0) (hu1 : isCh u1) (hu2 : isCh u2) (hu3 : isCh u3) :
    Con l (⟨"java/lang/StringUTF16", "compress", "([CII)[B"⟩ : MethodName) jdk_52_method_16_code 6 (some (.array .byte)) ({ frames := 3, cells := 2, slots := 12, locals := 40 } : Room) Z #[(.ref x), (.int (0 : Int32)), (.int (4 : Int32))] h0 (fun v h L => ∃ d cd xs, v = some (.ref d) ∧ Kp h0 h [] L ∧ Seq Z h d .byte xs ∧ SQ 4 u0 cd xs ∧ h0.size ≤ d) := by
  refine Con.of_body (plainFor_of_name pn_0) ?_
  intro p e s m below meth c T0 X0 hx hby hml hZ hown hnm hret hlk e0
  have hown : s.vm.findClass "java/lang/StringUTF16" = some m.cls := hown
  have hml : c.maxLocals = 6 := hml
  refine Goes.cast (ef5_RII m x (0 : Int32) (4 : Int32)) ?_
  have K0 := Kp.refl h0 []
  refine G.iloadN X0 hx (pc' := 1) (hb hby d5_0) rfl rfl ?_
  refine G.newP X0 hx hZ (hw _ (List.mem_of_getElem? (i := 24) rfl)) e0 (hb hby d5_1) (by decide) (n := 4) (cap := 4) rfl (by decide) (by decide) (by decide) (by decide) (pc' := 3) rfl fun T1 h1 d g1 X1 e1 Ex1 A1 => ?_
  have ne_x_d : x ≠ d := Nat.ne_of_lt (Nat.lt_of_lt_of_le Bx.lt (Nat.le_of_eq g1.symm))
  have sz_d : h0.size ≤ d := Nat.le_trans K0.size (Nat.le_of_eq g1.symm)
  have A1_x := Seq.ext Bx Ex1
  have K1 := Kp.ext K0 Ex1
  have A1_d : Seq Z h1 d .byte [(.int (0 : Int32)), (.int (0 : Int32)), (.int (0 : Int32)), (.int (0 : Int32))] := A1
  refine G.astoreN X1 hx (pc' := 4) (hb hby d5_3) rfl (L' := #[.val (.ref x), .val (.int (0 : Int32)), .val (.int (4 : Int32)), .val (.ref d), .unset, .unset]) rfl rfl ?_
  refine G.aloadN X1 hx (pc' := 5) (hb hby d5_4) rfl rfl rfl ?_
  refine G.iloadN X1 hx (pc' := 6) (hb hby d5_5) rfl rfl ?_
  refine G.aloadN X1 hx (pc' := 7) (hb hby d5_6) rfl rfl rfl ?_
  refine G.iconst X1 hx (pc' := 8) (hb hby d5_7) (z := (0 : Int32)) rfl rfl ?_
  refine G.iloadN X1 hx (pc' := 9) (hb hby d5_8) rfl rfl ?_
  by_cases hl0 : (255 : Int32) < u0
  · have hg := hl0
    refine G.callS X1 hx hZ (y := (⟨"java/lang/StringUTF16", "compress", "([CI[BII)I"⟩ : MethodName)) hown (hw _ (List.mem_of_getElem? (i := 25) rfl)) (hw _ (List.mem_of_getElem? (i := 26) rfl)) (hw _ (List.mem_of_getElem? (i := 22) rfl)) (hw _ (List.mem_of_getElem? (i := 27) rfl)) (by decide) e1 (rm := ({ frames := 0, cells := 0, slots := 0, locals := 0 } : Room)) (argsL := [(.ref x), (.int (0 : Int32)), (.ref d), (.int (0 : Int32)), (.int (4 : Int32))]) (S := []) (W := 0) (rm_c5_4_0 l Z a0 hw x d u0 u1 u2 u3 h1 A1_x A1_d ne_x_d hg) (lenOf pd_15 rfl) rfl (Nat.le_of_eq rfl) (by decide) (by decide) (by decide) (by decide) (by rw [hml]; rfl) (hb hby d5_9) (pc' := 12) rfl ?_
    rintro T2 _ L2 ⟨rfl, Kq2⟩ X2
    have A2_x := Seq.keep A1_x Kq2.1 (ninS ne_x_d nin0)
    have K2 := Kp.call K1 Kq2 (allS (Or.inr sz_d) all0)
    show Goes p e below T2 (mkF m 12 #[.val (.ref x), .val (.int (0 : Int32)), .val (.int (4 : Int32)), .val (.ref d), .unset, .unset] [(.int (0 : Int32))]) _
    refine G.istore X2 hx (pc' := 14) (hb hby d5_12) (L' := #[.val (.ref x), .val (.int (0 : Int32)), .val (.int (4 : Int32)), .val (.ref d), .val (.int (0 : Int32)), .unset]) rfl rfl ?_
    refine G.iload X2 hx (pc' := 16) (hb hby d5_14) rfl rfl ?_
    refine G.iloadN X2 hx (pc' := 17) (hb hby d5_16) rfl rfl ?_
    refine G.icmpF X2 hx (pc' := 20) (hb hby d5_17) (Jvm.Free.XT.ii_eq_f (by decide)) rfl ?_
    refine G.aloadN X2 hx (pc' := 21) (hb hby d5_20) rfl rfl rfl ?_
    refine G.iloadN X2 hx (pc' := 22) (hb hby d5_21) rfl rfl ?_
    refine G.iloadN X2 hx (pc' := 23) (hb hby d5_22) rfl rfl ?_
    refine G.callS X2 hx hZ (y := (⟨"java/lang/StringUTF16", "toBytes", "([CII)[B"⟩ : MethodName)) hown (hw _ (List.mem_of_getElem? (i := 79) rfl)) (hw _ (List.mem_of_getElem? (i := 80) rfl)) (hw _ (List.mem_of_getElem? (i := 22) rfl)) (hw _ (List.mem_of_getElem? (i := 81) rfl)) (by decide) rfl (rm := ({ frames := 2, cells := 1, slots := 8, locals := 24 } : Room)) (argsL := [(.ref x), (.int (0 : Int32)), (.int (4 : Int32))]) (S := []) (W := 0) (rm_tb4 l Z a0 hw x u0 u1 u2 u3 T2.heap A2_x (Sta.keep0 SA K2.1) (Sta.keep0 SH K2.1) (Sta.keep0 SO K2.1)) (lenOf pd_16 rfl) rfl (Nat.le_of_eq rfl) (by decide) (by decide) (by decide) (by decide) (by rw [hml]; rfl) (hb hby d5_23) (pc' := 26) rfl ?_
    rintro T3 _ L3 ⟨e_, rfl, Kq3, Ae3, gd3⟩ X3
    have A3_x := Seq.keep A2_x Kq3.1 nin0
    have K3 := Kp.call K2 Kq3 all0
    have sz_e : h0.size ≤ e_ := Nat.le_trans K2.size gd3
    show Goes p e below T3 (mkF m 26 #[.val (.ref x), .val (.int (0 : Int32)), .val (.int (4 : Int32)), .val (.ref d), .val (.int (0 : Int32)), .unset] [(.ref e_)]) _
    refine G.astore X3 hx (pc' := 28) (hb hby d5_26) rfl (L' := #[.val (.ref x), .val (.int (0 : Int32)), .val (.int (4 : Int32)), .val (.ref d), .val (.int (0 : Int32)), .val (.ref e_)]) rfl rfl ?_
    refine G.aload X3 hx (pc' := 30) (hb hby d5_28) rfl rfl rfl ?_
    refine G.iload X3 hx (pc' := 32) (hb hby d5_30) rfl rfl ?_
    refine G.callS X3 hx hZ (y := (⟨"java/lang/StringUTF16", "getChar", "([BI)C"⟩ : MethodName)) hown (hw _ (List.mem_of_getElem? (i := 95) rfl)) (hw _ (List.mem_of_getElem? (i := 96) rfl)) (hw _ (List.mem_of_getElem? (i := 22) rfl)) (hw _ (List.mem_of_getElem? (i := 97) rfl)) (by decide) rfl (rm := ({ frames := 0, cells := 0, slots := 0, locals := 0 } : Room)) (argsL := [(.ref e_), (.int (0 : Int32))]) (S := []) (W := 0) (rm_gc0 l Z a0 hw e_ [(.int (lo u0)), (.int (hi u0)), (.int (lo u1)), (.int (hi u1)), (.int (lo u2)), (.int (hi u2)), (.int (lo u3)), (.int (hi u3))] u0 T3.heap Ae3 (Sta.keep0 SA K3.1) (Sta.keep0 SH K3.1) (Sta.keep0 SO K3.1) rfl rfl hu0) (lenOf pd_8 rfl) rfl (Nat.le_of_eq rfl) (by decide) (by decide) (by decide) (by decide) (by rw [hml]; rfl) (hb hby d5_32) (pc' := 35) rfl ?_
    rintro T4 _ _ ⟨rfl, e4, rfl⟩ X4
    rw [List.append_nil] at X4
    show Goes p e below T4 (mkF m 35 #[.val (.ref x), .val (.int (0 : Int32)), .val (.int (4 : Int32)), .val (.ref d), .val (.int (0 : Int32)), .val (.ref e_)] [(.int u0)]) _
    refine G.sipush X4 hx (pc' := 38) (hb hby d5_35) (z := (255 : Int32)) rfl rfl ?_
    refine G.icmpT X4 hx (pc' := 54) (hb hby d5_38) (Jvm.Free.XT.ii_gt_t hg) (by decide) (by decide) ?_
    refine G.aload X4 hx (pc' := 56) (hb hby d5_54) rfl rfl rfl ?_
    refine Goes.retA X4 hx hret rfl hlk rfl rfl (hb hby d5_56) (by decide) (by decide) ⟨e_, (1 : Int32), _, rfl, (by rw [e4]; exact K3), (by rw [e4]; exact Ae3), Or.inr ⟨rfl, rfl, rfl, rfl⟩, sz_e⟩
  · by_cases hl1 : (255 : Int32) < u1
    · have hg := hl1
      refine G.callS X1 hx hZ (y := (⟨"java/lang/StringUTF16", "compress", "([CI[BII)I"⟩ : MethodName)) hown (hw _ (List.mem_of_getElem? (i := 25) rfl)) (hw _ (List.mem_of_getElem? (i := 26) rfl)) (hw _ (List.mem_of_getElem? (i := 22) rfl)) (hw _ (List.mem_of_getElem? (i := 27) rfl)) (by decide) e1 (rm := ({ frames := 0, cells := 0, slots := 0, locals := 0 } : Room)) (argsL := [(.ref x), (.int (0 : Int32)), (.ref d), (.int (0 : Int32)), (.int (4 : Int32))]) (S := []) (W := 0) (rm_c5_4_1 l Z a0 hw x d u0 u1 u2 u3 h1 A1_x A1_d ne_x_d hl0 hg) (lenOf pd_15 rfl) rfl (Nat.le_of_eq rfl) (by decide) (by decide) (by decide) (by decide) (by rw [hml]; rfl) (hb hby d5_9) (pc' := 12) rfl ?_
      rintro T5 _ L5 ⟨rfl, Kq5⟩ X5
      have A5_x := Seq.keep A1_x Kq5.1 (ninS ne_x_d nin0)
      have K5 := Kp.call K1 Kq5 (allS (Or.inr sz_d) all0)
      show Goes p e below T5 (mkF m 12 #[.val (.ref x), .val (.int (0 : Int32)), .val (.int (4 : Int32)), .val (.ref d), .unset, .unset] [(.int (1 : Int32))]) _
      refine G.istore X5 hx (pc' := 14) (hb hby d5_12) (L' := #[.val (.ref x), .val (.int (0 : Int32)), .val (.int (4 : Int32)), .val (.ref d), .val (.int (1 : Int32)), .unset]) rfl rfl ?_
      refine G.iload X5 hx (pc' := 16) (hb hby d5_14) rfl rfl ?_
      refine G.iloadN X5 hx (pc' := 17) (hb hby d5_16) rfl rfl ?_
      refine G.icmpF X5 hx (pc' := 20) (hb hby d5_17) (Jvm.Free.XT.ii_eq_f (by decide)) rfl ?_
      refine G.aloadN X5 hx (pc' := 21) (hb hby d5_20) rfl rfl rfl ?_
      refine G.iloadN X5 hx (pc' := 22) (hb hby d5_21) rfl rfl ?_
      refine G.iloadN X5 hx (pc' := 23) (hb hby d5_22) rfl rfl ?_
      refine G.callS X5 hx hZ (y := (⟨"java/lang/StringUTF16", "toBytes", "([CII)[B"⟩ : MethodName)) hown (hw _ (List.mem_of_getElem? (i := 79) rfl)) (hw _ (List.mem_of_getElem? (i := 80) rfl)) (hw _ (List.mem_of_getElem? (i := 22) rfl)) (hw _ (List.mem_of_getElem? (i := 81) rfl)) (by decide) rfl (rm := ({ frames := 2, cells := 1, slots := 8, locals := 24 } : Room)) (argsL := [(.ref x), (.int (0 : Int32)), (.int (4 : Int32))]) (S := []) (W := 0) (rm_tb4 l Z a0 hw x u0 u1 u2 u3 T5.heap A5_x (Sta.keep0 SA K5.1) (Sta.keep0 SH K5.1) (Sta.keep0 SO K5.1)) (lenOf pd_16 rfl) rfl (Nat.le_of_eq rfl) (by decide) (by decide) (by decide) (by decide) (by rw [hml]; rfl) (hb hby d5_23) (pc' := 26) rfl ?_
      rintro T6 _ L6 ⟨e_, rfl, Kq6, Ae6, gd6⟩ X6
      have A6_x := Seq.keep A5_x Kq6.1 nin0
      have K6 := Kp.call K5 Kq6 all0
      have sz_e : h0.size ≤ e_ := Nat.le_trans K5.size gd6
      show Goes p e below T6 (mkF m 26 #[.val (.ref x), .val (.int (0 : Int32)), .val (.int (4 : Int32)), .val (.ref d), .val (.int (1 : Int32)), .unset] [(.ref e_)]) _
      refine G.astore X6 hx (pc' := 28) (hb hby d5_26) rfl (L' := #[.val (.ref x), .val (.int (0 : Int32)), .val (.int (4 : Int32)), .val (.ref d), .val (.int (1 : Int32)), .val (.ref e_)]) rfl rfl ?_
      refine G.aload X6 hx (pc' := 30) (hb hby d5_28) rfl rfl rfl ?_
      refine G.iload X6 hx (pc' := 32) (hb hby d5_30) rfl rfl ?_
      refine G.callS X6 hx hZ (y := (⟨"java/lang/StringUTF16", "getChar", "([BI)C"⟩ : MethodName)) hown (hw _ (List.mem_of_getElem? (i := 95) rfl)) (hw _ (List.mem_of_getElem? (i := 96) rfl)) (hw _ (List.mem_of_getElem? (i := 22) rfl)) (hw _ (List.mem_of_getElem? (i := 97) rfl)) (by decide) rfl (rm := ({ frames := 0, cells := 0, slots := 0, locals := 0 } : Room)) (argsL := [(.ref e_), (.int (1 : Int32))]) (S := []) (W := 0) (rm_gc1 l Z a0 hw e_ [(.int (lo u0)), (.int (hi u0)), (.int (lo u1)), (.int (hi u1)), (.int (lo u2)), (.int (hi u2)), (.int (lo u3)), (.int (hi u3))] u1 T6.heap Ae6 (Sta.keep0 SA K6.1) (Sta.keep0 SH K6.1) (Sta.keep0 SO K6.1) rfl rfl hu1) (lenOf pd_8 rfl) rfl (Nat.le_of_eq rfl) (by decide) (by decide) (by decide) (by decide) (by rw [hml]; rfl) (hb hby d5_32) (pc' := 35) rfl ?_
      rintro T7 _ _ ⟨rfl, e7, rfl⟩ X7
      rw [List.append_nil] at X7
      show Goes p e below T7 (mkF m 35 #[.val (.ref x), .val (.int (0 : Int32)), .val (.int (4 : Int32)), .val (.ref d), .val (.int (1 : Int32)), .val (.ref e_)] [(.int u1)]) _
      refine G.sipush X7 hx (pc' := 38) (hb hby d5_35) (z := (255 : Int32)) rfl rfl ?_
      refine G.icmpT X7 hx (pc' := 54) (hb hby d5_38) (Jvm.Free.XT.ii_gt_t hg) (by decide) (by decide) ?_
      refine G.aload X7 hx (pc' := 56) (hb hby d5_54) rfl rfl rfl ?_
      refine Goes.retA X7 hx hret rfl hlk rfl rfl (hb hby d5_56) (by decide) (by decide) ⟨e_, (1 : Int32), _, rfl, (by rw [e7]; exact K6), (by rw [e7]; exact Ae6), Or.inr ⟨rfl, rfl, rfl, rfl⟩, sz_e⟩
    · by_cases hl2 : (255 : Int32) < u2
      · have hg := hl2
        refine G.callS X1 hx hZ (y := (⟨"java/lang/StringUTF16", "compress", "([CI[BII)I"⟩ : MethodName)) hown (hw _ (List.mem_of_getElem? (i := 25) rfl)) (hw _ (List.mem_of_getElem? (i := 26) rfl)) (hw _ (List.mem_of_getElem? (i := 22) rfl)) (hw _ (List.mem_of_getElem? (i := 27) rfl)) (by decide) e1 (rm := ({ frames := 0, cells := 0, slots := 0, locals := 0 } : Room)) (argsL := [(.ref x), (.int (0 : Int32)), (.ref d), (.int (0 : Int32)), (.int (4 : Int32))]) (S := []) (W := 0) (rm_c5_4_2 l Z a0 hw x d u0 u1 u2 u3 h1 A1_x A1_d ne_x_d hl0 hl1 hg) (lenOf pd_15 rfl) rfl (Nat.le_of_eq rfl) (by decide) (by decide) (by decide) (by decide) (by rw [hml]; rfl) (hb hby d5_9) (pc' := 12) rfl ?_
        rintro T8 _ L8 ⟨rfl, Kq8⟩ X8
        have A8_x := Seq.keep A1_x Kq8.1 (ninS ne_x_d nin0)
        have K8 := Kp.call K1 Kq8 (allS (Or.inr sz_d) all0)
        show Goes p e below T8 (mkF m 12 #[.val (.ref x), .val (.int (0 : Int32)), .val (.int (4 : Int32)), .val (.ref d), .unset, .unset] [(.int (2 : Int32))]) _
        refine G.istore X8 hx (pc' := 14) (hb hby d5_12) (L' := #[.val (.ref x), .val (.int (0 : Int32)), .val (.int (4 : Int32)), .val (.ref d), .val (.int (2 : Int32)), .unset]) rfl rfl ?_
        refine G.iload X8 hx (pc' := 16) (hb hby d5_14) rfl rfl ?_
        refine G.iloadN X8 hx (pc' := 17) (hb hby d5_16) rfl rfl ?_
        refine G.icmpF X8 hx (pc' := 20) (hb hby d5_17) (Jvm.Free.XT.ii_eq_f (by decide)) rfl ?_
        refine G.aloadN X8 hx (pc' := 21) (hb hby d5_20) rfl rfl rfl ?_
        refine G.iloadN X8 hx (pc' := 22) (hb hby d5_21) rfl rfl ?_
        refine G.iloadN X8 hx (pc' := 23) (hb hby d5_22) rfl rfl ?_
        refine G.callS X8 hx hZ (y := (⟨"java/lang/StringUTF16", "toBytes", "([CII)[B"⟩ : MethodName)) hown (hw _ (List.mem_of_getElem? (i := 79) rfl)) (hw _ (List.mem_of_getElem? (i := 80) rfl)) (hw _ (List.mem_of_getElem? (i := 22) rfl)) (hw _ (List.mem_of_getElem? (i := 81) rfl)) (by decide) rfl (rm := ({ frames := 2, cells := 1, slots := 8, locals := 24 } : Room)) (argsL := [(.ref x), (.int (0 : Int32)), (.int (4 : Int32))]) (S := []) (W := 0) (rm_tb4 l Z a0 hw x u0 u1 u2 u3 T8.heap A8_x (Sta.keep0 SA K8.1) (Sta.keep0 SH K8.1) (Sta.keep0 SO K8.1)) (lenOf pd_16 rfl) rfl (Nat.le_of_eq rfl) (by decide) (by decide) (by decide) (by decide) (by rw [hml]; rfl) (hb hby d5_23) (pc' := 26) rfl ?_
        rintro T9 _ L9 ⟨e_, rfl, Kq9, Ae9, gd9⟩ X9
        have A9_x := Seq.keep A8_x Kq9.1 nin0
        have K9 := Kp.call K8 Kq9 all0
        have sz_e : h0.size ≤ e_ := Nat.le_trans K8.size gd9
        show Goes p e below T9 (mkF m 26 #[.val (.ref x), .val (.int (0 : Int32)), .val (.int (4 : Int32)), .val (.ref d), .val (.int (2 : Int32)), .unset] [(.ref e_)]) _
        refine G.astore X9 hx (pc' := 28) (hb hby d5_26) rfl (L' := #[.val (.ref x), .val (.int (0 : Int32)), .val (.int (4 : Int32)), .val (.ref d), .val (.int (2 : Int32)), .val (.ref e_)]) rfl rfl ?_
        refine G.aload X9 hx (pc' := 30) (hb hby d5_28) rfl rfl rfl ?_
        refine G.iload X9 hx (pc' := 32) (hb hby d5_30) rfl rfl ?_
        refine G.callS X9 hx hZ (y := (⟨"java/lang/StringUTF16", "getChar", "([BI)C"⟩ : MethodName)) hown (hw _ (List.mem_of_getElem? (i := 95) rfl)) (hw _ (List.mem_of_getElem? (i := 96) rfl)) (hw _ (List.mem_of_getElem? (i := 22) rfl)) (hw _ (List.mem_of_getElem? (i := 97) rfl)) (by decide) rfl (rm := ({ frames := 0, cells := 0, slots := 0, locals := 0 } : Room)) (argsL := [(.ref e_), (.int (2 : Int32))]) (S := []) (W := 0) (rm_gc2 l Z a0 hw e_ [(.int (lo u0)), (.int (hi u0)), (.int (lo u1)), (.int (hi u1)), (.int (lo u2)), (.int (hi u2)), (.int (lo u3)), (.int (hi u3))] u2 T9.heap Ae9 (Sta.keep0 SA K9.1) (Sta.keep0 SH K9.1) (Sta.keep0 SO K9.1) rfl rfl hu2) (lenOf pd_8 rfl) rfl (Nat.le_of_eq rfl) (by decide) (by decide) (by decide) (by decide) (by rw [hml]; rfl) (hb hby d5_32) (pc' := 35) rfl ?_
        rintro T10 _ _ ⟨rfl, e10, rfl⟩ X10
        rw [List.append_nil] at X10
        show Goes p e below T10 (mkF m 35 #[.val (.ref x), .val (.int (0 : Int32)), .val (.int (4 : Int32)), .val (.ref d), .val (.int (2 : Int32)), .val (.ref e_)] [(.int u2)]) _
        refine G.sipush X10 hx (pc' := 38) (hb hby d5_35) (z := (255 : Int32)) rfl rfl ?_
        refine G.icmpT X10 hx (pc' := 54) (hb hby d5_38) (Jvm.Free.XT.ii_gt_t hg) (by decide) (by decide) ?_
        refine G.aload X10 hx (pc' := 56) (hb hby d5_54) rfl rfl rfl ?_
        refine Goes.retA X10 hx hret rfl hlk rfl rfl (hb hby d5_56) (by decide) (by decide) ⟨e_, (1 : Int32), _, rfl, (by rw [e10]; exact K9), (by rw [e10]; exact Ae9), Or.inr ⟨rfl, rfl, rfl, rfl⟩, sz_e⟩
      · by_cases hl3 : (255 : Int32) < u3
        · have hg := hl3
          refine G.callS X1 hx hZ (y := (⟨"java/lang/StringUTF16", "compress", "([CI[BII)I"⟩ : MethodName)) hown (hw _ (List.mem_of_getElem? (i := 25) rfl)) (hw _ (List.mem_of_getElem? (i := 26) rfl)) (hw _ (List.mem_of_getElem? (i := 22) rfl)) (hw _ (List.mem_of_getElem? (i := 27) rfl)) (by decide) e1 (rm := ({ frames := 0, cells := 0, slots := 0, locals := 0 } : Room)) (argsL := [(.ref x), (.int (0 : Int32)), (.ref d), (.int (0 : Int32)), (.int (4 : Int32))]) (S := []) (W := 0) (rm_c5_4_3 l Z a0 hw x d u0 u1 u2 u3 h1 A1_x A1_d ne_x_d hl0 hl1 hl2 hg) (lenOf pd_15 rfl) rfl (Nat.le_of_eq rfl) (by decide) (by decide) (by decide) (by decide) (by rw [hml]; rfl) (hb hby d5_9) (pc' := 12) rfl ?_
          rintro T11 _ L11 ⟨rfl, Kq11⟩ X11
          have A11_x := Seq.keep A1_x Kq11.1 (ninS ne_x_d nin0)
          have K11 := Kp.call K1 Kq11 (allS (Or.inr sz_d) all0)
          show Goes p e below T11 (mkF m 12 #[.val (.ref x), .val (.int (0 : Int32)), .val (.int (4 : Int32)), .val (.ref d), .unset, .unset] [(.int (3 : Int32))]) _
          refine G.istore X11 hx (pc' := 14) (hb hby d5_12) (L' := #[.val (.ref x), .val (.int (0 : Int32)), .val (.int (4 : Int32)), .val (.ref d), .val (.int (3 : Int32)), .unset]) rfl rfl ?_
          refine G.iload X11 hx (pc' := 16) (hb hby d5_14) rfl rfl ?_
          refine G.iloadN X11 hx (pc' := 17) (hb hby d5_16) rfl rfl ?_
          refine G.icmpF X11 hx (pc' := 20) (hb hby d5_17) (Jvm.Free.XT.ii_eq_f (by decide)) rfl ?_
          refine G.aloadN X11 hx (pc' := 21) (hb hby d5_20) rfl rfl rfl ?_
          refine G.iloadN X11 hx (pc' := 22) (hb hby d5_21) rfl rfl ?_
          refine G.iloadN X11 hx (pc' := 23) (hb hby d5_22) rfl rfl ?_
          refine G.callS X11 hx hZ (y := (⟨"java/lang/StringUTF16", "toBytes", "([CII)[B"⟩ : MethodName)) hown (hw _ (List.mem_of_getElem? (i := 79) rfl)) (hw _ (List.mem_of_getElem? (i := 80) rfl)) (hw _ (List.mem_of_getElem? (i := 22) rfl)) (hw _ (List.mem_of_getElem? (i := 81) rfl)) (by decide) rfl (rm := ({ frames := 2, cells := 1, slots := 8, locals := 24 } : Room)) (argsL := [(.ref x), (.int (0 : Int32)), (.int (4 : Int32))]) (S := []) (W := 0) (rm_tb4 l Z a0 hw x u0 u1 u2 u3 T11.heap A11_x (Sta.keep0 SA K11.1) (Sta.keep0 SH K11.1) (Sta.keep0 SO K11.1)) (lenOf pd_16 rfl) rfl (Nat.le_of_eq rfl) (by decide) (by decide) (by decide) (by decide) (by rw [hml]; rfl) (hb hby d5_23) (pc' := 26) rfl ?_
          rintro T12 _ L12 ⟨e_, rfl, Kq12, Ae12, gd12⟩ X12
          have A12_x := Seq.keep A11_x Kq12.1 nin0
          have K12 := Kp.call K11 Kq12 all0
          have sz_e : h0.size ≤ e_ := Nat.le_trans K11.size gd12
          show Goes p e below T12 (mkF m 26 #[.val (.ref x), .val (.int (0 : Int32)), .val (.int (4 : Int32)), .val (.ref d), .val (.int (3 : Int32)), .unset] [(.ref e_)]) _
          refine G.astore X12 hx (pc' := 28) (hb hby d5_26) rfl (L' := #[.val (.ref x), .val (.int (0 : Int32)), .val (.int (4 : Int32)), .val (.ref d), .val (.int (3 : Int32)), .val (.ref e_)]) rfl rfl ?_
          refine G.aload X12 hx (pc' := 30) (hb hby d5_28) rfl rfl rfl ?_
          refine G.iload X12 hx (pc' := 32) (hb hby d5_30) rfl rfl ?_
          refine G.callS X12 hx hZ (y := (⟨"java/lang/StringUTF16", "getChar", "([BI)C"⟩ : MethodName)) hown (hw _ (List.mem_of_getElem? (i := 95) rfl)) (hw _ (List.mem_of_getElem? (i := 96) rfl)) (hw _ (List.mem_of_getElem? (i := 22) rfl)) (hw _ (List.mem_of_getElem? (i := 97) rfl)) (by decide) rfl (rm := ({ frames := 0, cells := 0, slots := 0, locals := 0 } : Room)) (argsL := [(.ref e_), (.int (3 : Int32))]) (S := []) (W := 0) (rm_gc3 l Z a0 hw e_ [(.int (lo u0)), (.int (hi u0)), (.int (lo u1)), (.int (hi u1)), (.int (lo u2)), (.int (hi u2)), (.int (lo u3)), (.int (hi u3))] u3 T12.heap Ae12 (Sta.keep0 SA K12.1) (Sta.keep0 SH K12.1) (Sta.keep0 SO K12.1) rfl rfl hu3) (lenOf pd_8 rfl) rfl (Nat.le_of_eq rfl) (by decide) (by decide) (by decide) (by decide) (by rw [hml]; rfl) (hb hby d5_32) (pc' := 35) rfl ?_
          rintro T13 _ _ ⟨rfl, e13, rfl⟩ X13
          rw [List.append_nil] at X13
          show Goes p e below T13 (mkF m 35 #[.val (.ref x), .val (.int (0 : Int32)), .val (.int (4 : Int32)), .val (.ref d), .val (.int (3 : Int32)), .val (.ref e_)] [(.int u3)]) _
          refine G.sipush X13 hx (pc' := 38) (hb hby d5_35) (z := (255 : Int32)) rfl rfl ?_
          refine G.icmpT X13 hx (pc' := 54) (hb hby d5_38) (Jvm.Free.XT.ii_gt_t hg) (by decide) (by decide) ?_
          refine G.aload X13 hx (pc' := 56) (hb hby d5_54) rfl rfl rfl ?_
          refine Goes.retA X13 hx hret rfl hlk rfl rfl (hb hby d5_56) (by decide) (by decide) ⟨e_, (1 : Int32), _, rfl, (by rw [e13]; exact K12), (by rw [e13]; exact Ae12), Or.inr ⟨rfl, rfl, rfl, rfl⟩, sz_e⟩
        · refine G.callS X1 hx hZ (y := (⟨"java/lang/StringUTF16", "compress", "([CI[BII)I"⟩ : MethodName)) hown (hw _ (List.mem_of_getElem? (i := 25) rfl)) (hw _ (List.mem_of_getElem? (i := 26) rfl)) (hw _ (List.mem_of_getElem? (i := 22) rfl)) (hw _ (List.mem_of_getElem? (i := 27) rfl)) (by decide) e1 (rm := ({ frames := 0, cells := 0, slots := 0, locals := 0 } : Room)) (argsL := [(.ref x), (.int (0 : Int32)), (.ref d), (.int (0 : Int32)), (.int (4 : Int32))]) (S := []) (W := 0) (rm_c5_4_4 l Z a0 hw x d u0 u1 u2 u3 h1 A1_x A1_d ne_x_d hl0 hl1 hl2 hl3) (lenOf pd_15 rfl) rfl (Nat.le_of_eq rfl) (by decide) (by decide) (by decide) (by decide) (by rw [hml]; rfl) (hb hby d5_9) (pc' := 12) rfl ?_
          rintro T14 _ L14 ⟨rfl, Kq14, Ad14⟩ X14
          have A14_x := Seq.keep A1_x Kq14.1 (ninS ne_x_d nin0)
          have K14 := Kp.call K1 Kq14 (allS (Or.inr sz_d) all0)
          show Goes p e below T14 (mkF m 12 #[.val (.ref x), .val (.int (0 : Int32)), .val (.int (4 : Int32)), .val (.ref d), .unset, .unset] [(.int (4 : Int32))]) _
          refine G.istore X14 hx (pc' := 14) (hb hby d5_12) (L' := #[.val (.ref x), .val (.int (0 : Int32)), .val (.int (4 : Int32)), .val (.ref d), .val (.int (4 : Int32)), .unset]) rfl rfl ?_
          refine G.iload X14 hx (pc' := 16) (hb hby d5_14) rfl rfl ?_
          refine G.iloadN X14 hx (pc' := 17) (hb hby d5_16) rfl rfl ?_
          refine G.icmpT X14 hx (pc' := 57) (hb hby d5_17) (Jvm.Free.XT.ii_eq_t rfl) (by decide) (by decide) ?_
          refine G.aloadN X14 hx (pc' := 58) (hb hby d5_57) rfl rfl rfl ?_
          refine Goes.retA X14 hx hret rfl hlk rfl rfl (hb hby d5_58) (by decide) (by decide) ⟨d, (0 : Int32), _, rfl, K14, Ad14, Or.inl ⟨rfl, rfl, rfl, hl0⟩, sz_d⟩
set_option maxRecDepth 65536 in
set_option maxHeartbeats 40000000 in
theorem rm_cl4_0 (l : Launch) (Z : State) (a0 : Array Value) (hw : ∀ d ∈ tables_1, d.before a0 Z = true) (d : Addr) (xs : List Value) (h0 : Heap) (Bd : Seq Z h0 d .byte xs) (hxl : xs.length = 4) :
    Con l (⟨"java/lang/StringUTF16", "coderFromArrayLen", "([BI)B"⟩ : MethodName) jdk_52_method_15_code 2 (some .byte) ({ frames := 0, cells := 0, slots := 0, locals := 0 } : Room) Z #[(.ref d), (.int (4 : Int32))] h0 (Pur (some (.int (0 : Int32))) h0) := by
  refine Con.of_body (plainFor_of_name pn_0) ?_
  intro p e s m below meth c T0 X0 hx hby hml hZ hown hnm hret hlk e0
  have hown : s.vm.findClass "java/lang/StringUTF16" = some m.cls := hown
  have hml : c.maxLocals = 2 := hml
  refine Goes.cast (ef7_RI m d (4 : Int32)) ?_
  refine G.iloadN X0 hx (pc' := 1) (hb hby d7_0) rfl rfl ?_
  refine G.aloadN X0 hx (pc' := 2) (hb hby d7_1) rfl rfl rfl ?_
  refine G.arraylength X0 hx hZ e0 Bd (pc' := 3) (hb hby d7_2) (z := (4 : Int32)) (by rw [hxl]; rfl) rfl ?_
  refine G.isub X0 hx (pc' := 4) (hb hby d7_3) rfl ?_
  refine G.bipush X0 hx (pc' := 6) (hb hby d7_4) (z := (31 : Int32)) rfl rfl ?_
  refine G.iushr X0 hx (pc' := 7) (hb hby d7_6) rfl ?_
  refine G.i2b X0 hx (pc' := 8) (hb hby d7_7) rfl ?_
  refine Goes.retN X0 hx hret (by simp) hlk (hb hby d7_8) (by decide) (by decide) ⟨congrArg (fun z => some (Value.int z)) (by decide), e0, rfl⟩
set_option maxRecDepth 65536 in
set_option maxHeartbeats 40000000 in
theorem rm_cl4_1 (l : Launch) (Z : State) (a0 : Array Value) (hw : ∀ d ∈ tables_1, d.before a0 Z = true) (d : Addr) (xs : List Value) (h0 : Heap) (Bd : Seq Z h0 d .byte xs) (hxl : xs.length = 8) :
    Con l (⟨"java/lang/StringUTF16", "coderFromArrayLen", "([BI)B"⟩ : MethodName) jdk_52_method_15_code 2 (some .byte) ({ frames := 0, cells := 0, slots := 0, locals := 0 } : Room) Z #[(.ref d), (.int (4 : Int32))] h0 (Pur (some (.int (1 : Int32))) h0) := by
  refine Con.of_body (plainFor_of_name pn_0) ?_
  intro p e s m below meth c T0 X0 hx hby hml hZ hown hnm hret hlk e0
  have hown : s.vm.findClass "java/lang/StringUTF16" = some m.cls := hown
  have hml : c.maxLocals = 2 := hml
  refine Goes.cast (ef7_RI m d (4 : Int32)) ?_
  refine G.iloadN X0 hx (pc' := 1) (hb hby d7_0) rfl rfl ?_
  refine G.aloadN X0 hx (pc' := 2) (hb hby d7_1) rfl rfl rfl ?_
  refine G.arraylength X0 hx hZ e0 Bd (pc' := 3) (hb hby d7_2) (z := (8 : Int32)) (by rw [hxl]; rfl) rfl ?_
  refine G.isub X0 hx (pc' := 4) (hb hby d7_3) rfl ?_
  refine G.bipush X0 hx (pc' := 6) (hb hby d7_4) (z := (31 : Int32)) rfl rfl ?_
  refine G.iushr X0 hx (pc' := 7) (hb hby d7_6) rfl ?_
  refine G.i2b X0 hx (pc' := 8) (hb hby d7_7) rfl ?_
  refine Goes.retN X0 hx hret (by simp) hlk (hb hby d7_8) (by decide) (by decide) ⟨congrArg (fun z => some (Value.int z)) (by decide), e0, rfl⟩
set_option maxRecDepth 65536 in
set_option maxHeartbeats 40000000 in
theorem rm_s4_4 (l : Launch) (Z : State) (a0 : Array Value) (hw : ∀ d ∈ tables_1, d.before a0 Z = true) (a x : Addr) (u0 u1 u2 u3 : Int32) (cs : Int32) (h0 : Heap) (SC : Sta Z h0 "java/lang/String" "COMPACT_STRINGS" "Z" (.int cs)) (hcs : ¬ cs = (0 : Int32)) (SA : Sta Z h0 "java/lang/StringUTF16" "$assertionsDisabled" "Z" (.int (1 : Int32))) (SH : Sta Z h0 "java/lang/StringUTF16" "HI_BYTE_SHIFT" "I" (.int (0 : Int32))) (SO : Sta Z h0 "java/lang/StringUTF16" "LO_BYTE_SHIFT" "I" (.int (8 : Int32))) (Ea : Exa Z h0 a "java/lang/String") (Fc : Fld Z h0 a "java/lang/String" "coder" "B" (.int (0 : Int32))) (Fv : Fld Z h0 a "java/lang/String" "value" "[B" .null) (Bx : Seq Z h0 x .char [(.int u0), (.int u1), (.int u2), (.int u3)]) (nax : a ≠ x) (hu0 : isCh u0) (hu1 : isCh u1) (hu2 : isCh u2) (hu3 : isCh u3) :
    Con l (⟨"java/lang/String", "<init>", "([CIILjava/lang/Void;)V"⟩ : MethodName) jdk_42_method_149_code 6 none ({ frames := 4, cells := 2, slots := 12, locals := 57 } : Room) Z #[(.ref a), (.ref x), (.int (0 : Int32)), (.int (4 : Int32)), .null] h0 (fun v h L => v = none ∧ Kp h0 h [a] L ∧ ∃ b cd xs, Fld Z h a "java/lang/String" "coder" "B" (.int cd) ∧ Fld Z h a "java/lang/String" "value" "[B" (.ref b) ∧ Seq Z h b .byte xs ∧ SQ 4 u0 cd xs ∧ h0.size ≤ b) := by
  refine Con.of_body (plainFor_of_name pn_3) ?_
  intro p e s m below meth c T0 X0 hx hby hml hZ hown hnm hret hlk e0
  have hown : s.vm.findClass "java/lang/String" = some m.cls := hown
  have hml : c.maxLocals = 6 := hml
  refine Goes.cast (ef3_RRIIN m a x (0 : Int32) (4 : Int32)) ?_
  have K0 := Kp.refl h0 [a]
  refine G.aloadN X0 hx (pc' := 1) (hb hby d3_0) rfl rfl rfl ?_
  refine G.initO X0 hx hZ hown (hw _ (List.mem_of_getElem? (i := 16) rfl)) (hw _ (List.mem_of_getElem? (i := 17) rfl)) (hw _ (List.mem_of_getElem? (i := 18) rfl)) e0 (by rw [hml]; rfl) (hb hby d3_1) (by decide) (W := 0) (Nat.le_of_eq rfl) (by decide) (pc' := 4) rfl fun T1 X1 e1 => ?_
  refine G.iloadN X1 hx (pc' := 5) (hb hby d3_4) rfl rfl ?_
  refine G.ifT X1 hx (pc' := 27) (hb hby d3_5) (Jvm.Free.XT.i0_ne_t (by decide)) (by decide) (by decide) ?_
  refine G.getS X1 hx hZ hown (hw _ (List.mem_of_getElem? (i := 19) rfl)) Via.refl e1 SC (pc' := 30) (hb hby d3_27) rfl fun T2 X2 e2 => ?_
  refine G.ifF X2 hx (pc' := 33) (hb hby d3_30) (Jvm.Free.XT.i0_eq_f hcs) rfl ?_
  refine G.aloadN X2 hx (pc' := 34) (hb hby d3_33) rfl rfl rfl ?_
  refine G.iloadN X2 hx (pc' := 35) (hb hby d3_34) rfl rfl ?_
  refine G.iloadN X2 hx (pc' := 36) (hb hby d3_35) rfl rfl ?_
  refine G.callS X2 hx hZ (y := (⟨"java/lang/StringUTF16", "compress", "([CII)[B"⟩ : MethodName)) hown (hw _ (List.mem_of_getElem? (i := 20) rfl)) (hw _ (List.mem_of_getElem? (i := 21) rfl)) (hw _ (List.mem_of_getElem? (i := 22) rfl)) (hw _ (List.mem_of_getElem? (i := 23) rfl)) (by decide) e2 (rm := ({ frames := 3, cells := 2, slots := 12, locals := 40 } : Room)) (argsL := [(.ref x), (.int (0 : Int32)), (.int (4 : Int32))]) (S := []) (W := 0) (rm_c3_4 l Z a0 hw x u0 u1 u2 u3 h0 Bx SA SH SO hu0 hu1 hu2 hu3) (lenOf pd_16 rfl) rfl (Nat.le_of_eq rfl) (by decide) (by decide) (by decide) (by decide) (by rw [hml]; rfl) (hb hby d3_36) (pc' := 39) rfl ?_
  rintro T3 _ L3 ⟨d, cd, xs, rfl, Kq3, Ad3, hsq, gd3⟩ X3
  have F3_a_coder := Fld.keep Fc Kq3.1 nin0
  have F3_a_value := Fld.keep Fv Kq3.1 nin0
  have E3_a := Exa.keep Ea Kq3.1
  have A3_x := Seq.keep Bx Kq3.1 nin0
  have K3 := Kp.call K0 Kq3 all0
  have ne_a_d : a ≠ d := Nat.ne_of_lt (Nat.lt_of_lt_of_le Ea.lt gd3)
  have ne_x_d : x ≠ d := Nat.ne_of_lt (Nat.lt_of_lt_of_le Bx.lt gd3)
  show Goes p e below T3 (mkF m 39 #[.val (.ref a), .val (.ref x), .val (.int (0 : Int32)), .val (.int (4 : Int32)), .val .null, .unset] [(.ref d)]) _
  refine G.astore X3 hx (pc' := 41) (hb hby d3_39) rfl (L' := #[.val (.ref a), .val (.ref x), .val (.int (0 : Int32)), .val (.int (4 : Int32)), .val .null, .val (.ref d)]) rfl rfl ?_
  refine G.aloadN X3 hx (pc' := 42) (hb hby d3_41) rfl rfl rfl ?_
  refine G.aload X3 hx (pc' := 44) (hb hby d3_42) rfl rfl rfl ?_
  refine G.iloadN X3 hx (pc' := 45) (hb hby d3_44) rfl rfl ?_
  have hsq' := hsq
  rcases hsq' with ⟨rfl, hxl, -, -⟩ | ⟨rfl, hxl, -, -⟩
  · refine G.callS X3 hx hZ (y := (⟨"java/lang/StringUTF16", "coderFromArrayLen", "([BI)B"⟩ : MethodName)) hown (hw _ (List.mem_of_getElem? (i := 28) rfl)) (hw _ (List.mem_of_getElem? (i := 29) rfl)) (hw _ (List.mem_of_getElem? (i := 22) rfl)) (hw _ (List.mem_of_getElem? (i := 30) rfl)) (by decide) rfl (rm := ({ frames := 0, cells := 0, slots := 0, locals := 0 } : Room)) (argsL := [(.ref d), (.int (4 : Int32))]) (S := [(.ref a)]) (W := 1) (rm_cl4_0 l Z a0 hw d xs T3.heap Ad3 hxl) (lenOf pd_17 rfl) rfl (Nat.le_of_eq rfl) (by decide) (by decide) (by decide) (by decide) (by rw [hml]; rfl) (hb hby d3_45) (pc' := 48) rfl ?_
    rintro T4 _ _ ⟨rfl, e4, rfl⟩ X4
    rw [List.append_nil] at X4
    show Goes p e below T4 (mkF m 48 #[.val (.ref a), .val (.ref x), .val (.int (0 : Int32)), .val (.int (4 : Int32)), .val .null, .val (.ref d)] [(.int (0 : Int32)), (.ref a)]) _
    refine G.putFN X4 hx hZ hown (hw _ (List.mem_of_getElem? (i := 31) rfl)) Via.refl e4 F3_a_coder E3_a (Or.inr ⟨(hw _ (List.mem_of_getElem? (i := 32) rfl)), rfl, hnm⟩) (hw _ (List.mem_of_getElem? (i := 7) rfl)) (ty := .byte) (v' := (.int (nar .byte (0 : Int32)))) (by decide) rfl (fits_nar_byte _) (pc' := 51) (hb hby d3_48) rfl fun T5 h5 X5 e5 W5 => ?_
    have F5_a_value := Fld.other W5 F3_a_value (Or.inr (slot_ne (Or.inr (hw _ (List.mem_of_getElem? (i := 34) rfl))) (Or.inr (hw _ (List.mem_of_getElem? (i := 32) rfl))) (by decide) (t := (.array .byte)) (t' := .byte) (by decide) (by decide)))
    have E5_a := Exa.wr W5 E3_a
    have A5_x := Seq.other A3_x W5 (Ne.symm nax)
    have A5_d := Seq.other Ad3 W5 (Ne.symm ne_a_d)
    have K5 := Kp.wr K3 W5 (Or.inl (List.mem_of_getElem? (i := 0) rfl))
    have F5_a_coder := Fld.same W5 F3_a_coder
    refine G.aloadN X5 hx (pc' := 52) (hb hby d3_51) rfl rfl rfl ?_
    refine G.aload X5 hx (pc' := 54) (hb hby d3_52) rfl rfl rfl ?_
    refine G.putF X5 hx hZ hown (hw _ (List.mem_of_getElem? (i := 33) rfl)) Via.refl e5 F5_a_value E5_a (Or.inr ⟨(hw _ (List.mem_of_getElem? (i := 34) rfl)), rfl, hnm⟩) (hw _ (List.mem_of_getElem? (i := 7) rfl)) (ty := (.array .byte)) (by decide) rfl rfl (pc' := 57) (hb hby d3_54) rfl fun T6 h6 X6 e6 W6 => ?_
    have F6_a_coder := Fld.other W6 F5_a_coder (Or.inr (slot_ne (Or.inr (hw _ (List.mem_of_getElem? (i := 32) rfl))) (Or.inr (hw _ (List.mem_of_getElem? (i := 34) rfl))) (by decide) (t := .byte) (t' := (.array .byte)) (by decide) (by decide)))
    have E6_a := Exa.wr W6 E5_a
    have A6_x := Seq.other A5_x W6 (Ne.symm nax)
    have A6_d := Seq.other A5_d W6 (Ne.symm ne_a_d)
    have K6 := Kp.wr K5 W6 (Or.inl (List.mem_of_getElem? (i := 0) rfl))
    have F6_a_value := Fld.same W6 F5_a_value
    refine Goes.retV X6 hx hret hlk (hb hby d3_57) (by decide) (by decide) ⟨rfl, (by rw [e6]; exact K6), d, (0 : Int32), xs, (by rw [e6]; exact F6_a_coder), (by rw [e6]; exact F6_a_value), (by rw [e6]; exact A6_d), hsq, gd3⟩
  · refine G.callS X3 hx hZ (y := (⟨"java/lang/StringUTF16", "coderFromArrayLen", "([BI)B"⟩ : MethodName)) hown (hw _ (List.mem_of_getElem? (i := 28) rfl)) (hw _ (List.mem_of_getElem? (i := 29) rfl)) (hw _ (List.mem_of_getElem? (i := 22) rfl)) (hw _ (List.mem_of_getElem? (i := 30) rfl)) (by decide) rfl (rm := ({ frames := 0, cells := 0, slots := 0, locals := 0 } : Room)) (argsL := [(.ref d), (.int (4 : Int32))]) (S := [(.ref a)]) (W := 1) (rm_cl4_1 l Z a0 hw d xs T3.heap Ad3 hxl) (lenOf pd_17 rfl) rfl (Nat.le_of_eq rfl) (by decide) (by decide) (by decide) (by decide) (by rw [hml]; rfl) (hb hby d3_45) (pc' := 48) rfl ?_
    rintro T7 _ _ ⟨rfl, e7, rfl⟩ X7
    rw [List.append_nil] at X7
    show Goes p e below T7 (mkF m 48 #[.val (.ref a), .val (.ref x), .val (.int (0 : Int32)), .val (.int (4 : Int32)), .val .null, .val (.ref d)] [(.int (1 : Int32)), (.ref a)]) _
    refine G.putFN X7 hx hZ hown (hw _ (List.mem_of_getElem? (i := 31) rfl)) Via.refl e7 F3_a_coder E3_a (Or.inr ⟨(hw _ (List.mem_of_getElem? (i := 32) rfl)), rfl, hnm⟩) (hw _ (List.mem_of_getElem? (i := 7) rfl)) (ty := .byte) (v' := (.int (nar .byte (1 : Int32)))) (by decide) rfl (fits_nar_byte _) (pc' := 51) (hb hby d3_48) rfl fun T8 h8 X8 e8 W8 => ?_
    have F8_a_value := Fld.other W8 F3_a_value (Or.inr (slot_ne (Or.inr (hw _ (List.mem_of_getElem? (i := 34) rfl))) (Or.inr (hw _ (List.mem_of_getElem? (i := 32) rfl))) (by decide) (t := (.array .byte)) (t' := .byte) (by decide) (by decide)))
    have E8_a := Exa.wr W8 E3_a
    have A8_x := Seq.other A3_x W8 (Ne.symm nax)
    have A8_d := Seq.other Ad3 W8 (Ne.symm ne_a_d)
    have K8 := Kp.wr K3 W8 (Or.inl (List.mem_of_getElem? (i := 0) rfl))
    have F8_a_coder := Fld.same W8 F3_a_coder
    refine G.aloadN X8 hx (pc' := 52) (hb hby d3_51) rfl rfl rfl ?_
    refine G.aload X8 hx (pc' := 54) (hb hby d3_52) rfl rfl rfl ?_
    refine G.putF X8 hx hZ hown (hw _ (List.mem_of_getElem? (i := 33) rfl)) Via.refl e8 F8_a_value E8_a (Or.inr ⟨(hw _ (List.mem_of_getElem? (i := 34) rfl)), rfl, hnm⟩) (hw _ (List.mem_of_getElem? (i := 7) rfl)) (ty := (.array .byte)) (by decide) rfl rfl (pc' := 57) (hb hby d3_54) rfl fun T9 h9 X9 e9 W9 => ?_
    have F9_a_coder := Fld.other W9 F8_a_coder (Or.inr (slot_ne (Or.inr (hw _ (List.mem_of_getElem? (i := 32) rfl))) (Or.inr (hw _ (List.mem_of_getElem? (i := 34) rfl))) (by decide) (t := .byte) (t' := (.array .byte)) (by decide) (by decide)))
    have E9_a := Exa.wr W9 E8_a
    have A9_x := Seq.other A8_x W9 (Ne.symm nax)
    have A9_d := Seq.other A8_d W9 (Ne.symm ne_a_d)
    have K9 := Kp.wr K8 W9 (Or.inl (List.mem_of_getElem? (i := 0) rfl))
    have F9_a_value := Fld.same W9 F8_a_value
    refine Goes.retV X9 hx hret hlk (hb hby d3_57) (by decide) (by decide) ⟨rfl, (by rw [e9]; exact K9), d, (1 : Int32), xs, (by rw [e9]; exact F9_a_coder), (by rw [e9]; exact F9_a_value), (by rw [e9]; exact A9_d), hsq, gd3⟩
set_option maxRecDepth 65536 in
set_option maxHeartbeats 40000000 in
theorem rm_s1_4 (l : Launch) (Z : State) (a0 : Array Value) (hw : ∀ d ∈ tables_1, d.before a0 Z = true) (a x : Addr) (u0 u1 u2 u3 : Int32) (cs : Int32) (h0 : Heap) (SC : Sta Z h0 "java/lang/String" "COMPACT_STRINGS" "Z" (.int cs)) (hcs : ¬ cs = (0 : Int32)) (SA : Sta Z h0 "java/lang/StringUTF16" "$assertionsDisabled" "Z" (.int (1 : Int32))) (SH : Sta Z h0 "java/lang/StringUTF16" "HI_BYTE_SHIFT" "I" (.int (0 : Int32))) (SO : Sta Z h0 "java/lang/StringUTF16" "LO_BYTE_SHIFT" "I" (.int (8 : Int32))) (Ea : Exa Z h0 a "java/lang/String") (Fc : Fld Z h0 a "java/lang/String" "coder" "B" (.int (0 : Int32))) (Fv : Fld Z h0 a "java/lang/String" "value" "[B" .null) (Bx : Seq Z h0 x .char [(.int u0), (.int u1), (.int u2), (.int u3)]) (nax : a ≠ x) (hu0 : isCh u0) (hu1 : isCh u1) (hu2 : isCh u2) (hu3 : isCh u3) :
    Con l (⟨"java/lang/String", "<init>", "([C)V"⟩ : MethodName) jdk_42_method_3_code 2 none ({ frames := 5, cells := 2, slots := 12, locals := 74 } : Room) Z #[(.ref a), (.ref x)] h0 (fun v h L => v = none ∧ Kp h0 h [a] L ∧ ∃ b cd xs, Fld Z h a "java/lang/String" "coder" "B" (.int cd) ∧ Fld Z h a "java/lang/String" "value" "[B" (.ref b) ∧ Seq Z h b .byte xs ∧ SQ 4 u0 cd xs ∧ h0.size ≤ b) := by
  refine Con.of_body (plainFor_of_name pn_3) ?_
  intro p e s m below meth c T0 X0 hx hby hml hZ hown hnm hret hlk e0
  have hown : s.vm.findClass "java/lang/String" = some m.cls := hown
  have hml : c.maxLocals = 2 := hml
  refine Goes.cast (ef2_RR m a x) ?_
  have K0 := Kp.refl h0 [a]
  refine G.aloadN X0 hx (pc' := 1) (hb hby d2_0) rfl rfl rfl ?_
  refine G.aloadN X0 hx (pc' := 2) (hb hby d2_1) rfl rfl rfl ?_
  refine G.iconst X0 hx (pc' := 3) (hb hby d2_2) (z := (0 : Int32)) rfl rfl ?_
  refine G.aloadN X0 hx (pc' := 4) (hb hby d2_3) rfl rfl rfl ?_
  refine G.arraylength X0 hx hZ e0 Bx (pc' := 5) (hb hby d2_4) (z := (4 : Int32)) rfl rfl ?_
  refine G.aconstNull X0 hx (pc' := 6) (hb hby d2_5) rfl ?_
  refine G.callI X0 hx hZ (y := (⟨"java/lang/String", "<init>", "([CIILjava/lang/Void;)V"⟩ : MethodName)) rfl hown (hw _ (List.mem_of_getElem? (i := 12) rfl)) (hw _ (List.mem_of_getElem? (i := 13) rfl)) (hw _ (List.mem_of_getElem? (i := 8) rfl)) (hw _ (List.mem_of_getElem? (i := 15) rfl)) (by decide) e0 (rm := ({ frames := 4, cells := 2, slots := 12, locals := 57 } : Room)) (argsL := [(.ref x), (.int (0 : Int32)), (.int (4 : Int32)), .null]) (S := []) (W := 0) (a := a) (rm_s4_4 l Z a0 hw a x u0 u1 u2 u3 cs h0 SC hcs SA SH SO Ea Fc Fv Bx nax hu0 hu1 hu2 hu3) (lenOf pd_18 rfl) rfl (Nat.le_of_eq rfl) (by decide) (by decide) (by decide) (by decide) (by rw [hml]; rfl) (hb hby d2_6) (pc' := 9) rfl ?_
  rintro T1 _ L1 ⟨rfl, Kq1, hrest⟩ X1
  have E1_a := Exa.keep Ea Kq1.1
  have A1_x := Seq.keep Bx Kq1.1 (ninS (Ne.symm nax) nin0)
  have K1 := Kp.call K0 Kq1 (allS (Or.inl (List.mem_of_getElem? (i := 0) rfl)) all0)
  show Goes p e below T1 (mkF m 9 #[.val (.ref a), .val (.ref x)] []) _
  refine Goes.retV X1 hx hret hlk (hb hby d2_9) (by decide) (by decide) ⟨rfl, K1, hrest⟩
set_option maxRecDepth 65536 in
set_option maxHeartbeats 40000000 in
theorem rm_make4 (l : Launch) (Z : State) (a0 : Array Value) (hw : ∀ d ∈ tables_1, d.before a0 Z = true) (u0 u1 u2 u3 cs : Int32) (h0 : Heap) (SC : Sta Z h0 "java/lang/String" "COMPACT_STRINGS" "Z" (.int cs)) (hcs : ¬ cs = (0 : Int32)) (SA : Sta Z h0 "java/lang/StringUTF16" "$assertionsDisabled" "Z" (.int (1 : Int32))) (SH : Sta Z h0 "java/lang/StringUTF16" "HI_BYTE_SHIFT" "I" (.int (0 : Int32))) (SO : Sta Z h0 "java/lang/StringUTF16" "LO_BYTE_SHIFT" "I" (.int (8 : Int32))) (hu0 : isCh u0) (hu1 : isCh u1) (hu2 : isCh u2) (hu3 : isCh u3) :
    Con l (⟨"com/example/bowerbird/bowerbird/RequiredTextPinLaw", "make", "(ICCCC)Ljava/lang/String;"⟩ : MethodName) method_3_code 6 (some (.object "java/lang/String")) ({ frames := 6, cells := 4, slots := 20, locals := 88 } : Room) Z #[(.int (4 : Int32)), (.int u0), (.int u1), (.int u2), (.int u3)] h0 (fun v h L => ∃ a, v = some (.ref a) ∧ Kp h0 h [] L ∧ Exa Z h a "java/lang/String" ∧ ∃ b cd xs, Fld Z h a "java/lang/String" "coder" "B" (.int cd) ∧ Fld Z h a "java/lang/String" "value" "[B" (.ref b) ∧ Seq Z h b .byte xs ∧ SQ 4 u0 cd xs) := by
  refine Con.of_body (plainFor_of_name pn_20) ?_
  intro p e s m below meth c T0 X0 hx hby hml hZ hown hnm hret hlk e0
  have hown : s.vm.findClass "com/example/bowerbird/bowerbird/RequiredTextPinLaw" = some m.cls := hown
  have hml : c.maxLocals = 6 := hml
  refine Goes.cast (ef1_IIIII m (4 : Int32) u0 u1 u2 u3) ?_
  have K0 := Kp.refl h0 []
  refine G.iloadN X0 hx (pc' := 1) (hb hby d1_0) rfl rfl ?_
  refine G.iconst X0 hx (pc' := 2) (hb hby d1_1) (z := (1 : Int32)) rfl rfl ?_
  refine G.icmpT X0 hx (pc' := 25) (hb hby d1_2) (Jvm.Free.XT.ii_ne_t (by decide)) (by decide) (by decide) ?_
  refine G.iloadN X0 hx (pc' := 26) (hb hby d1_25) rfl rfl ?_
  refine G.iconst X0 hx (pc' := 27) (hb hby d1_26) (z := (2 : Int32)) rfl rfl ?_
  refine G.icmpT X0 hx (pc' := 55) (hb hby d1_27) (Jvm.Free.XT.ii_ne_t (by decide)) (by decide) (by decide) ?_
  refine G.iloadN X0 hx (pc' := 56) (hb hby d1_55) rfl rfl ?_
  refine G.iconst X0 hx (pc' := 57) (hb hby d1_56) (z := (3 : Int32)) rfl rfl ?_
  refine G.icmpT X0 hx (pc' := 90) (hb hby d1_57) (Jvm.Free.XT.ii_ne_t (by decide)) (by decide) (by decide) ?_
  refine G.iconst X0 hx (pc' := 91) (hb hby d1_90) (z := (4 : Int32)) rfl rfl ?_
  refine G.newP X0 hx hZ (hw _ (List.mem_of_getElem? (i := 5) rfl)) e0 (hb hby d1_91) (by decide) (n := 4) (cap := 4) rfl (by decide) (by decide) (by decide) (by decide) (pc' := 93) rfl fun T1 h1 x g1 X1 e1 Ex1 A1 => ?_
  have sz_x : h0.size ≤ x := Nat.le_trans K0.size (Nat.le_of_eq g1.symm)
  have K1 := Kp.ext K0 Ex1
  have A1_x : Seq Z h1 x .char [(.int (0 : Int32)), (.int (0 : Int32)), (.int (0 : Int32)), (.int (0 : Int32))] := A1
  refine G.astore X1 hx (pc' := 95) (hb hby d1_93) rfl (L' := #[.val (.int (4 : Int32)), .val (.int u0), .val (.int u1), .val (.int u2), .val (.int u3), .val (.ref x)]) rfl rfl ?_
  refine G.aload X1 hx (pc' := 97) (hb hby d1_95) rfl rfl rfl ?_
  refine G.iconst X1 hx (pc' := 98) (hb hby d1_97) (z := (0 : Int32)) rfl rfl ?_
  refine G.iloadN X1 hx (pc' := 99) (hb hby d1_98) rfl rfl ?_
  refine G.castore X1 hx hZ e1 A1_x (pc' := 100) (hb hby d1_99) (by decide) (Nat.le_of_ble_eq_true rfl) rfl fun T2 h2 X2 e2 W2 A2 => ?_
  have K2 := Kp.wr K1 W2 (Or.inr sz_x)
  have A2_x : Seq Z h2 x .char [(.int (nar .char u0)), (.int (0 : Int32)), (.int (0 : Int32)), (.int (0 : Int32))] := A2
  rw [own_nc hu0] at A2_x
  refine G.aload X2 hx (pc' := 102) (hb hby d1_100) rfl rfl rfl ?_
  refine G.iconst X2 hx (pc' := 103) (hb hby d1_102) (z := (1 : Int32)) rfl rfl ?_
  refine G.iloadN X2 hx (pc' := 104) (hb hby d1_103) rfl rfl ?_
  refine G.castore X2 hx hZ e2 A2_x (pc' := 105) (hb hby d1_104) (by decide) (Nat.le_of_ble_eq_true rfl) rfl fun T3 h3 X3 e3 W3 A3 => ?_
  have K3 := Kp.wr K2 W3 (Or.inr sz_x)
  have A3_x : Seq Z h3 x .char [(.int u0), (.int (nar .char u1)), (.int (0 : Int32)), (.int (0 : Int32))] := A3
  rw [own_nc hu1] at A3_x
  refine G.aload X3 hx (pc' := 107) (hb hby d1_105) rfl rfl rfl ?_
  refine G.iconst X3 hx (pc' := 108) (hb hby d1_107) (z := (2 : Int32)) rfl rfl ?_
  refine G.iloadN X3 hx (pc' := 109) (hb hby d1_108) rfl rfl ?_
  refine G.castore X3 hx hZ e3 A3_x (pc' := 110) (hb hby d1_109) (by decide) (Nat.le_of_ble_eq_true rfl) rfl fun T4 h4 X4 e4 W4 A4 => ?_
  have K4 := Kp.wr K3 W4 (Or.inr sz_x)
  have A4_x : Seq Z h4 x .char [(.int u0), (.int u1), (.int (nar .char u2)), (.int (0 : Int32))] := A4
  rw [own_nc hu2] at A4_x
  refine G.aload X4 hx (pc' := 112) (hb hby d1_110) rfl rfl rfl ?_
  refine G.iconst X4 hx (pc' := 113) (hb hby d1_112) (z := (3 : Int32)) rfl rfl ?_
  refine G.iload X4 hx (pc' := 115) (hb hby d1_113) rfl rfl ?_
  refine G.castore X4 hx hZ e4 A4_x (pc' := 116) (hb hby d1_115) (by decide) (Nat.le_of_ble_eq_true rfl) rfl fun T5 h5 X5 e5 W5 A5 => ?_
  have K5 := Kp.wr K4 W5 (Or.inr sz_x)
  have A5_x : Seq Z h5 x .char [(.int u0), (.int u1), (.int u2), (.int (nar .char u3))] := A5
  rw [own_nc hu3] at A5_x
  refine G.newO X5 hx hZ hown (hw _ (List.mem_of_getElem? (i := 6) rfl)) (hw _ (List.mem_of_getElem? (i := 7) rfl)) (hw _ (List.mem_of_getElem? (i := 8) rfl)) e5 (hb hby d1_116) (by decide) (by decide) (pc' := 119) rfl fun T6 h6 a g6 X6 e6 Ex6 Ea6 D6 => ?_
  have ne_x_a : x ≠ a := Nat.ne_of_lt (Nat.lt_of_lt_of_le A5_x.lt (Nat.le_of_eq g6.symm))
  have sz_a : h0.size ≤ a := Nat.le_trans K5.size (Nat.le_of_eq g6.symm)
  have A6_x := Seq.ext A5_x Ex6
  have K6 := Kp.ext K5 Ex6
  have F6_a_coder : Fld Z h6 a "java/lang/String" "coder" "B" (.int (0 : Int32)) := D6 (Or.inr (hw _ (List.mem_of_getElem? (i := 32) rfl))) (ty := .byte) (by decide)
  have F6_a_value : Fld Z h6 a "java/lang/String" "value" "[B" .null := D6 (Or.inr (hw _ (List.mem_of_getElem? (i := 34) rfl))) (ty := (.array .byte)) (by decide)
  refine G.dup X6 hx (pc' := 120) (hb hby d1_119) rfl rfl ?_
  refine G.aload X6 hx (pc' := 122) (hb hby d1_120) rfl rfl rfl ?_
  refine G.callI X6 hx hZ (y := (⟨"java/lang/String", "<init>", "([C)V"⟩ : MethodName)) rfl hown (hw _ (List.mem_of_getElem? (i := 9) rfl)) (hw _ (List.mem_of_getElem? (i := 10) rfl)) (hw _ (List.mem_of_getElem? (i := 8) rfl)) (hw _ (List.mem_of_getElem? (i := 11) rfl)) (by decide) e6 (rm := ({ frames := 5, cells := 2, slots := 12, locals := 74 } : Room)) (argsL := [(.ref x)]) (S := [(.ref a)]) (W := 1) (a := a) (rm_s1_4 l Z a0 hw a x u0 u1 u2 u3 cs h6 (Sta.keep0 SC K6.1) hcs (Sta.keep0 SA K6.1) (Sta.keep0 SH K6.1) (Sta.keep0 SO K6.1) Ea6 F6_a_coder F6_a_value A6_x (Ne.symm ne_x_a) hu0 hu1 hu2 hu3) (lenOf pd_19 rfl) rfl (Nat.le_of_eq rfl) (by decide) (by decide) (by decide) (by decide) (by rw [hml]; rfl) (hb hby d1_122) (pc' := 125) rfl ?_
  rintro T7 _ L7 ⟨rfl, Kq7, b, cd, xs, Fc, Fv, Ab, hsq, gb⟩ X7
  have E7_a := Exa.keep Ea6 Kq7.1
  have A7_x := Seq.keep A6_x Kq7.1 (ninS ne_x_a nin0)
  have K7 := Kp.call K6 Kq7 (allS (Or.inr sz_a) all0)
  show Goes p e below T7 (mkF m 125 #[.val (.int (4 : Int32)), .val (.int u0), .val (.int u1), .val (.int u2), .val (.int u3), .val (.ref x)] [(.ref a)]) _
  refine Goes.retA X7 hx hret rfl hlk rfl rfl (hb hby d1_125) (by decide) (by decide) ⟨a, rfl, K7, E7_a, b, cd, xs, Fc, Fv, Ab, hsq⟩
set_option maxRecDepth 65536 in
set_option maxHeartbeats 40000000 in
theorem rm_can (l : Launch) (Z : State) (a0 : Array Value) (hw : ∀ d ∈ tables_1, d.before a0 Z = true) (u0 : Int32) (h0 : Heap) (hle : ¬ (255 : Int32) < u0) :
    Con l (⟨"java/lang/StringLatin1", "canEncode", "(C)Z"⟩ : MethodName) jdk_43_method_3_code 1 (some .boolean) ({ frames := 0, cells := 0, slots := 0, locals := 0 } : Room) Z #[(.int u0)] h0 (Pur (some (.int (1 : Int32))) h0) := by
  refine Con.of_body (plainFor_of_name pn_6) ?_
  intro p e s m below meth c T0 X0 hx hby hml hZ hown hnm hret hlk e0
  have hown : s.vm.findClass "java/lang/StringLatin1" = some m.cls := hown
  have hml : c.maxLocals = 1 := hml
  refine Goes.cast (ef23_I m u0) ?_
  refine G.iloadN X0 hx (pc' := 1) (hb hby d23_0) rfl rfl ?_
  refine G.sipush X0 hx (pc' := 4) (hb hby d23_1) (z := (255 : Int32)) rfl rfl ?_
  refine G.icmpF X0 hx (pc' := 7) (hb hby d23_4) (Jvm.Free.XT.ii_gt_f hle) rfl ?_
  refine G.iconst X0 hx (pc' := 8) (hb hby d23_7) (z := (1 : Int32)) rfl rfl ?_
  refine G.goto X0 hx (pc' := 12) (hb hby d23_8) (by decide) (by decide) ?_
  refine Goes.retN X0 hx hret (by simp) hlk (hb hby d23_12) (by decide) (by decide) ⟨rfl, e0, rfl⟩
set_option maxRecDepth 65536 in
set_option maxHeartbeats 40000000 in
theorem rm_tb1c (l : Launch) (Z : State) (a0 : Array Value) (hw : ∀ d ∈ tables_1, d.before a0 Z = true) (u0 : Int32) (h0 : Heap)  :
    Con l (⟨"java/lang/StringLatin1", "toBytes", "(C)[B"⟩ : MethodName) jdk_43_method_46_code 1 (some (.array .byte)) ({ frames := 0, cells := 1, slots := 1, locals := 0 } : Room) Z #[(.int u0)] h0 (fun v h L => ∃ d, v = some (.ref d) ∧ Kp h0 h [] L ∧ h0.size ≤ d) := by
  refine Con.of_body (plainFor_of_name pn_6) ?_
  intro p e s m below meth c T0 X0 hx hby hml hZ hown hnm hret hlk e0
  have hown : s.vm.findClass "java/lang/StringLatin1" = some m.cls := hown
  have hml : c.maxLocals = 1 := hml
  refine Goes.cast (ef24_I m u0) ?_
  have K0 := Kp.refl h0 []
  refine G.iconst X0 hx (pc' := 1) (hb hby d24_0) (z := (1 : Int32)) rfl rfl ?_
  refine G.newP X0 hx hZ (hw _ (List.mem_of_getElem? (i := 24) rfl)) e0 (hb hby d24_1) (by decide) (n := 1) (cap := 1) rfl (by decide) (by decide) (by decide) (by decide) (pc' := 3) rfl fun T1 h1 d g1 X1 e1 Ex1 A1 => ?_
  have sz_d : h0.size ≤ d := Nat.le_trans K0.size (Nat.le_of_eq g1.symm)
  have K1 := Kp.ext K0 Ex1
  have A1_d : Seq Z h1 d .byte [(.int (0 : Int32))] := A1
  refine G.dup X1 hx (pc' := 4) (hb hby d24_3) rfl rfl ?_
  refine G.iconst X1 hx (pc' := 5) (hb hby d24_4) (z := (0 : Int32)) rfl rfl ?_
  refine G.iloadN X1 hx (pc' := 6) (hb hby d24_5) rfl rfl ?_
  refine G.i2b X1 hx (pc' := 7) (hb hby d24_6) rfl ?_
  refine G.bastore X1 hx hZ e1 A1_d (pc' := 8) (hb hby d24_7) (by decide) (Nat.le_of_ble_eq_true rfl) rfl fun T2 h2 X2 e2 W2 A2 => ?_
  have K2 := Kp.wr K1 W2 (Or.inr sz_d)
  have A2_d : Seq Z h2 d .byte [(.int (lb u0))] := A2
  refine Goes.retA X2 hx hret rfl hlk rfl rfl (hb hby d24_8) (by decide) (by decide) ⟨d, rfl, (by rw [e2]; exact K2), sz_d⟩
set_option maxRecDepth 65536 in
set_option maxHeartbeats 40000000 in
theorem rm_ibb (l : Launch) (Z : State) (a0 : Array Value) (hw : ∀ d ∈ tables_1, d.before a0 Z = true) (a d : Addr) (h0 : Heap) (Ea : Exa Z h0 a "java/lang/String") (Fc : Fld Z h0 a "java/lang/String" "coder" "B" (.int (0 : Int32))) (Fv : Fld Z h0 a "java/lang/String" "value" "[B" .null) :
    Con l (⟨"java/lang/String", "<init>", "([BB)V"⟩ : MethodName) jdk_42_method_151_code 3 none ({ frames := 1, cells := 0, slots := 0, locals := 12 } : Room) Z #[(.ref a), (.ref d), (.int (0 : Int32))] h0 (fun v h L => v = none ∧ Kp h0 h [a] L) := by
  refine Con.of_body (plainFor_of_name pn_3) ?_
  intro p e s m below meth c T0 X0 hx hby hml hZ hown hnm hret hlk e0
  have hown : s.vm.findClass "java/lang/String" = some m.cls := hown
  have hml : c.maxLocals = 3 := hml
  refine Goes.cast (ef25_RRI m a d (0 : Int32)) ?_
  have K0 := Kp.refl h0 [a]
  refine G.aloadN X0 hx (pc' := 1) (hb hby d25_0) rfl rfl rfl ?_
  refine G.initO X0 hx hZ hown (hw _ (List.mem_of_getElem? (i := 16) rfl)) (hw _ (List.mem_of_getElem? (i := 17) rfl)) (hw _ (List.mem_of_getElem? (i := 18) rfl)) e0 (by rw [hml]; rfl) (hb hby d25_1) (by decide) (W := 0) (Nat.le_of_eq rfl) (by decide) (pc' := 4) rfl fun T1 X1 e1 => ?_
  refine G.aloadN X1 hx (pc' := 5) (hb hby d25_4) rfl rfl rfl ?_
  refine G.aloadN X1 hx (pc' := 6) (hb hby d25_5) rfl rfl rfl ?_
  refine G.putF X1 hx hZ hown (hw _ (List.mem_of_getElem? (i := 33) rfl)) Via.refl e1 Fv Ea (Or.inr ⟨(hw _ (List.mem_of_getElem? (i := 34) rfl)), rfl, hnm⟩) (hw _ (List.mem_of_getElem? (i := 7) rfl)) (ty := (.array .byte)) (by decide) rfl rfl (pc' := 9) (hb hby d25_6) rfl fun T2 h2 X2 e2 W2 => ?_
  have F2_a_coder := Fld.other W2 Fc (Or.inr (slot_ne (Or.inr (hw _ (List.mem_of_getElem? (i := 32) rfl))) (Or.inr (hw _ (List.mem_of_getElem? (i := 34) rfl))) (by decide) (t := .byte) (t' := (.array .byte)) (by decide) (by decide)))
  have E2_a := Exa.wr W2 Ea
  have K2 := Kp.wr K0 W2 (Or.inl (List.mem_of_getElem? (i := 0) rfl))
  have F2_a_value := Fld.same W2 Fv
  refine G.aloadN X2 hx (pc' := 10) (hb hby d25_9) rfl rfl rfl ?_
  refine G.iloadN X2 hx (pc' := 11) (hb hby d25_10) rfl rfl ?_
  refine G.putFN X2 hx hZ hown (hw _ (List.mem_of_getElem? (i := 31) rfl)) Via.refl e2 F2_a_coder E2_a (Or.inr ⟨(hw _ (List.mem_of_getElem? (i := 32) rfl)), rfl, hnm⟩) (hw _ (List.mem_of_getElem? (i := 7) rfl)) (ty := .byte) (v' := (.int (nar .byte (0 : Int32)))) (by decide) rfl (fits_nar_byte _) (pc' := 14) (hb hby d25_11) rfl fun T3 h3 X3 e3 W3 => ?_
  have F3_a_value := Fld.other W3 F2_a_value (Or.inr (slot_ne (Or.inr (hw _ (List.mem_of_getElem? (i := 34) rfl))) (Or.inr (hw _ (List.mem_of_getElem? (i := 32) rfl))) (by decide) (t := (.array .byte)) (t' := .byte) (by decide) (by decide)))
  have E3_a := Exa.wr W3 E2_a
  have K3 := Kp.wr K2 W3 (Or.inl (List.mem_of_getElem? (i := 0) rfl))
  have F3_a_coder := Fld.same W3 F2_a_coder
  refine Goes.retV X3 hx hret hlk (hb hby d25_14) (by decide) (by decide) ⟨rfl, (by rw [e3]; exact K3)⟩
set_option maxRecDepth 65536 in
set_option maxHeartbeats 40000000 in
theorem rm_vo (l : Launch) (Z : State) (a0 : Array Value) (hw : ∀ d ∈ tables_1, d.before a0 Z = true) (u0 cs : Int32) (h0 : Heap) (SC : Sta Z h0 "java/lang/String" "COMPACT_STRINGS" "Z" (.int cs)) (hcs : ¬ cs = (0 : Int32)) (hle : ¬ (255 : Int32) < u0) :
    Con l (⟨"java/lang/String", "valueOf", "(C)Ljava/lang/String;"⟩ : MethodName) jdk_42_method_139_code 1 (some (.object "java/lang/String")) ({ frames := 2, cells := 2, slots := 5, locals := 27 } : Room) Z #[(.int u0)] h0 (fun v h L => ∃ a, v = some (.ref a) ∧ Kp h0 h [] L) := by
  refine Con.of_body (plainFor_of_name pn_3) ?_
  intro p e s m below meth c T0 X0 hx hby hml hZ hown hnm hret hlk e0
  have hown : s.vm.findClass "java/lang/String" = some m.cls := hown
  have hml : c.maxLocals = 1 := hml
  refine Goes.cast (ef22_I m u0) ?_
  have K0 := Kp.refl h0 []
  refine G.getS X0 hx hZ hown (hw _ (List.mem_of_getElem? (i := 19) rfl)) Via.refl e0 SC (pc' := 3) (hb hby d22_0) rfl fun T1 X1 e1 => ?_
  refine G.ifF X1 hx (pc' := 6) (hb hby d22_3) (Jvm.Free.XT.i0_eq_f hcs) rfl ?_
  refine G.iloadN X1 hx (pc' := 7) (hb hby d22_6) rfl rfl ?_
  refine G.callS X1 hx hZ (y := (⟨"java/lang/StringLatin1", "canEncode", "(C)Z"⟩ : MethodName)) hown (hw _ (List.mem_of_getElem? (i := 101) rfl)) (hw _ (List.mem_of_getElem? (i := 102) rfl)) (hw _ (List.mem_of_getElem? (i := 69) rfl)) (hw _ (List.mem_of_getElem? (i := 103) rfl)) (by decide) e1 (rm := ({ frames := 0, cells := 0, slots := 0, locals := 0 } : Room)) (argsL := [(.int u0)]) (S := []) (W := 0) (rm_can l Z a0 hw u0 h0 hle) (lenOf pd_21 rfl) rfl (Nat.le_of_eq rfl) (by decide) (by decide) (by decide) (by decide) (by rw [hml]; rfl) (hb hby d22_7) (pc' := 10) rfl ?_
  rintro T2 _ _ ⟨rfl, e2, rfl⟩ X2
  rw [List.append_nil] at X2
  show Goes p e below T2 (mkF m 10 #[.val (.int u0)] [(.int (1 : Int32))]) _
  refine G.ifF X2 hx (pc' := 13) (hb hby d22_10) (Jvm.Free.XT.i0_eq_f (by decide)) rfl ?_
  refine G.newO X2 hx hZ hown (hw _ (List.mem_of_getElem? (i := 104) rfl)) (hw _ (List.mem_of_getElem? (i := 7) rfl)) (hw _ (List.mem_of_getElem? (i := 8) rfl)) e2 (hb hby d22_13) (by decide) (by decide) (pc' := 16) rfl fun T3 h3 a g3 X3 e3 Ex3 Ea3 D3 => ?_
  have sz_a : h0.size ≤ a := Nat.le_trans K0.size (Nat.le_of_eq g3.symm)
  have K3 := Kp.ext K0 Ex3
  have F3_a_coder : Fld Z h3 a "java/lang/String" "coder" "B" (.int (0 : Int32)) := D3 (Or.inr (hw _ (List.mem_of_getElem? (i := 32) rfl))) (ty := .byte) (by decide)
  have F3_a_value : Fld Z h3 a "java/lang/String" "value" "[B" .null := D3 (Or.inr (hw _ (List.mem_of_getElem? (i := 34) rfl))) (ty := (.array .byte)) (by decide)
  refine G.dup X3 hx (pc' := 17) (hb hby d22_16) rfl rfl ?_
  refine G.iloadN X3 hx (pc' := 18) (hb hby d22_17) rfl rfl ?_
  refine G.callS X3 hx hZ (y := (⟨"java/lang/StringLatin1", "toBytes", "(C)[B"⟩ : MethodName)) hown (hw _ (List.mem_of_getElem? (i := 105) rfl)) (hw _ (List.mem_of_getElem? (i := 106) rfl)) (hw _ (List.mem_of_getElem? (i := 69) rfl)) (hw _ (List.mem_of_getElem? (i := 107) rfl)) (by decide) e3 (rm := ({ frames := 0, cells := 1, slots := 1, locals := 0 } : Room)) (argsL := [(.int u0)]) (S := [(.ref a), (.ref a)]) (W := 2) (rm_tb1c l Z a0 hw u0 h3) (lenOf pd_22 rfl) rfl (Nat.le_of_eq rfl) (by decide) (by decide) (by decide) (by decide) (by rw [hml]; rfl) (hb hby d22_18) (pc' := 21) rfl ?_
  rintro T4 _ L4 ⟨d, rfl, Kq4, gd4⟩ X4
  have F4_a_coder := Fld.keep F3_a_coder Kq4.1 nin0
  have F4_a_value := Fld.keep F3_a_value Kq4.1 nin0
  have E4_a := Exa.keep Ea3 Kq4.1
  have K4 := Kp.call K3 Kq4 all0
  show Goes p e below T4 (mkF m 21 #[.val (.int u0)] [(.ref d), (.ref a), (.ref a)]) _
  refine G.iconst X4 hx (pc' := 22) (hb hby d22_21) (z := (0 : Int32)) rfl rfl ?_
  refine G.callI X4 hx hZ (y := (⟨"java/lang/String", "<init>", "([BB)V"⟩ : MethodName)) rfl hown (hw _ (List.mem_of_getElem? (i := 108) rfl)) (hw _ (List.mem_of_getElem? (i := 109) rfl)) (hw _ (List.mem_of_getElem? (i := 8) rfl)) (hw _ (List.mem_of_getElem? (i := 110) rfl)) (by decide) rfl (rm := ({ frames := 1, cells := 0, slots := 0, locals := 12 } : Room)) (argsL := [(.ref d), (.int (0 : Int32))]) (S := [(.ref a)]) (W := 1) (a := a) (rm_ibb l Z a0 hw a d T4.heap E4_a F4_a_coder F4_a_value) (lenOf pd_23 rfl) rfl (Nat.le_of_eq rfl) (by decide) (by decide) (by decide) (by decide) (by rw [hml]; rfl) (hb hby d22_22) (pc' := 25) rfl ?_
  rintro T5 _ L5 ⟨rfl, Kq5⟩ X5
  have E5_a := Exa.keep E4_a Kq5.1
  have K5 := Kp.call K4 Kq5 (allS (Or.inr sz_a) all0)
  show Goes p e below T5 (mkF m 25 #[.val (.int u0)] [(.ref a)]) _
  refine Goes.retA X5 hx hret rfl hlk rfl rfl (hb hby d22_25) (by decide) (by decide) ⟨a, rfl, K5⟩
set_option maxRecDepth 65536 in
set_option maxHeartbeats 40000000 in
theorem rm_e4 (l : Launch) (Z : State) (a0 : Array Value) (hw : ∀ d ∈ tables_1, d.before a0 Z = true) (a x : Addr) (h0 : Heap) (Ea : Exa Z h0 a "java/lang/String") (Fc : Fld Z h0 a "java/lang/String" "coder" "B" (.int (0 : Int32))) (Fv : Fld Z h0 a "java/lang/String" "value" "[B" .null) (Bx : Seq Z h0 x .char []) (nax : a ≠ x) (hheld : Jvm.Lit.constHeld Z "java/lang/String" 7) (hcw : Jvm.Lit.compactW.before a0 Z = true) (hkp : ∀ (b : Addr) (cl : Cell), Z.heap[b]? = some cl → h0[b]? = some cl) :
    ConI l (⟨"java/lang/String", "<init>", "([CIILjava/lang/Void;)V"⟩ : MethodName) jdk_42_method_149_code 6 none ({ frames := 1, cells := 2, slots := 4, locals := 12 } : Room) Z #[(.ref a), (.ref x), (.int (0 : Int32)), (.int (0 : Int32)), .null] h0 (fun v h L => v = none ∧ Kp h0 h [a] L) := by
  refine ConI.of_body (plainFor_of_name pn_3) ?_
  intro p e s m below meth c T0 X0 hx hby hml hZ hown hnm hret hlk e0 hsh hIB
  have hown : (s.setVm s.vm).vm.findClass "java/lang/String" = some m.cls := hown
  have hml : c.maxLocals = 6 := hml
  have hS0 := since0 s
  have hk0 : 0 ≤ h0.size := Nat.zero_le _
  refine Goes.cast (ef3_RRIIN m a x (0 : Int32) (0 : Int32)) ?_
  have K0 := Kp.refl h0 [a]
  refine G.aloadN X0 hx (pc' := 1) (hb hby d3_0) rfl rfl rfl ?_
  refine G.initO X0 hx hZ hown (hw _ (List.mem_of_getElem? (i := 16) rfl)) (hw _ (List.mem_of_getElem? (i := 17) rfl)) (hw _ (List.mem_of_getElem? (i := 18) rfl)) e0 (by rw [hml]; rfl) (hb hby d3_1) (by decide) (W := 0) (Nat.le_of_eq rfl) (by decide) (pc' := 4) rfl fun T1 X1 e1 => ?_
  refine G.iloadN X1 hx (pc' := 5) (hb hby d3_4) rfl rfl ?_
  refine G.ifF X1 hx (pc' := 8) (hb hby d3_5) (Jvm.Free.XT.i0_ne_f rfl) rfl ?_
  refine G.aloadN X1 hx (pc' := 9) (hb hby d3_8) rfl rfl rfl ?_
  refine G.ldcLitL X1 hx hZ hown (hw _ (List.mem_of_getElem? (i := 35) rfl)) (fun c hc => hw c (by simpa using (List.all_eq_true.mp (by decide +kernel : (Bundle.stringAtoms.all fun c => tables_1.contains c) = true)) c hc)) e1 hS0 hk0 (Fr.nil _) (fun b cl q => by rw [hsh]; exact hkp b cl q) hIB (by decide) hheld hcw (vs := []) (z := 0) (by decide +kernel) (by decide) rfl (hb hby d3_9) (n := 0) (by decide +kernel) (by decide) (by decide) (by decide) (pc' := 11) rfl fun ea T2 h2 k2 eb X2 e2 Ex2 hS2 hk2 hZ hown Ee2 Ge2 Gv2 Ab2 Lt => ?_
  have F2_a_coder := Fld.ext  Ex2 Fc
  have F2_a_value := Fld.ext  Ex2 Fv
  have E2_a := Exa.ext  Ex2 Ea
  have A2_x := Seq.ext Bx Ex2
  have K2 := Kp.ext K0 Ex2
  have ne_a_ea : a ≠ ea := Fld.ne F2_a_value Gv2 (by intro q; cases q)
  refine G.getF X2 hx hZ hown (hw _ (List.mem_of_getElem? (i := 33) rfl)) Via.refl e2 Gv2 (pc' := 14) (hb hby d3_11) rfl fun T3 X3 e3 => ?_
  refine G.putF X3 hx hZ hown (hw _ (List.mem_of_getElem? (i := 33) rfl)) Via.refl e3 F2_a_value E2_a (Or.inr ⟨(hw _ (List.mem_of_getElem? (i := 34) rfl)), rfl, hnm⟩) (hw _ (List.mem_of_getElem? (i := 7) rfl)) (ty := (.array .byte)) (by decide) rfl rfl (pc' := 17) (hb hby d3_14) rfl fun T4 h4 X4 e4 W4 => ?_
  have F4_a_coder := Fld.other W4 F2_a_coder (Or.inr (slot_ne (Or.inr (hw _ (List.mem_of_getElem? (i := 32) rfl))) (Or.inr (hw _ (List.mem_of_getElem? (i := 34) rfl))) (by decide) (t := .byte) (t' := (.array .byte)) (by decide) (by decide)))
  have F4_ea_coder := Fld.other W4 Ge2 (Or.inl (Ne.symm ne_a_ea))
  have F4_ea_value := Fld.other W4 Gv2 (Or.inl (Ne.symm ne_a_ea))
  have E4_a := Exa.wr W4 E2_a
  have E4_ea := Exa.wr W4 Ee2
  have A4_x := Seq.other A2_x W4 (Ne.symm nax)
  have K4 := Kp.wr K2 W4 (Or.inl (List.mem_of_getElem? (i := 0) rfl))
  have hk4 := Nat.le_trans hk2 (Keep.of_wr W4).1
  have F4_a_value := Fld.same W4 F2_a_value
  refine G.aloadN X4 hx (pc' := 18) (hb hby d3_17) rfl rfl rfl ?_
  refine G.ldcAgain X4 hx hZ hown (hw _ (List.mem_of_getElem? (i := 35) rfl)) Lt (hb hby d3_18) (pc' := 20) rfl ?_
  refine G.getF X4 hx hZ hown (hw _ (List.mem_of_getElem? (i := 31) rfl)) Via.refl e4 F4_ea_coder (pc' := 23) (hb hby d3_20) rfl fun T5 X5 e5 => ?_
  refine G.putFN X5 hx hZ hown (hw _ (List.mem_of_getElem? (i := 31) rfl)) Via.refl e5 F4_a_coder E4_a (Or.inr ⟨(hw _ (List.mem_of_getElem? (i := 32) rfl)), rfl, hnm⟩) (hw _ (List.mem_of_getElem? (i := 7) rfl)) (ty := .byte) (v' := (.int (nar .byte (0 : Int32)))) (by decide) rfl (fits_nar_byte _) (pc' := 26) (hb hby d3_23) rfl fun T6 h6 X6 e6 W6 => ?_
  have F6_a_value := Fld.other W6 F4_a_value (Or.inr (slot_ne (Or.inr (hw _ (List.mem_of_getElem? (i := 34) rfl))) (Or.inr (hw _ (List.mem_of_getElem? (i := 32) rfl))) (by decide) (t := (.array .byte)) (t' := .byte) (by decide) (by decide)))
  have F6_ea_coder := Fld.other W6 F4_ea_coder (Or.inl (Ne.symm ne_a_ea))
  have F6_ea_value := Fld.other W6 F4_ea_value (Or.inl (Ne.symm ne_a_ea))
  have E6_a := Exa.wr W6 E4_a
  have E6_ea := Exa.wr W6 E4_ea
  have A6_x := Seq.other A4_x W6 (Ne.symm nax)
  have K6 := Kp.wr K4 W6 (Or.inl (List.mem_of_getElem? (i := 0) rfl))
  have hk6 := Nat.le_trans hk4 (Keep.of_wr W6).1
  have F6_a_coder := Fld.same W6 F4_a_coder
  refine Goes.retVW X6 hS2 (by rw [e6]; exact hk6) hx hret hlk (hb hby d3_26) (by decide) (by decide) ⟨rfl, (by rw [e6]; exact K6)⟩
set_option maxRecDepth 65536 in
set_option maxHeartbeats 40000000 in
theorem rm_e1 (l : Launch) (Z : State) (a0 : Array Value) (hw : ∀ d ∈ tables_1, d.before a0 Z = true) (a x : Addr) (h0 : Heap) (Ea : Exa Z h0 a "java/lang/String") (Fc : Fld Z h0 a "java/lang/String" "coder" "B" (.int (0 : Int32))) (Fv : Fld Z h0 a "java/lang/String" "value" "[B" .null) (Bx : Seq Z h0 x .char []) (nax : a ≠ x) (hheld : Jvm.Lit.constHeld Z "java/lang/String" 7) (hcw : Jvm.Lit.compactW.before a0 Z = true) (hkp : ∀ (b : Addr) (cl : Cell), Z.heap[b]? = some cl → h0[b]? = some cl) :
    ConI l (⟨"java/lang/String", "<init>", "([C)V"⟩ : MethodName) jdk_42_method_3_code 2 none ({ frames := 2, cells := 2, slots := 4, locals := 29 } : Room) Z #[(.ref a), (.ref x)] h0 (fun v h L => v = none ∧ Kp h0 h [a] L) := by
  refine ConI.of_body (plainFor_of_name pn_3) ?_
  intro p e s m below meth c T0 X0 hx hby hml hZ hown hnm hret hlk e0 hsh hIB
  have hown : (s.setVm s.vm).vm.findClass "java/lang/String" = some m.cls := hown
  have hml : c.maxLocals = 2 := hml
  have hS0 := since0 s
  have hk0 : 0 ≤ h0.size := Nat.zero_le _
  refine Goes.cast (ef2_RR m a x) ?_
  have K0 := Kp.refl h0 [a]
  refine G.aloadN X0 hx (pc' := 1) (hb hby d2_0) rfl rfl rfl ?_
  refine G.aloadN X0 hx (pc' := 2) (hb hby d2_1) rfl rfl rfl ?_
  refine G.iconst X0 hx (pc' := 3) (hb hby d2_2) (z := (0 : Int32)) rfl rfl ?_
  refine G.aloadN X0 hx (pc' := 4) (hb hby d2_3) rfl rfl rfl ?_
  refine G.arraylength X0 hx hZ e0 Bx (pc' := 5) (hb hby d2_4) (z := (0 : Int32)) rfl rfl ?_
  refine G.aconstNull X0 hx (pc' := 6) (hb hby d2_5) rfl ?_
  refine G.callII X0 hx hZ (y := (⟨"java/lang/String", "<init>", "([CIILjava/lang/Void;)V"⟩ : MethodName)) rfl hown (hw _ (List.mem_of_getElem? (i := 12) rfl)) (hw _ (List.mem_of_getElem? (i := 13) rfl)) (hw _ (List.mem_of_getElem? (i := 8) rfl)) (hw _ (List.mem_of_getElem? (i := 15) rfl)) (by decide) e0 hS0 hk0 hIB (rm := ({ frames := 1, cells := 2, slots := 4, locals := 12 } : Room)) (argsL := [(.ref x), (.int (0 : Int32)), (.int (0 : Int32)), .null]) (S := []) (W := 0) (a := a) (rm_e4 l Z a0 hw a x h0 Ea Fc Fv Bx nax hheld hcw hkp) (lenOf pd_18 rfl) rfl (Nat.le_of_eq rfl) (by decide) (by decide) (by decide) (by decide) (by rw [hml]; rfl) (hb hby d2_6) (pc' := 9) rfl ?_
  rintro T1 _ L1 k1 ⟨rfl, Kq1⟩ X1 hS1 hk1 hZ hown
  have E1_a := Exa.keep Ea Kq1.1
  have A1_x := Seq.keep Bx Kq1.1 (ninS (Ne.symm nax) nin0)
  have K1 := Kp.call K0 Kq1 (allS (Or.inl (List.mem_of_getElem? (i := 0) rfl)) all0)
  show Goes p e below T1 (mkF m 9 #[.val (.ref a), .val (.ref x)] []) _
  refine Goes.retVW X1 hS1 hk1 hx hret hlk (hb hby d2_9) (by decide) (by decide) ⟨rfl, K1⟩
set_option maxRecDepth 65536 in
set_option maxHeartbeats 40000000 in
theorem rm0 (l : Launch) (Z : State) (a0 : Array Value) (hw : ∀ d ∈ tables_1, d.before a0 Z = true) (p0 p1 p2 p3 cs : Int32) (vf : Value) (SC : Sta Z Z.heap "java/lang/String" "COMPACT_STRINGS" "Z" (.int cs)) (hcs : ¬ cs = (0 : Int32)) (SI : Sta Z Z.heap "jdk/internal/util/Preconditions" "SIOOBE_FORMATTER" "Ljava/util/function/BiFunction;" vf) (hvf : vf = .null ∨ ∃ x, vf = .ref x) (SA : Sta Z Z.heap "java/lang/StringUTF16" "$assertionsDisabled" "Z" (.int (1 : Int32))) (SH : Sta Z Z.heap "java/lang/StringUTF16" "HI_BYTE_SHIFT" "I" (.int (0 : Int32))) (SO : Sta Z Z.heap "java/lang/StringUTF16" "LO_BYTE_SHIFT" "I" (.int (8 : Int32))) (hheld : Jvm.Lit.constHeld Z "java/lang/String" 7) (hcw : Jvm.Lit.compactW.before a0 Z = true) :
    ConW l x code maxLocals ret room_1 Z #[(.int p0), (.int p1), (.int p2), (.int p3)] (fun v _ L => v = some (.int 1) ∧ Fr Z.heap.size L) := by
  refine ConW.of_body (plainFor_of_name pn_20) ?_
  intro p e m below meth c T0 X0 hx hby hml hZ hown hnm hret hlk e0
  have hown : (Z.setVm Z.vm).vm.findClass "com/example/bowerbird/bowerbird/RequiredTextPinLaw" = some m.cls := hown
  have hml : c.maxLocals = 12 := hml
  refine Goes.cast (ef0_IIII m p0 p1 p2 p3) ?_
  have hS0 := since0 Z
  have hk0 : 0 ≤ Z.heap.size := Nat.zero_le _
  have I0 : IB Z Z.vm [] := IB.start
  have K0 := Kp.refl Z.heap []
  have hwS : ∀ c ∈ Bundle.stringAtoms, c.before a0 Z = true := fun c hc => hw c (by simpa using (List.all_eq_true.mp (by decide +kernel : (Bundle.stringAtoms.all fun c => tables_1.contains c) = true)) c hc)
  refine G.iconst X0 hx (pc' := 1) (hb hby at_0) (z := (1 : Int32)) rfl rfl ?_
  refine G.iloadN X0 hx (pc' := 2) (hb hby at_1) rfl rfl ?_
  refine G.iconst X0 hx (pc' := 3) (hb hby at_2) (z := (3 : Int32)) rfl rfl ?_
  refine G.iand X0 hx (pc' := 4) (hb hby at_3) rfl ?_
  refine G.iadd X0 hx (pc' := 5) (hb hby at_4) rfl ?_
  refine G.istore X0 hx (pc' := 7) (hb hby at_5) (L' := #[.val (.int p0), .val (.int p1), .val (.int p2), .val (.int p3), .val (.int ((1 : Int32) + (p0 &&& (3 : Int32)))), .unset, .unset, .unset, .unset, .unset, .unset, .unset]) rfl rfl ?_
  refine G.iloadN X0 hx (pc' := 8) (hb hby at_7) rfl rfl ?_
  refine G.ldcInt X0 hx hZ hown (hw _ (List.mem_of_getElem? (i := 0) rfl)) (pc' := 10) (hb hby at_8) rfl ?_
  refine G.iand X0 hx (pc' := 11) (hb hby at_10) rfl ?_
  refine G.i2c X0 hx (pc' := 12) (hb hby at_11) rfl ?_
  refine G.istore X0 hx (pc' := 14) (hb hby at_12) (L' := #[.val (.int p0), .val (.int p1), .val (.int p2), .val (.int p3), .val (.int ((1 : Int32) + (p0 &&& (3 : Int32)))), .val (.int ((p1 &&& (65535 : Int32)).toUInt32.toUInt16.toUInt32.toInt32)), .unset, .unset, .unset, .unset, .unset, .unset]) rfl rfl ?_
  refine G.iloadN X0 hx (pc' := 15) (hb hby at_14) rfl rfl ?_
  refine G.bipush X0 hx (pc' := 17) (hb hby at_15) (z := (16 : Int32)) rfl rfl ?_
  refine G.iushr X0 hx (pc' := 18) (hb hby at_17) rfl ?_
  refine G.ldcInt X0 hx hZ hown (hw _ (List.mem_of_getElem? (i := 0) rfl)) (pc' := 20) (hb hby at_18) rfl ?_
  refine G.iand X0 hx (pc' := 21) (hb hby at_20) rfl ?_
  refine G.i2c X0 hx (pc' := 22) (hb hby at_21) rfl ?_
  refine G.istore X0 hx (pc' := 24) (hb hby at_22) (L' := #[.val (.int p0), .val (.int p1), .val (.int p2), .val (.int p3), .val (.int ((1 : Int32) + (p0 &&& (3 : Int32)))), .val (.int ((p1 &&& (65535 : Int32)).toUInt32.toUInt16.toUInt32.toInt32)), .val (.int (((Jvm.Free.XT.ushr p1 (16 : Int32)) &&& (65535 : Int32)).toUInt32.toUInt16.toUInt32.toInt32)), .unset, .unset, .unset, .unset, .unset]) rfl rfl ?_
  refine G.iloadN X0 hx (pc' := 25) (hb hby at_24) rfl rfl ?_
  refine G.ldcInt X0 hx hZ hown (hw _ (List.mem_of_getElem? (i := 0) rfl)) (pc' := 27) (hb hby at_25) rfl ?_
  refine G.iand X0 hx (pc' := 28) (hb hby at_27) rfl ?_
  refine G.i2c X0 hx (pc' := 29) (hb hby at_28) rfl ?_
  refine G.istore X0 hx (pc' := 31) (hb hby at_29) (L' := #[.val (.int p0), .val (.int p1), .val (.int p2), .val (.int p3), .val (.int ((1 : Int32) + (p0 &&& (3 : Int32)))), .val (.int ((p1 &&& (65535 : Int32)).toUInt32.toUInt16.toUInt32.toInt32)), .val (.int (((Jvm.Free.XT.ushr p1 (16 : Int32)) &&& (65535 : Int32)).toUInt32.toUInt16.toUInt32.toInt32)), .val (.int ((p2 &&& (65535 : Int32)).toUInt32.toUInt16.toUInt32.toInt32)), .unset, .unset, .unset, .unset]) rfl rfl ?_
  refine G.iloadN X0 hx (pc' := 32) (hb hby at_31) rfl rfl ?_
  refine G.bipush X0 hx (pc' := 34) (hb hby at_32) (z := (16 : Int32)) rfl rfl ?_
  refine G.iushr X0 hx (pc' := 35) (hb hby at_34) rfl ?_
  refine G.ldcInt X0 hx hZ hown (hw _ (List.mem_of_getElem? (i := 0) rfl)) (pc' := 37) (hb hby at_35) rfl ?_
  refine G.iand X0 hx (pc' := 38) (hb hby at_37) rfl ?_
  refine G.i2c X0 hx (pc' := 39) (hb hby at_38) rfl ?_
  refine G.istore X0 hx (pc' := 41) (hb hby at_39) (L' := #[.val (.int p0), .val (.int p1), .val (.int p2), .val (.int p3), .val (.int ((1 : Int32) + (p0 &&& (3 : Int32)))), .val (.int ((p1 &&& (65535 : Int32)).toUInt32.toUInt16.toUInt32.toInt32)), .val (.int (((Jvm.Free.XT.ushr p1 (16 : Int32)) &&& (65535 : Int32)).toUInt32.toUInt16.toUInt32.toInt32)), .val (.int ((p2 &&& (65535 : Int32)).toUInt32.toUInt16.toUInt32.toInt32)), .val (.int (((Jvm.Free.XT.ushr p2 (16 : Int32)) &&& (65535 : Int32)).toUInt32.toUInt16.toUInt32.toInt32)), .unset, .unset, .unset]) rfl rfl ?_
  have hn4 := own_n4 p0
  generalize hnn : ((1 : Int32) + (p0 &&& (3 : Int32))) = nn at hn4 ⊢
  have hu0 := own_ch (p1 &&& (65535 : Int32))
  generalize hU0 : ((p1 &&& (65535 : Int32)).toUInt32.toUInt16.toUInt32.toInt32) = u0 at hu0 ⊢
  have hu1 := own_ch ((Jvm.Free.XT.ushr p1 (16 : Int32)) &&& (65535 : Int32))
  generalize hU1 : (((Jvm.Free.XT.ushr p1 (16 : Int32)) &&& (65535 : Int32)).toUInt32.toUInt16.toUInt32.toInt32) = u1 at hu1 ⊢
  have hu2 := own_ch (p2 &&& (65535 : Int32))
  generalize hU2 : ((p2 &&& (65535 : Int32)).toUInt32.toUInt16.toUInt32.toInt32) = u2 at hu2 ⊢
  have hu3 := own_ch ((Jvm.Free.XT.ushr p2 (16 : Int32)) &&& (65535 : Int32))
  generalize hU3 : (((Jvm.Free.XT.ushr p2 (16 : Int32)) &&& (65535 : Int32)).toUInt32.toUInt16.toUInt32.toInt32) = u3 at hu3 ⊢
  rcases hn4 with rfl | rfl | rfl | rfl
  · show Goes p e below T0 (mkF m 41 #[.val (.int p0), .val (.int p1), .val (.int p2), .val (.int p3), .val (.int (1 : Int32)), .val (.int u0), .val (.int u1), .val (.int u2), .val (.int u3), .unset, .unset, .unset] []) _
    refine G.iload X0 hx (pc' := 43) (hb hby at_41) rfl rfl ?_
    refine G.iload X0 hx (pc' := 45) (hb hby at_43) rfl rfl ?_
    refine G.iload X0 hx (pc' := 47) (hb hby at_45) rfl rfl ?_
    refine G.iload X0 hx (pc' := 49) (hb hby at_47) rfl rfl ?_
    refine G.iload X0 hx (pc' := 51) (hb hby at_49) rfl rfl ?_
    refine G.callS X0 hx hZ (y := (⟨"com/example/bowerbird/bowerbird/RequiredTextPinLaw", "make", "(ICCCC)Ljava/lang/String;"⟩ : MethodName)) hown (hw _ (List.mem_of_getElem? (i := 1) rfl)) (hw _ (List.mem_of_getElem? (i := 2) rfl)) (hw _ (List.mem_of_getElem? (i := 3) rfl)) (hw _ (List.mem_of_getElem? (i := 4) rfl)) (by decide) e0 (rm := ({ frames := 6, cells := 4, slots := 8, locals := 88 } : Room)) (argsL := [(.int (1 : Int32)), (.int u0), (.int u1), (.int u2), (.int u3)]) (S := []) (W := 0) (rm_make1 l Z a0 hw u0 u1 u2 u3 cs Z.heap (Sta.keep0 SC K0.1) hcs (Sta.keep0 SA K0.1) (Sta.keep0 SH K0.1) (Sta.keep0 SO K0.1) hu0 hu1 hu2 hu3) (lenOf pd_24 rfl) rfl (Nat.le_of_eq rfl) (by decide) (by decide) (by decide) (by decide) (by rw [hml]; rfl) (hb hby at_51) (pc' := 54) rfl ?_
    rintro T1 _ L1 ⟨a, rfl, Kq1, Ea1, b, cd, xs, Fc1, Fv1, Ab1, hsq⟩ X1
    have K1 := Kp.call K0 Kq1 all0
    have hk1 := Nat.le_trans hk0 Kq1.1.1
    show Goes p e below T1 (mkF m 54 #[.val (.int p0), .val (.int p1), .val (.int p2), .val (.int p3), .val (.int (1 : Int32)), .val (.int u0), .val (.int u1), .val (.int u2), .val (.int u3), .unset, .unset, .unset] [(.ref a)]) _
    refine G.astore X1 hx (pc' := 56) (hb hby at_54) rfl (L' := #[.val (.int p0), .val (.int p1), .val (.int p2), .val (.int p3), .val (.int (1 : Int32)), .val (.int u0), .val (.int u1), .val (.int u2), .val (.int u3), .val (.ref a), .unset, .unset]) rfl rfl ?_
    refine G.iloadN X1 hx (pc' := 57) (hb hby at_56) rfl rfl ?_
    refine G.sipush X1 hx (pc' := 60) (hb hby at_57) (z := (256 : Int32)) rfl rfl ?_
    refine G.iand X1 hx (pc' := 61) (hb hby at_60) rfl ?_
    by_cases c1 : (p3 &&& (256 : Int32)) = (0 : Int32)
    · refine G.ifT X1 hx (pc' := 78) (hb hby at_61) (Jvm.Free.XT.i0_eq_t c1) (by decide) (by decide) ?_
      refine G.newO X1 hx hZ hown (hw _ (List.mem_of_getElem? (i := 6) rfl)) (hw _ (List.mem_of_getElem? (i := 7) rfl)) (hw _ (List.mem_of_getElem? (i := 8) rfl)) rfl (hb hby at_78) (by decide) (by decide) (pc' := 81) rfl fun T2 h2 wh g2 X2 e2 Ex2 Ea2 D2 => ?_
      have ne_b_wh : b ≠ wh := Nat.ne_of_lt (Nat.lt_of_lt_of_le Ab1.lt (Nat.le_of_eq g2.symm))
      have ne_a_wh : a ≠ wh := Nat.ne_of_lt (Nat.lt_of_lt_of_le Fc1.lt (Nat.le_of_eq g2.symm))
      have sz_wh : Z.heap.size ≤ wh := Nat.le_trans K1.size (Nat.le_of_eq g2.symm)
      have F2_a_coder := Fld.ext  Ex2 Fc1
      have F2_a_value := Fld.ext  Ex2 Fv1
      have E2_a := Exa.ext  Ex2 Ea1
      have A2_b := Seq.ext Ab1 Ex2
      have K2 := Kp.ext K1 Ex2
      have hk2 := Nat.le_trans hk1 Ex2.1
      have F2_wh_coder : Fld Z h2 wh "java/lang/String" "coder" "B" (.int (0 : Int32)) := D2 (Or.inr (hw _ (List.mem_of_getElem? (i := 32) rfl))) (ty := .byte) (by decide)
      have F2_wh_value : Fld Z h2 wh "java/lang/String" "value" "[B" .null := D2 (Or.inr (hw _ (List.mem_of_getElem? (i := 34) rfl))) (ty := (.array .byte)) (by decide)
      refine G.dup X2 hx (pc' := 82) (hb hby at_81) rfl rfl ?_
      refine G.iconst X2 hx (pc' := 83) (hb hby at_82) (z := (0 : Int32)) rfl rfl ?_
      refine G.newP X2 hx hZ (hw _ (List.mem_of_getElem? (i := 5) rfl)) e2 (hb hby at_83) (by decide) (n := 0) (cap := 0) rfl (by decide) (by decide) (by decide) (by decide) (pc' := 85) rfl fun T3 h3 x0 g3 X3 e3 Ex3 A3 => ?_
      have ne_b_x0 : b ≠ x0 := Nat.ne_of_lt (Nat.lt_of_lt_of_le A2_b.lt (Nat.le_of_eq g3.symm))
      have ne_a_x0 : a ≠ x0 := Nat.ne_of_lt (Nat.lt_of_lt_of_le F2_a_coder.lt (Nat.le_of_eq g3.symm))
      have ne_wh_x0 : wh ≠ x0 := Nat.ne_of_lt (Nat.lt_of_lt_of_le F2_wh_coder.lt (Nat.le_of_eq g3.symm))
      have sz_x0 : Z.heap.size ≤ x0 := Nat.le_trans K2.size (Nat.le_of_eq g3.symm)
      have F3_a_coder := Fld.ext  Ex3 F2_a_coder
      have F3_a_value := Fld.ext  Ex3 F2_a_value
      have F3_wh_coder := Fld.ext  Ex3 F2_wh_coder
      have F3_wh_value := Fld.ext  Ex3 F2_wh_value
      have E3_a := Exa.ext  Ex3 E2_a
      have E3_wh := Exa.ext  Ex3 Ea2
      have A3_b := Seq.ext A2_b Ex3
      have K3 := Kp.ext K2 Ex3
      have hk3 := Nat.le_trans hk2 Ex3.1
      have A3_x0 : Seq Z h3 x0 .char [] := A3
      refine G.callII X3 hx hZ (y := (⟨"java/lang/String", "<init>", "([C)V"⟩ : MethodName)) rfl hown (hw _ (List.mem_of_getElem? (i := 9) rfl)) (hw _ (List.mem_of_getElem? (i := 10) rfl)) (hw _ (List.mem_of_getElem? (i := 8) rfl)) (hw _ (List.mem_of_getElem? (i := 11) rfl)) (by decide) e3 hS0 hk3 I0 (rm := ({ frames := 2, cells := 2, slots := 4, locals := 29 } : Room)) (argsL := [(.ref x0)]) (S := [(.ref wh)]) (W := 1) (a := wh) (rm_e1 l Z a0 hw wh x0 h3 E3_wh F3_wh_coder F3_wh_value A3_x0 ne_wh_x0 hheld hcw (fun b cl q => K3.1.2.1 b cl q nin0)) (lenOf pd_19 rfl) rfl (Nat.le_of_eq rfl) (by decide) (by decide) (by decide) (by decide) (by rw [hml]; rfl) (hb hby at_85) (pc' := 88) rfl ?_
      rintro T4 _ L4 k4 ⟨rfl, Kq4⟩ X4 hS4 hk4 hZ hown
      have F4_a_coder := Fld.keep F3_a_coder Kq4.1 (ninS ne_a_wh nin0)
      have F4_a_value := Fld.keep F3_a_value Kq4.1 (ninS ne_a_wh nin0)
      have E4_a := Exa.keep E3_a Kq4.1
      have E4_wh := Exa.keep E3_wh Kq4.1
      have A4_b := Seq.keep A3_b Kq4.1 (ninS ne_b_wh nin0)
      have A4_x0 := Seq.keep A3_x0 Kq4.1 (ninS (Ne.symm ne_wh_x0) nin0)
      have K4 := Kp.call K3 Kq4 (allS (Or.inr sz_wh) all0)
      show Goes p e below T4 (mkF m 88 #[.val (.int p0), .val (.int p1), .val (.int p2), .val (.int p3), .val (.int (1 : Int32)), .val (.int u0), .val (.int u1), .val (.int u2), .val (.int u3), .val (.ref a), .unset, .unset] [(.ref wh)]) _
      refine G.astore X4 hx (pc' := 90) (hb hby at_88) rfl (L' := #[.val (.int p0), .val (.int p1), .val (.int p2), .val (.int p3), .val (.int (1 : Int32)), .val (.int u0), .val (.int u1), .val (.int u2), .val (.int u3), .val (.ref a), .val (.ref wh), .unset]) rfl rfl ?_
      refine G.aload X4 hx (pc' := 92) (hb hby at_90) rfl rfl rfl ?_
      refine G.aload X4 hx (pc' := 94) (hb hby at_92) rfl rfl rfl ?_
      refine G.callS X4 hx hZ (y := (⟨"com/example/bowerbird/bowerbird/Required", "text", "(Ljava/lang/String;Ljava/lang/String;)Ljava/lang/String;"⟩ : MethodName)) hown (hw _ (List.mem_of_getElem? (i := 38) rfl)) (hw _ (List.mem_of_getElem? (i := 39) rfl)) (hw _ (List.mem_of_getElem? (i := 40) rfl)) (hw _ (List.mem_of_getElem? (i := 41) rfl)) (by decide) rfl (rm := ({ frames := 1, cells := 0, slots := 0, locals := 12 } : Room)) (argsL := [(.ref a), (.ref wh)]) (S := []) (W := 0) (rm_text1 l Z a0 hw a b xs cd cs wh u0 T4.heap E4_a F4_a_coder F4_a_value A4_b hsq) (lenOf pd_25 rfl) rfl (Nat.le_of_eq rfl) (by decide) (by decide) (by decide) (by decide) (by rw [hml]; rfl) (hb hby at_94) (pc' := 97) rfl ?_
      rintro T5 _ _ ⟨rfl, e5, rfl⟩ X5
      rw [List.append_nil] at X5
      show Goes p e below T5 (mkF m 97 #[.val (.int p0), .val (.int p1), .val (.int p2), .val (.int p3), .val (.int (1 : Int32)), .val (.int u0), .val (.int u1), .val (.int u2), .val (.int u3), .val (.ref a), .val (.ref wh), .unset] [(.ref a)]) _
      refine G.astore X5 hx (pc' := 99) (hb hby at_97) rfl (L' := #[.val (.int p0), .val (.int p1), .val (.int p2), .val (.int p3), .val (.int (1 : Int32)), .val (.int u0), .val (.int u1), .val (.int u2), .val (.int u3), .val (.ref a), .val (.ref wh), .val (.ref a)]) rfl rfl ?_
      refine G.aload X5 hx (pc' := 101) (hb hby at_99) rfl rfl rfl ?_
      refine G.aload X5 hx (pc' := 103) (hb hby at_101) rfl rfl rfl ?_
      refine G.acmpT X5 hx (pc' := 106) (hb hby at_103) rfl rfl (same := true) (decide_eq_true rfl) (by decide) (by decide) ?_
      refine G.aload X5 hx (pc' := 108) (hb hby at_106) rfl rfl rfl ?_
      refine G.callV X5 hx hZ (y0 := (⟨"java/lang/String", "length", "()I"⟩ : MethodName)) (y := (⟨"java/lang/String", "length", "()I"⟩ : MethodName)) hown (hw _ (List.mem_of_getElem? (i := 47) rfl)) (hw _ (List.mem_of_getElem? (i := 48) rfl)) (notFace_of_selects (args := #[]) (mvT hZ (hw _ (List.mem_of_getElem? (i := 50) rfl)))) (hw _ (List.mem_of_getElem? (i := 50) rfl)) (hw _ (List.mem_of_getElem? (i := 49) rfl)) (hw _ (List.mem_of_getElem? (i := 8) rfl)) (hw _ (List.mem_of_getElem? (i := 51) rfl)) (by decide) e5 (rm := ({ frames := 1, cells := 0, slots := 0, locals := 13 } : Room)) (argsL := []) (S := []) (W := 0) (a := a) E4_a (rm_len1 l Z a0 hw a b xs cd cs u0 T4.heap E4_a F4_a_coder F4_a_value A4_b (Sta.keep0 SC K4.1) hcs hsq) (lenOf pd_26 rfl) rfl (Nat.le_of_eq rfl) (by decide) (by decide) (by decide) (by decide) (by rw [hml]; rfl) (hb hby at_108) (pc' := 111) rfl ?_
      rintro T6 _ _ ⟨rfl, e6, rfl⟩ X6
      rw [List.append_nil] at X6
      show Goes p e below T6 (mkF m 111 #[.val (.int p0), .val (.int p1), .val (.int p2), .val (.int p3), .val (.int (1 : Int32)), .val (.int u0), .val (.int u1), .val (.int u2), .val (.int u3), .val (.ref a), .val (.ref wh), .val (.ref a)] [(.int (1 : Int32))]) _
      refine G.iload X6 hx (pc' := 113) (hb hby at_111) rfl rfl ?_
      refine G.icmpF X6 hx (pc' := 116) (hb hby at_113) (Jvm.Free.XT.ii_ne_f rfl) rfl ?_
      refine G.aload X6 hx (pc' := 118) (hb hby at_116) rfl rfl rfl ?_
      refine G.iconst X6 hx (pc' := 119) (hb hby at_118) (z := (0 : Int32)) rfl rfl ?_
      refine G.callV X6 hx hZ (y0 := (⟨"java/lang/String", "charAt", "(I)C"⟩ : MethodName)) (y := (⟨"java/lang/String", "charAt", "(I)C"⟩ : MethodName)) hown (hw _ (List.mem_of_getElem? (i := 57) rfl)) (hw _ (List.mem_of_getElem? (i := 58) rfl)) (notFace_of_selects (args := #[]) (mvT hZ (hw _ (List.mem_of_getElem? (i := 60) rfl)))) (hw _ (List.mem_of_getElem? (i := 60) rfl)) (hw _ (List.mem_of_getElem? (i := 59) rfl)) (hw _ (List.mem_of_getElem? (i := 8) rfl)) (hw _ (List.mem_of_getElem? (i := 61) rfl)) (by decide) e6 (rm := ({ frames := 4, cells := 0, slots := 0, locals := 53 } : Room)) (argsL := [(.int (0 : Int32))]) (S := []) (W := 0) (a := a) E4_a (rm_cha1 l Z a0 hw a b xs cd cs u0 vf T4.heap E4_a F4_a_coder F4_a_value A4_b (Sta.keep0 SC K4.1) hcs (Sta.keep0 SI K4.1) hvf (Sta.keep0 SA K4.1) (Sta.keep0 SH K4.1) (Sta.keep0 SO K4.1) hsq hu0) (lenOf pd_27 rfl) rfl (Nat.le_of_eq rfl) (by decide) (by decide) (by decide) (by decide) (by rw [hml]; rfl) (hb hby at_119) (pc' := 122) rfl ?_
      rintro T7 _ _ ⟨rfl, e7, rfl⟩ X7
      rw [List.append_nil] at X7
      show Goes p e below T7 (mkF m 122 #[.val (.int p0), .val (.int p1), .val (.int p2), .val (.int p3), .val (.int (1 : Int32)), .val (.int u0), .val (.int u1), .val (.int u2), .val (.int u3), .val (.ref a), .val (.ref wh), .val (.ref a)] [(.int u0)]) _
      refine G.iload X7 hx (pc' := 124) (hb hby at_122) rfl rfl ?_
      refine G.icmpF X7 hx (pc' := 127) (hb hby at_124) (Jvm.Free.XT.ii_ne_f rfl) rfl ?_
      refine G.iconst X7 hx (pc' := 128) (hb hby at_127) (z := (1 : Int32)) rfl rfl ?_
      refine G.goto X7 hx (pc' := 132) (hb hby at_128) (by decide) (by decide) ?_
      refine Goes.retNW X7 hS4 (by rw [e7]; exact hk4) hx hret (by simp) hlk (hb hby at_132) (by decide) (by decide) ⟨rfl, K4.fr⟩
    · refine G.ifF X1 hx (pc' := 64) (hb hby at_61) (Jvm.Free.XT.i0_eq_f c1) rfl ?_
      refine G.iloadN X1 hx (pc' := 65) (hb hby at_64) rfl rfl ?_
      refine G.sipush X1 hx (pc' := 68) (hb hby at_65) (z := (255 : Int32)) rfl rfl ?_
      refine G.iand X1 hx (pc' := 69) (hb hby at_68) rfl ?_
      refine G.i2c X1 hx (pc' := 70) (hb hby at_69) rfl ?_
      refine G.callS X1 hx hZ (y := (⟨"java/lang/String", "valueOf", "(C)Ljava/lang/String;"⟩ : MethodName)) hown (hw _ (List.mem_of_getElem? (i := 98) rfl)) (hw _ (List.mem_of_getElem? (i := 99) rfl)) (hw _ (List.mem_of_getElem? (i := 8) rfl)) (hw _ (List.mem_of_getElem? (i := 100) rfl)) (by decide) rfl (rm := ({ frames := 2, cells := 2, slots := 5, locals := 27 } : Room)) (argsL := [(.int ((p3 &&& (255 : Int32)).toUInt32.toUInt16.toUInt32.toInt32))]) (S := []) (W := 0) (rm_vo l Z a0 hw ((p3 &&& (255 : Int32)).toUInt32.toUInt16.toUInt32.toInt32) cs T1.heap (Sta.keep0 SC K1.1) hcs (own_255 p3)) (lenOf pd_28 rfl) rfl (Nat.le_of_eq rfl) (by decide) (by decide) (by decide) (by decide) (by rw [hml]; rfl) (hb hby at_70) (pc' := 73) rfl ?_
      rintro T8 _ L8 ⟨wh, rfl, Kq8⟩ X8
      have F8_a_coder := Fld.keep Fc1 Kq8.1 nin0
      have F8_a_value := Fld.keep Fv1 Kq8.1 nin0
      have E8_a := Exa.keep Ea1 Kq8.1
      have A8_b := Seq.keep Ab1 Kq8.1 nin0
      have K8 := Kp.call K1 Kq8 all0
      have hk8 := Nat.le_trans hk1 Kq8.1.1
      show Goes p e below T8 (mkF m 73 #[.val (.int p0), .val (.int p1), .val (.int p2), .val (.int p3), .val (.int (1 : Int32)), .val (.int u0), .val (.int u1), .val (.int u2), .val (.int u3), .val (.ref a), .unset, .unset] [(.ref wh)]) _
      refine G.astore X8 hx (pc' := 75) (hb hby at_73) rfl (L' := #[.val (.int p0), .val (.int p1), .val (.int p2), .val (.int p3), .val (.int (1 : Int32)), .val (.int u0), .val (.int u1), .val (.int u2), .val (.int u3), .val (.ref a), .val (.ref wh), .unset]) rfl rfl ?_
      refine G.goto X8 hx (pc' := 90) (hb hby at_75) (by decide) (by decide) ?_
      refine G.aload X8 hx (pc' := 92) (hb hby at_90) rfl rfl rfl ?_
      refine G.aload X8 hx (pc' := 94) (hb hby at_92) rfl rfl rfl ?_
      refine G.callS X8 hx hZ (y := (⟨"com/example/bowerbird/bowerbird/Required", "text", "(Ljava/lang/String;Ljava/lang/String;)Ljava/lang/String;"⟩ : MethodName)) hown (hw _ (List.mem_of_getElem? (i := 38) rfl)) (hw _ (List.mem_of_getElem? (i := 39) rfl)) (hw _ (List.mem_of_getElem? (i := 40) rfl)) (hw _ (List.mem_of_getElem? (i := 41) rfl)) (by decide) rfl (rm := ({ frames := 1, cells := 0, slots := 0, locals := 12 } : Room)) (argsL := [(.ref a), (.ref wh)]) (S := []) (W := 0) (rm_text1 l Z a0 hw a b xs cd cs wh u0 T8.heap E8_a F8_a_coder F8_a_value A8_b hsq) (lenOf pd_25 rfl) rfl (Nat.le_of_eq rfl) (by decide) (by decide) (by decide) (by decide) (by rw [hml]; rfl) (hb hby at_94) (pc' := 97) rfl ?_
      rintro T9 _ _ ⟨rfl, e9, rfl⟩ X9
      rw [List.append_nil] at X9
      show Goes p e below T9 (mkF m 97 #[.val (.int p0), .val (.int p1), .val (.int p2), .val (.int p3), .val (.int (1 : Int32)), .val (.int u0), .val (.int u1), .val (.int u2), .val (.int u3), .val (.ref a), .val (.ref wh), .unset] [(.ref a)]) _
      refine G.astore X9 hx (pc' := 99) (hb hby at_97) rfl (L' := #[.val (.int p0), .val (.int p1), .val (.int p2), .val (.int p3), .val (.int (1 : Int32)), .val (.int u0), .val (.int u1), .val (.int u2), .val (.int u3), .val (.ref a), .val (.ref wh), .val (.ref a)]) rfl rfl ?_
      refine G.aload X9 hx (pc' := 101) (hb hby at_99) rfl rfl rfl ?_
      refine G.aload X9 hx (pc' := 103) (hb hby at_101) rfl rfl rfl ?_
      refine G.acmpT X9 hx (pc' := 106) (hb hby at_103) rfl rfl (same := true) (decide_eq_true rfl) (by decide) (by decide) ?_
      refine G.aload X9 hx (pc' := 108) (hb hby at_106) rfl rfl rfl ?_
      refine G.callV X9 hx hZ (y0 := (⟨"java/lang/String", "length", "()I"⟩ : MethodName)) (y := (⟨"java/lang/String", "length", "()I"⟩ : MethodName)) hown (hw _ (List.mem_of_getElem? (i := 47) rfl)) (hw _ (List.mem_of_getElem? (i := 48) rfl)) (notFace_of_selects (args := #[]) (mvT hZ (hw _ (List.mem_of_getElem? (i := 50) rfl)))) (hw _ (List.mem_of_getElem? (i := 50) rfl)) (hw _ (List.mem_of_getElem? (i := 49) rfl)) (hw _ (List.mem_of_getElem? (i := 8) rfl)) (hw _ (List.mem_of_getElem? (i := 51) rfl)) (by decide) e9 (rm := ({ frames := 1, cells := 0, slots := 0, locals := 13 } : Room)) (argsL := []) (S := []) (W := 0) (a := a) E8_a (rm_len1 l Z a0 hw a b xs cd cs u0 T8.heap E8_a F8_a_coder F8_a_value A8_b (Sta.keep0 SC K8.1) hcs hsq) (lenOf pd_26 rfl) rfl (Nat.le_of_eq rfl) (by decide) (by decide) (by decide) (by decide) (by rw [hml]; rfl) (hb hby at_108) (pc' := 111) rfl ?_
      rintro T10 _ _ ⟨rfl, e10, rfl⟩ X10
      rw [List.append_nil] at X10
      show Goes p e below T10 (mkF m 111 #[.val (.int p0), .val (.int p1), .val (.int p2), .val (.int p3), .val (.int (1 : Int32)), .val (.int u0), .val (.int u1), .val (.int u2), .val (.int u3), .val (.ref a), .val (.ref wh), .val (.ref a)] [(.int (1 : Int32))]) _
      refine G.iload X10 hx (pc' := 113) (hb hby at_111) rfl rfl ?_
      refine G.icmpF X10 hx (pc' := 116) (hb hby at_113) (Jvm.Free.XT.ii_ne_f rfl) rfl ?_
      refine G.aload X10 hx (pc' := 118) (hb hby at_116) rfl rfl rfl ?_
      refine G.iconst X10 hx (pc' := 119) (hb hby at_118) (z := (0 : Int32)) rfl rfl ?_
      refine G.callV X10 hx hZ (y0 := (⟨"java/lang/String", "charAt", "(I)C"⟩ : MethodName)) (y := (⟨"java/lang/String", "charAt", "(I)C"⟩ : MethodName)) hown (hw _ (List.mem_of_getElem? (i := 57) rfl)) (hw _ (List.mem_of_getElem? (i := 58) rfl)) (notFace_of_selects (args := #[]) (mvT hZ (hw _ (List.mem_of_getElem? (i := 60) rfl)))) (hw _ (List.mem_of_getElem? (i := 60) rfl)) (hw _ (List.mem_of_getElem? (i := 59) rfl)) (hw _ (List.mem_of_getElem? (i := 8) rfl)) (hw _ (List.mem_of_getElem? (i := 61) rfl)) (by decide) e10 (rm := ({ frames := 4, cells := 0, slots := 0, locals := 53 } : Room)) (argsL := [(.int (0 : Int32))]) (S := []) (W := 0) (a := a) E8_a (rm_cha1 l Z a0 hw a b xs cd cs u0 vf T8.heap E8_a F8_a_coder F8_a_value A8_b (Sta.keep0 SC K8.1) hcs (Sta.keep0 SI K8.1) hvf (Sta.keep0 SA K8.1) (Sta.keep0 SH K8.1) (Sta.keep0 SO K8.1) hsq hu0) (lenOf pd_27 rfl) rfl (Nat.le_of_eq rfl) (by decide) (by decide) (by decide) (by decide) (by rw [hml]; rfl) (hb hby at_119) (pc' := 122) rfl ?_
      rintro T11 _ _ ⟨rfl, e11, rfl⟩ X11
      rw [List.append_nil] at X11
      show Goes p e below T11 (mkF m 122 #[.val (.int p0), .val (.int p1), .val (.int p2), .val (.int p3), .val (.int (1 : Int32)), .val (.int u0), .val (.int u1), .val (.int u2), .val (.int u3), .val (.ref a), .val (.ref wh), .val (.ref a)] [(.int u0)]) _
      refine G.iload X11 hx (pc' := 124) (hb hby at_122) rfl rfl ?_
      refine G.icmpF X11 hx (pc' := 127) (hb hby at_124) (Jvm.Free.XT.ii_ne_f rfl) rfl ?_
      refine G.iconst X11 hx (pc' := 128) (hb hby at_127) (z := (1 : Int32)) rfl rfl ?_
      refine G.goto X11 hx (pc' := 132) (hb hby at_128) (by decide) (by decide) ?_
      refine Goes.retNW X11 hS0 (by rw [e11]; exact hk8) hx hret (by simp) hlk (hb hby at_132) (by decide) (by decide) ⟨rfl, K8.fr⟩
  · show Goes p e below T0 (mkF m 41 #[.val (.int p0), .val (.int p1), .val (.int p2), .val (.int p3), .val (.int (2 : Int32)), .val (.int u0), .val (.int u1), .val (.int u2), .val (.int u3), .unset, .unset, .unset] []) _
    refine G.iload X0 hx (pc' := 43) (hb hby at_41) rfl rfl ?_
    refine G.iload X0 hx (pc' := 45) (hb hby at_43) rfl rfl ?_
    refine G.iload X0 hx (pc' := 47) (hb hby at_45) rfl rfl ?_
    refine G.iload X0 hx (pc' := 49) (hb hby at_47) rfl rfl ?_
    refine G.iload X0 hx (pc' := 51) (hb hby at_49) rfl rfl ?_
    refine G.callS X0 hx hZ (y := (⟨"com/example/bowerbird/bowerbird/RequiredTextPinLaw", "make", "(ICCCC)Ljava/lang/String;"⟩ : MethodName)) hown (hw _ (List.mem_of_getElem? (i := 1) rfl)) (hw _ (List.mem_of_getElem? (i := 2) rfl)) (hw _ (List.mem_of_getElem? (i := 3) rfl)) (hw _ (List.mem_of_getElem? (i := 4) rfl)) (by decide) e0 (rm := ({ frames := 6, cells := 4, slots := 12, locals := 88 } : Room)) (argsL := [(.int (2 : Int32)), (.int u0), (.int u1), (.int u2), (.int u3)]) (S := []) (W := 0) (rm_make2 l Z a0 hw u0 u1 u2 u3 cs Z.heap (Sta.keep0 SC K0.1) hcs (Sta.keep0 SA K0.1) (Sta.keep0 SH K0.1) (Sta.keep0 SO K0.1) hu0 hu1 hu2 hu3) (lenOf pd_24 rfl) rfl (Nat.le_of_eq rfl) (by decide) (by decide) (by decide) (by decide) (by rw [hml]; rfl) (hb hby at_51) (pc' := 54) rfl ?_
    rintro T12 _ L12 ⟨a, rfl, Kq12, Ea12, b, cd, xs, Fc12, Fv12, Ab12, hsq⟩ X12
    have K12 := Kp.call K0 Kq12 all0
    have hk12 := Nat.le_trans hk0 Kq12.1.1
    show Goes p e below T12 (mkF m 54 #[.val (.int p0), .val (.int p1), .val (.int p2), .val (.int p3), .val (.int (2 : Int32)), .val (.int u0), .val (.int u1), .val (.int u2), .val (.int u3), .unset, .unset, .unset] [(.ref a)]) _
    refine G.astore X12 hx (pc' := 56) (hb hby at_54) rfl (L' := #[.val (.int p0), .val (.int p1), .val (.int p2), .val (.int p3), .val (.int (2 : Int32)), .val (.int u0), .val (.int u1), .val (.int u2), .val (.int u3), .val (.ref a), .unset, .unset]) rfl rfl ?_
    refine G.iloadN X12 hx (pc' := 57) (hb hby at_56) rfl rfl ?_
    refine G.sipush X12 hx (pc' := 60) (hb hby at_57) (z := (256 : Int32)) rfl rfl ?_
    refine G.iand X12 hx (pc' := 61) (hb hby at_60) rfl ?_
    by_cases c1 : (p3 &&& (256 : Int32)) = (0 : Int32)
    · refine G.ifT X12 hx (pc' := 78) (hb hby at_61) (Jvm.Free.XT.i0_eq_t c1) (by decide) (by decide) ?_
      refine G.newO X12 hx hZ hown (hw _ (List.mem_of_getElem? (i := 6) rfl)) (hw _ (List.mem_of_getElem? (i := 7) rfl)) (hw _ (List.mem_of_getElem? (i := 8) rfl)) rfl (hb hby at_78) (by decide) (by decide) (pc' := 81) rfl fun T13 h13 wh g13 X13 e13 Ex13 Ea13 D13 => ?_
      have ne_b_wh : b ≠ wh := Nat.ne_of_lt (Nat.lt_of_lt_of_le Ab12.lt (Nat.le_of_eq g13.symm))
      have ne_a_wh : a ≠ wh := Nat.ne_of_lt (Nat.lt_of_lt_of_le Fc12.lt (Nat.le_of_eq g13.symm))
      have sz_wh : Z.heap.size ≤ wh := Nat.le_trans K12.size (Nat.le_of_eq g13.symm)
      have F13_a_coder := Fld.ext  Ex13 Fc12
      have F13_a_value := Fld.ext  Ex13 Fv12
      have E13_a := Exa.ext  Ex13 Ea12
      have A13_b := Seq.ext Ab12 Ex13
      have K13 := Kp.ext K12 Ex13
      have hk13 := Nat.le_trans hk12 Ex13.1
      have F13_wh_coder : Fld Z h13 wh "java/lang/String" "coder" "B" (.int (0 : Int32)) := D13 (Or.inr (hw _ (List.mem_of_getElem? (i := 32) rfl))) (ty := .byte) (by decide)
      have F13_wh_value : Fld Z h13 wh "java/lang/String" "value" "[B" .null := D13 (Or.inr (hw _ (List.mem_of_getElem? (i := 34) rfl))) (ty := (.array .byte)) (by decide)
      refine G.dup X13 hx (pc' := 82) (hb hby at_81) rfl rfl ?_
      refine G.iconst X13 hx (pc' := 83) (hb hby at_82) (z := (0 : Int32)) rfl rfl ?_
      refine G.newP X13 hx hZ (hw _ (List.mem_of_getElem? (i := 5) rfl)) e13 (hb hby at_83) (by decide) (n := 0) (cap := 0) rfl (by decide) (by decide) (by decide) (by decide) (pc' := 85) rfl fun T14 h14 x0 g14 X14 e14 Ex14 A14 => ?_
      have ne_b_x0 : b ≠ x0 := Nat.ne_of_lt (Nat.lt_of_lt_of_le A13_b.lt (Nat.le_of_eq g14.symm))
      have ne_a_x0 : a ≠ x0 := Nat.ne_of_lt (Nat.lt_of_lt_of_le F13_a_coder.lt (Nat.le_of_eq g14.symm))
      have ne_wh_x0 : wh ≠ x0 := Nat.ne_of_lt (Nat.lt_of_lt_of_le F13_wh_coder.lt (Nat.le_of_eq g14.symm))
      have sz_x0 : Z.heap.size ≤ x0 := Nat.le_trans K13.size (Nat.le_of_eq g14.symm)
      have F14_a_coder := Fld.ext  Ex14 F13_a_coder
      have F14_a_value := Fld.ext  Ex14 F13_a_value
      have F14_wh_coder := Fld.ext  Ex14 F13_wh_coder
      have F14_wh_value := Fld.ext  Ex14 F13_wh_value
      have E14_a := Exa.ext  Ex14 E13_a
      have E14_wh := Exa.ext  Ex14 Ea13
      have A14_b := Seq.ext A13_b Ex14
      have K14 := Kp.ext K13 Ex14
      have hk14 := Nat.le_trans hk13 Ex14.1
      have A14_x0 : Seq Z h14 x0 .char [] := A14
      refine G.callII X14 hx hZ (y := (⟨"java/lang/String", "<init>", "([C)V"⟩ : MethodName)) rfl hown (hw _ (List.mem_of_getElem? (i := 9) rfl)) (hw _ (List.mem_of_getElem? (i := 10) rfl)) (hw _ (List.mem_of_getElem? (i := 8) rfl)) (hw _ (List.mem_of_getElem? (i := 11) rfl)) (by decide) e14 hS0 hk14 I0 (rm := ({ frames := 2, cells := 2, slots := 4, locals := 29 } : Room)) (argsL := [(.ref x0)]) (S := [(.ref wh)]) (W := 1) (a := wh) (rm_e1 l Z a0 hw wh x0 h14 E14_wh F14_wh_coder F14_wh_value A14_x0 ne_wh_x0 hheld hcw (fun b cl q => K14.1.2.1 b cl q nin0)) (lenOf pd_19 rfl) rfl (Nat.le_of_eq rfl) (by decide) (by decide) (by decide) (by decide) (by rw [hml]; rfl) (hb hby at_85) (pc' := 88) rfl ?_
      rintro T15 _ L15 k15 ⟨rfl, Kq15⟩ X15 hS15 hk15 hZ hown
      have F15_a_coder := Fld.keep F14_a_coder Kq15.1 (ninS ne_a_wh nin0)
      have F15_a_value := Fld.keep F14_a_value Kq15.1 (ninS ne_a_wh nin0)
      have E15_a := Exa.keep E14_a Kq15.1
      have E15_wh := Exa.keep E14_wh Kq15.1
      have A15_b := Seq.keep A14_b Kq15.1 (ninS ne_b_wh nin0)
      have A15_x0 := Seq.keep A14_x0 Kq15.1 (ninS (Ne.symm ne_wh_x0) nin0)
      have K15 := Kp.call K14 Kq15 (allS (Or.inr sz_wh) all0)
      show Goes p e below T15 (mkF m 88 #[.val (.int p0), .val (.int p1), .val (.int p2), .val (.int p3), .val (.int (2 : Int32)), .val (.int u0), .val (.int u1), .val (.int u2), .val (.int u3), .val (.ref a), .unset, .unset] [(.ref wh)]) _
      refine G.astore X15 hx (pc' := 90) (hb hby at_88) rfl (L' := #[.val (.int p0), .val (.int p1), .val (.int p2), .val (.int p3), .val (.int (2 : Int32)), .val (.int u0), .val (.int u1), .val (.int u2), .val (.int u3), .val (.ref a), .val (.ref wh), .unset]) rfl rfl ?_
      refine G.aload X15 hx (pc' := 92) (hb hby at_90) rfl rfl rfl ?_
      refine G.aload X15 hx (pc' := 94) (hb hby at_92) rfl rfl rfl ?_
      refine G.callS X15 hx hZ (y := (⟨"com/example/bowerbird/bowerbird/Required", "text", "(Ljava/lang/String;Ljava/lang/String;)Ljava/lang/String;"⟩ : MethodName)) hown (hw _ (List.mem_of_getElem? (i := 38) rfl)) (hw _ (List.mem_of_getElem? (i := 39) rfl)) (hw _ (List.mem_of_getElem? (i := 40) rfl)) (hw _ (List.mem_of_getElem? (i := 41) rfl)) (by decide) rfl (rm := ({ frames := 1, cells := 0, slots := 0, locals := 12 } : Room)) (argsL := [(.ref a), (.ref wh)]) (S := []) (W := 0) (rm_text2 l Z a0 hw a b xs cd cs wh u0 T15.heap E15_a F15_a_coder F15_a_value A15_b hsq) (lenOf pd_25 rfl) rfl (Nat.le_of_eq rfl) (by decide) (by decide) (by decide) (by decide) (by rw [hml]; rfl) (hb hby at_94) (pc' := 97) rfl ?_
      rintro T16 _ _ ⟨rfl, e16, rfl⟩ X16
      rw [List.append_nil] at X16
      show Goes p e below T16 (mkF m 97 #[.val (.int p0), .val (.int p1), .val (.int p2), .val (.int p3), .val (.int (2 : Int32)), .val (.int u0), .val (.int u1), .val (.int u2), .val (.int u3), .val (.ref a), .val (.ref wh), .unset] [(.ref a)]) _
      refine G.astore X16 hx (pc' := 99) (hb hby at_97) rfl (L' := #[.val (.int p0), .val (.int p1), .val (.int p2), .val (.int p3), .val (.int (2 : Int32)), .val (.int u0), .val (.int u1), .val (.int u2), .val (.int u3), .val (.ref a), .val (.ref wh), .val (.ref a)]) rfl rfl ?_
      refine G.aload X16 hx (pc' := 101) (hb hby at_99) rfl rfl rfl ?_
      refine G.aload X16 hx (pc' := 103) (hb hby at_101) rfl rfl rfl ?_
      refine G.acmpT X16 hx (pc' := 106) (hb hby at_103) rfl rfl (same := true) (decide_eq_true rfl) (by decide) (by decide) ?_
      refine G.aload X16 hx (pc' := 108) (hb hby at_106) rfl rfl rfl ?_
      refine G.callV X16 hx hZ (y0 := (⟨"java/lang/String", "length", "()I"⟩ : MethodName)) (y := (⟨"java/lang/String", "length", "()I"⟩ : MethodName)) hown (hw _ (List.mem_of_getElem? (i := 47) rfl)) (hw _ (List.mem_of_getElem? (i := 48) rfl)) (notFace_of_selects (args := #[]) (mvT hZ (hw _ (List.mem_of_getElem? (i := 50) rfl)))) (hw _ (List.mem_of_getElem? (i := 50) rfl)) (hw _ (List.mem_of_getElem? (i := 49) rfl)) (hw _ (List.mem_of_getElem? (i := 8) rfl)) (hw _ (List.mem_of_getElem? (i := 51) rfl)) (by decide) e16 (rm := ({ frames := 1, cells := 0, slots := 0, locals := 13 } : Room)) (argsL := []) (S := []) (W := 0) (a := a) E15_a (rm_len2 l Z a0 hw a b xs cd cs u0 T15.heap E15_a F15_a_coder F15_a_value A15_b (Sta.keep0 SC K15.1) hcs hsq) (lenOf pd_26 rfl) rfl (Nat.le_of_eq rfl) (by decide) (by decide) (by decide) (by decide) (by rw [hml]; rfl) (hb hby at_108) (pc' := 111) rfl ?_
      rintro T17 _ _ ⟨rfl, e17, rfl⟩ X17
      rw [List.append_nil] at X17
      show Goes p e below T17 (mkF m 111 #[.val (.int p0), .val (.int p1), .val (.int p2), .val (.int p3), .val (.int (2 : Int32)), .val (.int u0), .val (.int u1), .val (.int u2), .val (.int u3), .val (.ref a), .val (.ref wh), .val (.ref a)] [(.int (2 : Int32))]) _
      refine G.iload X17 hx (pc' := 113) (hb hby at_111) rfl rfl ?_
      refine G.icmpF X17 hx (pc' := 116) (hb hby at_113) (Jvm.Free.XT.ii_ne_f rfl) rfl ?_
      refine G.aload X17 hx (pc' := 118) (hb hby at_116) rfl rfl rfl ?_
      refine G.iconst X17 hx (pc' := 119) (hb hby at_118) (z := (0 : Int32)) rfl rfl ?_
      refine G.callV X17 hx hZ (y0 := (⟨"java/lang/String", "charAt", "(I)C"⟩ : MethodName)) (y := (⟨"java/lang/String", "charAt", "(I)C"⟩ : MethodName)) hown (hw _ (List.mem_of_getElem? (i := 57) rfl)) (hw _ (List.mem_of_getElem? (i := 58) rfl)) (notFace_of_selects (args := #[]) (mvT hZ (hw _ (List.mem_of_getElem? (i := 60) rfl)))) (hw _ (List.mem_of_getElem? (i := 60) rfl)) (hw _ (List.mem_of_getElem? (i := 59) rfl)) (hw _ (List.mem_of_getElem? (i := 8) rfl)) (hw _ (List.mem_of_getElem? (i := 61) rfl)) (by decide) e17 (rm := ({ frames := 4, cells := 0, slots := 0, locals := 53 } : Room)) (argsL := [(.int (0 : Int32))]) (S := []) (W := 0) (a := a) E15_a (rm_cha2 l Z a0 hw a b xs cd cs u0 vf T15.heap E15_a F15_a_coder F15_a_value A15_b (Sta.keep0 SC K15.1) hcs (Sta.keep0 SI K15.1) hvf (Sta.keep0 SA K15.1) (Sta.keep0 SH K15.1) (Sta.keep0 SO K15.1) hsq hu0) (lenOf pd_27 rfl) rfl (Nat.le_of_eq rfl) (by decide) (by decide) (by decide) (by decide) (by rw [hml]; rfl) (hb hby at_119) (pc' := 122) rfl ?_
      rintro T18 _ _ ⟨rfl, e18, rfl⟩ X18
      rw [List.append_nil] at X18
      show Goes p e below T18 (mkF m 122 #[.val (.int p0), .val (.int p1), .val (.int p2), .val (.int p3), .val (.int (2 : Int32)), .val (.int u0), .val (.int u1), .val (.int u2), .val (.int u3), .val (.ref a), .val (.ref wh), .val (.ref a)] [(.int u0)]) _
      refine G.iload X18 hx (pc' := 124) (hb hby at_122) rfl rfl ?_
      refine G.icmpF X18 hx (pc' := 127) (hb hby at_124) (Jvm.Free.XT.ii_ne_f rfl) rfl ?_
      refine G.iconst X18 hx (pc' := 128) (hb hby at_127) (z := (1 : Int32)) rfl rfl ?_
      refine G.goto X18 hx (pc' := 132) (hb hby at_128) (by decide) (by decide) ?_
      refine Goes.retNW X18 hS15 (by rw [e18]; exact hk15) hx hret (by simp) hlk (hb hby at_132) (by decide) (by decide) ⟨rfl, K15.fr⟩
    · refine G.ifF X12 hx (pc' := 64) (hb hby at_61) (Jvm.Free.XT.i0_eq_f c1) rfl ?_
      refine G.iloadN X12 hx (pc' := 65) (hb hby at_64) rfl rfl ?_
      refine G.sipush X12 hx (pc' := 68) (hb hby at_65) (z := (255 : Int32)) rfl rfl ?_
      refine G.iand X12 hx (pc' := 69) (hb hby at_68) rfl ?_
      refine G.i2c X12 hx (pc' := 70) (hb hby at_69) rfl ?_
      refine G.callS X12 hx hZ (y := (⟨"java/lang/String", "valueOf", "(C)Ljava/lang/String;"⟩ : MethodName)) hown (hw _ (List.mem_of_getElem? (i := 98) rfl)) (hw _ (List.mem_of_getElem? (i := 99) rfl)) (hw _ (List.mem_of_getElem? (i := 8) rfl)) (hw _ (List.mem_of_getElem? (i := 100) rfl)) (by decide) rfl (rm := ({ frames := 2, cells := 2, slots := 5, locals := 27 } : Room)) (argsL := [(.int ((p3 &&& (255 : Int32)).toUInt32.toUInt16.toUInt32.toInt32))]) (S := []) (W := 0) (rm_vo l Z a0 hw ((p3 &&& (255 : Int32)).toUInt32.toUInt16.toUInt32.toInt32) cs T12.heap (Sta.keep0 SC K12.1) hcs (own_255 p3)) (lenOf pd_28 rfl) rfl (Nat.le_of_eq rfl) (by decide) (by decide) (by decide) (by decide) (by rw [hml]; rfl) (hb hby at_70) (pc' := 73) rfl ?_
      rintro T19 _ L19 ⟨wh, rfl, Kq19⟩ X19
      have F19_a_coder := Fld.keep Fc12 Kq19.1 nin0
      have F19_a_value := Fld.keep Fv12 Kq19.1 nin0
      have E19_a := Exa.keep Ea12 Kq19.1
      have A19_b := Seq.keep Ab12 Kq19.1 nin0
      have K19 := Kp.call K12 Kq19 all0
      have hk19 := Nat.le_trans hk12 Kq19.1.1
      show Goes p e below T19 (mkF m 73 #[.val (.int p0), .val (.int p1), .val (.int p2), .val (.int p3), .val (.int (2 : Int32)), .val (.int u0), .val (.int u1), .val (.int u2), .val (.int u3), .val (.ref a), .unset, .unset] [(.ref wh)]) _
      refine G.astore X19 hx (pc' := 75) (hb hby at_73) rfl (L' := #[.val (.int p0), .val (.int p1), .val (.int p2), .val (.int p3), .val (.int (2 : Int32)), .val (.int u0), .val (.int u1), .val (.int u2), .val (.int u3), .val (.ref a), .val (.ref wh), .unset]) rfl rfl ?_
      refine G.goto X19 hx (pc' := 90) (hb hby at_75) (by decide) (by decide) ?_
      refine G.aload X19 hx (pc' := 92) (hb hby at_90) rfl rfl rfl ?_
      refine G.aload X19 hx (pc' := 94) (hb hby at_92) rfl rfl rfl ?_
      refine G.callS X19 hx hZ (y := (⟨"com/example/bowerbird/bowerbird/Required", "text", "(Ljava/lang/String;Ljava/lang/String;)Ljava/lang/String;"⟩ : MethodName)) hown (hw _ (List.mem_of_getElem? (i := 38) rfl)) (hw _ (List.mem_of_getElem? (i := 39) rfl)) (hw _ (List.mem_of_getElem? (i := 40) rfl)) (hw _ (List.mem_of_getElem? (i := 41) rfl)) (by decide) rfl (rm := ({ frames := 1, cells := 0, slots := 0, locals := 12 } : Room)) (argsL := [(.ref a), (.ref wh)]) (S := []) (W := 0) (rm_text2 l Z a0 hw a b xs cd cs wh u0 T19.heap E19_a F19_a_coder F19_a_value A19_b hsq) (lenOf pd_25 rfl) rfl (Nat.le_of_eq rfl) (by decide) (by decide) (by decide) (by decide) (by rw [hml]; rfl) (hb hby at_94) (pc' := 97) rfl ?_
      rintro T20 _ _ ⟨rfl, e20, rfl⟩ X20
      rw [List.append_nil] at X20
      show Goes p e below T20 (mkF m 97 #[.val (.int p0), .val (.int p1), .val (.int p2), .val (.int p3), .val (.int (2 : Int32)), .val (.int u0), .val (.int u1), .val (.int u2), .val (.int u3), .val (.ref a), .val (.ref wh), .unset] [(.ref a)]) _
      refine G.astore X20 hx (pc' := 99) (hb hby at_97) rfl (L' := #[.val (.int p0), .val (.int p1), .val (.int p2), .val (.int p3), .val (.int (2 : Int32)), .val (.int u0), .val (.int u1), .val (.int u2), .val (.int u3), .val (.ref a), .val (.ref wh), .val (.ref a)]) rfl rfl ?_
      refine G.aload X20 hx (pc' := 101) (hb hby at_99) rfl rfl rfl ?_
      refine G.aload X20 hx (pc' := 103) (hb hby at_101) rfl rfl rfl ?_
      refine G.acmpT X20 hx (pc' := 106) (hb hby at_103) rfl rfl (same := true) (decide_eq_true rfl) (by decide) (by decide) ?_
      refine G.aload X20 hx (pc' := 108) (hb hby at_106) rfl rfl rfl ?_
      refine G.callV X20 hx hZ (y0 := (⟨"java/lang/String", "length", "()I"⟩ : MethodName)) (y := (⟨"java/lang/String", "length", "()I"⟩ : MethodName)) hown (hw _ (List.mem_of_getElem? (i := 47) rfl)) (hw _ (List.mem_of_getElem? (i := 48) rfl)) (notFace_of_selects (args := #[]) (mvT hZ (hw _ (List.mem_of_getElem? (i := 50) rfl)))) (hw _ (List.mem_of_getElem? (i := 50) rfl)) (hw _ (List.mem_of_getElem? (i := 49) rfl)) (hw _ (List.mem_of_getElem? (i := 8) rfl)) (hw _ (List.mem_of_getElem? (i := 51) rfl)) (by decide) e20 (rm := ({ frames := 1, cells := 0, slots := 0, locals := 13 } : Room)) (argsL := []) (S := []) (W := 0) (a := a) E19_a (rm_len2 l Z a0 hw a b xs cd cs u0 T19.heap E19_a F19_a_coder F19_a_value A19_b (Sta.keep0 SC K19.1) hcs hsq) (lenOf pd_26 rfl) rfl (Nat.le_of_eq rfl) (by decide) (by decide) (by decide) (by decide) (by rw [hml]; rfl) (hb hby at_108) (pc' := 111) rfl ?_
      rintro T21 _ _ ⟨rfl, e21, rfl⟩ X21
      rw [List.append_nil] at X21
      show Goes p e below T21 (mkF m 111 #[.val (.int p0), .val (.int p1), .val (.int p2), .val (.int p3), .val (.int (2 : Int32)), .val (.int u0), .val (.int u1), .val (.int u2), .val (.int u3), .val (.ref a), .val (.ref wh), .val (.ref a)] [(.int (2 : Int32))]) _
      refine G.iload X21 hx (pc' := 113) (hb hby at_111) rfl rfl ?_
      refine G.icmpF X21 hx (pc' := 116) (hb hby at_113) (Jvm.Free.XT.ii_ne_f rfl) rfl ?_
      refine G.aload X21 hx (pc' := 118) (hb hby at_116) rfl rfl rfl ?_
      refine G.iconst X21 hx (pc' := 119) (hb hby at_118) (z := (0 : Int32)) rfl rfl ?_
      refine G.callV X21 hx hZ (y0 := (⟨"java/lang/String", "charAt", "(I)C"⟩ : MethodName)) (y := (⟨"java/lang/String", "charAt", "(I)C"⟩ : MethodName)) hown (hw _ (List.mem_of_getElem? (i := 57) rfl)) (hw _ (List.mem_of_getElem? (i := 58) rfl)) (notFace_of_selects (args := #[]) (mvT hZ (hw _ (List.mem_of_getElem? (i := 60) rfl)))) (hw _ (List.mem_of_getElem? (i := 60) rfl)) (hw _ (List.mem_of_getElem? (i := 59) rfl)) (hw _ (List.mem_of_getElem? (i := 8) rfl)) (hw _ (List.mem_of_getElem? (i := 61) rfl)) (by decide) e21 (rm := ({ frames := 4, cells := 0, slots := 0, locals := 53 } : Room)) (argsL := [(.int (0 : Int32))]) (S := []) (W := 0) (a := a) E19_a (rm_cha2 l Z a0 hw a b xs cd cs u0 vf T19.heap E19_a F19_a_coder F19_a_value A19_b (Sta.keep0 SC K19.1) hcs (Sta.keep0 SI K19.1) hvf (Sta.keep0 SA K19.1) (Sta.keep0 SH K19.1) (Sta.keep0 SO K19.1) hsq hu0) (lenOf pd_27 rfl) rfl (Nat.le_of_eq rfl) (by decide) (by decide) (by decide) (by decide) (by rw [hml]; rfl) (hb hby at_119) (pc' := 122) rfl ?_
      rintro T22 _ _ ⟨rfl, e22, rfl⟩ X22
      rw [List.append_nil] at X22
      show Goes p e below T22 (mkF m 122 #[.val (.int p0), .val (.int p1), .val (.int p2), .val (.int p3), .val (.int (2 : Int32)), .val (.int u0), .val (.int u1), .val (.int u2), .val (.int u3), .val (.ref a), .val (.ref wh), .val (.ref a)] [(.int u0)]) _
      refine G.iload X22 hx (pc' := 124) (hb hby at_122) rfl rfl ?_
      refine G.icmpF X22 hx (pc' := 127) (hb hby at_124) (Jvm.Free.XT.ii_ne_f rfl) rfl ?_
      refine G.iconst X22 hx (pc' := 128) (hb hby at_127) (z := (1 : Int32)) rfl rfl ?_
      refine G.goto X22 hx (pc' := 132) (hb hby at_128) (by decide) (by decide) ?_
      refine Goes.retNW X22 hS0 (by rw [e22]; exact hk19) hx hret (by simp) hlk (hb hby at_132) (by decide) (by decide) ⟨rfl, K19.fr⟩
  · show Goes p e below T0 (mkF m 41 #[.val (.int p0), .val (.int p1), .val (.int p2), .val (.int p3), .val (.int (3 : Int32)), .val (.int u0), .val (.int u1), .val (.int u2), .val (.int u3), .unset, .unset, .unset] []) _
    refine G.iload X0 hx (pc' := 43) (hb hby at_41) rfl rfl ?_
    refine G.iload X0 hx (pc' := 45) (hb hby at_43) rfl rfl ?_
    refine G.iload X0 hx (pc' := 47) (hb hby at_45) rfl rfl ?_
    refine G.iload X0 hx (pc' := 49) (hb hby at_47) rfl rfl ?_
    refine G.iload X0 hx (pc' := 51) (hb hby at_49) rfl rfl ?_
    refine G.callS X0 hx hZ (y := (⟨"com/example/bowerbird/bowerbird/RequiredTextPinLaw", "make", "(ICCCC)Ljava/lang/String;"⟩ : MethodName)) hown (hw _ (List.mem_of_getElem? (i := 1) rfl)) (hw _ (List.mem_of_getElem? (i := 2) rfl)) (hw _ (List.mem_of_getElem? (i := 3) rfl)) (hw _ (List.mem_of_getElem? (i := 4) rfl)) (by decide) e0 (rm := ({ frames := 6, cells := 4, slots := 16, locals := 88 } : Room)) (argsL := [(.int (3 : Int32)), (.int u0), (.int u1), (.int u2), (.int u3)]) (S := []) (W := 0) (rm_make3 l Z a0 hw u0 u1 u2 u3 cs Z.heap (Sta.keep0 SC K0.1) hcs (Sta.keep0 SA K0.1) (Sta.keep0 SH K0.1) (Sta.keep0 SO K0.1) hu0 hu1 hu2 hu3) (lenOf pd_24 rfl) rfl (Nat.le_of_eq rfl) (by decide) (by decide) (by decide) (by decide) (by rw [hml]; rfl) (hb hby at_51) (pc' := 54) rfl ?_
    rintro T23 _ L23 ⟨a, rfl, Kq23, Ea23, b, cd, xs, Fc23, Fv23, Ab23, hsq⟩ X23
    have K23 := Kp.call K0 Kq23 all0
    have hk23 := Nat.le_trans hk0 Kq23.1.1
    show Goes p e below T23 (mkF m 54 #[.val (.int p0), .val (.int p1), .val (.int p2), .val (.int p3), .val (.int (3 : Int32)), .val (.int u0), .val (.int u1), .val (.int u2), .val (.int u3), .unset, .unset, .unset] [(.ref a)]) _
    refine G.astore X23 hx (pc' := 56) (hb hby at_54) rfl (L' := #[.val (.int p0), .val (.int p1), .val (.int p2), .val (.int p3), .val (.int (3 : Int32)), .val (.int u0), .val (.int u1), .val (.int u2), .val (.int u3), .val (.ref a), .unset, .unset]) rfl rfl ?_
    refine G.iloadN X23 hx (pc' := 57) (hb hby at_56) rfl rfl ?_
    refine G.sipush X23 hx (pc' := 60) (hb hby at_57) (z := (256 : Int32)) rfl rfl ?_
    refine G.iand X23 hx (pc' := 61) (hb hby at_60) rfl ?_
    by_cases c1 : (p3 &&& (256 : Int32)) = (0 : Int32)
    · refine G.ifT X23 hx (pc' := 78) (hb hby at_61) (Jvm.Free.XT.i0_eq_t c1) (by decide) (by decide) ?_
      refine G.newO X23 hx hZ hown (hw _ (List.mem_of_getElem? (i := 6) rfl)) (hw _ (List.mem_of_getElem? (i := 7) rfl)) (hw _ (List.mem_of_getElem? (i := 8) rfl)) rfl (hb hby at_78) (by decide) (by decide) (pc' := 81) rfl fun T24 h24 wh g24 X24 e24 Ex24 Ea24 D24 => ?_
      have ne_b_wh : b ≠ wh := Nat.ne_of_lt (Nat.lt_of_lt_of_le Ab23.lt (Nat.le_of_eq g24.symm))
      have ne_a_wh : a ≠ wh := Nat.ne_of_lt (Nat.lt_of_lt_of_le Fc23.lt (Nat.le_of_eq g24.symm))
      have sz_wh : Z.heap.size ≤ wh := Nat.le_trans K23.size (Nat.le_of_eq g24.symm)
      have F24_a_coder := Fld.ext  Ex24 Fc23
      have F24_a_value := Fld.ext  Ex24 Fv23
      have E24_a := Exa.ext  Ex24 Ea23
      have A24_b := Seq.ext Ab23 Ex24
      have K24 := Kp.ext K23 Ex24
      have hk24 := Nat.le_trans hk23 Ex24.1
      have F24_wh_coder : Fld Z h24 wh "java/lang/String" "coder" "B" (.int (0 : Int32)) := D24 (Or.inr (hw _ (List.mem_of_getElem? (i := 32) rfl))) (ty := .byte) (by decide)
      have F24_wh_value : Fld Z h24 wh "java/lang/String" "value" "[B" .null := D24 (Or.inr (hw _ (List.mem_of_getElem? (i := 34) rfl))) (ty := (.array .byte)) (by decide)
      refine G.dup X24 hx (pc' := 82) (hb hby at_81) rfl rfl ?_
      refine G.iconst X24 hx (pc' := 83) (hb hby at_82) (z := (0 : Int32)) rfl rfl ?_
      refine G.newP X24 hx hZ (hw _ (List.mem_of_getElem? (i := 5) rfl)) e24 (hb hby at_83) (by decide) (n := 0) (cap := 0) rfl (by decide) (by decide) (by decide) (by decide) (pc' := 85) rfl fun T25 h25 x0 g25 X25 e25 Ex25 A25 => ?_
      have ne_b_x0 : b ≠ x0 := Nat.ne_of_lt (Nat.lt_of_lt_of_le A24_b.lt (Nat.le_of_eq g25.symm))
      have ne_a_x0 : a ≠ x0 := Nat.ne_of_lt (Nat.lt_of_lt_of_le F24_a_coder.lt (Nat.le_of_eq g25.symm))
      have ne_wh_x0 : wh ≠ x0 := Nat.ne_of_lt (Nat.lt_of_lt_of_le F24_wh_coder.lt (Nat.le_of_eq g25.symm))
      have sz_x0 : Z.heap.size ≤ x0 := Nat.le_trans K24.size (Nat.le_of_eq g25.symm)
      have F25_a_coder := Fld.ext  Ex25 F24_a_coder
      have F25_a_value := Fld.ext  Ex25 F24_a_value
      have F25_wh_coder := Fld.ext  Ex25 F24_wh_coder
      have F25_wh_value := Fld.ext  Ex25 F24_wh_value
      have E25_a := Exa.ext  Ex25 E24_a
      have E25_wh := Exa.ext  Ex25 Ea24
      have A25_b := Seq.ext A24_b Ex25
      have K25 := Kp.ext K24 Ex25
      have hk25 := Nat.le_trans hk24 Ex25.1
      have A25_x0 : Seq Z h25 x0 .char [] := A25
      refine G.callII X25 hx hZ (y := (⟨"java/lang/String", "<init>", "([C)V"⟩ : MethodName)) rfl hown (hw _ (List.mem_of_getElem? (i := 9) rfl)) (hw _ (List.mem_of_getElem? (i := 10) rfl)) (hw _ (List.mem_of_getElem? (i := 8) rfl)) (hw _ (List.mem_of_getElem? (i := 11) rfl)) (by decide) e25 hS0 hk25 I0 (rm := ({ frames := 2, cells := 2, slots := 4, locals := 29 } : Room)) (argsL := [(.ref x0)]) (S := [(.ref wh)]) (W := 1) (a := wh) (rm_e1 l Z a0 hw wh x0 h25 E25_wh F25_wh_coder F25_wh_value A25_x0 ne_wh_x0 hheld hcw (fun b cl q => K25.1.2.1 b cl q nin0)) (lenOf pd_19 rfl) rfl (Nat.le_of_eq rfl) (by decide) (by decide) (by decide) (by decide) (by rw [hml]; rfl) (hb hby at_85) (pc' := 88) rfl ?_
      rintro T26 _ L26 k26 ⟨rfl, Kq26⟩ X26 hS26 hk26 hZ hown
      have F26_a_coder := Fld.keep F25_a_coder Kq26.1 (ninS ne_a_wh nin0)
      have F26_a_value := Fld.keep F25_a_value Kq26.1 (ninS ne_a_wh nin0)
      have E26_a := Exa.keep E25_a Kq26.1
      have E26_wh := Exa.keep E25_wh Kq26.1
      have A26_b := Seq.keep A25_b Kq26.1 (ninS ne_b_wh nin0)
      have A26_x0 := Seq.keep A25_x0 Kq26.1 (ninS (Ne.symm ne_wh_x0) nin0)
      have K26 := Kp.call K25 Kq26 (allS (Or.inr sz_wh) all0)
      show Goes p e below T26 (mkF m 88 #[.val (.int p0), .val (.int p1), .val (.int p2), .val (.int p3), .val (.int (3 : Int32)), .val (.int u0), .val (.int u1), .val (.int u2), .val (.int u3), .val (.ref a), .unset, .unset] [(.ref wh)]) _
      refine G.astore X26 hx (pc' := 90) (hb hby at_88) rfl (L' := #[.val (.int p0), .val (.int p1), .val (.int p2), .val (.int p3), .val (.int (3 : Int32)), .val (.int u0), .val (.int u1), .val (.int u2), .val (.int u3), .val (.ref a), .val (.ref wh), .unset]) rfl rfl ?_
      refine G.aload X26 hx (pc' := 92) (hb hby at_90) rfl rfl rfl ?_
      refine G.aload X26 hx (pc' := 94) (hb hby at_92) rfl rfl rfl ?_
      refine G.callS X26 hx hZ (y := (⟨"com/example/bowerbird/bowerbird/Required", "text", "(Ljava/lang/String;Ljava/lang/String;)Ljava/lang/String;"⟩ : MethodName)) hown (hw _ (List.mem_of_getElem? (i := 38) rfl)) (hw _ (List.mem_of_getElem? (i := 39) rfl)) (hw _ (List.mem_of_getElem? (i := 40) rfl)) (hw _ (List.mem_of_getElem? (i := 41) rfl)) (by decide) rfl (rm := ({ frames := 1, cells := 0, slots := 0, locals := 12 } : Room)) (argsL := [(.ref a), (.ref wh)]) (S := []) (W := 0) (rm_text3 l Z a0 hw a b xs cd cs wh u0 T26.heap E26_a F26_a_coder F26_a_value A26_b hsq) (lenOf pd_25 rfl) rfl (Nat.le_of_eq rfl) (by decide) (by decide) (by decide) (by decide) (by rw [hml]; rfl) (hb hby at_94) (pc' := 97) rfl ?_
      rintro T27 _ _ ⟨rfl, e27, rfl⟩ X27
      rw [List.append_nil] at X27
      show Goes p e below T27 (mkF m 97 #[.val (.int p0), .val (.int p1), .val (.int p2), .val (.int p3), .val (.int (3 : Int32)), .val (.int u0), .val (.int u1), .val (.int u2), .val (.int u3), .val (.ref a), .val (.ref wh), .unset] [(.ref a)]) _
      refine G.astore X27 hx (pc' := 99) (hb hby at_97) rfl (L' := #[.val (.int p0), .val (.int p1), .val (.int p2), .val (.int p3), .val (.int (3 : Int32)), .val (.int u0), .val (.int u1), .val (.int u2), .val (.int u3), .val (.ref a), .val (.ref wh), .val (.ref a)]) rfl rfl ?_
      refine G.aload X27 hx (pc' := 101) (hb hby at_99) rfl rfl rfl ?_
      refine G.aload X27 hx (pc' := 103) (hb hby at_101) rfl rfl rfl ?_
      refine G.acmpT X27 hx (pc' := 106) (hb hby at_103) rfl rfl (same := true) (decide_eq_true rfl) (by decide) (by decide) ?_
      refine G.aload X27 hx (pc' := 108) (hb hby at_106) rfl rfl rfl ?_
      refine G.callV X27 hx hZ (y0 := (⟨"java/lang/String", "length", "()I"⟩ : MethodName)) (y := (⟨"java/lang/String", "length", "()I"⟩ : MethodName)) hown (hw _ (List.mem_of_getElem? (i := 47) rfl)) (hw _ (List.mem_of_getElem? (i := 48) rfl)) (notFace_of_selects (args := #[]) (mvT hZ (hw _ (List.mem_of_getElem? (i := 50) rfl)))) (hw _ (List.mem_of_getElem? (i := 50) rfl)) (hw _ (List.mem_of_getElem? (i := 49) rfl)) (hw _ (List.mem_of_getElem? (i := 8) rfl)) (hw _ (List.mem_of_getElem? (i := 51) rfl)) (by decide) e27 (rm := ({ frames := 1, cells := 0, slots := 0, locals := 13 } : Room)) (argsL := []) (S := []) (W := 0) (a := a) E26_a (rm_len3 l Z a0 hw a b xs cd cs u0 T26.heap E26_a F26_a_coder F26_a_value A26_b (Sta.keep0 SC K26.1) hcs hsq) (lenOf pd_26 rfl) rfl (Nat.le_of_eq rfl) (by decide) (by decide) (by decide) (by decide) (by rw [hml]; rfl) (hb hby at_108) (pc' := 111) rfl ?_
      rintro T28 _ _ ⟨rfl, e28, rfl⟩ X28
      rw [List.append_nil] at X28
      show Goes p e below T28 (mkF m 111 #[.val (.int p0), .val (.int p1), .val (.int p2), .val (.int p3), .val (.int (3 : Int32)), .val (.int u0), .val (.int u1), .val (.int u2), .val (.int u3), .val (.ref a), .val (.ref wh), .val (.ref a)] [(.int (3 : Int32))]) _
      refine G.iload X28 hx (pc' := 113) (hb hby at_111) rfl rfl ?_
      refine G.icmpF X28 hx (pc' := 116) (hb hby at_113) (Jvm.Free.XT.ii_ne_f rfl) rfl ?_
      refine G.aload X28 hx (pc' := 118) (hb hby at_116) rfl rfl rfl ?_
      refine G.iconst X28 hx (pc' := 119) (hb hby at_118) (z := (0 : Int32)) rfl rfl ?_
      refine G.callV X28 hx hZ (y0 := (⟨"java/lang/String", "charAt", "(I)C"⟩ : MethodName)) (y := (⟨"java/lang/String", "charAt", "(I)C"⟩ : MethodName)) hown (hw _ (List.mem_of_getElem? (i := 57) rfl)) (hw _ (List.mem_of_getElem? (i := 58) rfl)) (notFace_of_selects (args := #[]) (mvT hZ (hw _ (List.mem_of_getElem? (i := 60) rfl)))) (hw _ (List.mem_of_getElem? (i := 60) rfl)) (hw _ (List.mem_of_getElem? (i := 59) rfl)) (hw _ (List.mem_of_getElem? (i := 8) rfl)) (hw _ (List.mem_of_getElem? (i := 61) rfl)) (by decide) e28 (rm := ({ frames := 4, cells := 0, slots := 0, locals := 53 } : Room)) (argsL := [(.int (0 : Int32))]) (S := []) (W := 0) (a := a) E26_a (rm_cha3 l Z a0 hw a b xs cd cs u0 vf T26.heap E26_a F26_a_coder F26_a_value A26_b (Sta.keep0 SC K26.1) hcs (Sta.keep0 SI K26.1) hvf (Sta.keep0 SA K26.1) (Sta.keep0 SH K26.1) (Sta.keep0 SO K26.1) hsq hu0) (lenOf pd_27 rfl) rfl (Nat.le_of_eq rfl) (by decide) (by decide) (by decide) (by decide) (by rw [hml]; rfl) (hb hby at_119) (pc' := 122) rfl ?_
      rintro T29 _ _ ⟨rfl, e29, rfl⟩ X29
      rw [List.append_nil] at X29
      show Goes p e below T29 (mkF m 122 #[.val (.int p0), .val (.int p1), .val (.int p2), .val (.int p3), .val (.int (3 : Int32)), .val (.int u0), .val (.int u1), .val (.int u2), .val (.int u3), .val (.ref a), .val (.ref wh), .val (.ref a)] [(.int u0)]) _
      refine G.iload X29 hx (pc' := 124) (hb hby at_122) rfl rfl ?_
      refine G.icmpF X29 hx (pc' := 127) (hb hby at_124) (Jvm.Free.XT.ii_ne_f rfl) rfl ?_
      refine G.iconst X29 hx (pc' := 128) (hb hby at_127) (z := (1 : Int32)) rfl rfl ?_
      refine G.goto X29 hx (pc' := 132) (hb hby at_128) (by decide) (by decide) ?_
      refine Goes.retNW X29 hS26 (by rw [e29]; exact hk26) hx hret (by simp) hlk (hb hby at_132) (by decide) (by decide) ⟨rfl, K26.fr⟩
    · refine G.ifF X23 hx (pc' := 64) (hb hby at_61) (Jvm.Free.XT.i0_eq_f c1) rfl ?_
      refine G.iloadN X23 hx (pc' := 65) (hb hby at_64) rfl rfl ?_
      refine G.sipush X23 hx (pc' := 68) (hb hby at_65) (z := (255 : Int32)) rfl rfl ?_
      refine G.iand X23 hx (pc' := 69) (hb hby at_68) rfl ?_
      refine G.i2c X23 hx (pc' := 70) (hb hby at_69) rfl ?_
      refine G.callS X23 hx hZ (y := (⟨"java/lang/String", "valueOf", "(C)Ljava/lang/String;"⟩ : MethodName)) hown (hw _ (List.mem_of_getElem? (i := 98) rfl)) (hw _ (List.mem_of_getElem? (i := 99) rfl)) (hw _ (List.mem_of_getElem? (i := 8) rfl)) (hw _ (List.mem_of_getElem? (i := 100) rfl)) (by decide) rfl (rm := ({ frames := 2, cells := 2, slots := 5, locals := 27 } : Room)) (argsL := [(.int ((p3 &&& (255 : Int32)).toUInt32.toUInt16.toUInt32.toInt32))]) (S := []) (W := 0) (rm_vo l Z a0 hw ((p3 &&& (255 : Int32)).toUInt32.toUInt16.toUInt32.toInt32) cs T23.heap (Sta.keep0 SC K23.1) hcs (own_255 p3)) (lenOf pd_28 rfl) rfl (Nat.le_of_eq rfl) (by decide) (by decide) (by decide) (by decide) (by rw [hml]; rfl) (hb hby at_70) (pc' := 73) rfl ?_
      rintro T30 _ L30 ⟨wh, rfl, Kq30⟩ X30
      have F30_a_coder := Fld.keep Fc23 Kq30.1 nin0
      have F30_a_value := Fld.keep Fv23 Kq30.1 nin0
      have E30_a := Exa.keep Ea23 Kq30.1
      have A30_b := Seq.keep Ab23 Kq30.1 nin0
      have K30 := Kp.call K23 Kq30 all0
      have hk30 := Nat.le_trans hk23 Kq30.1.1
      show Goes p e below T30 (mkF m 73 #[.val (.int p0), .val (.int p1), .val (.int p2), .val (.int p3), .val (.int (3 : Int32)), .val (.int u0), .val (.int u1), .val (.int u2), .val (.int u3), .val (.ref a), .unset, .unset] [(.ref wh)]) _
      refine G.astore X30 hx (pc' := 75) (hb hby at_73) rfl (L' := #[.val (.int p0), .val (.int p1), .val (.int p2), .val (.int p3), .val (.int (3 : Int32)), .val (.int u0), .val (.int u1), .val (.int u2), .val (.int u3), .val (.ref a), .val (.ref wh), .unset]) rfl rfl ?_
      refine G.goto X30 hx (pc' := 90) (hb hby at_75) (by decide) (by decide) ?_
      refine G.aload X30 hx (pc' := 92) (hb hby at_90) rfl rfl rfl ?_
      refine G.aload X30 hx (pc' := 94) (hb hby at_92) rfl rfl rfl ?_
      refine G.callS X30 hx hZ (y := (⟨"com/example/bowerbird/bowerbird/Required", "text", "(Ljava/lang/String;Ljava/lang/String;)Ljava/lang/String;"⟩ : MethodName)) hown (hw _ (List.mem_of_getElem? (i := 38) rfl)) (hw _ (List.mem_of_getElem? (i := 39) rfl)) (hw _ (List.mem_of_getElem? (i := 40) rfl)) (hw _ (List.mem_of_getElem? (i := 41) rfl)) (by decide) rfl (rm := ({ frames := 1, cells := 0, slots := 0, locals := 12 } : Room)) (argsL := [(.ref a), (.ref wh)]) (S := []) (W := 0) (rm_text3 l Z a0 hw a b xs cd cs wh u0 T30.heap E30_a F30_a_coder F30_a_value A30_b hsq) (lenOf pd_25 rfl) rfl (Nat.le_of_eq rfl) (by decide) (by decide) (by decide) (by decide) (by rw [hml]; rfl) (hb hby at_94) (pc' := 97) rfl ?_
      rintro T31 _ _ ⟨rfl, e31, rfl⟩ X31
      rw [List.append_nil] at X31
      show Goes p e below T31 (mkF m 97 #[.val (.int p0), .val (.int p1), .val (.int p2), .val (.int p3), .val (.int (3 : Int32)), .val (.int u0), .val (.int u1), .val (.int u2), .val (.int u3), .val (.ref a), .val (.ref wh), .unset] [(.ref a)]) _
      refine G.astore X31 hx (pc' := 99) (hb hby at_97) rfl (L' := #[.val (.int p0), .val (.int p1), .val (.int p2), .val (.int p3), .val (.int (3 : Int32)), .val (.int u0), .val (.int u1), .val (.int u2), .val (.int u3), .val (.ref a), .val (.ref wh), .val (.ref a)]) rfl rfl ?_
      refine G.aload X31 hx (pc' := 101) (hb hby at_99) rfl rfl rfl ?_
      refine G.aload X31 hx (pc' := 103) (hb hby at_101) rfl rfl rfl ?_
      refine G.acmpT X31 hx (pc' := 106) (hb hby at_103) rfl rfl (same := true) (decide_eq_true rfl) (by decide) (by decide) ?_
      refine G.aload X31 hx (pc' := 108) (hb hby at_106) rfl rfl rfl ?_
      refine G.callV X31 hx hZ (y0 := (⟨"java/lang/String", "length", "()I"⟩ : MethodName)) (y := (⟨"java/lang/String", "length", "()I"⟩ : MethodName)) hown (hw _ (List.mem_of_getElem? (i := 47) rfl)) (hw _ (List.mem_of_getElem? (i := 48) rfl)) (notFace_of_selects (args := #[]) (mvT hZ (hw _ (List.mem_of_getElem? (i := 50) rfl)))) (hw _ (List.mem_of_getElem? (i := 50) rfl)) (hw _ (List.mem_of_getElem? (i := 49) rfl)) (hw _ (List.mem_of_getElem? (i := 8) rfl)) (hw _ (List.mem_of_getElem? (i := 51) rfl)) (by decide) e31 (rm := ({ frames := 1, cells := 0, slots := 0, locals := 13 } : Room)) (argsL := []) (S := []) (W := 0) (a := a) E30_a (rm_len3 l Z a0 hw a b xs cd cs u0 T30.heap E30_a F30_a_coder F30_a_value A30_b (Sta.keep0 SC K30.1) hcs hsq) (lenOf pd_26 rfl) rfl (Nat.le_of_eq rfl) (by decide) (by decide) (by decide) (by decide) (by rw [hml]; rfl) (hb hby at_108) (pc' := 111) rfl ?_
      rintro T32 _ _ ⟨rfl, e32, rfl⟩ X32
      rw [List.append_nil] at X32
      show Goes p e below T32 (mkF m 111 #[.val (.int p0), .val (.int p1), .val (.int p2), .val (.int p3), .val (.int (3 : Int32)), .val (.int u0), .val (.int u1), .val (.int u2), .val (.int u3), .val (.ref a), .val (.ref wh), .val (.ref a)] [(.int (3 : Int32))]) _
      refine G.iload X32 hx (pc' := 113) (hb hby at_111) rfl rfl ?_
      refine G.icmpF X32 hx (pc' := 116) (hb hby at_113) (Jvm.Free.XT.ii_ne_f rfl) rfl ?_
      refine G.aload X32 hx (pc' := 118) (hb hby at_116) rfl rfl rfl ?_
      refine G.iconst X32 hx (pc' := 119) (hb hby at_118) (z := (0 : Int32)) rfl rfl ?_
      refine G.callV X32 hx hZ (y0 := (⟨"java/lang/String", "charAt", "(I)C"⟩ : MethodName)) (y := (⟨"java/lang/String", "charAt", "(I)C"⟩ : MethodName)) hown (hw _ (List.mem_of_getElem? (i := 57) rfl)) (hw _ (List.mem_of_getElem? (i := 58) rfl)) (notFace_of_selects (args := #[]) (mvT hZ (hw _ (List.mem_of_getElem? (i := 60) rfl)))) (hw _ (List.mem_of_getElem? (i := 60) rfl)) (hw _ (List.mem_of_getElem? (i := 59) rfl)) (hw _ (List.mem_of_getElem? (i := 8) rfl)) (hw _ (List.mem_of_getElem? (i := 61) rfl)) (by decide) e32 (rm := ({ frames := 4, cells := 0, slots := 0, locals := 53 } : Room)) (argsL := [(.int (0 : Int32))]) (S := []) (W := 0) (a := a) E30_a (rm_cha3 l Z a0 hw a b xs cd cs u0 vf T30.heap E30_a F30_a_coder F30_a_value A30_b (Sta.keep0 SC K30.1) hcs (Sta.keep0 SI K30.1) hvf (Sta.keep0 SA K30.1) (Sta.keep0 SH K30.1) (Sta.keep0 SO K30.1) hsq hu0) (lenOf pd_27 rfl) rfl (Nat.le_of_eq rfl) (by decide) (by decide) (by decide) (by decide) (by rw [hml]; rfl) (hb hby at_119) (pc' := 122) rfl ?_
      rintro T33 _ _ ⟨rfl, e33, rfl⟩ X33
      rw [List.append_nil] at X33
      show Goes p e below T33 (mkF m 122 #[.val (.int p0), .val (.int p1), .val (.int p2), .val (.int p3), .val (.int (3 : Int32)), .val (.int u0), .val (.int u1), .val (.int u2), .val (.int u3), .val (.ref a), .val (.ref wh), .val (.ref a)] [(.int u0)]) _
      refine G.iload X33 hx (pc' := 124) (hb hby at_122) rfl rfl ?_
      refine G.icmpF X33 hx (pc' := 127) (hb hby at_124) (Jvm.Free.XT.ii_ne_f rfl) rfl ?_
      refine G.iconst X33 hx (pc' := 128) (hb hby at_127) (z := (1 : Int32)) rfl rfl ?_
      refine G.goto X33 hx (pc' := 132) (hb hby at_128) (by decide) (by decide) ?_
      refine Goes.retNW X33 hS0 (by rw [e33]; exact hk30) hx hret (by simp) hlk (hb hby at_132) (by decide) (by decide) ⟨rfl, K30.fr⟩
  · show Goes p e below T0 (mkF m 41 #[.val (.int p0), .val (.int p1), .val (.int p2), .val (.int p3), .val (.int (4 : Int32)), .val (.int u0), .val (.int u1), .val (.int u2), .val (.int u3), .unset, .unset, .unset] []) _
    refine G.iload X0 hx (pc' := 43) (hb hby at_41) rfl rfl ?_
    refine G.iload X0 hx (pc' := 45) (hb hby at_43) rfl rfl ?_
    refine G.iload X0 hx (pc' := 47) (hb hby at_45) rfl rfl ?_
    refine G.iload X0 hx (pc' := 49) (hb hby at_47) rfl rfl ?_
    refine G.iload X0 hx (pc' := 51) (hb hby at_49) rfl rfl ?_
    refine G.callS X0 hx hZ (y := (⟨"com/example/bowerbird/bowerbird/RequiredTextPinLaw", "make", "(ICCCC)Ljava/lang/String;"⟩ : MethodName)) hown (hw _ (List.mem_of_getElem? (i := 1) rfl)) (hw _ (List.mem_of_getElem? (i := 2) rfl)) (hw _ (List.mem_of_getElem? (i := 3) rfl)) (hw _ (List.mem_of_getElem? (i := 4) rfl)) (by decide) e0 (rm := ({ frames := 6, cells := 4, slots := 20, locals := 88 } : Room)) (argsL := [(.int (4 : Int32)), (.int u0), (.int u1), (.int u2), (.int u3)]) (S := []) (W := 0) (rm_make4 l Z a0 hw u0 u1 u2 u3 cs Z.heap (Sta.keep0 SC K0.1) hcs (Sta.keep0 SA K0.1) (Sta.keep0 SH K0.1) (Sta.keep0 SO K0.1) hu0 hu1 hu2 hu3) (lenOf pd_24 rfl) rfl (Nat.le_of_eq rfl) (by decide) (by decide) (by decide) (by decide) (by rw [hml]; rfl) (hb hby at_51) (pc' := 54) rfl ?_
    rintro T34 _ L34 ⟨a, rfl, Kq34, Ea34, b, cd, xs, Fc34, Fv34, Ab34, hsq⟩ X34
    have K34 := Kp.call K0 Kq34 all0
    have hk34 := Nat.le_trans hk0 Kq34.1.1
    show Goes p e below T34 (mkF m 54 #[.val (.int p0), .val (.int p1), .val (.int p2), .val (.int p3), .val (.int (4 : Int32)), .val (.int u0), .val (.int u1), .val (.int u2), .val (.int u3), .unset, .unset, .unset] [(.ref a)]) _
    refine G.astore X34 hx (pc' := 56) (hb hby at_54) rfl (L' := #[.val (.int p0), .val (.int p1), .val (.int p2), .val (.int p3), .val (.int (4 : Int32)), .val (.int u0), .val (.int u1), .val (.int u2), .val (.int u3), .val (.ref a), .unset, .unset]) rfl rfl ?_
    refine G.iloadN X34 hx (pc' := 57) (hb hby at_56) rfl rfl ?_
    refine G.sipush X34 hx (pc' := 60) (hb hby at_57) (z := (256 : Int32)) rfl rfl ?_
    refine G.iand X34 hx (pc' := 61) (hb hby at_60) rfl ?_
    by_cases c1 : (p3 &&& (256 : Int32)) = (0 : Int32)
    · refine G.ifT X34 hx (pc' := 78) (hb hby at_61) (Jvm.Free.XT.i0_eq_t c1) (by decide) (by decide) ?_
      refine G.newO X34 hx hZ hown (hw _ (List.mem_of_getElem? (i := 6) rfl)) (hw _ (List.mem_of_getElem? (i := 7) rfl)) (hw _ (List.mem_of_getElem? (i := 8) rfl)) rfl (hb hby at_78) (by decide) (by decide) (pc' := 81) rfl fun T35 h35 wh g35 X35 e35 Ex35 Ea35 D35 => ?_
      have ne_b_wh : b ≠ wh := Nat.ne_of_lt (Nat.lt_of_lt_of_le Ab34.lt (Nat.le_of_eq g35.symm))
      have ne_a_wh : a ≠ wh := Nat.ne_of_lt (Nat.lt_of_lt_of_le Fc34.lt (Nat.le_of_eq g35.symm))
      have sz_wh : Z.heap.size ≤ wh := Nat.le_trans K34.size (Nat.le_of_eq g35.symm)
      have F35_a_coder := Fld.ext  Ex35 Fc34
      have F35_a_value := Fld.ext  Ex35 Fv34
      have E35_a := Exa.ext  Ex35 Ea34
      have A35_b := Seq.ext Ab34 Ex35
      have K35 := Kp.ext K34 Ex35
      have hk35 := Nat.le_trans hk34 Ex35.1
      have F35_wh_coder : Fld Z h35 wh "java/lang/String" "coder" "B" (.int (0 : Int32)) := D35 (Or.inr (hw _ (List.mem_of_getElem? (i := 32) rfl))) (ty := .byte) (by decide)
      have F35_wh_value : Fld Z h35 wh "java/lang/String" "value" "[B" .null := D35 (Or.inr (hw _ (List.mem_of_getElem? (i := 34) rfl))) (ty := (.array .byte)) (by decide)
      refine G.dup X35 hx (pc' := 82) (hb hby at_81) rfl rfl ?_
      refine G.iconst X35 hx (pc' := 83) (hb hby at_82) (z := (0 : Int32)) rfl rfl ?_
      refine G.newP X35 hx hZ (hw _ (List.mem_of_getElem? (i := 5) rfl)) e35 (hb hby at_83) (by decide) (n := 0) (cap := 0) rfl (by decide) (by decide) (by decide) (by decide) (pc' := 85) rfl fun T36 h36 x0 g36 X36 e36 Ex36 A36 => ?_
      have ne_b_x0 : b ≠ x0 := Nat.ne_of_lt (Nat.lt_of_lt_of_le A35_b.lt (Nat.le_of_eq g36.symm))
      have ne_a_x0 : a ≠ x0 := Nat.ne_of_lt (Nat.lt_of_lt_of_le F35_a_coder.lt (Nat.le_of_eq g36.symm))
      have ne_wh_x0 : wh ≠ x0 := Nat.ne_of_lt (Nat.lt_of_lt_of_le F35_wh_coder.lt (Nat.le_of_eq g36.symm))
      have sz_x0 : Z.heap.size ≤ x0 := Nat.le_trans K35.size (Nat.le_of_eq g36.symm)
      have F36_a_coder := Fld.ext  Ex36 F35_a_coder
      have F36_a_value := Fld.ext  Ex36 F35_a_value
      have F36_wh_coder := Fld.ext  Ex36 F35_wh_coder
      have F36_wh_value := Fld.ext  Ex36 F35_wh_value
      have E36_a := Exa.ext  Ex36 E35_a
      have E36_wh := Exa.ext  Ex36 Ea35
      have A36_b := Seq.ext A35_b Ex36
      have K36 := Kp.ext K35 Ex36
      have hk36 := Nat.le_trans hk35 Ex36.1
      have A36_x0 : Seq Z h36 x0 .char [] := A36
      refine G.callII X36 hx hZ (y := (⟨"java/lang/String", "<init>", "([C)V"⟩ : MethodName)) rfl hown (hw _ (List.mem_of_getElem? (i := 9) rfl)) (hw _ (List.mem_of_getElem? (i := 10) rfl)) (hw _ (List.mem_of_getElem? (i := 8) rfl)) (hw _ (List.mem_of_getElem? (i := 11) rfl)) (by decide) e36 hS0 hk36 I0 (rm := ({ frames := 2, cells := 2, slots := 4, locals := 29 } : Room)) (argsL := [(.ref x0)]) (S := [(.ref wh)]) (W := 1) (a := wh) (rm_e1 l Z a0 hw wh x0 h36 E36_wh F36_wh_coder F36_wh_value A36_x0 ne_wh_x0 hheld hcw (fun b cl q => K36.1.2.1 b cl q nin0)) (lenOf pd_19 rfl) rfl (Nat.le_of_eq rfl) (by decide) (by decide) (by decide) (by decide) (by rw [hml]; rfl) (hb hby at_85) (pc' := 88) rfl ?_
      rintro T37 _ L37 k37 ⟨rfl, Kq37⟩ X37 hS37 hk37 hZ hown
      have F37_a_coder := Fld.keep F36_a_coder Kq37.1 (ninS ne_a_wh nin0)
      have F37_a_value := Fld.keep F36_a_value Kq37.1 (ninS ne_a_wh nin0)
      have E37_a := Exa.keep E36_a Kq37.1
      have E37_wh := Exa.keep E36_wh Kq37.1
      have A37_b := Seq.keep A36_b Kq37.1 (ninS ne_b_wh nin0)
      have A37_x0 := Seq.keep A36_x0 Kq37.1 (ninS (Ne.symm ne_wh_x0) nin0)
      have K37 := Kp.call K36 Kq37 (allS (Or.inr sz_wh) all0)
      show Goes p e below T37 (mkF m 88 #[.val (.int p0), .val (.int p1), .val (.int p2), .val (.int p3), .val (.int (4 : Int32)), .val (.int u0), .val (.int u1), .val (.int u2), .val (.int u3), .val (.ref a), .unset, .unset] [(.ref wh)]) _
      refine G.astore X37 hx (pc' := 90) (hb hby at_88) rfl (L' := #[.val (.int p0), .val (.int p1), .val (.int p2), .val (.int p3), .val (.int (4 : Int32)), .val (.int u0), .val (.int u1), .val (.int u2), .val (.int u3), .val (.ref a), .val (.ref wh), .unset]) rfl rfl ?_
      refine G.aload X37 hx (pc' := 92) (hb hby at_90) rfl rfl rfl ?_
      refine G.aload X37 hx (pc' := 94) (hb hby at_92) rfl rfl rfl ?_
      refine G.callS X37 hx hZ (y := (⟨"com/example/bowerbird/bowerbird/Required", "text", "(Ljava/lang/String;Ljava/lang/String;)Ljava/lang/String;"⟩ : MethodName)) hown (hw _ (List.mem_of_getElem? (i := 38) rfl)) (hw _ (List.mem_of_getElem? (i := 39) rfl)) (hw _ (List.mem_of_getElem? (i := 40) rfl)) (hw _ (List.mem_of_getElem? (i := 41) rfl)) (by decide) rfl (rm := ({ frames := 1, cells := 0, slots := 0, locals := 12 } : Room)) (argsL := [(.ref a), (.ref wh)]) (S := []) (W := 0) (rm_text4 l Z a0 hw a b xs cd cs wh u0 T37.heap E37_a F37_a_coder F37_a_value A37_b hsq) (lenOf pd_25 rfl) rfl (Nat.le_of_eq rfl) (by decide) (by decide) (by decide) (by decide) (by rw [hml]; rfl) (hb hby at_94) (pc' := 97) rfl ?_
      rintro T38 _ _ ⟨rfl, e38, rfl⟩ X38
      rw [List.append_nil] at X38
      show Goes p e below T38 (mkF m 97 #[.val (.int p0), .val (.int p1), .val (.int p2), .val (.int p3), .val (.int (4 : Int32)), .val (.int u0), .val (.int u1), .val (.int u2), .val (.int u3), .val (.ref a), .val (.ref wh), .unset] [(.ref a)]) _
      refine G.astore X38 hx (pc' := 99) (hb hby at_97) rfl (L' := #[.val (.int p0), .val (.int p1), .val (.int p2), .val (.int p3), .val (.int (4 : Int32)), .val (.int u0), .val (.int u1), .val (.int u2), .val (.int u3), .val (.ref a), .val (.ref wh), .val (.ref a)]) rfl rfl ?_
      refine G.aload X38 hx (pc' := 101) (hb hby at_99) rfl rfl rfl ?_
      refine G.aload X38 hx (pc' := 103) (hb hby at_101) rfl rfl rfl ?_
      refine G.acmpT X38 hx (pc' := 106) (hb hby at_103) rfl rfl (same := true) (decide_eq_true rfl) (by decide) (by decide) ?_
      refine G.aload X38 hx (pc' := 108) (hb hby at_106) rfl rfl rfl ?_
      refine G.callV X38 hx hZ (y0 := (⟨"java/lang/String", "length", "()I"⟩ : MethodName)) (y := (⟨"java/lang/String", "length", "()I"⟩ : MethodName)) hown (hw _ (List.mem_of_getElem? (i := 47) rfl)) (hw _ (List.mem_of_getElem? (i := 48) rfl)) (notFace_of_selects (args := #[]) (mvT hZ (hw _ (List.mem_of_getElem? (i := 50) rfl)))) (hw _ (List.mem_of_getElem? (i := 50) rfl)) (hw _ (List.mem_of_getElem? (i := 49) rfl)) (hw _ (List.mem_of_getElem? (i := 8) rfl)) (hw _ (List.mem_of_getElem? (i := 51) rfl)) (by decide) e38 (rm := ({ frames := 1, cells := 0, slots := 0, locals := 13 } : Room)) (argsL := []) (S := []) (W := 0) (a := a) E37_a (rm_len4 l Z a0 hw a b xs cd cs u0 T37.heap E37_a F37_a_coder F37_a_value A37_b (Sta.keep0 SC K37.1) hcs hsq) (lenOf pd_26 rfl) rfl (Nat.le_of_eq rfl) (by decide) (by decide) (by decide) (by decide) (by rw [hml]; rfl) (hb hby at_108) (pc' := 111) rfl ?_
      rintro T39 _ _ ⟨rfl, e39, rfl⟩ X39
      rw [List.append_nil] at X39
      show Goes p e below T39 (mkF m 111 #[.val (.int p0), .val (.int p1), .val (.int p2), .val (.int p3), .val (.int (4 : Int32)), .val (.int u0), .val (.int u1), .val (.int u2), .val (.int u3), .val (.ref a), .val (.ref wh), .val (.ref a)] [(.int (4 : Int32))]) _
      refine G.iload X39 hx (pc' := 113) (hb hby at_111) rfl rfl ?_
      refine G.icmpF X39 hx (pc' := 116) (hb hby at_113) (Jvm.Free.XT.ii_ne_f rfl) rfl ?_
      refine G.aload X39 hx (pc' := 118) (hb hby at_116) rfl rfl rfl ?_
      refine G.iconst X39 hx (pc' := 119) (hb hby at_118) (z := (0 : Int32)) rfl rfl ?_
      refine G.callV X39 hx hZ (y0 := (⟨"java/lang/String", "charAt", "(I)C"⟩ : MethodName)) (y := (⟨"java/lang/String", "charAt", "(I)C"⟩ : MethodName)) hown (hw _ (List.mem_of_getElem? (i := 57) rfl)) (hw _ (List.mem_of_getElem? (i := 58) rfl)) (notFace_of_selects (args := #[]) (mvT hZ (hw _ (List.mem_of_getElem? (i := 60) rfl)))) (hw _ (List.mem_of_getElem? (i := 60) rfl)) (hw _ (List.mem_of_getElem? (i := 59) rfl)) (hw _ (List.mem_of_getElem? (i := 8) rfl)) (hw _ (List.mem_of_getElem? (i := 61) rfl)) (by decide) e39 (rm := ({ frames := 4, cells := 0, slots := 0, locals := 53 } : Room)) (argsL := [(.int (0 : Int32))]) (S := []) (W := 0) (a := a) E37_a (rm_cha4 l Z a0 hw a b xs cd cs u0 vf T37.heap E37_a F37_a_coder F37_a_value A37_b (Sta.keep0 SC K37.1) hcs (Sta.keep0 SI K37.1) hvf (Sta.keep0 SA K37.1) (Sta.keep0 SH K37.1) (Sta.keep0 SO K37.1) hsq hu0) (lenOf pd_27 rfl) rfl (Nat.le_of_eq rfl) (by decide) (by decide) (by decide) (by decide) (by rw [hml]; rfl) (hb hby at_119) (pc' := 122) rfl ?_
      rintro T40 _ _ ⟨rfl, e40, rfl⟩ X40
      rw [List.append_nil] at X40
      show Goes p e below T40 (mkF m 122 #[.val (.int p0), .val (.int p1), .val (.int p2), .val (.int p3), .val (.int (4 : Int32)), .val (.int u0), .val (.int u1), .val (.int u2), .val (.int u3), .val (.ref a), .val (.ref wh), .val (.ref a)] [(.int u0)]) _
      refine G.iload X40 hx (pc' := 124) (hb hby at_122) rfl rfl ?_
      refine G.icmpF X40 hx (pc' := 127) (hb hby at_124) (Jvm.Free.XT.ii_ne_f rfl) rfl ?_
      refine G.iconst X40 hx (pc' := 128) (hb hby at_127) (z := (1 : Int32)) rfl rfl ?_
      refine G.goto X40 hx (pc' := 132) (hb hby at_128) (by decide) (by decide) ?_
      refine Goes.retNW X40 hS37 (by rw [e40]; exact hk37) hx hret (by simp) hlk (hb hby at_132) (by decide) (by decide) ⟨rfl, K37.fr⟩
    · refine G.ifF X34 hx (pc' := 64) (hb hby at_61) (Jvm.Free.XT.i0_eq_f c1) rfl ?_
      refine G.iloadN X34 hx (pc' := 65) (hb hby at_64) rfl rfl ?_
      refine G.sipush X34 hx (pc' := 68) (hb hby at_65) (z := (255 : Int32)) rfl rfl ?_
      refine G.iand X34 hx (pc' := 69) (hb hby at_68) rfl ?_
      refine G.i2c X34 hx (pc' := 70) (hb hby at_69) rfl ?_
      refine G.callS X34 hx hZ (y := (⟨"java/lang/String", "valueOf", "(C)Ljava/lang/String;"⟩ : MethodName)) hown (hw _ (List.mem_of_getElem? (i := 98) rfl)) (hw _ (List.mem_of_getElem? (i := 99) rfl)) (hw _ (List.mem_of_getElem? (i := 8) rfl)) (hw _ (List.mem_of_getElem? (i := 100) rfl)) (by decide) rfl (rm := ({ frames := 2, cells := 2, slots := 5, locals := 27 } : Room)) (argsL := [(.int ((p3 &&& (255 : Int32)).toUInt32.toUInt16.toUInt32.toInt32))]) (S := []) (W := 0) (rm_vo l Z a0 hw ((p3 &&& (255 : Int32)).toUInt32.toUInt16.toUInt32.toInt32) cs T34.heap (Sta.keep0 SC K34.1) hcs (own_255 p3)) (lenOf pd_28 rfl) rfl (Nat.le_of_eq rfl) (by decide) (by decide) (by decide) (by decide) (by rw [hml]; rfl) (hb hby at_70) (pc' := 73) rfl ?_
      rintro T41 _ L41 ⟨wh, rfl, Kq41⟩ X41
      have F41_a_coder := Fld.keep Fc34 Kq41.1 nin0
      have F41_a_value := Fld.keep Fv34 Kq41.1 nin0
      have E41_a := Exa.keep Ea34 Kq41.1
      have A41_b := Seq.keep Ab34 Kq41.1 nin0
      have K41 := Kp.call K34 Kq41 all0
      have hk41 := Nat.le_trans hk34 Kq41.1.1
      show Goes p e below T41 (mkF m 73 #[.val (.int p0), .val (.int p1), .val (.int p2), .val (.int p3), .val (.int (4 : Int32)), .val (.int u0), .val (.int u1), .val (.int u2), .val (.int u3), .val (.ref a), .unset, .unset] [(.ref wh)]) _
      refine G.astore X41 hx (pc' := 75) (hb hby at_73) rfl (L' := #[.val (.int p0), .val (.int p1), .val (.int p2), .val (.int p3), .val (.int (4 : Int32)), .val (.int u0), .val (.int u1), .val (.int u2), .val (.int u3), .val (.ref a), .val (.ref wh), .unset]) rfl rfl ?_
      refine G.goto X41 hx (pc' := 90) (hb hby at_75) (by decide) (by decide) ?_
      refine G.aload X41 hx (pc' := 92) (hb hby at_90) rfl rfl rfl ?_
      refine G.aload X41 hx (pc' := 94) (hb hby at_92) rfl rfl rfl ?_
      refine G.callS X41 hx hZ (y := (⟨"com/example/bowerbird/bowerbird/Required", "text", "(Ljava/lang/String;Ljava/lang/String;)Ljava/lang/String;"⟩ : MethodName)) hown (hw _ (List.mem_of_getElem? (i := 38) rfl)) (hw _ (List.mem_of_getElem? (i := 39) rfl)) (hw _ (List.mem_of_getElem? (i := 40) rfl)) (hw _ (List.mem_of_getElem? (i := 41) rfl)) (by decide) rfl (rm := ({ frames := 1, cells := 0, slots := 0, locals := 12 } : Room)) (argsL := [(.ref a), (.ref wh)]) (S := []) (W := 0) (rm_text4 l Z a0 hw a b xs cd cs wh u0 T41.heap E41_a F41_a_coder F41_a_value A41_b hsq) (lenOf pd_25 rfl) rfl (Nat.le_of_eq rfl) (by decide) (by decide) (by decide) (by decide) (by rw [hml]; rfl) (hb hby at_94) (pc' := 97) rfl ?_
      rintro T42 _ _ ⟨rfl, e42, rfl⟩ X42
      rw [List.append_nil] at X42
      show Goes p e below T42 (mkF m 97 #[.val (.int p0), .val (.int p1), .val (.int p2), .val (.int p3), .val (.int (4 : Int32)), .val (.int u0), .val (.int u1), .val (.int u2), .val (.int u3), .val (.ref a), .val (.ref wh), .unset] [(.ref a)]) _
      refine G.astore X42 hx (pc' := 99) (hb hby at_97) rfl (L' := #[.val (.int p0), .val (.int p1), .val (.int p2), .val (.int p3), .val (.int (4 : Int32)), .val (.int u0), .val (.int u1), .val (.int u2), .val (.int u3), .val (.ref a), .val (.ref wh), .val (.ref a)]) rfl rfl ?_
      refine G.aload X42 hx (pc' := 101) (hb hby at_99) rfl rfl rfl ?_
      refine G.aload X42 hx (pc' := 103) (hb hby at_101) rfl rfl rfl ?_
      refine G.acmpT X42 hx (pc' := 106) (hb hby at_103) rfl rfl (same := true) (decide_eq_true rfl) (by decide) (by decide) ?_
      refine G.aload X42 hx (pc' := 108) (hb hby at_106) rfl rfl rfl ?_
      refine G.callV X42 hx hZ (y0 := (⟨"java/lang/String", "length", "()I"⟩ : MethodName)) (y := (⟨"java/lang/String", "length", "()I"⟩ : MethodName)) hown (hw _ (List.mem_of_getElem? (i := 47) rfl)) (hw _ (List.mem_of_getElem? (i := 48) rfl)) (notFace_of_selects (args := #[]) (mvT hZ (hw _ (List.mem_of_getElem? (i := 50) rfl)))) (hw _ (List.mem_of_getElem? (i := 50) rfl)) (hw _ (List.mem_of_getElem? (i := 49) rfl)) (hw _ (List.mem_of_getElem? (i := 8) rfl)) (hw _ (List.mem_of_getElem? (i := 51) rfl)) (by decide) e42 (rm := ({ frames := 1, cells := 0, slots := 0, locals := 13 } : Room)) (argsL := []) (S := []) (W := 0) (a := a) E41_a (rm_len4 l Z a0 hw a b xs cd cs u0 T41.heap E41_a F41_a_coder F41_a_value A41_b (Sta.keep0 SC K41.1) hcs hsq) (lenOf pd_26 rfl) rfl (Nat.le_of_eq rfl) (by decide) (by decide) (by decide) (by decide) (by rw [hml]; rfl) (hb hby at_108) (pc' := 111) rfl ?_
      rintro T43 _ _ ⟨rfl, e43, rfl⟩ X43
      rw [List.append_nil] at X43
      show Goes p e below T43 (mkF m 111 #[.val (.int p0), .val (.int p1), .val (.int p2), .val (.int p3), .val (.int (4 : Int32)), .val (.int u0), .val (.int u1), .val (.int u2), .val (.int u3), .val (.ref a), .val (.ref wh), .val (.ref a)] [(.int (4 : Int32))]) _
      refine G.iload X43 hx (pc' := 113) (hb hby at_111) rfl rfl ?_
      refine G.icmpF X43 hx (pc' := 116) (hb hby at_113) (Jvm.Free.XT.ii_ne_f rfl) rfl ?_
      refine G.aload X43 hx (pc' := 118) (hb hby at_116) rfl rfl rfl ?_
      refine G.iconst X43 hx (pc' := 119) (hb hby at_118) (z := (0 : Int32)) rfl rfl ?_
      refine G.callV X43 hx hZ (y0 := (⟨"java/lang/String", "charAt", "(I)C"⟩ : MethodName)) (y := (⟨"java/lang/String", "charAt", "(I)C"⟩ : MethodName)) hown (hw _ (List.mem_of_getElem? (i := 57) rfl)) (hw _ (List.mem_of_getElem? (i := 58) rfl)) (notFace_of_selects (args := #[]) (mvT hZ (hw _ (List.mem_of_getElem? (i := 60) rfl)))) (hw _ (List.mem_of_getElem? (i := 60) rfl)) (hw _ (List.mem_of_getElem? (i := 59) rfl)) (hw _ (List.mem_of_getElem? (i := 8) rfl)) (hw _ (List.mem_of_getElem? (i := 61) rfl)) (by decide) e43 (rm := ({ frames := 4, cells := 0, slots := 0, locals := 53 } : Room)) (argsL := [(.int (0 : Int32))]) (S := []) (W := 0) (a := a) E41_a (rm_cha4 l Z a0 hw a b xs cd cs u0 vf T41.heap E41_a F41_a_coder F41_a_value A41_b (Sta.keep0 SC K41.1) hcs (Sta.keep0 SI K41.1) hvf (Sta.keep0 SA K41.1) (Sta.keep0 SH K41.1) (Sta.keep0 SO K41.1) hsq hu0) (lenOf pd_27 rfl) rfl (Nat.le_of_eq rfl) (by decide) (by decide) (by decide) (by decide) (by rw [hml]; rfl) (hb hby at_119) (pc' := 122) rfl ?_
      rintro T44 _ _ ⟨rfl, e44, rfl⟩ X44
      rw [List.append_nil] at X44
      show Goes p e below T44 (mkF m 122 #[.val (.int p0), .val (.int p1), .val (.int p2), .val (.int p3), .val (.int (4 : Int32)), .val (.int u0), .val (.int u1), .val (.int u2), .val (.int u3), .val (.ref a), .val (.ref wh), .val (.ref a)] [(.int u0)]) _
      refine G.iload X44 hx (pc' := 124) (hb hby at_122) rfl rfl ?_
      refine G.icmpF X44 hx (pc' := 127) (hb hby at_124) (Jvm.Free.XT.ii_ne_f rfl) rfl ?_
      refine G.iconst X44 hx (pc' := 128) (hb hby at_127) (z := (1 : Int32)) rfl rfl ?_
      refine G.goto X44 hx (pc' := 132) (hb hby at_128) (by decide) (by decide) ?_
      refine Goes.retNW X44 hS0 (by rw [e44]; exact hk41) hx hret (by simp) hlk (hb hby at_132) (by decide) (by decide) ⟨rfl, K41.fr⟩
set_option maxRecDepth 65536 in
set_option maxHeartbeats 40000000 in
theorem comes_1 {Post : Tables → Env → Array Value → State → Outcome → State → Prop} (hpost : ∀ tb e args s v u, (limb_1_1.after args s (.returned v) u = true ∧ limb_1_2.after args s (.returned v) u = true ∧ True) → ReturnedEndW s (.returned v) u (Jvm.fieldLocs frame_1_writes args s ++ Jvm.arrayLocs frame_1_arrays args s ++ Jvm.staticLocs frame_1_statics s) 24 1152 → Post tb e args s (.returned v) u) :
    ArmFor flags0 classFile x code maxLocals ret World_1 tables_1 room_1 Calls_1 rest_1 Pre_1 Post := by
  intro l hfl _ _ p e ha hc hk s m args below hf hA hF happ hP
  obtain ⟨hcalls, hrest, hpre⟩ := hP
  obtain ⟨-, -, -, hnamed, -, -, -, hat⟩ := (Spec.applies_iff hf).mp happ
  obtain ⟨hg, hn⟩ := and_e (Cond.before_iff.mp (show (Jvm.Cond.and given_1 narrow_1).before args s = true from hpre))
  obtain ⟨hg0, hg1⟩ := and_e hg
  obtain ⟨hb1, hg2⟩ := and_e hg1
  obtain ⟨hb2, hg3⟩ := and_e hg2
  obtain ⟨hb3, hg4⟩ := and_e hg3
  obtain ⟨w0, w1, w2, w3, rfl⟩ : ∃ w0 w1 w2 w3 : Value, args = #[w0, w1, w2, w3] := by
    have hs : args.size = 4 := by simpa [Cond.value, given_1] using hg0
    obtain ⟨L⟩ := args
    match L, hs with
    | [w0, w1, w2, w3], _ => exact ⟨w0, w1, w2, w3, rfl⟩
  have hw := fun d (hd : d ∈ tables_1) => atoms_spec (ws := Jvm.Cond.code x code maxLocals ret :: tables_1) hat d (List.mem_cons_of_mem _ hd)
  have hfit : Fit s := fun {y c} hc i hi => by
    obtain ⟨ha, rfl⟩ := Array.getElem?_eq_some_iff.mp hc
    have q := List.all_eq_true.mp ((Array.all_eq_true_iff_forall_mem.mp hF) _ (Array.getElem_mem ha)) i (List.mem_range.mpr hi)
    simpa [Array.getElem?_eq_getElem hi] using q
  obtain ⟨i0, ea0⟩ := is_v hb1
  obtain rfl : w0 = (.int i0) := Option.some.inj ea0
  obtain ⟨i1, ea1⟩ := is_v hb2
  obtain rfl : w1 = (.int i1) := Option.some.inj ea1
  obtain ⟨i2, ea2⟩ := is_v hb3
  obtain rfl : w2 = (.int i2) := Option.some.inj ea2
  obtain ⟨i3, ea3⟩ := is_v hg4
  obtain rfl : w3 = (.int i3) := Option.some.inj ea3
  obtain ⟨hsets, -⟩ := atoms_of jdkStatics_1 (show (jdkStatics_1.foldr Jvm.Cond.and restOwn_1).before #[Value.int i0, Value.int i1, Value.int i2, Value.int i3] s = true from rest_1_c_eq ▸ hrest)
  have at_ : ∀ {k : Nat} {d : Jvm.Cond}, jdkStatics_1[k]? = some d → d.before #[Value.int i0, Value.int i1, Value.int i2, Value.int i3] s = true := fun q => hsets _ (List.mem_of_getElem? q)
  obtain ⟨cs, ec⟩ := is_v (Cond.before_iff.mp (at_ (k := 1) rfl))
  have SC := Sta.start ec (Or.inl (at_ (k := 0) rfl))
  have hcs : ¬ cs = (0 : Int32) := gotF (Cond.eq_ints ec (Term.int_eval 0)) (not_v (Cond.before_iff.mp (at_ (k := 2) rfl)))
  have SA := Sta.start (eqv_i (Term.int_eval 1) (Cond.before_iff.mp (at_ (k := 12) rfl))) (Or.inl (at_ (k := 11) rfl))
  have SH := Sta.start (eqv_i (Term.int_eval 0) (Cond.before_iff.mp (at_ (k := 15) rfl))) (Or.inl (at_ (k := 14) rfl))
  have SO := Sta.start (eqv_i (Term.int_eval 8) (Cond.before_iff.mp (at_ (k := 18) rfl))) (Or.inl (at_ (k := 17) rfl))
  obtain ⟨vf, ev, hvr⟩ := isR_v (Cond.before_iff.mp (at_ (k := 8) rfl))
  have SI := Sta.start ev (Or.inl (at_ (k := 7) rfl))
  have hvf := ref_cases hvr
  obtain ⟨n, o, h1, h2, h3, _, L, rfl, ⟨rfl, N⟩, hq⟩ := rm0 l s #[Value.int i0, Value.int i1, Value.int i2, Value.int i3] hw i0 i1 i2 i3 cs vf SC hcs SI hvf SA SH SO (hcalls.1 _ (List.mem_of_getElem? (i := 0) rfl)) (at_ (k := 2) rfl) tables_1 p e ha hc hk s m _ below hf ((Spec.applies_iff_loose hf).mp happ).1 ⟨rfl, rfl⟩ trivial
  refine ⟨n, _, h1, h2, h3, hpost _ _ _ _ _ _ ⟨Cond.after_iff.mpr rfl, Cond.after_iff.mpr (eq_i res_at (Term.int_eval (1)) rfl), trivial⟩ ⟨hq.1, hq.2.1, hq.2.2.1, (hq.2.2.2.sift fun y hy => Or.inr (N y hy)).mono (by decide) (by decide)⟩⟩
theorem main_1_1 : Claimed_1_1 := comes_1 fun _ _ _ _ _ _ h hF => ⟨h.1, hF⟩
theorem main_1_2 : Claimed_1_2 := comes_1 fun _ _ _ _ _ _ h hF => ⟨h.2.1, hF⟩

end Jvm.Pilot.@@N@@
namespace Jvm.Pilot.@@N@@
open Jvm Jvm.ClassFile Sem Op Lib Jvm.Free Jvm.Stand Jvm.Pilot.@@N@@.Jvm.D
/-! MADE BY PROGRAM (witnessworld.py) out of the Statement's table words and the real class files: 20 classes; the members and pool entries that the words name. The judged class is class 1, her method 1. -/
namespace start1
open Jvm.ClassFile
def u (s : String) : CpInfo := .utf8 (stringToUtf16 s)
/-- a pool by its gaps: so many unusable entries, then the entry; so many at the end -/
def gap : Nat → List CpInfo → List CpInfo
  | 0, r => r
  | n + 1, r => .unusable :: gap n r
def poolList (es : List (Nat × CpInfo)) (last : Nat) : List CpInfo := es.foldr (fun e r => gap e.1 (e.2 :: r)) (gap last [])
def pool (es : List (Nat × CpInfo)) (last : Nat) : Array CpInfo := ⟨poolList es last⟩
def fileOf (pool : Array CpInfo) (this : Nat) (attrs : Array Attribute := #[]) (ms : Array MethodInfo := #[]) (fl : Nat := 33) (sup : Nat := 0) (ifs : Array Nat := #[]) (fds : Array FieldInfo := #[]) : ClassFile where
  minorVersion := 0
  majorVersion := 65
  constantPool := pool
  accessFlags := fl
  thisClass := this
  superClass := sup
  interfaces := ifs
  fields := fds
  methods := ms
  attributes := attrs
def plain (name : String) (sup : Option ClassId) : Class where
  name := name
  kind := .ordinary
  loader := none
  accessFlags := 33
  super := sup
  interfaces := #[]
  cf := none
  fields := #[]
  methods := #[]
  instanceTypes := #[]
  staticTypes := #[]
  resolved := #[]
  callSites := []
  init := .initialized
  statics := none
  mirror := none

def pool0 : Array CpInfo := pool [(5, u "<init>"), (0, u "()V"), (1, .class_ 10), (1, u "java/lang/Object")] 113

def k0c0 : Code := { maxStack := 0, maxLocals := 1, code := object_method_1_code, exceptionTable := #[], attributes := #[] }
def k0m0 : Method := { name := "<init>", desc := "()V", sig := { parameters := [], returnType := none }, accessFlags := 1, code := some k0c0 }
/-- java/lang/Object -/
def k0 : Class := { plain "java/lang/Object" none with
  accessFlags := 33
  interfaces := #[]
  cf := some (fileOf pool0 8 #[] #[{ accessFlags := 1, nameIndex := 5, descriptorIndex := 6, attributes := #[] }] 33 0 #[] #[])
  fields := #[]
  methods := #[k0m0]
  instanceTypes := #[]
  staticTypes := #[]
  resolved := Array.replicate 124 none
  statics := none }

def pool1 : Array CpInfo := pool [(2, .class_ 4), (1, u "java/lang/Object"), (0, u "<init>"), (0, u "()V"), (0, .integer 65535), (0, .methodref 9 10), (0, .class_ 11), (0, .nameAndType 12 13), (0, u "com/example/bowerbird/bowerbird/RequiredTextPinLaw"), (0, u "make"), (0, u "(ICCCC)Ljava/lang/String;"), (0, .methodref 15 16), (0, .class_ 17), (0, .nameAndType 18 19), (0, u "java/lang/String"), (0, u "valueOf"), (0, u "(C)Ljava/lang/String;"), (0, .methodref 15 21), (0, .nameAndType 5 22), (0, u "([C)V"), (0, .methodref 24 25), (0, .class_ 26), (0, .nameAndType 27 28), (0, u "com/example/bowerbird/bowerbird/Required"), (0, u "text"), (0, u "(Ljava/lang/String;Ljava/lang/String;)Ljava/lang/String;"), (0, .methodref 15 30), (0, .nameAndType 31 32), (0, u "length"), (0, u "()I"), (0, .methodref 15 34), (0, .nameAndType 35 36), (0, u "charAt"), (0, u "(I)C"), (2, u "law"), (0, u "(IIII)Z")] 3

def k1m0 : Method := { name := "<init>", desc := "()V", sig := { parameters := [], returnType := none }, accessFlags := 2, code := none }
def k1c1 : Code := { maxStack := 5, maxLocals := 12, code := code, exceptionTable := #[], attributes := #[] }
def k1m1 : Method := { name := "law", desc := "(IIII)Z", sig := { parameters := [.int, .int, .int, .int], returnType := some .boolean }, accessFlags := 9, code := some k1c1 }
def k1c2 : Code := { maxStack := 3, maxLocals := 6, code := method_3_code, exceptionTable := #[], attributes := #[] }
def k1m2 : Method := { name := "make", desc := "(ICCCC)Ljava/lang/String;", sig := { parameters := [.int, .char, .char, .char, .char], returnType := some (.object "java/lang/String") }, accessFlags := 10, code := some k1c2 }
/-- com/example/bowerbird/bowerbird/RequiredTextPinLaw -/
def k1 : Class := { plain "com/example/bowerbird/bowerbird/RequiredTextPinLaw" (some 0) with
  accessFlags := 49
  interfaces := #[]
  cf := some (fileOf pool1 9 #[] #[{ accessFlags := 2, nameIndex := 5, descriptorIndex := 6, attributes := #[] }, { accessFlags := 9, nameIndex := 39, descriptorIndex := 40, attributes := #[] }, { accessFlags := 10, nameIndex := 12, descriptorIndex := 13, attributes := #[] }] 49 2 #[] #[])
  fields := #[]
  methods := #[k1m0, k1m1, k1m2]
  instanceTypes := #[]
  staticTypes := #[]
  resolved := Array.replicate 44 none
  statics := none }

def pool2 : Array CpInfo := pool [(1, .class_ 2), (0, u "java/io/Serializable"), (0, .class_ 4), (0, u "java/lang/Object")] 2

/-- java/io/Serializable -/
def k2 : Class := { plain "java/io/Serializable" (some 0) with
  accessFlags := 1537
  interfaces := #[]
  cf := some (fileOf pool2 1 #[] #[] 1537 3 #[] #[])
  fields := #[]
  methods := #[]
  instanceTypes := #[]
  staticTypes := #[]
  resolved := Array.replicate 7 none
  statics := none }

def pool3 : Array CpInfo := pool [(1, .class_ 2), (0, u "java/lang/Comparable"), (0, .class_ 4), (0, u "java/lang/Object")] 7

/-- java/lang/Comparable -/
def k3 : Class := { plain "java/lang/Comparable" (some 0) with
  accessFlags := 1537
  interfaces := #[]
  cf := some (fileOf pool3 1 #[] #[] 1537 3 #[] #[])
  fields := #[]
  methods := #[]
  instanceTypes := #[]
  staticTypes := #[]
  resolved := Array.replicate 12 none
  statics := none }

def pool4 : Array CpInfo := pool [(2, .class_ 4), (1, u "java/lang/CharSequence"), (42, .class_ 48), (0, u "java/lang/CharSequence$1CodePointIterator"), (10, .class_ 60), (0, u "java/lang/CharSequence$1CharIterator"), (5, .class_ 67), (0, u "java/lang/Object")] 63

/-- java/lang/CharSequence -/
def k4 : Class := { plain "java/lang/CharSequence" (some 0) with
  accessFlags := 1537
  interfaces := #[]
  cf := some (fileOf pool4 2 #[.nestMembers #[47, 59]] #[] 1537 66 #[] #[])
  fields := #[]
  methods := #[]
  instanceTypes := #[]
  staticTypes := #[]
  resolved := Array.replicate 131 none
  statics := none }

def pool5 : Array CpInfo := pool [(1, .class_ 2), (0, u "java/lang/constant/Constable"), (0, .class_ 4), (0, u "java/lang/Object")] 6

/-- java/lang/constant/Constable -/
def k5 : Class := { plain "java/lang/constant/Constable" (some 0) with
  accessFlags := 1537
  interfaces := #[]
  cf := some (fileOf pool5 1 #[] #[] 1537 3 #[] #[])
  fields := #[]
  methods := #[]
  instanceTypes := #[]
  staticTypes := #[]
  resolved := Array.replicate 11 none
  statics := none }

def pool6 : Array CpInfo := pool [(1, .class_ 2), (0, u "java/lang/constant/ConstantDesc"), (0, .class_ 4), (0, u "java/lang/Object")] 32

/-- java/lang/constant/ConstantDesc -/
def k6 : Class := { plain "java/lang/constant/ConstantDesc" (some 0) with
  accessFlags := 1537
  interfaces := #[]
  cf := some (fileOf pool6 1 #[] #[] 1537 3 #[] #[])
  fields := #[]
  methods := #[]
  instanceTypes := #[]
  staticTypes := #[]
  resolved := Array.replicate 37 none
  statics := none }

def pool7 : Array CpInfo := pool [(1, .methodref 2 3), (0, .class_ 4), (0, .nameAndType 5 6), (0, u "java/lang/Object"), (0, u "<init>"), (0, u "()V"), (0, .string 8), (0, u ""), (0, .fieldref 10 11), (0, .class_ 12), (0, .nameAndType 13 14), (0, u "java/lang/String"), (0, u "value"), (0, u "[B"), (0, .fieldref 10 16), (0, .nameAndType 17 18), (0, u "coder"), (0, u "B"), (2, u "hash"), (0, u "I"), (2, u "hashIsZero"), (0, u "Z"), (0, .methodref 10 28), (0, .nameAndType 5 29), (0, u "([CIILjava/lang/Void;)V"), (8, .fieldref 10 39), (0, .nameAndType 40 26), (0, u "COMPACT_STRINGS"), (1, .class_ 44), (1, u "java/lang/StringUTF16"), (0, u "compress"), (1, .methodref 42 48), (0, .nameAndType 49 50), (0, u "coderFromArrayLen"), (0, u "([BI)B"), (2, u "toBytes"), (53, .class_ 109), (1, u "java/lang/StringLatin1"), (32, u "()Z"), (34, .methodref 42 178), (0, .nameAndType 45 179), (0, u "([CII)[B"), (29, .methodref 10 210), (0, .nameAndType 5 211), (0, u "([BB)V"), (122, u "()I"), (0, .methodref 10 336), (0, .nameAndType 17 337), (0, u "()B"), (25, u "([BI)C"), (5, u "(C)Z"), (21, u "(II)V"), (35, u "(I)C"), (64, .methodref 10 493), (0, .nameAndType 494 142), (0, u "isLatin1"), (0, .methodref 107 496), (0, .nameAndType 497 363), (0, u "charAt"), (0, .methodref 42 496), (2, u "checkIndex"), (5, u "length"), (67, .class_ 576), (0, u "java/lang/CharSequence"), (22, u "CASE_INSENSITIVE_ORDER"), (0, u "Ljava/util/Comparator;"), (91, u "isEmpty"), (89, u "valueOf"), (0, u "(C)Ljava/lang/String;"), (226, u "([C)V"), (4, .methodref 107 1016), (0, .nameAndType 1017 369), (0, u "canEncode"), (0, .methodref 107 1019), (0, .nameAndType 53 1020), (0, u "(C)[B"), (32, .fieldref 1054 1055), (0, .class_ 1056), (0, .nameAndType 1057 1058), (0, u "jdk/internal/util/Preconditions"), (0, u "SIOOBE_FORMATTER"), (0, u "Ljava/util/function/BiFunction;"), (0, .methodref 1054 1060), (0, .nameAndType 501 1061), (0, u "(IILjava/util/function/BiFunction;)I"), (39, u "serialPersistentFields"), (0, u "[Ljava/io/ObjectStreamField;"), (0, .class_ 1104), (0, u "java/lang/String$CaseInsensitiveComparator"), (1, .class_ 1107), (0, u "java/io/Serializable"), (0, .class_ 1109), (0, u "java/lang/Comparable"), (0, .class_ 1111), (0, u "java/lang/constant/Constable"), (0, .class_ 1113), (0, u "java/lang/constant/ConstantDesc"), (2, u "serialVersionUID"), (0, u "J"), (3, u "REPL"), (0, u "C"), (2, u "LATIN1"), (1, u "UTF16")] 323

def k7m0 : Method := { name := "<init>", desc := "()V", sig := { parameters := [], returnType := none }, accessFlags := 1, code := none }
def k7c1 : Code := { maxStack := 5, maxLocals := 2, code := jdk_42_method_3_code, exceptionTable := #[], attributes := #[] }
def k7m1 : Method := { name := "<init>", desc := "([C)V", sig := { parameters := [(.array .char)], returnType := none }, accessFlags := 1, code := some k7c1 }
def k7c2 : Code := { maxStack := 2, maxLocals := 1, code := jdk_42_method_54_code, exceptionTable := #[], attributes := #[] }
def k7m2 : Method := { name := "length", desc := "()I", sig := { parameters := [], returnType := some .int }, accessFlags := 1, code := some k7c2 }
def k7c3 : Code := { maxStack := 1, maxLocals := 1, code := jdk_42_method_55_code, exceptionTable := #[], attributes := #[] }
def k7m3 : Method := { name := "isEmpty", desc := "()Z", sig := { parameters := [], returnType := some .boolean }, accessFlags := 1, code := some k7c3 }
def k7c4 : Code := { maxStack := 2, maxLocals := 2, code := jdk_42_method_56_code, exceptionTable := #[], attributes := #[] }
def k7m4 : Method := { name := "charAt", desc := "(I)C", sig := { parameters := [.int], returnType := some .char }, accessFlags := 1, code := some k7c4 }
def k7c5 : Code := { maxStack := 4, maxLocals := 1, code := jdk_42_method_139_code, exceptionTable := #[], attributes := #[] }
def k7m5 : Method := { name := "valueOf", desc := "(C)Ljava/lang/String;", sig := { parameters := [.char], returnType := some (.object "java/lang/String") }, accessFlags := 9, code := some k7c5 }
def k7c6 : Code := { maxStack := 4, maxLocals := 6, code := jdk_42_method_149_code, exceptionTable := #[], attributes := #[] }
def k7m6 : Method := { name := "<init>", desc := "([CIILjava/lang/Void;)V", sig := { parameters := [(.array .char), .int, .int, (.object "java/lang/Void")], returnType := none }, accessFlags := 2, code := some k7c6 }
def k7c7 : Code := { maxStack := 2, maxLocals := 3, code := jdk_42_method_151_code, exceptionTable := #[], attributes := #[] }
def k7m7 : Method := { name := "<init>", desc := "([BB)V", sig := { parameters := [(.array .byte), .byte], returnType := none }, accessFlags := 0, code := some k7c7 }
def k7c8 : Code := { maxStack := 1, maxLocals := 1, code := jdk_42_method_152_code, exceptionTable := #[], attributes := #[] }
def k7m8 : Method := { name := "coder", desc := "()B", sig := { parameters := [], returnType := some .byte }, accessFlags := 0, code := some k7c8 }
def k7c9 : Code := { maxStack := 1, maxLocals := 1, code := jdk_42_method_154_code, exceptionTable := #[], attributes := #[] }
def k7m9 : Method := { name := "isLatin1", desc := "()Z", sig := { parameters := [], returnType := some .boolean }, accessFlags := 0, code := some k7c9 }
def k7c10 : Code := { maxStack := 3, maxLocals := 2, code := jdk_42_method_155_code, exceptionTable := #[], attributes := #[] }
def k7m10 : Method := { name := "checkIndex", desc := "(II)V", sig := { parameters := [.int, .int], returnType := none }, accessFlags := 8, code := some k7c10 }
/-- java/lang/String -/
def k7 : Class := { plain "java/lang/String" (some 0) with
  accessFlags := 49
  interfaces := #[2, 3, 4, 5, 6]
  cf := some (fileOf pool7 10 #[.nestMembers #[1103]] #[{ accessFlags := 1, nameIndex := 5, descriptorIndex := 6, attributes := #[] }, { accessFlags := 1, nameIndex := 5, descriptorIndex := 1010, attributes := #[] }, { accessFlags := 1, nameIndex := 507, descriptorIndex := 334, attributes := #[] }, { accessFlags := 1, nameIndex := 692, descriptorIndex := 142, attributes := #[] }, { accessFlags := 1, nameIndex := 497, descriptorIndex := 427, attributes := #[] }, { accessFlags := 9, nameIndex := 782, descriptorIndex := 783, attributes := #[] }, { accessFlags := 2, nameIndex := 5, descriptorIndex := 29, attributes := #[] }, { accessFlags := 0, nameIndex := 5, descriptorIndex := 211, attributes := #[] }, { accessFlags := 0, nameIndex := 17, descriptorIndex := 337, attributes := #[] }, { accessFlags := 0, nameIndex := 494, descriptorIndex := 142, attributes := #[] }, { accessFlags := 8, nameIndex := 501, descriptorIndex := 391, attributes := #[] }] 49 2 #[1106, 1108, 575, 1110, 1112] #[{ accessFlags := 18, nameIndex := 13, descriptorIndex := 14, attributes := #[] }, { accessFlags := 18, nameIndex := 17, descriptorIndex := 18, attributes := #[] }, { accessFlags := 2, nameIndex := 21, descriptorIndex := 22, attributes := #[] }, { accessFlags := 2, nameIndex := 25, descriptorIndex := 26, attributes := #[] }, { accessFlags := 26, nameIndex := 1116, descriptorIndex := 1117, attributes := #[] }, { accessFlags := 24, nameIndex := 40, descriptorIndex := 26, attributes := #[] }, { accessFlags := 26, nameIndex := 1101, descriptorIndex := 1102, attributes := #[] }, { accessFlags := 26, nameIndex := 1121, descriptorIndex := 1122, attributes := #[] }, { accessFlags := 25, nameIndex := 599, descriptorIndex := 600, attributes := #[] }, { accessFlags := 24, nameIndex := 1125, descriptorIndex := 18, attributes := #[] }, { accessFlags := 24, nameIndex := 1127, descriptorIndex := 18, attributes := #[] }])
  fields := #[{ name := "value", type := (.array .byte), accessFlags := 18, slot := 0, constantValue := 0 }, { name := "coder", type := .byte, accessFlags := 18, slot := 1, constantValue := 0 }, { name := "hash", type := .int, accessFlags := 2, slot := 2, constantValue := 0 }, { name := "hashIsZero", type := .boolean, accessFlags := 2, slot := 3, constantValue := 0 }, { name := "serialVersionUID", type := .long, accessFlags := 26, slot := 0, constantValue := 0 }, { name := "COMPACT_STRINGS", type := .boolean, accessFlags := 24, slot := 1, constantValue := 0 }, { name := "serialPersistentFields", type := (.array (.object "java/io/ObjectStreamField")), accessFlags := 26, slot := 2, constantValue := 0 }, { name := "REPL", type := .char, accessFlags := 26, slot := 3, constantValue := 0 }, { name := "CASE_INSENSITIVE_ORDER", type := (.object "java/util/Comparator"), accessFlags := 25, slot := 4, constantValue := 0 }, { name := "LATIN1", type := .byte, accessFlags := 24, slot := 5, constantValue := 0 }, { name := "UTF16", type := .byte, accessFlags := 24, slot := 6, constantValue := 0 }]
  methods := #[k7m0, k7m1, k7m2, k7m3, k7m4, k7m5, k7m6, k7m7, k7m8, k7m9, k7m10]
  instanceTypes := #[(.array .byte), .byte, .int, .boolean]
  staticTypes := #[.long, .boolean, (.array (.object "java/io/ObjectStreamField")), .char, (.object "java/util/Comparator"), .byte, .byte]
  resolved := Array.replicate 1451 none
  statics := some 0 }

def pool8 : Array CpInfo := pool [(3, .class_ 4), (0, u "java/lang/String"), (1, .class_ 8), (1, u "java/lang/Object"), (0, u "<init>"), (0, u "()V"), (0, .methodref 12 13), (0, .class_ 14), (0, .nameAndType 15 16), (0, u "java/lang/StringUTF16"), (0, u "newBytesLength"), (0, u "(I)I"), (3, .integer 1073741823), (23, .fieldref 12 45), (0, .nameAndType 46 47), (0, u "$assertionsDisabled"), (0, u "Z"), (0, .methodref 12 49), (0, .nameAndType 50 51), (0, u "length"), (0, u "([B)I"), (7, .fieldref 12 60), (0, .nameAndType 61 62), (0, u "HI_BYTE_SHIFT"), (0, u "I"), (0, .fieldref 12 64), (0, .nameAndType 65 62), (0, u "LO_BYTE_SHIFT"), (1, .methodref 12 68), (0, .nameAndType 69 70), (0, u "checkIndex"), (0, u "(I[B)V"), (0, .methodref 12 72), (0, .nameAndType 73 74), (0, u "getChar"), (0, u "([BI)C"), (32, .methodref 12 108), (0, .nameAndType 109 110), (0, u "newBytesFor"), (0, u "(I)[B"), (0, .methodref 12 112), (0, .nameAndType 113 114), (0, u "putChar"), (0, u "([BII)V"), (0, .methodref 12 116), (0, .nameAndType 117 118), (0, u "compress"), (0, u "([CI[BII)I"), (0, .methodref 12 120), (0, .nameAndType 121 122), (0, u "toBytes"), (0, u "([CII)[B"), (138, u "coderFromArrayLen"), (0, u "([BI)B"), (106, .class_ 371), (1, u "java/lang/StringUTF16$LinesSpliterator"), (20, u "charAt"), (21, .methodref 3 415), (0, .nameAndType 69 416), (0, u "(II)V"), (13, u "MAX_LENGTH"), (196, .class_ 628), (0, u "java/lang/StringUTF16$CodePointsSpliterator"), (0, .class_ 630), (0, u "java/lang/StringUTF16$CharsSpliterator")] 4

def k8m0 : Method := { name := "<init>", desc := "()V", sig := { parameters := [], returnType := none }, accessFlags := 0, code := none }
def k8c1 : Code := { maxStack := 1, maxLocals := 1, code := jdk_52_method_2_code, exceptionTable := #[], attributes := #[] }
def k8m1 : Method := { name := "newBytesFor", desc := "(I)[B", sig := { parameters := [.int], returnType := some (.array .byte) }, accessFlags := 9, code := some k8c1 }
def k8c2 : Code := { maxStack := 4, maxLocals := 1, code := jdk_52_method_3_code, exceptionTable := #[], attributes := #[] }
def k8m2 : Method := { name := "newBytesLength", desc := "(I)I", sig := { parameters := [.int], returnType := some .int }, accessFlags := 9, code := some k8c2 }
def k8c3 : Code := { maxStack := 4, maxLocals := 3, code := jdk_52_method_4_code, exceptionTable := #[], attributes := #[] }
def k8m3 : Method := { name := "putChar", desc := "([BII)V", sig := { parameters := [(.array .byte), .int, .int], returnType := none }, accessFlags := 8, code := some k8c3 }
def k8c4 : Code := { maxStack := 3, maxLocals := 2, code := jdk_52_method_5_code, exceptionTable := #[], attributes := #[] }
def k8m4 : Method := { name := "getChar", desc := "([BI)C", sig := { parameters := [(.array .byte), .int], returnType := some .char }, accessFlags := 8, code := some k8c4 }
def k8c5 : Code := { maxStack := 2, maxLocals := 1, code := jdk_52_method_6_code, exceptionTable := #[], attributes := #[] }
def k8m5 : Method := { name := "length", desc := "([B)I", sig := { parameters := [(.array .byte)], returnType := some .int }, accessFlags := 9, code := some k8c5 }
def k8c6 : Code := { maxStack := 4, maxLocals := 5, code := jdk_52_method_14_code, exceptionTable := #[], attributes := #[] }
def k8m6 : Method := { name := "toBytes", desc := "([CII)[B", sig := { parameters := [(.array .char), .int, .int], returnType := some (.array .byte) }, accessFlags := 9, code := some k8c6 }
def k8c7 : Code := { maxStack := 2, maxLocals := 2, code := jdk_52_method_15_code, exceptionTable := #[], attributes := #[] }
def k8m7 : Method := { name := "coderFromArrayLen", desc := "([BI)B", sig := { parameters := [(.array .byte), .int], returnType := some .byte }, accessFlags := 8, code := some k8c7 }
def k8c8 : Code := { maxStack := 5, maxLocals := 6, code := jdk_52_method_16_code, exceptionTable := #[], attributes := #[] }
def k8m8 : Method := { name := "compress", desc := "([CII)[B", sig := { parameters := [(.array .char), .int, .int], returnType := some (.array .byte) }, accessFlags := 9, code := some k8c8 }
def k8c9 : Code := { maxStack := 3, maxLocals := 7, code := jdk_52_method_21_code, exceptionTable := #[], attributes := #[] }
def k8m9 : Method := { name := "compress", desc := "([CI[BII)I", sig := { parameters := [(.array .char), .int, (.array .byte), .int, .int], returnType := some .int }, accessFlags := 9, code := some k8c9 }
def k8c10 : Code := { maxStack := 2, maxLocals := 2, code := jdk_52_method_83_code, exceptionTable := #[], attributes := #[] }
def k8m10 : Method := { name := "charAt", desc := "([BI)C", sig := { parameters := [(.array .byte), .int], returnType := some .char }, accessFlags := 9, code := some k8c10 }
def k8c11 : Code := { maxStack := 2, maxLocals := 2, code := jdk_52_method_91_code, exceptionTable := #[], attributes := #[] }
def k8m11 : Method := { name := "checkIndex", desc := "(I[B)V", sig := { parameters := [.int, (.array .byte)], returnType := none }, accessFlags := 9, code := some k8c11 }
/-- java/lang/StringUTF16 -/
def k8 : Class := { plain "java/lang/StringUTF16" (some 0) with
  accessFlags := 48
  interfaces := #[]
  cf := some (fileOf pool8 12 #[.nestMembers #[627, 629, 369]] #[{ accessFlags := 0, nameIndex := 9, descriptorIndex := 10, attributes := #[] }, { accessFlags := 9, nameIndex := 109, descriptorIndex := 110, attributes := #[] }, { accessFlags := 9, nameIndex := 15, descriptorIndex := 16, attributes := #[] }, { accessFlags := 8, nameIndex := 113, descriptorIndex := 114, attributes := #[] }, { accessFlags := 8, nameIndex := 73, descriptorIndex := 74, attributes := #[] }, { accessFlags := 9, nameIndex := 50, descriptorIndex := 51, attributes := #[] }, { accessFlags := 9, nameIndex := 121, descriptorIndex := 122, attributes := #[] }, { accessFlags := 8, nameIndex := 261, descriptorIndex := 262, attributes := #[] }, { accessFlags := 9, nameIndex := 117, descriptorIndex := 122, attributes := #[] }, { accessFlags := 9, nameIndex := 117, descriptorIndex := 118, attributes := #[] }, { accessFlags := 9, nameIndex := 392, descriptorIndex := 74, attributes := #[] }, { accessFlags := 9, nameIndex := 69, descriptorIndex := 70, attributes := #[] }] 48 6 #[] #[{ accessFlags := 26, nameIndex := 61, descriptorIndex := 62, attributes := #[] }, { accessFlags := 26, nameIndex := 65, descriptorIndex := 62, attributes := #[] }, { accessFlags := 24, nameIndex := 430, descriptorIndex := 62, attributes := #[] }, { accessFlags := 4120, nameIndex := 46, descriptorIndex := 47, attributes := #[] }])
  fields := #[{ name := "HI_BYTE_SHIFT", type := .int, accessFlags := 26, slot := 0, constantValue := 0 }, { name := "LO_BYTE_SHIFT", type := .int, accessFlags := 26, slot := 1, constantValue := 0 }, { name := "MAX_LENGTH", type := .int, accessFlags := 24, slot := 2, constantValue := 0 }, { name := "$assertionsDisabled", type := .boolean, accessFlags := 4120, slot := 3, constantValue := 0 }]
  methods := #[k8m0, k8m1, k8m2, k8m3, k8m4, k8m5, k8m6, k8m7, k8m8, k8m9, k8m10, k8m11]
  instanceTypes := #[]
  staticTypes := #[.int, .int, .int, .boolean]
  resolved := Array.replicate 635 none
  statics := some 1 }

def pool9 : Array CpInfo := pool [(2, .class_ 4), (1, u "java/lang/Object"), (0, u "<init>"), (0, u "()V"), (0, .methodref 8 9), (0, .class_ 10), (0, .nameAndType 11 12), (0, u "java/lang/String"), (0, u "isEmpty"), (0, u "()Z"), (10, .class_ 25), (1, u "com/example/bowerbird/bowerbird/Required"), (0, u "text"), (0, u "(Ljava/lang/String;Ljava/lang/String;)Ljava/lang/String;")] 93

def k9m0 : Method := { name := "<init>", desc := "()V", sig := { parameters := [], returnType := none }, accessFlags := 2, code := none }
def k9c1 : Code := { maxStack := 3, maxLocals := 2, code := prog_4_method_2_code, exceptionTable := #[], attributes := #[] }
def k9m1 : Method := { name := "text", desc := "(Ljava/lang/String;Ljava/lang/String;)Ljava/lang/String;", sig := { parameters := [(.object "java/lang/String"), (.object "java/lang/String")], returnType := some (.object "java/lang/String") }, accessFlags := 9, code := some k9c1 }
/-- com/example/bowerbird/bowerbird/Required -/
def k9 : Class := { plain "com/example/bowerbird/bowerbird/Required" (some 0) with
  accessFlags := 33
  interfaces := #[]
  cf := some (fileOf pool9 23 #[] #[{ accessFlags := 2, nameIndex := 5, descriptorIndex := 6, attributes := #[] }, { accessFlags := 9, nameIndex := 26, descriptorIndex := 27, attributes := #[] }] 33 2 #[] #[])
  fields := #[]
  methods := #[k9m0, k9m1]
  instanceTypes := #[]
  staticTypes := #[]
  resolved := Array.replicate 121 none
  statics := none }

def pool10 : Array CpInfo := pool [(1, .class_ 2), (0, u "java/lang/String"), (1, .class_ 6), (1, u "java/lang/Object"), (0, u "<init>"), (0, u "()V"), (0, .methodref 1 10), (0, .nameAndType 11 12), (0, u "checkIndex"), (0, u "(II)V"), (1, .class_ 16), (1, u "java/lang/StringLatin1"), (36, u "([BI)C"), (36, u "canEncode"), (14, u "(C)Z"), (15, u "$assertionsDisabled"), (0, u "Z"), (98, .class_ 223), (1, u "java/lang/StringLatin1$LinesSpliterator"), (28, u "charAt"), (127, u "toBytes"), (1, u "(C)[B"), (7, .class_ 391), (0, u "java/lang/StringLatin1$CharsSpliterator")] 3

def k10m0 : Method := { name := "<init>", desc := "()V", sig := { parameters := [], returnType := none }, accessFlags := 0, code := none }
def k10c1 : Code := { maxStack := 2, maxLocals := 2, code := jdk_43_method_2_code, exceptionTable := #[], attributes := #[] }
def k10m1 : Method := { name := "charAt", desc := "([BI)C", sig := { parameters := [(.array .byte), .int], returnType := some .char }, accessFlags := 9, code := some k10c1 }
def k10c2 : Code := { maxStack := 2, maxLocals := 1, code := jdk_43_method_3_code, exceptionTable := #[], attributes := #[] }
def k10m2 : Method := { name := "canEncode", desc := "(C)Z", sig := { parameters := [.char], returnType := some .boolean }, accessFlags := 9, code := some k10c2 }
def k10c3 : Code := { maxStack := 4, maxLocals := 1, code := jdk_43_method_46_code, exceptionTable := #[], attributes := #[] }
def k10m3 : Method := { name := "toBytes", desc := "(C)[B", sig := { parameters := [.char], returnType := some (.array .byte) }, accessFlags := 9, code := some k10c3 }
/-- java/lang/StringLatin1 -/
def k10 : Class := { plain "java/lang/StringLatin1" (some 0) with
  accessFlags := 48
  interfaces := #[]
  cf := some (fileOf pool10 14 #[.nestMembers #[390, 221]] #[{ accessFlags := 0, nameIndex := 7, descriptorIndex := 8, attributes := #[] }, { accessFlags := 9, nameIndex := 252, descriptorIndex := 53, attributes := #[] }, { accessFlags := 9, nameIndex := 90, descriptorIndex := 105, attributes := #[] }, { accessFlags := 9, nameIndex := 380, descriptorIndex := 382, attributes := #[] }] 48 4 #[] #[{ accessFlags := 4120, nameIndex := 121, descriptorIndex := 122, attributes := #[] }])
  fields := #[{ name := "$assertionsDisabled", type := .boolean, accessFlags := 4120, slot := 0, constantValue := 0 }]
  methods := #[k10m0, k10m1, k10m2, k10m3]
  instanceTypes := #[]
  staticTypes := #[.boolean]
  resolved := Array.replicate 395 none
  statics := none }

def pool11 : Array CpInfo := pool [(2, .class_ 4), (1, u "java/lang/Object"), (0, u "<init>"), (0, u "()V"), (17, .class_ 26), (1, u "jdk/internal/util/Preconditions"), (6, u "checkIndex"), (21, .class_ 56), (0, u "jdk/internal/util/Preconditions$4"), (57, .class_ 115), (0, u "jdk/internal/util/Preconditions$1"), (7, u "SIOOBE_FORMATTER"), (0, u "Ljava/util/function/BiFunction;"), (0, .class_ 126), (0, u "jdk/internal/util/Preconditions$2"), (3, u "AIOOBE_FORMATTER"), (0, .class_ 132), (0, u "jdk/internal/util/Preconditions$3"), (3, u "IOOBE_FORMATTER"), (41, u "(IILjava/util/function/BiFunction;)I")] 15

def k11m0 : Method := { name := "<init>", desc := "()V", sig := { parameters := [], returnType := none }, accessFlags := 1, code := none }
def k11c1 : Code := { maxStack := 3, maxLocals := 3, code := jdk_41_method_11_code, exceptionTable := #[], attributes := #[] }
def k11m1 : Method := { name := "checkIndex", desc := "(IILjava/util/function/BiFunction;)I", sig := { parameters := [.int, .int, (.object "java/util/function/BiFunction")], returnType := some .int }, accessFlags := 9, code := some k11c1 }
/-- jdk/internal/util/Preconditions -/
def k11 : Class := { plain "jdk/internal/util/Preconditions" (some 0) with
  accessFlags := 33
  interfaces := #[]
  cf := some (fileOf pool11 24 #[.nestMembers #[55, 131, 125, 114]] #[{ accessFlags := 1, nameIndex := 5, descriptorIndex := 6, attributes := #[] }, { accessFlags := 9, nameIndex := 33, descriptorIndex := 178, attributes := #[] }] 33 2 #[] #[{ accessFlags := 25, nameIndex := 123, descriptorIndex := 124, attributes := #[] }, { accessFlags := 25, nameIndex := 130, descriptorIndex := 124, attributes := #[] }, { accessFlags := 25, nameIndex := 136, descriptorIndex := 124, attributes := #[] }])
  fields := #[{ name := "SIOOBE_FORMATTER", type := (.object "java/util/function/BiFunction"), accessFlags := 25, slot := 0, constantValue := 0 }, { name := "AIOOBE_FORMATTER", type := (.object "java/util/function/BiFunction"), accessFlags := 25, slot := 1, constantValue := 0 }, { name := "IOOBE_FORMATTER", type := (.object "java/util/function/BiFunction"), accessFlags := 25, slot := 2, constantValue := 0 }]
  methods := #[k11m0, k11m1]
  instanceTypes := #[]
  staticTypes := #[(.object "java/util/function/BiFunction"), (.object "java/util/function/BiFunction"), (.object "java/util/function/BiFunction")]
  resolved := Array.replicate 194 none
  statics := some 2 }

def pool12 : Array CpInfo := pool [(9, u "<init>"), (6, .class_ 18), (1, u "java/lang/Object"), (0, u "()V"), (1, .class_ 23), (1, u "jdk/internal/util/ArraysSupport"), (0, u "LOG2_ARRAY_LONG_INDEX_SCALE"), (0, u "I"), (2, u "U"), (0, u "Ljdk/internal/misc/Unsafe;"), (8, u "BIG_ENDIAN"), (0, u "Z"), (8, u "LOG2_BYTE_BIT_SIZE"), (4, u "LOG2_ARRAY_INT_INDEX_SCALE"), (54, u "JLA"), (0, u "Ljdk/internal/access/JavaLangAccess;"), (11, u "LOG2_ARRAY_BOOLEAN_INDEX_SCALE"), (9, u "LOG2_ARRAY_BYTE_INDEX_SCALE"), (5, u "LOG2_ARRAY_CHAR_INDEX_SCALE"), (5, u "LOG2_ARRAY_SHORT_INDEX_SCALE"), (18, u "LOG2_ARRAY_FLOAT_INDEX_SCALE"), (24, u "LOG2_ARRAY_DOUBLE_INDEX_SCALE"), (89, u "T_BOOLEAN"), (2, u "T_CHAR"), (1, u "T_FLOAT"), (1, u "T_DOUBLE"), (1, u "T_BYTE"), (1, u "T_SHORT"), (1, u "T_INT"), (1, u "T_LONG"), (1, u "SOFT_MAX_ARRAY_LENGTH")] 83

def k12m0 : Method := { name := "<init>", desc := "()V", sig := { parameters := [], returnType := none }, accessFlags := 2, code := none }
/-- jdk/internal/util/ArraysSupport -/
def k12 : Class := { plain "jdk/internal/util/ArraysSupport" (some 0) with
  accessFlags := 33
  interfaces := #[]
  cf := some (fileOf pool12 21 #[] #[{ accessFlags := 2, nameIndex := 9, descriptorIndex := 19, attributes := #[] }] 33 16 #[] #[{ accessFlags := 24, nameIndex := 28, descriptorIndex := 29, attributes := #[] }, { accessFlags := 26, nameIndex := 38, descriptorIndex := 39, attributes := #[] }, { accessFlags := 25, nameIndex := 121, descriptorIndex := 25, attributes := #[] }, { accessFlags := 25, nameIndex := 131, descriptorIndex := 25, attributes := #[] }, { accessFlags := 25, nameIndex := 137, descriptorIndex := 25, attributes := #[] }, { accessFlags := 25, nameIndex := 143, descriptorIndex := 25, attributes := #[] }, { accessFlags := 25, nameIndex := 53, descriptorIndex := 25, attributes := #[] }, { accessFlags := 25, nameIndex := 24, descriptorIndex := 25, attributes := #[] }, { accessFlags := 25, nameIndex := 162, descriptorIndex := 25, attributes := #[] }, { accessFlags := 25, nameIndex := 187, descriptorIndex := 25, attributes := #[] }, { accessFlags := 26, nameIndex := 48, descriptorIndex := 25, attributes := #[] }, { accessFlags := 25, nameIndex := 277, descriptorIndex := 25, attributes := #[] }, { accessFlags := 25, nameIndex := 280, descriptorIndex := 25, attributes := #[] }, { accessFlags := 25, nameIndex := 282, descriptorIndex := 25, attributes := #[] }, { accessFlags := 25, nameIndex := 284, descriptorIndex := 25, attributes := #[] }, { accessFlags := 25, nameIndex := 286, descriptorIndex := 25, attributes := #[] }, { accessFlags := 25, nameIndex := 288, descriptorIndex := 25, attributes := #[] }, { accessFlags := 25, nameIndex := 290, descriptorIndex := 25, attributes := #[] }, { accessFlags := 25, nameIndex := 292, descriptorIndex := 25, attributes := #[] }, { accessFlags := 26, nameIndex := 108, descriptorIndex := 109, attributes := #[] }, { accessFlags := 25, nameIndex := 294, descriptorIndex := 25, attributes := #[] }])
  fields := #[{ name := "U", type := (.object "jdk/internal/misc/Unsafe"), accessFlags := 24, slot := 0, constantValue := 0 }, { name := "BIG_ENDIAN", type := .boolean, accessFlags := 26, slot := 1, constantValue := 0 }, { name := "LOG2_ARRAY_BOOLEAN_INDEX_SCALE", type := .int, accessFlags := 25, slot := 2, constantValue := 0 }, { name := "LOG2_ARRAY_BYTE_INDEX_SCALE", type := .int, accessFlags := 25, slot := 3, constantValue := 0 }, { name := "LOG2_ARRAY_CHAR_INDEX_SCALE", type := .int, accessFlags := 25, slot := 4, constantValue := 0 }, { name := "LOG2_ARRAY_SHORT_INDEX_SCALE", type := .int, accessFlags := 25, slot := 5, constantValue := 0 }, { name := "LOG2_ARRAY_INT_INDEX_SCALE", type := .int, accessFlags := 25, slot := 6, constantValue := 0 }, { name := "LOG2_ARRAY_LONG_INDEX_SCALE", type := .int, accessFlags := 25, slot := 7, constantValue := 0 }, { name := "LOG2_ARRAY_FLOAT_INDEX_SCALE", type := .int, accessFlags := 25, slot := 8, constantValue := 0 }, { name := "LOG2_ARRAY_DOUBLE_INDEX_SCALE", type := .int, accessFlags := 25, slot := 9, constantValue := 0 }, { name := "LOG2_BYTE_BIT_SIZE", type := .int, accessFlags := 26, slot := 10, constantValue := 0 }, { name := "T_BOOLEAN", type := .int, accessFlags := 25, slot := 11, constantValue := 0 }, { name := "T_CHAR", type := .int, accessFlags := 25, slot := 12, constantValue := 0 }, { name := "T_FLOAT", type := .int, accessFlags := 25, slot := 13, constantValue := 0 }, { name := "T_DOUBLE", type := .int, accessFlags := 25, slot := 14, constantValue := 0 }, { name := "T_BYTE", type := .int, accessFlags := 25, slot := 15, constantValue := 0 }, { name := "T_SHORT", type := .int, accessFlags := 25, slot := 16, constantValue := 0 }, { name := "T_INT", type := .int, accessFlags := 25, slot := 17, constantValue := 0 }, { name := "T_LONG", type := .int, accessFlags := 25, slot := 18, constantValue := 0 }, { name := "JLA", type := (.object "jdk/internal/access/JavaLangAccess"), accessFlags := 26, slot := 19, constantValue := 0 }, { name := "SOFT_MAX_ARRAY_LENGTH", type := .int, accessFlags := 25, slot := 20, constantValue := 0 }]
  methods := #[k12m0]
  instanceTypes := #[]
  staticTypes := #[(.object "jdk/internal/misc/Unsafe"), .boolean, .int, .int, .int, .int, .int, .int, .int, .int, .int, .int, .int, .int, .int, .int, .int, .int, .int, (.object "jdk/internal/access/JavaLangAccess"), .int]
  resolved := Array.replicate 378 none
  statics := none }

def pool13 : Array CpInfo := pool [(1, u "java/lang/Cloneable"), (0, .class_ 1), (0, u "java/lang/Object"), (0, .class_ 3)] 3

/-- java/lang/Cloneable -/
def k13 : Class := { plain "java/lang/Cloneable" (some 0) with
  accessFlags := 1537
  interfaces := #[]
  cf := some (fileOf pool13 2 #[] #[] 1537 4 #[] #[])
  fields := #[]
  methods := #[]
  instanceTypes := #[]
  staticTypes := #[]
  resolved := Array.replicate 8 none
  statics := none }

/-- the primitive byte -/
def k14 : Class := { plain "byte" none with kind := .primitive 'B', accessFlags := 0x411 }
/-- [B -/
def k15 : Class := { plain "[B" (some 0) with kind := .array 14 .byte, interfaces := #[13, 2], accessFlags := 1041 }

/-- the primitive char -/
def k16 : Class := { plain "char" none with kind := .primitive 'C', accessFlags := 0x411 }
/-- [C -/
def k17 : Class := { plain "[C" (some 0) with kind := .array 16 .char, interfaces := #[13, 2], accessFlags := 1041 }

/-- the primitive int -/
def k18 : Class := { plain "int" none with kind := .primitive 'I', accessFlags := 0x411 }
/-- [I -/
def k19 : Class := { plain "[I" (some 0) with kind := .array 18 .int, interfaces := #[13, 2], accessFlags := 1041 }

def heap : Heap := #[{ cls := 7, slots := #[.long 0, .int 1, .null, .int 0, .null, .int 0, .int 0], vm := .statics 7 },
  { cls := 8, slots := #[.int 0, .int 8, .int 0, .int 1], vm := .statics 8 },
  { cls := 11, slots := #[.null, .null, .null], vm := .statics 11 }]
def classes : Array Class := #[k0, k1, k2, k3, k4, k5, k6, k7, k8, k9, k10, k11, k12, k13, k14, k15, k16, k17, k18, k19]
def interned : List (Array UInt16 × Addr) := []
def slotsUsed : Nat := 14
def theMethod : MethodId := ⟨1, 1⟩
def args0 : Array Value := #[.int 1, .int 2, .int 3, .int 4]
def aboutOver (below : List Frame) : State where
  vm := { classes := classes, interned := interned.toArray }
  heap := heap
  slotsUsed := slotsUsed
  threads := #[{ frames := .invoking theMethod args0 :: below }]
def below0 : List Frame := [.native { method := ⟨0, 0⟩, args := #[] }]
def about1 : State := aboutOver below0
def p0 : Program := .bare "" "" ""
def e0 : Env := launch0.env 0 0 0
theorem w_frames : about1.frames = Frame.invoking theMethod args0 :: below0 := rfl
set_option maxRecDepth 65536 in
theorem w_args : argsFit about1.vm theMethod args0 = true := by decide +kernel
set_option maxRecDepth 65536 in
theorem w_heap : heapFits about1 = true := by decide +kernel
set_option maxRecDepth 65536 in
theorem w_runnable : about1.curStatus? = some .runnable := by decide +kernel
set_option maxRecDepth 65536 in
theorem w_alone : about1.alone = true := by decide +kernel
set_option maxRecDepth 65536 in
theorem w_named : about1.methodNamed? x = some theMethod := by decide +kernel
set_option maxRecDepth 65536 in
theorem w_hears : about1.hears theMethod below0 = true := by decide +kernel
set_option maxRecDepth 65536 in
theorem w_ripe : about1.ripe theMethod args0 below0 = true := by decide +kernel
theorem w_running : about1.status = .running := rfl
set_option maxRecDepth 65536 in
theorem w_room : about1.hasRoom e0.platform room_1 = true :=
  launch0.hasRoom_least _ room_1 (by decide +kernel) (by decide +kernel) (by decide +kernel) (by decide +kernel) (by decide +kernel) (by decide +kernel)
theorem allAtoms_all (ts : List Jvm.Cond) (a : Array Jvm.Value) (st : Jvm.State) : (allAtoms ts).before a st = ts.all (fun c => c.before a st) := by
  induction ts with
  | nil => rfl
  | cons c t ih =>
    show (Jvm.Cond.and c (allAtoms t)).before a st = _
    rw [Jvm.Cond.before_and, ih, List.all_cons]
def words1 : List Jvm.Cond := Jvm.Cond.code x code maxLocals ret :: tables_1
/-- a 'code' word, met by the world's own term for the bytes: nothing is compared byte by byte -/
theorem code_word {y : MethodName} {bytes : ByteArray} {mx : Nat} {rt : Option FieldType} {a : Array Value} {s : State} {m : MethodId} {meth : Method} {c : Code} (h1 : s.methodNamed? y = some m) (h2 : s.vm.method? m = some meth) (h3 : meth.code = some c) (h4 : c.code = bytes)
    (h5 : (c.maxLocals == mx && c.exceptionTable.isEmpty && decide (c.maxStack ≤ mostOperands) && decide (meth.sig.returnType = rt) && !meth.locks && decide (parseMethodDescriptor y.desc = some meth.sig)) = true) : (Jvm.Cond.code y bytes mx rt).before a s = true := by
  simp only [Bool.and_eq_true, beq_iff_eq, Bool.not_eq_true', decide_eq_true_eq] at h5
  obtain ⟨⟨⟨⟨⟨g1, g2⟩, g3⟩, g4⟩, g5⟩, g6⟩ := h5
  simp [Cond.before, Cond.holds, Cond.value, h1, h2, h3, h4, g1, g2, g3, g4, g5, g6]
def isCode : Jvm.Cond → Bool
  | .code _ _ _ _ => true
  | _ => false
theorem all_split {L : List Jvm.Cond} {P : Jvm.Cond → Bool} (h1 : L.all (fun c => isCode c || P c) = true) (h2 : ∀ c ∈ L.filter isCode, P c = true) : L.all P = true := by
  refine List.all_eq_true.mpr fun c hc => ?_
  have h := List.all_eq_true.mp h1 c hc
  rcases Bool.eq_false_or_eq_true (isCode c) with hi | hi
  · exact h2 c (List.mem_filter.mpr ⟨hc, hi⟩)
  · simpa [hi] using h
set_option maxRecDepth 65536 in
theorem w_c0 : (Jvm.Cond.code x code maxLocals ret).before args0 about1 = true := code_word (m := ⟨1, 1⟩) (meth := k1m1) (c := k1c1) (by decide +kernel) rfl rfl rfl (by decide +kernel)
set_option maxRecDepth 65536 in
theorem w_c1 : (Jvm.Cond.code ({ cls := "com/example/bowerbird/bowerbird/RequiredTextPinLaw", name := "make", desc := "(ICCCC)Ljava/lang/String;" } : Jvm.MethodName) method_3_code (6 : Nat) (Option.some (Jvm.ClassFile.FieldType.object "java/lang/String"))).before args0 about1 = true := code_word (m := ⟨1, 2⟩) (meth := k1m2) (c := k1c2) (by decide +kernel) rfl rfl rfl (by decide +kernel)
set_option maxRecDepth 65536 in
theorem w_c2 : (Jvm.Cond.code ({ cls := "java/lang/String", name := "<init>", desc := "([C)V" } : Jvm.MethodName) jdk_42_method_3_code (2 : Nat) (Option.none : Option Jvm.ClassFile.FieldType)).before args0 about1 = true := code_word (m := ⟨7, 1⟩) (meth := k7m1) (c := k7c1) (by decide +kernel) rfl rfl rfl (by decide +kernel)
set_option maxRecDepth 65536 in
theorem w_c3 : (Jvm.Cond.code ({ cls := "java/lang/String", name := "<init>", desc := "([CIILjava/lang/Void;)V" } : Jvm.MethodName) jdk_42_method_149_code (6 : Nat) (Option.none : Option Jvm.ClassFile.FieldType)).before args0 about1 = true := code_word (m := ⟨7, 6⟩) (meth := k7m6) (c := k7c6) (by decide +kernel) rfl rfl rfl (by decide +kernel)
set_option maxRecDepth 65536 in
theorem w_c4 : (Jvm.Cond.code ({ cls := "java/lang/Object", name := "<init>", desc := "()V" } : Jvm.MethodName) object_method_1_code (1 : Nat) (Option.none : Option Jvm.ClassFile.FieldType)).before args0 about1 = true := code_word (m := ⟨0, 0⟩) (meth := k0m0) (c := k0c0) (by decide +kernel) rfl rfl rfl (by decide +kernel)
set_option maxRecDepth 65536 in
theorem w_c5 : (Jvm.Cond.code ({ cls := "java/lang/StringUTF16", name := "compress", desc := "([CII)[B" } : Jvm.MethodName) jdk_52_method_16_code (6 : Nat) (Option.some (Jvm.ClassFile.FieldType.array Jvm.ClassFile.FieldType.byte))).before args0 about1 = true := code_word (m := ⟨8, 8⟩) (meth := k8m8) (c := k8c8) (by decide +kernel) rfl rfl rfl (by decide +kernel)
set_option maxRecDepth 65536 in
theorem w_c6 : (Jvm.Cond.code ({ cls := "java/lang/StringUTF16", name := "compress", desc := "([CI[BII)I" } : Jvm.MethodName) jdk_52_method_21_code (7 : Nat) (Option.some Jvm.ClassFile.FieldType.int)).before args0 about1 = true := code_word (m := ⟨8, 9⟩) (meth := k8m9) (c := k8c9) (by decide +kernel) rfl rfl rfl (by decide +kernel)
set_option maxRecDepth 65536 in
theorem w_c7 : (Jvm.Cond.code ({ cls := "java/lang/StringUTF16", name := "coderFromArrayLen", desc := "([BI)B" } : Jvm.MethodName) jdk_52_method_15_code (2 : Nat) (Option.some Jvm.ClassFile.FieldType.byte)).before args0 about1 = true := code_word (m := ⟨8, 7⟩) (meth := k8m7) (c := k8c7) (by decide +kernel) rfl rfl rfl (by decide +kernel)
set_option maxRecDepth 65536 in
theorem w_c8 : (Jvm.Cond.code ({ cls := "com/example/bowerbird/bowerbird/Required", name := "text", desc := "(Ljava/lang/String;Ljava/lang/String;)Ljava/lang/String;" } : Jvm.MethodName) prog_4_method_2_code (2 : Nat) (Option.some (Jvm.ClassFile.FieldType.object "java/lang/String"))).before args0 about1 = true := code_word (m := ⟨9, 1⟩) (meth := k9m1) (c := k9c1) (by decide +kernel) rfl rfl rfl (by decide +kernel)
set_option maxRecDepth 65536 in
theorem w_c9 : (Jvm.Cond.code ({ cls := "java/lang/String", name := "isEmpty", desc := "()Z" } : Jvm.MethodName) jdk_42_method_55_code (1 : Nat) (Option.some Jvm.ClassFile.FieldType.boolean)).before args0 about1 = true := code_word (m := ⟨7, 3⟩) (meth := k7m3) (c := k7c3) (by decide +kernel) rfl rfl rfl (by decide +kernel)
set_option maxRecDepth 65536 in
theorem w_c10 : (Jvm.Cond.code ({ cls := "java/lang/String", name := "length", desc := "()I" } : Jvm.MethodName) jdk_42_method_54_code (1 : Nat) (Option.some Jvm.ClassFile.FieldType.int)).before args0 about1 = true := code_word (m := ⟨7, 2⟩) (meth := k7m2) (c := k7c2) (by decide +kernel) rfl rfl rfl (by decide +kernel)
set_option maxRecDepth 65536 in
theorem w_c11 : (Jvm.Cond.code ({ cls := "java/lang/String", name := "coder", desc := "()B" } : Jvm.MethodName) jdk_42_method_152_code (1 : Nat) (Option.some Jvm.ClassFile.FieldType.byte)).before args0 about1 = true := code_word (m := ⟨7, 8⟩) (meth := k7m8) (c := k7c8) (by decide +kernel) rfl rfl rfl (by decide +kernel)
set_option maxRecDepth 65536 in
theorem w_c12 : (Jvm.Cond.code ({ cls := "java/lang/String", name := "charAt", desc := "(I)C" } : Jvm.MethodName) jdk_42_method_56_code (2 : Nat) (Option.some Jvm.ClassFile.FieldType.char)).before args0 about1 = true := code_word (m := ⟨7, 4⟩) (meth := k7m4) (c := k7c4) (by decide +kernel) rfl rfl rfl (by decide +kernel)
set_option maxRecDepth 65536 in
theorem w_c13 : (Jvm.Cond.code ({ cls := "java/lang/String", name := "isLatin1", desc := "()Z" } : Jvm.MethodName) jdk_42_method_154_code (1 : Nat) (Option.some Jvm.ClassFile.FieldType.boolean)).before args0 about1 = true := code_word (m := ⟨7, 9⟩) (meth := k7m9) (c := k7c9) (by decide +kernel) rfl rfl rfl (by decide +kernel)
set_option maxRecDepth 65536 in
theorem w_c14 : (Jvm.Cond.code ({ cls := "java/lang/StringLatin1", name := "charAt", desc := "([BI)C" } : Jvm.MethodName) jdk_43_method_2_code (2 : Nat) (Option.some Jvm.ClassFile.FieldType.char)).before args0 about1 = true := code_word (m := ⟨10, 1⟩) (meth := k10m1) (c := k10c1) (by decide +kernel) rfl rfl rfl (by decide +kernel)
set_option maxRecDepth 65536 in
theorem w_c15 : (Jvm.Cond.code ({ cls := "java/lang/String", name := "checkIndex", desc := "(II)V" } : Jvm.MethodName) jdk_42_method_155_code (2 : Nat) (Option.none : Option Jvm.ClassFile.FieldType)).before args0 about1 = true := code_word (m := ⟨7, 10⟩) (meth := k7m10) (c := k7c10) (by decide +kernel) rfl rfl rfl (by decide +kernel)
set_option maxRecDepth 65536 in
theorem w_c16 : (Jvm.Cond.code ({ cls := "jdk/internal/util/Preconditions", name := "checkIndex", desc := "(IILjava/util/function/BiFunction;)I" } : Jvm.MethodName) jdk_41_method_11_code (3 : Nat) (Option.some Jvm.ClassFile.FieldType.int)).before args0 about1 = true := code_word (m := ⟨11, 1⟩) (meth := k11m1) (c := k11c1) (by decide +kernel) rfl rfl rfl (by decide +kernel)
set_option maxRecDepth 65536 in
theorem w_c17 : (Jvm.Cond.code ({ cls := "java/lang/StringUTF16", name := "toBytes", desc := "([CII)[B" } : Jvm.MethodName) jdk_52_method_14_code (5 : Nat) (Option.some (Jvm.ClassFile.FieldType.array Jvm.ClassFile.FieldType.byte))).before args0 about1 = true := code_word (m := ⟨8, 6⟩) (meth := k8m6) (c := k8c6) (by decide +kernel) rfl rfl rfl (by decide +kernel)
set_option maxRecDepth 65536 in
theorem w_c18 : (Jvm.Cond.code ({ cls := "java/lang/StringUTF16", name := "newBytesFor", desc := "(I)[B" } : Jvm.MethodName) jdk_52_method_2_code (1 : Nat) (Option.some (Jvm.ClassFile.FieldType.array Jvm.ClassFile.FieldType.byte))).before args0 about1 = true := code_word (m := ⟨8, 1⟩) (meth := k8m1) (c := k8c1) (by decide +kernel) rfl rfl rfl (by decide +kernel)
set_option maxRecDepth 65536 in
theorem w_c19 : (Jvm.Cond.code ({ cls := "java/lang/StringUTF16", name := "newBytesLength", desc := "(I)I" } : Jvm.MethodName) jdk_52_method_3_code (1 : Nat) (Option.some Jvm.ClassFile.FieldType.int)).before args0 about1 = true := code_word (m := ⟨8, 2⟩) (meth := k8m2) (c := k8c2) (by decide +kernel) rfl rfl rfl (by decide +kernel)
set_option maxRecDepth 65536 in
theorem w_c20 : (Jvm.Cond.code ({ cls := "java/lang/StringUTF16", name := "putChar", desc := "([BII)V" } : Jvm.MethodName) jdk_52_method_4_code (3 : Nat) (Option.none : Option Jvm.ClassFile.FieldType)).before args0 about1 = true := code_word (m := ⟨8, 3⟩) (meth := k8m3) (c := k8c3) (by decide +kernel) rfl rfl rfl (by decide +kernel)
set_option maxRecDepth 65536 in
theorem w_c21 : (Jvm.Cond.code ({ cls := "java/lang/StringUTF16", name := "getChar", desc := "([BI)C" } : Jvm.MethodName) jdk_52_method_5_code (2 : Nat) (Option.some Jvm.ClassFile.FieldType.char)).before args0 about1 = true := code_word (m := ⟨8, 4⟩) (meth := k8m4) (c := k8c4) (by decide +kernel) rfl rfl rfl (by decide +kernel)
set_option maxRecDepth 65536 in
theorem w_c22 : (Jvm.Cond.code ({ cls := "java/lang/String", name := "valueOf", desc := "(C)Ljava/lang/String;" } : Jvm.MethodName) jdk_42_method_139_code (1 : Nat) (Option.some (Jvm.ClassFile.FieldType.object "java/lang/String"))).before args0 about1 = true := code_word (m := ⟨7, 5⟩) (meth := k7m5) (c := k7c5) (by decide +kernel) rfl rfl rfl (by decide +kernel)
set_option maxRecDepth 65536 in
theorem w_c23 : (Jvm.Cond.code ({ cls := "java/lang/StringLatin1", name := "canEncode", desc := "(C)Z" } : Jvm.MethodName) jdk_43_method_3_code (1 : Nat) (Option.some Jvm.ClassFile.FieldType.boolean)).before args0 about1 = true := code_word (m := ⟨10, 2⟩) (meth := k10m2) (c := k10c2) (by decide +kernel) rfl rfl rfl (by decide +kernel)
set_option maxRecDepth 65536 in
theorem w_c24 : (Jvm.Cond.code ({ cls := "java/lang/StringLatin1", name := "toBytes", desc := "(C)[B" } : Jvm.MethodName) jdk_43_method_46_code (1 : Nat) (Option.some (Jvm.ClassFile.FieldType.array Jvm.ClassFile.FieldType.byte))).before args0 about1 = true := code_word (m := ⟨10, 3⟩) (meth := k10m3) (c := k10c3) (by decide +kernel) rfl rfl rfl (by decide +kernel)
set_option maxRecDepth 65536 in
theorem w_c25 : (Jvm.Cond.code ({ cls := "java/lang/String", name := "<init>", desc := "([BB)V" } : Jvm.MethodName) jdk_42_method_151_code (3 : Nat) (Option.none : Option Jvm.ClassFile.FieldType)).before args0 about1 = true := code_word (m := ⟨7, 7⟩) (meth := k7m7) (c := k7c7) (by decide +kernel) rfl rfl rfl (by decide +kernel)
set_option maxRecDepth 65536 in
theorem w_c26 : (Jvm.Cond.code ({ cls := "java/lang/StringUTF16", name := "charAt", desc := "([BI)C" } : Jvm.MethodName) jdk_52_method_83_code (2 : Nat) (Option.some Jvm.ClassFile.FieldType.char)).before args0 about1 = true := code_word (m := ⟨8, 10⟩) (meth := k8m10) (c := k8c10) (by decide +kernel) rfl rfl rfl (by decide +kernel)
set_option maxRecDepth 65536 in
theorem w_c27 : (Jvm.Cond.code ({ cls := "java/lang/StringUTF16", name := "checkIndex", desc := "(I[B)V" } : Jvm.MethodName) jdk_52_method_91_code (2 : Nat) (Option.none : Option Jvm.ClassFile.FieldType)).before args0 about1 = true := code_word (m := ⟨8, 11⟩) (meth := k8m11) (c := k8c11) (by decide +kernel) rfl rfl rfl (by decide +kernel)
set_option maxRecDepth 65536 in
theorem w_c28 : (Jvm.Cond.code ({ cls := "java/lang/StringUTF16", name := "length", desc := "([B)I" } : Jvm.MethodName) jdk_52_method_6_code (1 : Nat) (Option.some Jvm.ClassFile.FieldType.int)).before args0 about1 = true := code_word (m := ⟨8, 5⟩) (meth := k8m5) (c := k8c5) (by decide +kernel) rfl rfl rfl (by decide +kernel)
def codes1 : List Jvm.Cond := [Jvm.Cond.code x code maxLocals ret, Jvm.Cond.code ({ cls := "com/example/bowerbird/bowerbird/RequiredTextPinLaw", name := "make", desc := "(ICCCC)Ljava/lang/String;" } : Jvm.MethodName) method_3_code (6 : Nat) (Option.some (Jvm.ClassFile.FieldType.object "java/lang/String")), Jvm.Cond.code ({ cls := "java/lang/String", name := "<init>", desc := "([C)V" } : Jvm.MethodName) jdk_42_method_3_code (2 : Nat) (Option.none : Option Jvm.ClassFile.FieldType), Jvm.Cond.code ({ cls := "java/lang/String", name := "<init>", desc := "([CIILjava/lang/Void;)V" } : Jvm.MethodName) jdk_42_method_149_code (6 : Nat) (Option.none : Option Jvm.ClassFile.FieldType), Jvm.Cond.code ({ cls := "java/lang/Object", name := "<init>", desc := "()V" } : Jvm.MethodName) object_method_1_code (1 : Nat) (Option.none : Option Jvm.ClassFile.FieldType), Jvm.Cond.code ({ cls := "java/lang/StringUTF16", name := "compress", desc := "([CII)[B" } : Jvm.MethodName) jdk_52_method_16_code (6 : Nat) (Option.some (Jvm.ClassFile.FieldType.array Jvm.ClassFile.FieldType.byte)), Jvm.Cond.code ({ cls := "java/lang/StringUTF16", name := "compress", desc := "([CI[BII)I" } : Jvm.MethodName) jdk_52_method_21_code (7 : Nat) (Option.some Jvm.ClassFile.FieldType.int), Jvm.Cond.code ({ cls := "java/lang/StringUTF16", name := "coderFromArrayLen", desc := "([BI)B" } : Jvm.MethodName) jdk_52_method_15_code (2 : Nat) (Option.some Jvm.ClassFile.FieldType.byte), Jvm.Cond.code ({ cls := "com/example/bowerbird/bowerbird/Required", name := "text", desc := "(Ljava/lang/String;Ljava/lang/String;)Ljava/lang/String;" } : Jvm.MethodName) prog_4_method_2_code (2 : Nat) (Option.some (Jvm.ClassFile.FieldType.object "java/lang/String")), Jvm.Cond.code ({ cls := "java/lang/String", name := "isEmpty", desc := "()Z" } : Jvm.MethodName) jdk_42_method_55_code (1 : Nat) (Option.some Jvm.ClassFile.FieldType.boolean), Jvm.Cond.code ({ cls := "java/lang/String", name := "length", desc := "()I" } : Jvm.MethodName) jdk_42_method_54_code (1 : Nat) (Option.some Jvm.ClassFile.FieldType.int), Jvm.Cond.code ({ cls := "java/lang/String", name := "coder", desc := "()B" } : Jvm.MethodName) jdk_42_method_152_code (1 : Nat) (Option.some Jvm.ClassFile.FieldType.byte), Jvm.Cond.code ({ cls := "java/lang/String", name := "charAt", desc := "(I)C" } : Jvm.MethodName) jdk_42_method_56_code (2 : Nat) (Option.some Jvm.ClassFile.FieldType.char), Jvm.Cond.code ({ cls := "java/lang/String", name := "isLatin1", desc := "()Z" } : Jvm.MethodName) jdk_42_method_154_code (1 : Nat) (Option.some Jvm.ClassFile.FieldType.boolean), Jvm.Cond.code ({ cls := "java/lang/StringLatin1", name := "charAt", desc := "([BI)C" } : Jvm.MethodName) jdk_43_method_2_code (2 : Nat) (Option.some Jvm.ClassFile.FieldType.char), Jvm.Cond.code ({ cls := "java/lang/String", name := "checkIndex", desc := "(II)V" } : Jvm.MethodName) jdk_42_method_155_code (2 : Nat) (Option.none : Option Jvm.ClassFile.FieldType), Jvm.Cond.code ({ cls := "jdk/internal/util/Preconditions", name := "checkIndex", desc := "(IILjava/util/function/BiFunction;)I" } : Jvm.MethodName) jdk_41_method_11_code (3 : Nat) (Option.some Jvm.ClassFile.FieldType.int), Jvm.Cond.code ({ cls := "java/lang/StringUTF16", name := "toBytes", desc := "([CII)[B" } : Jvm.MethodName) jdk_52_method_14_code (5 : Nat) (Option.some (Jvm.ClassFile.FieldType.array Jvm.ClassFile.FieldType.byte)), Jvm.Cond.code ({ cls := "java/lang/StringUTF16", name := "newBytesFor", desc := "(I)[B" } : Jvm.MethodName) jdk_52_method_2_code (1 : Nat) (Option.some (Jvm.ClassFile.FieldType.array Jvm.ClassFile.FieldType.byte)), Jvm.Cond.code ({ cls := "java/lang/StringUTF16", name := "newBytesLength", desc := "(I)I" } : Jvm.MethodName) jdk_52_method_3_code (1 : Nat) (Option.some Jvm.ClassFile.FieldType.int), Jvm.Cond.code ({ cls := "java/lang/StringUTF16", name := "putChar", desc := "([BII)V" } : Jvm.MethodName) jdk_52_method_4_code (3 : Nat) (Option.none : Option Jvm.ClassFile.FieldType), Jvm.Cond.code ({ cls := "java/lang/StringUTF16", name := "getChar", desc := "([BI)C" } : Jvm.MethodName) jdk_52_method_5_code (2 : Nat) (Option.some Jvm.ClassFile.FieldType.char), Jvm.Cond.code ({ cls := "java/lang/String", name := "valueOf", desc := "(C)Ljava/lang/String;" } : Jvm.MethodName) jdk_42_method_139_code (1 : Nat) (Option.some (Jvm.ClassFile.FieldType.object "java/lang/String")), Jvm.Cond.code ({ cls := "java/lang/StringLatin1", name := "canEncode", desc := "(C)Z" } : Jvm.MethodName) jdk_43_method_3_code (1 : Nat) (Option.some Jvm.ClassFile.FieldType.boolean), Jvm.Cond.code ({ cls := "java/lang/StringLatin1", name := "toBytes", desc := "(C)[B" } : Jvm.MethodName) jdk_43_method_46_code (1 : Nat) (Option.some (Jvm.ClassFile.FieldType.array Jvm.ClassFile.FieldType.byte)), Jvm.Cond.code ({ cls := "java/lang/String", name := "<init>", desc := "([BB)V" } : Jvm.MethodName) jdk_42_method_151_code (3 : Nat) (Option.none : Option Jvm.ClassFile.FieldType), Jvm.Cond.code ({ cls := "java/lang/StringUTF16", name := "charAt", desc := "([BI)C" } : Jvm.MethodName) jdk_52_method_83_code (2 : Nat) (Option.some Jvm.ClassFile.FieldType.char), Jvm.Cond.code ({ cls := "java/lang/StringUTF16", name := "checkIndex", desc := "(I[B)V" } : Jvm.MethodName) jdk_52_method_91_code (2 : Nat) (Option.none : Option Jvm.ClassFile.FieldType), Jvm.Cond.code ({ cls := "java/lang/StringUTF16", name := "length", desc := "([B)I" } : Jvm.MethodName) jdk_52_method_6_code (1 : Nat) (Option.some Jvm.ClassFile.FieldType.int)]
set_option maxRecDepth 65536 in
theorem codes_eq : words1.filter isCode = codes1 := rfl
theorem w_codes : ∀ c ∈ words1.filter isCode, c.before args0 about1 = true := by
  rw [codes_eq]
  intro c hc
  simp only [codes1, List.mem_cons, List.not_mem_nil, or_false] at hc
  rcases hc with rfl | rfl | rfl | rfl | rfl | rfl | rfl | rfl | rfl | rfl | rfl | rfl | rfl | rfl | rfl | rfl | rfl | rfl | rfl | rfl | rfl | rfl | rfl | rfl | rfl | rfl | rfl | rfl | rfl
  · exact w_c0
  · exact w_c1
  · exact w_c2
  · exact w_c3
  · exact w_c4
  · exact w_c5
  · exact w_c6
  · exact w_c7
  · exact w_c8
  · exact w_c9
  · exact w_c10
  · exact w_c11
  · exact w_c12
  · exact w_c13
  · exact w_c14
  · exact w_c15
  · exact w_c16
  · exact w_c17
  · exact w_c18
  · exact w_c19
  · exact w_c20
  · exact w_c21
  · exact w_c22
  · exact w_c23
  · exact w_c24
  · exact w_c25
  · exact w_c26
  · exact w_c27
  · exact w_c28
set_option maxRecDepth 65536 in
theorem w_t1 : (words1.take 24).all (fun c => isCode c || c.before args0 about1) = true := by decide +kernel
set_option maxRecDepth 65536 in
theorem w_t2 : ((words1.drop 24).take 24).all (fun c => isCode c || c.before args0 about1) = true := by decide +kernel
set_option maxRecDepth 65536 in
theorem w_t3 : (((words1.drop 24).drop 24).take 24).all (fun c => isCode c || c.before args0 about1) = true := by decide +kernel
set_option maxRecDepth 65536 in
theorem w_t4 : ((((words1.drop 24).drop 24).drop 24).take 24).all (fun c => isCode c || c.before args0 about1) = true := by decide +kernel
set_option maxRecDepth 65536 in
theorem w_t5 : (((((words1.drop 24).drop 24).drop 24).drop 24).take 24).all (fun c => isCode c || c.before args0 about1) = true := by decide +kernel
set_option maxRecDepth 65536 in
theorem w_t6 : (((((words1.drop 24).drop 24).drop 24).drop 24).drop 24).all (fun c => isCode c || c.before args0 about1) = true := by decide +kernel
theorem w_tables : (allAtoms (Jvm.Cond.code x code maxLocals ret :: tables_1)).before args0 about1 = true := by
  rw [allAtoms_all]
  show words1.all (fun c => c.before args0 about1) = true
  refine all_split ?_ w_codes
  rw [← List.take_append_drop 24 words1, List.all_append, w_t1, ← List.take_append_drop 24 (words1.drop 24), List.all_append, w_t2, ← List.take_append_drop 24 ((words1.drop 24).drop 24), List.all_append, w_t3, ← List.take_append_drop 24 (((words1.drop 24).drop 24).drop 24), List.all_append, w_t4, ← List.take_append_drop 24 ((((words1.drop 24).drop 24).drop 24).drop 24), List.all_append, w_t5, w_t6]
  rfl
set_option maxRecDepth 65536 in
theorem w_rest : rest_1_c.before args0 about1 = true := by decide +kernel
set_option maxRecDepth 65536 in
theorem w_case : (Jvm.Cond.and given_1 narrow_1).before args0 about1 = true := by decide +kernel
set_option maxRecDepth 65536 in
theorem w_consts : constsHeld consts_1 about1 := Jvm.Lit.constsHeldB_iff.mp (by decide +kernel)
theorem w_applies : (headSpec (Jvm.Cond.code x code maxLocals ret :: tables_1) room_1).applies x e0.platform about1 = true :=
  (Spec.applies_iff w_frames).mpr ⟨w_running, w_runnable, w_alone, w_named, w_hears, w_ripe, w_room, w_tables⟩
theorem atStart : AtStart classFile x code maxLocals ret World_1 tables_1 room_1 Calls_1 rest_1 Pre_1 launch0 p0 e0 about1 theMethod args0 below0 :=
  ⟨lists_1, trivial, launch0.admits_env _ _ _, launch0.least_env, fairChoices_fair.cas, fairChoices_fair.clock, w_frames, w_args, w_heap, w_applies, ⟨w_consts, trivial⟩, w_rest, w_case⟩
end start1
theorem witness_1 : WitnessClaimed_1 := ⟨start1.p0, start1.e0, start1.about1, start1.theMethod, start1.args0, start1.below0, start1.atStart⟩
end Jvm.Pilot.@@N@@
