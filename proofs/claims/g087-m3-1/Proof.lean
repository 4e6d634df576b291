import JvmDerived
import JvmDerived.Pilot.@@N@@Statement
import JvmDerived.Pilot.@@N@@Code
set_option linter.unusedVariables false
set_option linter.unusedSimpArgs false
namespace Jvm.RoadKit
open Sem ClassFile Op Lib Jvm.Stand Jvm.Free Jvm.LawKit
section New
variable {p : Program} {l : Launch} {e : Env} {R : Room} {s : State} {m : MethodId} {args : Array Value} {below : List Frame} {meth : Method} {c : Code} {T : State} {locs : List Loc} {cells slots : Nat}
theorem retI (X : Stand p l e R s m args below meth c T locs cells slots) (hx : p.tables.exec = Jvm.exec) {pc : Nat} {Ls : Array Slot} {z : Int32} {rest : List Value} (hret : meth.sig.returnType = some .int) (hd : decode c.code pc = .ok (.ireturn, 1)) {fs : List Frame}
    (hl : ∀ (f : JFrame) (acts : List Action), f.method = m → f.locked = none → f.entered = [] → (doReturn e (T.setTop f) acts (some (.int z))).1 = T.setFrames fs) : Steps p.tables e below (T.setTop (mkF m pc Ls (.int z :: rest))) (T.setFrames fs) := by
  have hm' : T.vm.method? m = some meth := X.method'
  have hn : narrow .int (.int z) = .int z := rfl
  show Steps p.tables e below (T.setTop { method := m, pc := pc, locals := Ls, stack := _ :: rest, locked := none }) _
  jvm_step X.here [X.here.top, hx, hd, hm', hret, hn]
  first | (intro acts; rw [hl _ acts rfl rfl rfl]) | rw [hl _ _ rfl rfl rfl]
  exact Steps.refl _
theorem retL (X : Stand p l e R s m args below meth c T locs cells slots) (hx : p.tables.exec = Jvm.exec) {pc : Nat} {Ls : Array Slot} {z : Int64} {rest : List Value} (hret : meth.sig.returnType = some .long) (hd : decode c.code pc = .ok (.lreturn, 1)) {fs : List Frame}
    (hl : ∀ (f : JFrame) (acts : List Action), f.method = m → f.locked = none → f.entered = [] → (doReturn e (T.setTop f) acts (some (.long z))).1 = T.setFrames fs) : Steps p.tables e below (T.setTop (mkF m pc Ls (.long z :: rest))) (T.setFrames fs) := by
  have hm' : T.vm.method? m = some meth := X.method'
  have hn : narrow .long (.long z) = .long z := rfl
  show Steps p.tables e below (T.setTop { method := m, pc := pc, locals := Ls, stack := _ :: rest, locked := none }) _
  jvm_step X.here [X.here.top, hx, hd, hm', hret, hn]
  first | (intro acts; rw [hl _ acts rfl rfl rfl]) | rw [hl _ _ rfl rfl rfl]
  exact Steps.refl _
theorem retR (X : Stand p l e R s m args below meth c T locs cells slots) (hx : p.tables.exec = Jvm.exec) {pc : Nat} {Ls : Array Slot} {w : Value} {t : FieldType} {rest : List Value} (hret : meth.sig.returnType = some t) (hn : narrow t w = w) (ht : t.isReference = true) (hw : w.isRef = true) (hd : decode c.code pc = .ok (.areturn, 1)) {fs : List Frame}
    (hl : ∀ (f : JFrame) (acts : List Action), f.method = m → f.locked = none → f.entered = [] → (doReturn e (T.setTop f) acts (some w)).1 = T.setFrames fs) : Steps p.tables e below (T.setTop (mkF m pc Ls (w :: rest))) (T.setFrames fs) := by
  have hm' : T.vm.method? m = some meth := X.method'
  show Steps p.tables e below (T.setTop { method := m, pc := pc, locals := Ls, stack := _ :: rest, locked := none }) _
  jvm_step X.here [X.here.top, hx, hd, hm', hret, hn, hw]
  try (refine ⟨ht, ?_⟩)
  first | (intro acts; rw [hl _ acts rfl rfl rfl]) | rw [hl _ _ rfl rfl rfl]
  exact Steps.refl _
end New
end Jvm.RoadKit
namespace Jvm.Pilot.@@N@@
open Jvm Jvm.ClassFile Sem Op Lib Jvm.Free Jvm.Stand Jvm.LawKit Jvm.RoadKit Bundle Jvm.Pilot.@@N@@.Jvm.D
/-- what a walk of one body knows of its method, and how it ends -/
def Ctx (p : Program) (s : State) (m : MethodId) (meth : Method) (c : Code) (Z : State) (own : String) (bs : ByteArray) (ml : Nat) (ret : Option FieldType) (nm : String) (R : Room) (F : Outcome → State → List Loc → Prop) (B : Nat) : Prop :=
  p.tables.exec = Jvm.exec ∧ Z.Warmed39 s.vm ∧ s.vm.findClass own = some m.cls ∧ c.code = bs ∧ c.maxLocals = ml ∧ meth.sig.returnType = ret ∧ meth.name = nm ∧ meth.locks = false ∧
    ∀ (t : State) (v : Option Value) (L : List Loc) (k n : Nat), s.WarmedH t.vm → s.sameButNew ({ t with vm := s.vm } : State) L k n → B ≤ t.heap.size → k ≤ R.cells → n ≤ R.slots → F (.returned v) t L
/-- from the frame g, in any state that stands so with the heap h, the body runs to its end and leaves Q -/
def Go (p : Program) (l : Launch) (e : Env) (R : Room) (s : State) (m : MethodId) (args : Array Value) (below : List Frame) (meth : Method) (c : Code) (n0 : Nat) (Q : Option Value → Vm → Heap → Prop) (F : Outcome → State → List Loc → Prop) (B : Nat) (h : Heap) (k n : Nat) (g : JFrame) : Prop :=
  ∀ (T : State) (locs : List Loc), Stand p l e R s m args below meth c T locs k n → T.heap = h → Fr n0 locs → B ≤ h.size →
    ∃ s₂ o, Steps p.tables e below (T.setTop g) s₂ ∧ s₂.status = .running ∧ Ended s₂ below o ∧ ∃ v L, o = .returned v ∧ (Q v s₂.vm s₂.heap ∧ Fr n0 L) ∧ F o s₂ L
/-- who pays a call: what it asks and what it leaves -/
def Pays (l : Launch) (R : Room) (p : Program) (e : Env) (below : List Frame) (s : State) (args : Array Value) (y : MethodName) (len W : Nat) (as' : Array Value) (h : Heap) (kc nc : Nat) (Qc : Option Value → Heap → List Loc → Prop) : Prop :=
  Back l R p e below s args y len W (fun A a => a = as' ∧ A.U.heap = h ∧ A.cells + kc ≤ R.cells ∧ A.slots + nc ≤ R.slots)
    (fun A _ v B => ∃ L, Qc v B.U.heap L ∧ B.locs = A.locs ++ L ∧ B.cells = A.cells + kc ∧ B.slots = A.slots + nc)
/-- the same of a callee that may load String constants -/
def PaysW (l : Launch) (R : Room) (p : Program) (e : Env) (below : List Frame) (s : State) (vm0 : Vm) (args : Array Value) (y : MethodName) (len W : Nat) (as' : Array Value) (h : Heap) (kc nc : Nat) (Z : State) (EL : List (String × Nat)) (Qc : Option Value → Heap → List Loc → Prop) : Prop :=
  BackS l R p e below (s.setVm vm0) args y len W (fun A a => a = as' ∧ A.U.heap = h ∧ A.cells + kc ≤ R.cells ∧ A.slots + nc ≤ R.slots)
    (fun A _ v B => ∃ L, Qc v B.U.heap L ∧ B.locs = A.locs ++ L ∧ B.cells = A.cells + kc ∧ B.slots = A.slots + nc ∧ CHr Z EL vm0 h B.U.vm B.U.heap)
/-- a method's contract: at the heap h0, with these arguments, it returns and leaves Q; nothing below n0 is written -/
def Met (l : Launch) (Z : State) (ws : List Jvm.Cond) (y : MethodName) (bs : ByteArray) (ml : Nat) (ret : Option FieldType) (rm : Room) (as' : Array Value) (h0 : Heap) (n0 : Nat) (Q : Option Value → Heap → Prop) : Prop :=
  MetFree l y (head1 (Jvm.Cond.code y bs ml ret :: ws) rm) (fun a U => a = as' ∧ Z.Warmed39 U.vm ∧ U.heap = h0) (fun _ _ _ _ _ => True) (fun _ U o U' => ∃ v L, o = .returned v ∧ ((Q v U'.heap ∧ Fr n0 L) ∧ h0.size ≤ U'.heap.size) ∧ FrameEnd U o U' L rm.cells rm.slots)
/-- the same, where a stack trace is filled in beneath it -/
def MetK (l : Launch) (Z : State) (ws : List Jvm.Cond) (y : MethodName) (bs : ByteArray) (ml : Nat) (ret : Option FieldType) (rm : Room) (as' : Array Value) (h0 : Heap) (n0 : Nat) (Q : Option Value → Heap → Prop) : Prop :=
  MetFree l y (head1 (Jvm.Cond.code y bs ml ret :: ws) rm) (fun a U => a = as' ∧ Z.Warmed39 U.vm ∧ U.heap = h0) (fun _ _ bl s _ => s.vm.MethodsKnown ∧ s.vm.FramesKnown bl) (fun _ U o U' => ∃ v L, o = .returned v ∧ ((Q v U'.heap ∧ Fr n0 L) ∧ h0.size ≤ U'.heap.size) ∧ FrameEnd U o U' L rm.cells rm.slots)
/-- the same, where String constants may be loaded; EL: the constants that are read -/
def MetW (l : Launch) (Z : State) (ws : List Jvm.Cond) (EL : List (String × Nat)) (y : MethodName) (bs : ByteArray) (ml : Nat) (ret : Option FieldType) (rm : Room) (as' : Array Value) (h0 : Heap) (n0 : Nat) (Q : Option Value → Heap → Prop) : Prop :=
  MetFree l y (head1 (Jvm.Cond.code y bs ml ret :: ws) rm) (fun a U => a = as' ∧ Z.Warmed39 U.vm ∧ U.heap = h0 ∧ CHv Z EL U.vm h0) (fun _ _ _ _ _ => True) (fun _ U o U' => ∃ v L, o = .returned v ∧ ((Q v U'.heap ∧ Fr n0 L) ∧ h0.size ≤ U'.heap.size) ∧ CHr Z EL U.vm U.heap U'.vm U'.heap ∧ ReturnedEndW U o U' L rm.cells rm.slots)
/-- both -/
def MetWK (l : Launch) (Z : State) (ws : List Jvm.Cond) (EL : List (String × Nat)) (y : MethodName) (bs : ByteArray) (ml : Nat) (ret : Option FieldType) (rm : Room) (as' : Array Value) (h0 : Heap) (n0 : Nat) (Q : Option Value → Heap → Prop) : Prop :=
  MetFree l y (head1 (Jvm.Cond.code y bs ml ret :: ws) rm) (fun a U => a = as' ∧ Z.Warmed39 U.vm ∧ U.heap = h0 ∧ CHv Z EL U.vm h0) (fun _ _ bl s _ => s.vm.MethodsKnown ∧ s.vm.FramesKnown bl) (fun _ U o U' => ∃ v L, o = .returned v ∧ ((Q v U'.heap ∧ Fr n0 L) ∧ h0.size ≤ U'.heap.size) ∧ CHr Z EL U.vm U.heap U'.vm U'.heap ∧ ReturnedEndW U o U' L rm.cells rm.slots)
section GoKit
variable {p : Program} {l : Launch} {e : Env} {R : Room} {s : State} {m : MethodId} {args : Array Value} {below : List Frame} {meth : Method} {c : Code} {n0 : Nat} {Q : Option Value → Vm → Heap → Prop} {F : Outcome → State → List Loc → Prop} {B : Nat} {h : Heap} {k n : Nat}
variable {Z : State} {own : String} {bs : ByteArray} {ml : Nat} {ret : Option FieldType} {nm : String} {a0 : Array Value}
variable {pc pc' : Nat} {Ls Ls' : Array Slot} {st rest : List Value}
theorem Ctx.cx (K : Ctx p s m meth c Z own bs ml ret nm R F B) : p.tables.exec = Jvm.exec := K.1
theorem Ctx.cz (K : Ctx p s m meth c Z own bs ml ret nm R F B) : Z.Warmed39 s.vm := K.2.1
theorem Ctx.co (K : Ctx p s m meth c Z own bs ml ret nm R F B) : s.vm.findClass own = some m.cls := K.2.2.1
theorem Ctx.cb (K : Ctx p s m meth c Z own bs ml ret nm R F B) : c.code = bs := K.2.2.2.1
theorem Ctx.cl (K : Ctx p s m meth c Z own bs ml ret nm R F B) : c.maxLocals = ml := K.2.2.2.2.1
theorem Ctx.cr (K : Ctx p s m meth c Z own bs ml ret nm R F B) : meth.sig.returnType = ret := K.2.2.2.2.2.1
theorem Ctx.cn (K : Ctx p s m meth c Z own bs ml ret nm R F B) : meth.name = nm := K.2.2.2.2.2.2.1
theorem Ctx.ck (K : Ctx p s m meth c Z own bs ml ret nm R F B) : meth.locks = false := K.2.2.2.2.2.2.2.1
theorem Ctx.ce (K : Ctx p s m meth c Z own bs ml ret nm R F B) : ∀ (t : State) (v : Option Value) (L : List Loc) (k n : Nat), s.WarmedH t.vm → s.sameButNew ({ t with vm := s.vm } : State) L k n → B ≤ t.heap.size → k ≤ R.cells → n ≤ R.slots → F (.returned v) t L := K.2.2.2.2.2.2.2.2
/-- a step that leaves heap and counts alone -/
theorem Go.by {g g' : JFrame} (H : Go p l e R s m args below meth c n0 Q F B h k n g')
    (q : ∀ (T : State) (locs : List Loc), Stand p l e R s m args below meth c T locs k n → T.heap = h → ∀ t, Steps p.tables e below (T.setTop g') t → Steps p.tables e below (T.setTop g) t) : Go p l e R s m args below meth c n0 Q F B h k n g :=
  fun T locs X eT N hB => by
    obtain ⟨s₂, o, a, b⟩ := H T locs X eT N hB
    exact ⟨s₂, o, q T locs X eT _ a, b⟩
theorem Go.iload (K : Ctx p s m meth c Z own bs ml ret nm R F B) {j : Nat} {v : Int32} (hd : decode bs pc = .ok (.iload j, 2)) (hl : Ls[j]? = some (.val (.int v))) (hp : pc + 2 = pc') (H : Go p l e R s m args below meth c n0 Q F B h k n (mkF m pc' Ls (.int v :: st))) : Go p l e R s m args below meth c n0 Q F B h k n (mkF m pc Ls st) := by
  subst hp
  exact H.by fun T _ X _ t q => XS.iload X.here K.cx rfl (hb K.cb hd) hl q
theorem Go.iloadN (K : Ctx p s m meth c Z own bs ml ret nm R F B) {j : Fin 4} {v : Int32} (hd : decode bs pc = .ok (.iload_n j, 1)) (hl : Ls[j.val]? = some (.val (.int v))) (hp : pc + 1 = pc') (H : Go p l e R s m args below meth c n0 Q F B h k n (mkF m pc' Ls (.int v :: st))) : Go p l e R s m args below meth c n0 Q F B h k n (mkF m pc Ls st) := by
  subst hp
  exact H.by fun T _ X _ t q => XS.iloadN X.here K.cx rfl (hb K.cb hd) hl q
theorem Go.lload (K : Ctx p s m meth c Z own bs ml ret nm R F B) {j : Nat} {v : Int64} (hd : decode bs pc = .ok (.lload j, 2)) (hl : Ls[j]? = some (.val (.long v))) (hp : pc + 2 = pc') (H : Go p l e R s m args below meth c n0 Q F B h k n (mkF m pc' Ls (.long v :: st))) : Go p l e R s m args below meth c n0 Q F B h k n (mkF m pc Ls st) := by
  subst hp
  exact H.by fun T _ X _ t q => XS.lload X.here K.cx rfl (hb K.cb hd) hl q
theorem Go.lloadN (K : Ctx p s m meth c Z own bs ml ret nm R F B) {j : Fin 4} {v : Int64} (hd : decode bs pc = .ok (.lload_n j, 1)) (hl : Ls[j.val]? = some (.val (.long v))) (hp : pc + 1 = pc') (H : Go p l e R s m args below meth c n0 Q F B h k n (mkF m pc' Ls (.long v :: st))) : Go p l e R s m args below meth c n0 Q F B h k n (mkF m pc Ls st) := by
  subst hp
  exact H.by fun T _ X _ t q => XS.lloadN X.here K.cx rfl (hb K.cb hd) hl q
theorem Go.aload (K : Ctx p s m meth c Z own bs ml ret nm R F B) {j : Nat} {v : Value} (hd : decode bs pc = .ok (.aload j, 2)) (hl : Ls[j]? = some (.val v)) (hv : v.isRef = true) (hp : pc + 2 = pc') (H : Go p l e R s m args below meth c n0 Q F B h k n (mkF m pc' Ls (v :: st))) : Go p l e R s m args below meth c n0 Q F B h k n (mkF m pc Ls st) := by
  subst hp
  exact H.by fun T _ X _ t q => XS.aload X.here K.cx rfl (hb K.cb hd) hl hv q
theorem Go.aloadN (K : Ctx p s m meth c Z own bs ml ret nm R F B) {j : Fin 4} {v : Value} (hd : decode bs pc = .ok (.aload_n j, 1)) (hl : Ls[j.val]? = some (.val v)) (hv : v.isRef = true) (hp : pc + 1 = pc') (H : Go p l e R s m args below meth c n0 Q F B h k n (mkF m pc' Ls (v :: st))) : Go p l e R s m args below meth c n0 Q F B h k n (mkF m pc Ls st) := by
  subst hp
  exact H.by fun T _ X _ t q => XS.aloadN X.here K.cx rfl (hb K.cb hd) hl hv q
theorem Go.istore (K : Ctx p s m meth c Z own bs ml ret nm R F B) {j : Nat} {v : Int32} (hd : decode bs pc = .ok (.istore j, 2)) (hl : storeLocals Ls j (.int v) = some Ls') (hp : pc + 2 = pc') (H : Go p l e R s m args below meth c n0 Q F B h k n (mkF m pc' Ls' st)) : Go p l e R s m args below meth c n0 Q F B h k n (mkF m pc Ls (.int v :: st)) := by
  subst hp
  exact H.by fun T _ X _ t q => XS.istore X.here K.cx rfl (hb K.cb hd) rfl hl q
theorem Go.istoreN (K : Ctx p s m meth c Z own bs ml ret nm R F B) {j : Fin 4} {v : Int32} (hd : decode bs pc = .ok (.istore_n j, 1)) (hl : storeLocals Ls j.val (.int v) = some Ls') (hp : pc + 1 = pc') (H : Go p l e R s m args below meth c n0 Q F B h k n (mkF m pc' Ls' st)) : Go p l e R s m args below meth c n0 Q F B h k n (mkF m pc Ls (.int v :: st)) := by
  subst hp
  exact H.by fun T _ X _ t q => XS.istoreN X.here K.cx rfl (hb K.cb hd) rfl hl q
theorem Go.astore (K : Ctx p s m meth c Z own bs ml ret nm R F B) {j : Nat} {v : Value} (hd : decode bs pc = .ok (.astore j, 2)) (hv : v.isRef = true) (hl : storeLocals Ls j v = some Ls') (hp : pc + 2 = pc') (H : Go p l e R s m args below meth c n0 Q F B h k n (mkF m pc' Ls' st)) : Go p l e R s m args below meth c n0 Q F B h k n (mkF m pc Ls (v :: st)) := by
  subst hp
  exact H.by fun T _ X _ t q => XS.astore X.here K.cx rfl (hb K.cb hd) rfl hv hl q
theorem Go.astoreN (K : Ctx p s m meth c Z own bs ml ret nm R F B) {j : Fin 4} {v : Value} (hd : decode bs pc = .ok (.astore_n j, 1)) (hv : v.isRef = true) (hl : storeLocals Ls j.val v = some Ls') (hp : pc + 1 = pc') (H : Go p l e R s m args below meth c n0 Q F B h k n (mkF m pc' Ls' st)) : Go p l e R s m args below meth c n0 Q F B h k n (mkF m pc Ls (v :: st)) := by
  subst hp
  exact H.by fun T _ X _ t q => XS.astoreN X.here K.cx rfl (hb K.cb hd) rfl hv hl q
theorem Go.iconst (K : Ctx p s m meth c Z own bs ml ret nm R F B) {i : Int} {v : Int32} (hd : decode bs pc = .ok (.iconst i, 1)) (hv : Int32.ofInt i = v) (hp : pc + 1 = pc') (H : Go p l e R s m args below meth c n0 Q F B h k n (mkF m pc' Ls (.int v :: st))) : Go p l e R s m args below meth c n0 Q F B h k n (mkF m pc Ls st) := by
  subst hp hv
  exact H.by fun T _ X _ t q => XS.iconst X.here K.cx rfl (hb K.cb hd) q
theorem Go.bipush (K : Ctx p s m meth c Z own bs ml ret nm R F B) {i : Int} {v : Int32} (hd : decode bs pc = .ok (.bipush i, 2)) (hv : (Int8.ofInt i).toInt32 = v) (hp : pc + 2 = pc') (H : Go p l e R s m args below meth c n0 Q F B h k n (mkF m pc' Ls (.int v :: st))) : Go p l e R s m args below meth c n0 Q F B h k n (mkF m pc Ls st) := by
  subst hp hv
  exact H.by fun T _ X _ t q => XS.bipush X.here K.cx rfl (hb K.cb hd) q
theorem Go.sipush (K : Ctx p s m meth c Z own bs ml ret nm R F B) {i : Int} {v : Int32} (hd : decode bs pc = .ok (.sipush i, 3)) (hv : (Int16.ofInt i).toInt32 = v) (hp : pc + 3 = pc') (H : Go p l e R s m args below meth c n0 Q F B h k n (mkF m pc' Ls (.int v :: st))) : Go p l e R s m args below meth c n0 Q F B h k n (mkF m pc Ls st) := by
  subst hp hv
  exact H.by fun T _ X _ t q => XS.sipush X.here K.cx rfl (hb K.cb hd) q
theorem Go.aconstNull (K : Ctx p s m meth c Z own bs ml ret nm R F B) (hd : decode bs pc = .ok (.aconst_null, 1)) (hp : pc + 1 = pc') (H : Go p l e R s m args below meth c n0 Q F B h k n (mkF m pc' Ls (.null :: st))) : Go p l e R s m args below meth c n0 Q F B h k n (mkF m pc Ls st) := by
  subst hp
  exact H.by fun T _ X _ t q => XS.aconstNull X.here K.cx rfl (hb K.cb hd) q
theorem Go.lconst (K : Ctx p s m meth c Z own bs ml ret nm R F B) {j : Fin 2} {v : Int64} (hd : decode bs pc = .ok (.lconst j, 1)) (hv : Int64.ofNat j = v) (hp : pc + 1 = pc') (H : Go p l e R s m args below meth c n0 Q F B h k n (mkF m pc' Ls (.long v :: st))) : Go p l e R s m args below meth c n0 Q F B h k n (mkF m pc Ls st) := by
  subst hp hv
  exact H.by fun T _ X _ t q => XS.lconst X.here K.cx rfl (hb K.cb hd) q
theorem Go.ldcInt (K : Ctx p s m meth c Z own bs ml ret nm R F B) {j : Nat} {v : Int32} (w : (Jvm.Cond.constant own j v).before args s = true) (hd : decode bs pc = .ok (.ldc j, 2)) (hp : pc + 2 = pc') (H : Go p l e R s m args below meth c n0 Q F B h k n (mkF m pc' Ls (.int v :: st))) : Go p l e R s m args below meth c n0 Q F B h k n (mkF m pc Ls st) := by
  subst hp
  exact H.by fun T _ X _ t q => X.ldcInt K.cx K.co w (g := mkF m pc Ls st) rfl (hb K.cb hd) t q
theorem Go.ldcLong (K : Ctx p s m meth c Z own bs ml ret nm R F B) {j : Nat} {v : Int64} (w : (Jvm.Cond.constantLong own j v).before args s = true) (hd : decode bs pc = .ok (.ldc2_w j, 3)) (hp : pc + 3 = pc') (H : Go p l e R s m args below meth c n0 Q F B h k n (mkF m pc' Ls (.long v :: st))) : Go p l e R s m args below meth c n0 Q F B h k n (mkF m pc Ls st) := by
  subst hp
  exact H.by fun T _ X _ t q => X.ldc2Long K.cx K.co w (g := mkF m pc Ls st) rfl (hb K.cb hd) t q
theorem Go.ldcR (K : Ctx p s m meth c Z own bs ml ret nm R F B) {j : Nat} {a : Addr} {text : String} (w : (Jvm.Cond.stringRef own j text).before a0 Z = true) (L : Lit Z own j a) (hd : decode bs pc = .ok (.ldc j, 2)) (hp : pc + 2 = pc') (H : Go p l e R s m args below meth c n0 Q F B h k n (mkF m pc' Ls (.ref a :: st))) : Go p l e R s m args below meth c n0 Q F B h k n (mkF m pc Ls st) := by
  subst hp
  exact H.by fun T _ X _ t q => Jvm.RoadKit.ldcR X K.cx K.cz K.co w L (g := mkF m pc Ls st) rfl (hb K.cb hd) t q
theorem Go.iadd (K : Ctx p s m meth c Z own bs ml ret nm R F B) {x y : Int32} (hd : decode bs pc = .ok (.iadd, 1)) (hp : pc + 1 = pc') (H : Go p l e R s m args below meth c n0 Q F B h k n (mkF m pc' Ls (.int (x + y) :: st))) : Go p l e R s m args below meth c n0 Q F B h k n (mkF m pc Ls (.int y :: .int x :: st)) := by
  subst hp
  exact H.by fun T _ X _ t q => XS.iadd X.here K.cx rfl (hb K.cb hd) rfl q
theorem Go.isub (K : Ctx p s m meth c Z own bs ml ret nm R F B) {x y : Int32} (hd : decode bs pc = .ok (.isub, 1)) (hp : pc + 1 = pc') (H : Go p l e R s m args below meth c n0 Q F B h k n (mkF m pc' Ls (.int (x - y) :: st))) : Go p l e R s m args below meth c n0 Q F B h k n (mkF m pc Ls (.int y :: .int x :: st)) := by
  subst hp
  exact H.by fun T _ X _ t q => XS.isub X.here K.cx rfl (hb K.cb hd) rfl q
theorem Go.imul (K : Ctx p s m meth c Z own bs ml ret nm R F B) {x y : Int32} (hd : decode bs pc = .ok (.imul, 1)) (hp : pc + 1 = pc') (H : Go p l e R s m args below meth c n0 Q F B h k n (mkF m pc' Ls (.int (x * y) :: st))) : Go p l e R s m args below meth c n0 Q F B h k n (mkF m pc Ls (.int y :: .int x :: st)) := by
  subst hp
  exact H.by fun T _ X _ t q => XS.imul X.here K.cx rfl (hb K.cb hd) rfl q
theorem Go.iand (K : Ctx p s m meth c Z own bs ml ret nm R F B) {x y : Int32} (hd : decode bs pc = .ok (.iand, 1)) (hp : pc + 1 = pc') (H : Go p l e R s m args below meth c n0 Q F B h k n (mkF m pc' Ls (.int (x &&& y) :: st))) : Go p l e R s m args below meth c n0 Q F B h k n (mkF m pc Ls (.int y :: .int x :: st)) := by
  subst hp
  exact H.by fun T _ X _ t q => XS.iand X.here K.cx rfl (hb K.cb hd) rfl q
theorem Go.ior (K : Ctx p s m meth c Z own bs ml ret nm R F B) {x y : Int32} (hd : decode bs pc = .ok (.ior, 1)) (hp : pc + 1 = pc') (H : Go p l e R s m args below meth c n0 Q F B h k n (mkF m pc' Ls (.int (x ||| y) :: st))) : Go p l e R s m args below meth c n0 Q F B h k n (mkF m pc Ls (.int y :: .int x :: st)) := by
  subst hp
  exact H.by fun T _ X _ t q => XS.ior X.here K.cx rfl (hb K.cb hd) rfl q
theorem Go.ixor (K : Ctx p s m meth c Z own bs ml ret nm R F B) {x y : Int32} (hd : decode bs pc = .ok (.ixor, 1)) (hp : pc + 1 = pc') (H : Go p l e R s m args below meth c n0 Q F B h k n (mkF m pc' Ls (.int (x ^^^ y) :: st))) : Go p l e R s m args below meth c n0 Q F B h k n (mkF m pc Ls (.int y :: .int x :: st)) := by
  subst hp
  exact H.by fun T _ X _ t q => XS.ixor X.here K.cx rfl (hb K.cb hd) rfl q
theorem Go.ishl (K : Ctx p s m meth c Z own bs ml ret nm R F B) {x y : Int32} (hd : decode bs pc = .ok (.ishl, 1)) (hp : pc + 1 = pc') (H : Go p l e R s m args below meth c n0 Q F B h k n (mkF m pc' Ls (.int (x <<< (y &&& 31)) :: st))) : Go p l e R s m args below meth c n0 Q F B h k n (mkF m pc Ls (.int y :: .int x :: st)) := by
  subst hp
  exact H.by fun T _ X _ t q => XS.ishl X.here K.cx rfl (hb K.cb hd) rfl q
theorem Go.ishr (K : Ctx p s m meth c Z own bs ml ret nm R F B) {x y : Int32} (hd : decode bs pc = .ok (.ishr, 1)) (hp : pc + 1 = pc') (H : Go p l e R s m args below meth c n0 Q F B h k n (mkF m pc' Ls (.int (x >>> (y &&& 31)) :: st))) : Go p l e R s m args below meth c n0 Q F B h k n (mkF m pc Ls (.int y :: .int x :: st)) := by
  subst hp
  exact H.by fun T _ X _ t q => XS.ishr X.here K.cx rfl (hb K.cb hd) rfl q
theorem Go.iushr (K : Ctx p s m meth c Z own bs ml ret nm R F B) {x y : Int32} (hd : decode bs pc = .ok (.iushr, 1)) (hp : pc + 1 = pc') (H : Go p l e R s m args below meth c n0 Q F B h k n (mkF m pc' Ls (.int ((x.toUInt32 >>> (y &&& 31).toUInt32).toInt32) :: st))) : Go p l e R s m args below meth c n0 Q F B h k n (mkF m pc Ls (.int y :: .int x :: st)) := by
  subst hp
  exact H.by fun T _ X _ t q => XS.iushr X.here K.cx rfl (hb K.cb hd) rfl q
theorem Go.idiv (K : Ctx p s m meth c Z own bs ml ret nm R F B) {x y : Int32} (hd : decode bs pc = .ok (.idiv, 1)) (hy : y ≠ 0) (hp : pc + 1 = pc') (H : Go p l e R s m args below meth c n0 Q F B h k n (mkF m pc' Ls (.int (x / y) :: st))) : Go p l e R s m args below meth c n0 Q F B h k n (mkF m pc Ls (.int y :: .int x :: st)) := by
  subst hp
  exact H.by fun T _ X _ t q => XS.idiv X.here K.cx rfl (hb K.cb hd) rfl hy q
theorem Go.irem (K : Ctx p s m meth c Z own bs ml ret nm R F B) {x y : Int32} (hd : decode bs pc = .ok (.irem, 1)) (hy : y ≠ 0) (hp : pc + 1 = pc') (H : Go p l e R s m args below meth c n0 Q F B h k n (mkF m pc' Ls (.int (x % y) :: st))) : Go p l e R s m args below meth c n0 Q F B h k n (mkF m pc Ls (.int y :: .int x :: st)) := by
  subst hp
  exact H.by fun T _ X _ t q => iremM X K.cx rfl (hb K.cb hd) rfl hy q
theorem Go.ladd (K : Ctx p s m meth c Z own bs ml ret nm R F B) {x y : Int64} (hd : decode bs pc = .ok (.ladd, 1)) (hp : pc + 1 = pc') (H : Go p l e R s m args below meth c n0 Q F B h k n (mkF m pc' Ls (.long (x + y) :: st))) : Go p l e R s m args below meth c n0 Q F B h k n (mkF m pc Ls (.long y :: .long x :: st)) := by
  subst hp
  exact H.by fun T _ X _ t q => XS.ladd X.here K.cx rfl (hb K.cb hd) rfl q
theorem Go.lsub (K : Ctx p s m meth c Z own bs ml ret nm R F B) {x y : Int64} (hd : decode bs pc = .ok (.lsub, 1)) (hp : pc + 1 = pc') (H : Go p l e R s m args below meth c n0 Q F B h k n (mkF m pc' Ls (.long (x - y) :: st))) : Go p l e R s m args below meth c n0 Q F B h k n (mkF m pc Ls (.long y :: .long x :: st)) := by
  subst hp
  exact H.by fun T _ X _ t q => XS.lsub X.here K.cx rfl (hb K.cb hd) rfl q
theorem Go.land (K : Ctx p s m meth c Z own bs ml ret nm R F B) {x y : Int64} (hd : decode bs pc = .ok (.land, 1)) (hp : pc + 1 = pc') (H : Go p l e R s m args below meth c n0 Q F B h k n (mkF m pc' Ls (.long (x &&& y) :: st))) : Go p l e R s m args below meth c n0 Q F B h k n (mkF m pc Ls (.long y :: .long x :: st)) := by
  subst hp
  exact H.by fun T _ X _ t q => XS.land X.here K.cx rfl (hb K.cb hd) rfl q
theorem Go.lor (K : Ctx p s m meth c Z own bs ml ret nm R F B) {x y : Int64} (hd : decode bs pc = .ok (.lor, 1)) (hp : pc + 1 = pc') (H : Go p l e R s m args below meth c n0 Q F B h k n (mkF m pc' Ls (.long (x ||| y) :: st))) : Go p l e R s m args below meth c n0 Q F B h k n (mkF m pc Ls (.long y :: .long x :: st)) := by
  subst hp
  exact H.by fun T _ X _ t q => XS.lor X.here K.cx rfl (hb K.cb hd) rfl q
theorem Go.lcmp (K : Ctx p s m meth c Z own bs ml ret nm R F B) {x y : Int64} (hd : decode bs pc = .ok (.lcmp, 1)) (hp : pc + 1 = pc') (H : Go p l e R s m args below meth c n0 Q F B h k n (mkF m pc' Ls (.int (lcmpW x y) :: st))) : Go p l e R s m args below meth c n0 Q F B h k n (mkF m pc Ls (.long y :: .long x :: st)) := by
  subst hp
  exact H.by fun T _ X _ t q => XS.lcmp X.here K.cx rfl (hb K.cb hd) rfl q
theorem Go.i2c (K : Ctx p s m meth c Z own bs ml ret nm R F B) {x : Int32} (hd : decode bs pc = .ok (.i2c, 1)) (hp : pc + 1 = pc') (H : Go p l e R s m args below meth c n0 Q F B h k n (mkF m pc' Ls (.int (x.toUInt32.toUInt16.toUInt32.toInt32) :: st))) : Go p l e R s m args below meth c n0 Q F B h k n (mkF m pc Ls (.int x :: st)) := by
  subst hp
  exact H.by fun T _ X _ t q => XS.i2c X.here K.cx rfl (hb K.cb hd) rfl q
theorem Go.i2b (K : Ctx p s m meth c Z own bs ml ret nm R F B) {x : Int32} (hd : decode bs pc = .ok (.i2b, 1)) (hp : pc + 1 = pc') (H : Go p l e R s m args below meth c n0 Q F B h k n (mkF m pc' Ls (.int (x.toInt8.toInt32) :: st))) : Go p l e R s m args below meth c n0 Q F B h k n (mkF m pc Ls (.int x :: st)) := by
  subst hp
  exact H.by fun T _ X _ t q => XS.i2b X.here K.cx rfl (hb K.cb hd) rfl q
theorem Go.i2l (K : Ctx p s m meth c Z own bs ml ret nm R F B) {x : Int32} (hd : decode bs pc = .ok (.i2l, 1)) (hp : pc + 1 = pc') (H : Go p l e R s m args below meth c n0 Q F B h k n (mkF m pc' Ls (.long (x.toInt64) :: st))) : Go p l e R s m args below meth c n0 Q F B h k n (mkF m pc Ls (.int x :: st)) := by
  subst hp
  exact H.by fun T _ X _ t q => XS.i2l X.here K.cx rfl (hb K.cb hd) rfl q
theorem Go.ineg (K : Ctx p s m meth c Z own bs ml ret nm R F B) {x : Int32} (hd : decode bs pc = .ok (.ineg, 1)) (hp : pc + 1 = pc') (H : Go p l e R s m args below meth c n0 Q F B h k n (mkF m pc' Ls (.int (-x) :: st))) : Go p l e R s m args below meth c n0 Q F B h k n (mkF m pc Ls (.int x :: st)) := by
  subst hp
  exact H.by fun T _ X _ t q => XS.ineg X.here K.cx rfl (hb K.cb hd) rfl q
theorem Go.dup (K : Ctx p s m meth c Z own bs ml ret nm R F B) {v : Value} (hd : decode bs pc = .ok (.dup, 1)) (hc : v.category = 1) (hp : pc + 1 = pc') (H : Go p l e R s m args below meth c n0 Q F B h k n (mkF m pc' Ls (v :: v :: st))) : Go p l e R s m args below meth c n0 Q F B h k n (mkF m pc Ls (v :: st)) := by
  subst hp
  exact H.by fun T _ X _ t q => XS.dup X.here K.cx rfl (hb K.cb hd) rfl hc q
theorem Go.pop (K : Ctx p s m meth c Z own bs ml ret nm R F B) {v : Value} (hd : decode bs pc = .ok (.pop, 1)) (hc : v.category = 1) (hp : pc + 1 = pc') (H : Go p l e R s m args below meth c n0 Q F B h k n (mkF m pc' Ls st)) : Go p l e R s m args below meth c n0 Q F B h k n (mkF m pc Ls (v :: st)) := by
  subst hp
  exact H.by fun T _ X _ t q => XS.pop X.here K.cx rfl (hb K.cb hd) rfl hc q
theorem Go.iinc (K : Ctx p s m meth c Z own bs ml ret nm R F B) {j : Nat} {cst : Int} {x : Int32} (hd : decode bs pc = .ok (.iinc j cst, 3)) (hl : Ls[j]? = some (.val (.int x))) (hl' : storeLocals Ls j (.int (x + Int32.ofInt cst)) = some Ls') (hp : pc + 3 = pc') (H : Go p l e R s m args below meth c n0 Q F B h k n (mkF m pc' Ls' st)) : Go p l e R s m args below meth c n0 Q F B h k n (mkF m pc Ls st) := by
  subst hp
  exact H.by fun T _ X _ t q => XS.iinc X.here K.cx rfl (hb K.cb hd) hl hl' q
theorem Go.goto (K : Ctx p s m meth c Z own bs ml ret nm R F B) {o : Int} (hd : decode bs pc = .ok (.goto o, 3)) (ho : 0 ≤ (pc : Int) + o) (hp : ((pc : Int) + o).toNat = pc') (H : Go p l e R s m args below meth c n0 Q F B h k n (mkF m pc' Ls st)) : Go p l e R s m args below meth c n0 Q F B h k n (mkF m pc Ls st) :=
  H.by fun T _ X _ t q => XS.goto X.here K.cx rfl rfl (hb K.cb hd) ho hp q
/-- a comparison as a proposition -/
def CmpP : ClassFile.Cond → Int32 → Int32 → Prop
  | .eq, x, y => x = y
  | .ne, x, y => ¬ x = y
  | .lt, x, y => x < y
  | .ge, x, y => ¬ x < y
  | .gt, x, y => y < x
  | .le, x, y => ¬ y < x
theorem cmp_holds (cd : ClassFile.Cond) (x y : Int32) : (if_icmp.holds cd x y = true → CmpP cd x y) ∧ (if_icmp.holds cd x y = false → ¬ CmpP cd x y) := by
  cases cd <;> simp only [CmpP]
  · by_cases h : x = y
    · exact ⟨fun _ => h, fun q => (by rw [(teq h).1] at q; cases q)⟩
    · exact ⟨fun q => (by rw [(feq h).1] at q; cases q), fun _ => h⟩
  · by_cases h : x = y
    · exact ⟨fun q => (by rw [(teq h).2] at q; cases q), fun _ q => q h⟩
    · exact ⟨fun _ => h, fun q => (by rw [(feq h).2] at q; cases q)⟩
  · by_cases h : x < y
    · exact ⟨fun _ => h, fun q => (by rw [(tlt h).1] at q; cases q)⟩
    · exact ⟨fun q => (by rw [(flt h).1] at q; cases q), fun _ => h⟩
  · by_cases h : x < y
    · exact ⟨fun q => (by rw [(tlt h).2.1] at q; cases q), fun _ q => q h⟩
    · exact ⟨fun _ => h, fun q => (by rw [(flt h).2.1] at q; cases q)⟩
  · by_cases h : y < x
    · exact ⟨fun _ => h, fun q => (by rw [(tlt h).2.2.1] at q; cases q)⟩
    · exact ⟨fun q => (by rw [(flt h).2.2.1] at q; cases q), fun _ => h⟩
  · by_cases h : y < x
    · exact ⟨fun q => (by rw [(tlt h).2.2.2] at q; cases q), fun _ q => q h⟩
    · exact ⟨fun _ => h, fun q => (by rw [(flt h).2.2.2] at q; cases q)⟩
theorem Go.icmp (K : Ctx p s m meth c Z own bs ml ret nm R F B) {cd : ClassFile.Cond} {x y : Int32} {o : Int} {pcT pcF : Nat} (hd : decode bs pc = .ok (.if_icmp cd o, 3)) (ho : 0 ≤ (pc : Int) + o) (hT : ((pc : Int) + o).toNat = pcT) (hF : pc + 3 = pcF)
    (HT : CmpP cd x y → Go p l e R s m args below meth c n0 Q F B h k n (mkF m pcT Ls st)) (HF : ¬ CmpP cd x y → Go p l e R s m args below meth c n0 Q F B h k n (mkF m pcF Ls st)) : Go p l e R s m args below meth c n0 Q F B h k n (mkF m pc Ls (.int y :: .int x :: st)) := by
  subst hF
  cases q : if_icmp.holds cd x y with
  | true => exact (HT ((cmp_holds cd x y).1 q)).by fun T _ X _ t r => XS.icmpYes X.here K.cx rfl rfl (hb K.cb hd) rfl q ho hT r
  | false => exact (HF ((cmp_holds cd x y).2 q)).by fun T _ X _ t r => XS.icmpNo X.here K.cx rfl (hb K.cb hd) rfl q r
theorem Go.ifc (K : Ctx p s m meth c Z own bs ml ret nm R F B) {cd : ClassFile.Cond} {x : Int32} {o : Int} {pcT pcF : Nat} (hd : decode bs pc = .ok (.ifCond cd o, 3)) (ho : 0 ≤ (pc : Int) + o) (hT : ((pc : Int) + o).toNat = pcT) (hF : pc + 3 = pcF)
    (HT : CmpP cd x 0 → Go p l e R s m args below meth c n0 Q F B h k n (mkF m pcT Ls st)) (HF : ¬ CmpP cd x 0 → Go p l e R s m args below meth c n0 Q F B h k n (mkF m pcF Ls st)) : Go p l e R s m args below meth c n0 Q F B h k n (mkF m pc Ls (.int x :: st)) := by
  subst hF
  cases q : if_icmp.holds cd x 0 with
  | true => exact (HT ((cmp_holds cd x 0).1 q)).by fun T _ X _ t r => XS.ifYes X.here K.cx rfl rfl (hb K.cb hd) rfl ((if0 _ _).trans q) ho hT r
  | false => exact (HF ((cmp_holds cd x 0).2 q)).by fun T _ X _ t r => XS.ifNo X.here K.cx rfl (hb K.cb hd) rfl ((if0 _ _).trans q) r
theorem Go.ifnullN (K : Ctx p s m meth c Z own bs ml ret nm R F B) {o : Int} (hd : decode bs pc = .ok (.ifnull o, 3)) (ho : 0 ≤ (pc : Int) + o) (hT : ((pc : Int) + o).toNat = pc') (H : Go p l e R s m args below meth c n0 Q F B h k n (mkF m pc' Ls st)) : Go p l e R s m args below meth c n0 Q F B h k n (mkF m pc Ls (.null :: st)) :=
  H.by fun T _ X _ t r => XS.ifnullYes X.here K.cx rfl rfl (hb K.cb hd) rfl ho hT r
theorem Go.ifnullR (K : Ctx p s m meth c Z own bs ml ret nm R F B) {o : Int} {a : Addr} (hd : decode bs pc = .ok (.ifnull o, 3)) (hp : pc + 3 = pc') (H : Go p l e R s m args below meth c n0 Q F B h k n (mkF m pc' Ls st)) : Go p l e R s m args below meth c n0 Q F B h k n (mkF m pc Ls (.ref a :: st)) := by
  subst hp
  exact H.by fun T _ X _ t r => XS.ifnullNo X.here K.cx rfl (hb K.cb hd) rfl r
theorem Go.ifnonnullR (K : Ctx p s m meth c Z own bs ml ret nm R F B) {o : Int} {a : Addr} (hd : decode bs pc = .ok (.ifnonnull o, 3)) (ho : 0 ≤ (pc : Int) + o) (hT : ((pc : Int) + o).toNat = pc') (H : Go p l e R s m args below meth c n0 Q F B h k n (mkF m pc' Ls st)) : Go p l e R s m args below meth c n0 Q F B h k n (mkF m pc Ls (.ref a :: st)) :=
  H.by fun T _ X _ t r => XS.ifnonnullYes X.here K.cx rfl rfl (hb K.cb hd) rfl ho hT r
theorem Go.ifnonnullN (K : Ctx p s m meth c Z own bs ml ret nm R F B) {o : Int} (hd : decode bs pc = .ok (.ifnonnull o, 3)) (hp : pc + 3 = pc') (H : Go p l e R s m args below meth c n0 Q F B h k n (mkF m pc' Ls st)) : Go p l e R s m args below meth c n0 Q F B h k n (mkF m pc Ls (.null :: st)) := by
  subst hp
  exact H.by fun T _ X _ t r => XS.ifnonnullNo X.here K.cx rfl (hb K.cb hd) rfl r
/-- if_acmp whose answer is known -/
theorem Go.acmp (K : Ctx p s m meth c Z own bs ml ret nm R F B) {cd : ACond} {x y : Value} {o : Int} {same : Bool} (hd : decode bs pc = .ok (.if_acmp cd o, 3)) (h1 : x.isRef = true) (h2 : y.isRef = true) (hq : decide (x = y) = same) (ho : 0 ≤ (pc : Int) + o) (hp : pc' = if acV cd same = true then ((pc : Int) + o).toNat else pc + 3)
    (H : Go p l e R s m args below meth c n0 Q F B h k n (mkF m pc' Ls st)) : Go p l e R s m args below meth c n0 Q F B h k n (mkF m pc Ls (y :: x :: st)) :=
  H.by fun T _ X _ t r => Jvm.RoadKit.acmp (g := mkF m pc Ls (y :: x :: st)) X K.cx rfl h1 h2 rfl (hb K.cb hd) rfl hq ho hp r
theorem Go.cast {g g' : JFrame} (q : g = g') (H : Go p l e R s m args below meth c n0 Q F B h k n g') : Go p l e R s m args below meth c n0 Q F B h k n g := q ▸ H
/-! the heap -/
theorem Go.getF (K : Ctx p s m meth c Z own bs ml ret nm R F B) {R0 O f d host : String} {j : Nat} {a : Addr} {v : Value} (w : (Jvm.Cond.fieldLink own j R0 f d).before a0 Z = true ∨ (Jvm.Cond.fieldLinkNest own j R0 f d host).before a0 Z = true) (via : Via Z R0 O f d) (Fa : Fld Z h a O f d v) (hd : decode bs pc = .ok (.getfield j, 3)) (hp : pc + 3 = pc')
    (H : Go p l e R s m args below meth c n0 Q F B h k n (mkF m pc' Ls (v :: st))) : Go p l e R s m args below meth c n0 Q F B h k n (mkF m pc Ls (.ref a :: st)) := by
  subst hp
  intro T locs X eT N hB
  obtain ⟨T', X', e', q⟩ := Jvm.RoadKit.getF X K.cx K.cz K.co w via eT Fa (g := mkF m pc Ls (.ref a :: st)) rfl rfl (hb K.cb hd)
  obtain ⟨s₂, o, r1, r2⟩ := H T' locs X' e' N hB
  exact ⟨s₂, o, q _ r1, r2⟩
theorem Go.getS (K : Ctx p s m meth c Z own bs ml ret nm R F B) {R0 O f d host : String} {j : Nat} {v : Value} (w : (Jvm.Cond.fieldLink own j R0 f d).before a0 Z = true ∨ (Jvm.Cond.fieldLinkNest own j R0 f d host).before a0 Z = true) (via : Via Z R0 O f d) (Fa : Sta Z h O f d v) (hd : decode bs pc = .ok (.getstatic j, 3)) (hp : pc + 3 = pc')
    (H : Go p l e R s m args below meth c n0 Q F B h k n (mkF m pc' Ls (v :: st))) : Go p l e R s m args below meth c n0 Q F B h k n (mkF m pc Ls st) := by
  subst hp
  intro T locs X eT N hB
  obtain ⟨T', X', e', q⟩ := Jvm.RoadKit.getS2 X K.cx K.cz K.co w via eT Fa (g := mkF m pc Ls st) rfl (hb K.cb hd)
  obtain ⟨s₂, o, r1, r2⟩ := H T' locs X' e' N hB
  exact ⟨s₂, o, q _ r1, r2⟩
theorem Go.putF (K : Ctx p s m meth c Z own bs ml ret nm R F B) {R0 O f d host C : String} {j kk : Nat} {ty : FieldType} {a : Addr} {v old : Value} (w : (Jvm.Cond.fieldLink own j R0 f d).before a0 Z = true ∨ (Jvm.Cond.fieldLinkNest own j R0 f d host).before a0 Z = true) (via : Via Z R0 O f d) (Fa : Fld Z h a O f d old) (E : Exa Z h a C)
    (L : (Jvm.Cond.lays C O f d).before a0 Z = true ∨ ((Jvm.Cond.laysFinal C O f d).before a0 Z = true ∧ own = O ∧ nm = "<init>")) (wi : (Jvm.Cond.instantiable C kk).before a0 Z = true) (hty : parseFieldDescriptor d = some ty) (hn : narrow ty v = v) (hf : fits ty v = true) (ha : n0 ≤ a) (hd : decode bs pc = .ok (.putfield j, 3)) (hp : pc + 3 = pc')
    (H : ∀ h', Wr h h' a (Jvm.RoadKit.slotOf Z O f d) v → Fld Z h' a O f d v → Go p l e R s m args below meth c n0 Q F B h' k n (mkF m pc' Ls st)) : Go p l e R s m args below meth c n0 Q F B h k n (mkF m pc Ls (v :: .ref a :: st)) := by
  subst hp
  intro T locs X eT N hB
  obtain ⟨T', h', X', e', W, q⟩ := Jvm.RoadKit.putF X K.cx K.cz K.co w via eT Fa E (L.imp id fun r => ⟨r.1, r.2.1, K.cn.trans r.2.2⟩) wi hty hn hf (g := mkF m pc Ls (v :: .ref a :: st)) rfl rfl (hb K.cb hd)
  obtain ⟨s₂, o, r1, r2⟩ := H h' W (Fa.same W) T' _ X' e' (Fr.snoc X' N ha) (Nat.le_trans hB (Keep.of_wr W).1)
  exact ⟨s₂, o, q _ r1, r2⟩
theorem Go.putFN (K : Ctx p s m meth c Z own bs ml ret nm R F B) {R0 O f d C : String} {j kk : Nat} {ty : FieldType} {a : Addr} {v v' old : Value} (w : (Jvm.Cond.fieldLink own j R0 f d).before a0 Z = true) (via : Via Z R0 O f d) (Fa : Fld Z h a O f d old) (E : Exa Z h a C)
    (L : (Jvm.Cond.lays C O f d).before a0 Z = true ∨ ((Jvm.Cond.laysFinal C O f d).before a0 Z = true ∧ own = O ∧ nm = "<init>")) (wi : (Jvm.Cond.instantiable C kk).before a0 Z = true) (hty : parseFieldDescriptor d = some ty) (hn : narrow ty v = v') (hf : fits ty v' = true) (ha : n0 ≤ a) (hd : decode bs pc = .ok (.putfield j, 3)) (hp : pc + 3 = pc')
    (H : ∀ h', Wr h h' a (Jvm.RoadKit.slotOf Z O f d) v' → Fld Z h' a O f d v' → Go p l e R s m args below meth c n0 Q F B h' k n (mkF m pc' Ls st)) : Go p l e R s m args below meth c n0 Q F B h k n (mkF m pc Ls (v :: .ref a :: st)) := by
  subst hp
  intro T locs X eT N hB
  obtain ⟨T', h', X', e', W, q⟩ := Jvm.RoadKit.putFN X K.cx K.cz K.co w via eT Fa E (L.imp id fun r => ⟨r.1, r.2.1, K.cn.trans r.2.2⟩) wi hty hn hf (g := mkF m pc Ls (v :: .ref a :: st)) rfl rfl (hb K.cb hd)
  obtain ⟨s₂, o, r1, r2⟩ := H h' W (Fa.same W) T' _ X' e' (Fr.snoc X' N ha) (Nat.le_trans hB (Keep.of_wr W).1)
  exact ⟨s₂, o, q _ r1, r2⟩
theorem Go.newO (K : Ctx p s m meth c Z own bs ml ret nm R F B) {C : String} {j i : Nat} (w : (Jvm.Cond.classLink own j C).before a0 Z = true) (wi : (Jvm.Cond.instantiable C i).before a0 Z = true) (wz : (Jvm.Cond.initialized C).before a0 Z = true) (hc : k + 1 ≤ R.cells) (hl : n + i ≤ R.slots) (hd : decode bs pc = .ok (.new j, 3)) (hp : pc + 3 = pc')
    (H : ∀ h' a, a = h.size → Ext h h' → Exa Z h' a C → (∀ {O f d : String} {ty : FieldType}, Laid Z a0 C O f d → parseFieldDescriptor d = some ty → Fld Z h' a O f d (defaultValue ty)) → Go p l e R s m args below meth c n0 Q F B h' (k + 1) (n + i) (mkF m pc' Ls (.ref a :: st))) : Go p l e R s m args below meth c n0 Q F B h k n (mkF m pc Ls st) := by
  subst hp
  intro T locs X eT N hB
  obtain ⟨T', h', X', e', E, A, D, -, q⟩ := Jvm.RoadKit.newO X K.cx K.cz K.co w wi wz eT (g := mkF m pc Ls st) rfl (hb K.cb hd) hc hl
  obtain ⟨s₂, o, r1, r2⟩ := H h' h.size rfl E A D T' locs X' e' N (Nat.le_trans hB E.1)
  exact ⟨s₂, o, q _ r1, r2⟩
theorem Go.newP (K : Ctx p s m meth c Z own bs ml ret nm R F B) {aty : ArrayType} {z : Int32} (w : (Jvm.Cond.arrayClass (newarray.typeOf aty)).before a0 Z = true) (hz : ¬ z < 0) (cap : Nat) (hcap : z.toNatClampNeg ≤ cap) (hb8 : cap * 8 ≤ 536870912) (hc : k + 1 ≤ R.cells) (hl : n + cap ≤ R.slots) (hd : decode bs pc = .ok (.newarray aty, 2)) (hp : pc + 2 = pc')
    (H : ∀ h' a kA, a = h.size → Ext h h' → Arv Z h' a kA (newarray.typeOf aty) z [] (defaultValue (newarray.typeOf aty)) → Go p l e R s m args below meth c n0 Q F B h' (k + 1) (n + cap) (mkF m pc' Ls (.ref a :: st))) : Go p l e R s m args below meth c n0 Q F B h k n (mkF m pc Ls (.int z :: st)) := by
  subst hp
  intro T locs X eT N hB
  obtain ⟨T', h', kA, X', e', E, A, q⟩ := Jvm.RoadKit.newP X K.cx K.cz w eT (g := mkF m pc Ls (.int z :: st)) rfl (hb K.cb hd) rfl hz hcap hb8 hc hl
  obtain ⟨s₂, o, r1, r2⟩ := H h' h.size kA rfl E (Arv.new A hz) T' locs X' e' N (Nat.le_trans hB E.1)
  exact ⟨s₂, o, q _ r1, r2⟩
theorem Go.newR (K : Ctx p s m meth c Z own bs ml ret nm R F B) {C : String} {j : Nat} {z : Int32} (w : (Jvm.Cond.classLink own j C).before a0 Z = true) (w2 : (Jvm.Cond.arrayOver (.object C)).before a0 Z = true) (hz : ¬ z < 0) (cap : Nat) (hcap : z.toNatClampNeg ≤ cap) (hb8 : cap * 8 ≤ 536870912) (hc : k + 1 ≤ R.cells) (hl : n + cap ≤ R.slots) (hd : decode bs pc = .ok (.anewarray j, 3)) (hp : pc + 3 = pc')
    (H : ∀ h' a kA, a = h.size → Ext h h' → Arv Z h' a kA (.object C) z [] .null → Ovr Z kA C → Go p l e R s m args below meth c n0 Q F B h' (k + 1) (n + cap) (mkF m pc' Ls (.ref a :: st))) : Go p l e R s m args below meth c n0 Q F B h k n (mkF m pc Ls (.int z :: st)) := by
  subst hp
  intro T locs X eT N hB
  obtain ⟨T', h', kA, X', e', E, A, O, q⟩ := Jvm.RoadKit.newR X K.cx K.cz K.co w w2 eT (g := mkF m pc Ls (.int z :: st)) rfl (hb K.cb hd) rfl hz hcap hb8 hc hl
  obtain ⟨s₂, o, r1, r2⟩ := H h' h.size kA rfl E (Arv.new A hz) O T' locs X' e' N (Nat.le_trans hB E.1)
  exact ⟨s₂, o, q _ r1, r2⟩
/-- castore at the known place i of an array whose first places are said -/
theorem Go.castore (K : Ctx p s m meth c Z own bs ml ret nm R F B) {a : Addr} {kA : ClassId} {z j x : Int32} {vs : List Value} {dv : Value} (V : Arv Z h a kA .char z vs dv) (i : Nat) (hj : j.toNatClampNeg = i) (hi : i < vs.length) (hin : ¬ j < 0 ∧ j < z) (ha : n0 ≤ a) (hd : decode bs pc = .ok (.castore, 1)) (hp : pc + 1 = pc')
    (H : ∀ h', Keep h h' [a] → Arv Z h' a kA .char z (vs.set i (.int (nar .char x))) dv → Go p l e R s m args below meth c n0 Q F B h' k n (mkF m pc' Ls st)) : Go p l e R s m args below meth c n0 Q F B h k n (mkF m pc Ls (.int x :: .int j :: .ref a :: st)) := by
  subst hp
  intro T locs X eT N hB
  obtain ⟨cl, A, q1, S, q3, Hs, G⟩ := V
  obtain ⟨T', h', X', e', W, q⟩ := stC X K.cx K.cz eT A (j := j) (inb_of S hin) (g := mkF m pc Ls (.int x :: .int j :: .ref a :: st)) rfl rfl (hb K.cb hd)
  obtain ⟨s₂, o, r1, r2⟩ := H h' (Keep.of_wr W) (Arv.set A q1 S q3 Hs G (fits_nar_char _) W i hj hi) T' _ X' e' (Fr.snoc X' N ha) (Nat.le_trans hB (Keep.of_wr W).1)
  exact ⟨s₂, o, q _ r1, r2⟩
theorem Go.iastore (K : Ctx p s m meth c Z own bs ml ret nm R F B) {a : Addr} {kA : ClassId} {z j x : Int32} {vs : List Value} {dv : Value} (V : Arv Z h a kA .int z vs dv) (i : Nat) (hj : j.toNatClampNeg = i) (hi : i < vs.length) (hin : ¬ j < 0 ∧ j < z) (ha : n0 ≤ a) (hd : decode bs pc = .ok (.iastore, 1)) (hp : pc + 1 = pc')
    (H : ∀ h', Keep h h' [a] → Arv Z h' a kA .int z (vs.set i (.int x)) dv → Go p l e R s m args below meth c n0 Q F B h' k n (mkF m pc' Ls st)) : Go p l e R s m args below meth c n0 Q F B h k n (mkF m pc Ls (.int x :: .int j :: .ref a :: st)) := by
  subst hp
  intro T locs X eT N hB
  obtain ⟨cl, A, q1, S, q3, Hs, G⟩ := V
  obtain ⟨T', h', X', e', W, q⟩ := stI X K.cx K.cz eT A (j := j) (inb_of S hin) (g := mkF m pc Ls (.int x :: .int j :: .ref a :: st)) rfl rfl (hb K.cb hd)
  obtain ⟨s₂, o, r1, r2⟩ := H h' (Keep.of_wr W) (Arv.set A q1 S q3 Hs G rfl W i hj hi) T' _ X' e' (Fr.snoc X' N ha) (Nat.le_trans hB (Keep.of_wr W).1)
  exact ⟨s₂, o, q _ r1, r2⟩
theorem Go.bastore (K : Ctx p s m meth c Z own bs ml ret nm R F B) {a : Addr} {kA : ClassId} {z j x : Int32} {vs : List Value} {dv : Value} (V : Arv Z h a kA .byte z vs dv) (i : Nat) (hj : j.toNatClampNeg = i) (hi : i < vs.length) (hin : ¬ j < 0 ∧ j < z) (ha : n0 ≤ a) (hd : decode bs pc = .ok (.bastore, 1)) (hp : pc + 1 = pc')
    (H : ∀ h', Keep h h' [a] → Arv Z h' a kA .byte z (vs.set i (.int (nar .byte x))) dv → Go p l e R s m args below meth c n0 Q F B h' k n (mkF m pc' Ls st)) : Go p l e R s m args below meth c n0 Q F B h k n (mkF m pc Ls (.int x :: .int j :: .ref a :: st)) := by
  subst hp
  intro T locs X eT N hB
  obtain ⟨cl, A, q1, S, q3, Hs, G⟩ := V
  obtain ⟨T', h', X', e', W, q⟩ := stB X K.cx K.cz eT A (j := j) (inb_of S hin) (g := mkF m pc Ls (.int x :: .int j :: .ref a :: st)) rfl rfl (hb K.cb hd)
  obtain ⟨s₂, o, r1, r2⟩ := H h' (Keep.of_wr W) (Arv.set A q1 S q3 Hs G (fits_nar_byte _) W i hj hi) T' _ X' e' (Fr.snoc X' N ha) (Nat.le_trans hB (Keep.of_wr W).1)
  exact ⟨s₂, o, q _ r1, r2⟩
theorem Go.bzstore (K : Ctx p s m meth c Z own bs ml ret nm R F B) {a : Addr} {kA : ClassId} {z j x : Int32} {vs : List Value} {dv : Value} (V : Arv Z h a kA .boolean z vs dv) (i : Nat) (hj : j.toNatClampNeg = i) (hi : i < vs.length) (hin : ¬ j < 0 ∧ j < z) (ha : n0 ≤ a) (hd : decode bs pc = .ok (.bastore, 1)) (hp : pc + 1 = pc')
    (H : ∀ h', Keep h h' [a] → Arv Z h' a kA .boolean z (vs.set i (.int (nar .boolean x))) dv → Go p l e R s m args below meth c n0 Q F B h' k n (mkF m pc' Ls st)) : Go p l e R s m args below meth c n0 Q F B h k n (mkF m pc Ls (.int x :: .int j :: .ref a :: st)) := by
  subst hp
  intro T locs X eT N hB
  obtain ⟨cl, A, q1, S, q3, Hs, G⟩ := V
  obtain ⟨T', h', X', e', W, q⟩ := stZ X K.cx K.cz eT A (j := j) (inb_of S hin) (g := mkF m pc Ls (.int x :: .int j :: .ref a :: st)) rfl rfl (hb K.cb hd)
  obtain ⟨s₂, o, r1, r2⟩ := H h' (Keep.of_wr W) (Arv.set A q1 S q3 Hs G (fits_nar_bool _) W i hj hi) T' _ X' e' (Fr.snoc X' N ha) (Nat.le_trans hB (Keep.of_wr W).1)
  exact ⟨s₂, o, q _ r1, r2⟩
theorem Go.aastore (K : Ctx p s m meth c Z own bs ml ret nm R F B) {a : Addr} {kA : ClassId} {C : String} {z j : Int32} {v : Value} {vs : List Value} {dv : Value} (V : Arv Z h a kA (.object C) z vs dv) (S0 : v = .null ∨ ∃ y, v = .ref y ∧ Ovr Z kA C ∧ Ins Z h y C true) (i : Nat) (hj : j.toNatClampNeg = i) (hi : i < vs.length) (hin : ¬ j < 0 ∧ j < z) (ha : n0 ≤ a) (hd : decode bs pc = .ok (.aastore, 1)) (hp : pc + 1 = pc')
    (H : ∀ h', Keep h h' [a] → Arv Z h' a kA (.object C) z (vs.set i v) dv → Go p l e R s m args below meth c n0 Q F B h' k n (mkF m pc' Ls st)) : Go p l e R s m args below meth c n0 Q F B h k n (mkF m pc Ls (v :: .int j :: .ref a :: st)) := by
  subst hp
  intro T locs X eT N hB
  obtain ⟨cl, A, q1, S, q3, Hs, G⟩ := V
  have Fs : Sto Z h a v := by
    rcases S0 with rfl | ⟨y, rfl, O, I⟩
    · exact Or.inl rfl
    · exact Sto.ofV A q1 O I
  have hf : fits (.object C) v = true := by
    rcases S0 with rfl | ⟨y, rfl, O, I⟩ <;> rfl
  obtain ⟨T', h', X', e', W, q⟩ := stR X K.cx K.cz eT A (j := j) (inb_of S hin) rfl Fs (g := mkF m pc Ls (v :: .int j :: .ref a :: st)) rfl rfl (hb K.cb hd)
  obtain ⟨s₂, o, r1, r2⟩ := H h' (Keep.of_wr W) (Arv.set A q1 S q3 Hs G hf W i hj hi) T' _ X' e' (Fr.snoc X' N ha) (Nat.le_trans hB (Keep.of_wr W).1)
  exact ⟨s₂, o, q _ r1, r2⟩
theorem Go.arraylength (K : Ctx p s m meth c Z own bs ml ret nm R F B) {a : Addr} {kA : ClassId} {ty : FieldType} {z : Int32} {vs : List Value} {dv : Value} (V : Arv Z h a kA ty z vs dv) (hd : decode bs pc = .ok (.arraylength, 1)) (hp : pc + 1 = pc')
    (H : Go p l e R s m args below meth c n0 Q F B h k n (mkF m pc' Ls (.int z :: st))) : Go p l e R s m args below meth c n0 Q F B h k n (mkF m pc Ls (.ref a :: st)) := by
  subst hp
  obtain ⟨cl, A, q1, S, q3, Hs, G⟩ := V
  refine H.by fun T _ X eT t q => X.arraylength K.cx (by rw [eT]; exact A.1) (State.isArrayOf_alike K.cz.alike A.2.1) (g := mkF m pc Ls (.ref a :: st)) rfl rfl (hb K.cb hd) t ?_
  rw [len_of S q3]
  exact q
theorem Go.caload (K : Ctx p s m meth c Z own bs ml ret nm R F B) {a : Addr} {kA : ClassId} {z j : Int32} {vs : List Value} {dv v : Value} (V : Arv Z h a kA .char z vs dv) (hin : ¬ j < 0 ∧ j < z) (hv : vs.getD j.toNatClampNeg dv = v) (hd : decode bs pc = .ok (.caload, 1)) (hp : pc + 1 = pc')
    (H : Go p l e R s m args below meth c n0 Q F B h k n (mkF m pc' Ls (v :: st))) : Go p l e R s m args below meth c n0 Q F B h k n (mkF m pc Ls (.int j :: .ref a :: st)) := by
  subst hp
  obtain ⟨cl, A, q1, S, q3, Hs, G⟩ := V
  exact H.by fun T _ X eT t q => X.caload K.cx (by rw [eT]; exact A.1) (State.isArrayOf_alike K.cz.alike A.2.1) A.2.2 (inb_of S hin) (Hs.at (inb_of S hin) hv) (g := mkF m pc Ls (.int j :: .ref a :: st)) rfl rfl (hb K.cb hd) t q
theorem Go.iaload (K : Ctx p s m meth c Z own bs ml ret nm R F B) {a : Addr} {kA : ClassId} {z j : Int32} {vs : List Value} {dv v : Value} (V : Arv Z h a kA .int z vs dv) (hin : ¬ j < 0 ∧ j < z) (hv : vs.getD j.toNatClampNeg dv = v) (hd : decode bs pc = .ok (.iaload, 1)) (hp : pc + 1 = pc')
    (H : Go p l e R s m args below meth c n0 Q F B h k n (mkF m pc' Ls (v :: st))) : Go p l e R s m args below meth c n0 Q F B h k n (mkF m pc Ls (.int j :: .ref a :: st)) := by
  subst hp
  obtain ⟨cl, A, q1, S, q3, Hs, G⟩ := V
  exact H.by fun T _ X eT t q => X.iaload K.cx (by rw [eT]; exact A.1) (State.isArrayOf_alike K.cz.alike A.2.1) A.2.2 (inb_of S hin) (Hs.at (inb_of S hin) hv) (g := mkF m pc Ls (.int j :: .ref a :: st)) rfl rfl (hb K.cb hd) t q
theorem Go.baload (K : Ctx p s m meth c Z own bs ml ret nm R F B) {a : Addr} {kA : ClassId} {z j : Int32} {vs : List Value} {dv v : Value} (V : Arv Z h a kA .byte z vs dv) (hin : ¬ j < 0 ∧ j < z) (hv : vs.getD j.toNatClampNeg dv = v) (hd : decode bs pc = .ok (.baload, 1)) (hp : pc + 1 = pc')
    (H : Go p l e R s m args below meth c n0 Q F B h k n (mkF m pc' Ls (v :: st))) : Go p l e R s m args below meth c n0 Q F B h k n (mkF m pc Ls (.int j :: .ref a :: st)) := by
  subst hp
  obtain ⟨cl, A, q1, S, q3, Hs, G⟩ := V
  exact H.by fun T _ X eT t q => X.baloadBytes K.cx (by rw [eT]; exact A.1) (State.isArrayOf_alike K.cz.alike A.2.1) A.2.2 (inb_of S hin) (Hs.at (inb_of S hin) hv) (g := mkF m pc Ls (.int j :: .ref a :: st)) rfl rfl (hb K.cb hd) t q
theorem Go.aaload (K : Ctx p s m meth c Z own bs ml ret nm R F B) {a : Addr} {kA : ClassId} {C : String} {z j : Int32} {vs : List Value} {dv v : Value} (V : Arv Z h a kA (.object C) z vs dv) (hin : ¬ j < 0 ∧ j < z) (hv : vs.getD j.toNatClampNeg dv = v) (hd : decode bs pc = .ok (.aaload, 1)) (hp : pc + 1 = pc')
    (H : Go p l e R s m args below meth c n0 Q F B h k n (mkF m pc' Ls (v :: st))) : Go p l e R s m args below meth c n0 Q F B h k n (mkF m pc Ls (.int j :: .ref a :: st)) := by
  subst hp
  obtain ⟨cl, A, q1, S, q3, Hs, G⟩ := V
  exact H.by fun T _ X eT t q => X.aaload K.cx (by rw [eT]; exact A.1) (State.isArrayOf_alike K.cz.alike A.2.1) rfl A.2.2 (inb_of S hin) (Hs.at (inb_of S hin) hv) (g := mkF m pc Ls (.int j :: .ref a :: st)) rfl rfl (hb K.cb hd) t q
theorem Go.castY (K : Ctx p s m meth c Z own bs ml ret nm R F B) {C : String} {j : Nat} {a : Addr} (w : (Jvm.Cond.classLink own j C).before a0 Z = true) (Fa : Ins Z h a C true) (hd : decode bs pc = .ok (.checkcast j, 3)) (hp : pc + 3 = pc')
    (H : Go p l e R s m args below meth c n0 Q F B h k n (mkF m pc' Ls (.ref a :: st))) : Go p l e R s m args below meth c n0 Q F B h k n (mkF m pc Ls (.ref a :: st)) := by
  subst hp
  intro T locs X eT N hB
  obtain ⟨T', X', e', q⟩ := Jvm.RoadKit.castY X K.cx K.cz K.co w eT Fa (g := mkF m pc Ls (.ref a :: st)) rfl rfl (hb K.cb hd)
  obtain ⟨s₂, o, r1, r2⟩ := H T' locs X' e' N hB
  exact ⟨s₂, o, q _ r1, r2⟩
theorem Go.instY (K : Ctx p s m meth c Z own bs ml ret nm R F B) {C : String} {j : Nat} {a : Addr} (w : (Jvm.Cond.classLink own j C).before a0 Z = true) (Fa : Ins Z h a C true) (hd : decode bs pc = .ok (.instanceof j, 3)) (hp : pc + 3 = pc')
    (H : Go p l e R s m args below meth c n0 Q F B h k n (mkF m pc' Ls (.int 1 :: st))) : Go p l e R s m args below meth c n0 Q F B h k n (mkF m pc Ls (.ref a :: st)) := by
  subst hp
  intro T locs X eT N hB
  obtain ⟨T', X', e', q⟩ := Jvm.RoadKit.instY X K.cx K.cz K.co w eT Fa (g := mkF m pc Ls (.ref a :: st)) rfl rfl (hb K.cb hd)
  obtain ⟨s₂, o, r1, r2⟩ := H T' locs X' e' N hB
  exact ⟨s₂, o, q _ r1, r2⟩
theorem Go.initO (K : Ctx p s m meth c Z own bs ml ret nm R F B) {j : Nat} {a : Addr} (w1 : (Jvm.Cond.methodLink own j Lib.objectInit).before a0 Z = true) (w2 : (Jvm.Cond.instanceMethod Lib.objectInit).before a0 Z = true) (w3 : (Jvm.Cond.code Lib.objectInit ⟨#[0xb1]⟩ 1 none).before a0 Z = true) (hml : Ls.size = ml) (hf : 1 ≤ R.frames) (W : Nat) (hW : (st.map fun v => v.category).sum ≤ W) (hl : W + 12 ≤ R.locals) (hd : decode bs pc = .ok (.invokespecial j, 3)) (hp : pc + 3 = pc')
    (H : Go p l e R s m args below meth c n0 Q F B h k n (mkF m pc' Ls st)) : Go p l e R s m args below meth c n0 Q F B h k n (mkF m pc Ls (.ref a :: st)) := by
  subst hp
  intro T locs X eT N hB
  obtain ⟨T', X', e', q⟩ := Jvm.RoadKit.initO X K.cx K.cz K.co w1 w2 w3 eT (g := mkF m pc Ls (.ref a :: st)) rfl (hml.trans K.cl.symm) rfl (hb K.cb hd) hf (W := W) (by show 2 * 0 + _ ≤ _; omega) hl
  obtain ⟨s₂, o, r1, r2⟩ := H T' locs X' e' N hB
  exact ⟨s₂, o, q _ r1, r2⟩
/-! calls -/
theorem Go.callS (K : Ctx p s m meth c Z own bs ml ret nm R F B) {j : Nat} {y : MethodName} {bytes : ByteArray} {maxL : Nat} {rt : Option FieldType} {W kc nc : Nat} {Qc : Option Value → Heap → List Loc → Prop} {argsL : List Value}
    (w1 : (Jvm.Cond.methodLink own j y).before args s = true) (w2 : (Jvm.Cond.static y).before args s = true) (w3 : (Jvm.Cond.initialized y.cls).before args s = true) (w4 : (Jvm.Cond.code y bytes maxL rt).before args s = true) (hy : y.cls ≠ "java/lang/invoke/MethodHandle" ∧ y.cls ≠ "java/lang/invoke/VarHandle")
    (hK : Pays l R p e below s args y 3 W argsL.toArray h kc nc Qc) (hml : Ls.size = ml) (hlen : ∀ sig, parseMethodDescriptor y.desc = some sig → argsL.length = sig.parameters.length) (hst : st = argsL.reverse ++ rest) (hW : (rest.map fun v => v.category).sum ≤ W) (hc : k + kc ≤ R.cells) (hs : n + nc ≤ R.slots) (hfr : ∀ v h' L, Qc v h' L → Fr n0 L) (hgr : ∀ v h' L, Qc v h' L → h.size ≤ h'.size) (hd : decode bs pc = .ok (.invokestatic j, 3)) (hp : pc + 3 = pc')
    (H : ∀ v h' L, Qc v h' L → Go p l e R s m args below meth c n0 Q F B h' (k + kc) (n + nc) (mkF m pc' Ls (v.toList ++ rest))) : Go p l e R s m args below meth c n0 Q F B h k n (mkF m pc Ls st) := by
  subst hp hst
  intro T locs X eT N hB
  obtain ⟨v, vm₁, ⟨T', L', k', n'⟩, -, X', ⟨L, hq, l1, y1, z1⟩, q⟩ := Jvm.LawKit.callS X K.cx (y := y) (bytes := bytes) (maxL := maxL) (ret := rt) K.co w1 w2 w3 w4 hy hK (g := mkF m pc Ls (argsL.reverse ++ rest)) rfl (hml.trans K.cl.symm) (argsL := argsL) (rest := rest) hlen rfl (by show 2 * 0 + _ ≤ _; omega) (hb K.cb hd) (fun _ _ => ⟨rfl, eT, hc, hs⟩)
  dsimp only [Pt.U, Pt.locs, Pt.cells, Pt.slots] at X' l1 y1 z1 q hq
  subst l1 y1 z1
  obtain ⟨s₂, o, r1, r2⟩ := H v _ L hq T' _ X' rfl (N.app (hfr _ _ _ hq)) (Nat.le_trans hB (hgr _ _ _ hq))
  exact ⟨s₂, o, q _ r1, r2⟩
theorem Go.callC (K : Ctx p s m meth c Z own bs ml ret nm R F B) {j : Nat} {y : MethodName} {bytes : ByteArray} {maxL : Nat} {W kc nc : Nat} {a : Addr} {Qc : Option Value → Heap → List Loc → Prop} {argsL : List Value} (hy1 : y.name = "<init>")
    (w1 : (Jvm.Cond.methodLink own j y).before args s = true) (w2 : (Jvm.Cond.instanceMethod y).before args s = true) (w4 : (Jvm.Cond.code y bytes maxL none).before args s = true) (hy : y.cls ≠ "java/lang/invoke/MethodHandle" ∧ y.cls ≠ "java/lang/invoke/VarHandle")
    (hK : Pays l R p e below s args y 3 W (.ref a :: argsL).toArray h kc nc Qc) (hml : Ls.size = ml) (hlen : ∀ sig, parseMethodDescriptor y.desc = some sig → argsL.length = sig.parameters.length) (hst : st = argsL.reverse ++ .ref a :: rest) (hW : (rest.map fun v => v.category).sum ≤ W) (hc : k + kc ≤ R.cells) (hs : n + nc ≤ R.slots) (hfr : ∀ v h' L, Qc v h' L → Fr n0 L) (hgr : ∀ v h' L, Qc v h' L → h.size ≤ h'.size) (hd : decode bs pc = .ok (.invokespecial j, 3)) (hp : pc + 3 = pc')
    (H : ∀ v h' L, Qc v h' L → Go p l e R s m args below meth c n0 Q F B h' (k + kc) (n + nc) (mkF m pc' Ls (v.toList ++ rest))) : Go p l e R s m args below meth c n0 Q F B h k n (mkF m pc Ls st) := by
  subst hp hst
  intro T locs X eT N hB
  obtain ⟨v, vm₁, ⟨T', L', k', n'⟩, -, X', ⟨L, hq, l1, y1, z1⟩, q⟩ := X.specialBack K.cx (y := y) (bytes := bytes) (maxL := maxL) hy1 K.co w1 w2 w4 hy hK (g := mkF m pc Ls (argsL.reverse ++ .ref a :: rest)) rfl (hml.trans K.cl.symm) (Steps.refl _) (a := a) (argsL := argsL) (rest := rest) hlen rfl (by show 2 * 0 + _ ≤ _; omega) (hb K.cb hd) (fun _ _ => ⟨rfl, eT, hc, hs⟩)
  dsimp only [Pt.U, Pt.locs, Pt.cells, Pt.slots] at X' l1 y1 z1 q hq
  subst l1 y1 z1
  obtain ⟨s₂, o, r1, r2⟩ := H v _ L hq T' _ X' rfl (N.app (hfr _ _ _ hq)) (Nat.le_trans hB (hgr _ _ _ hq))
  exact ⟨s₂, o, q.trans r1, r2⟩
theorem Go.callV (K : Ctx p s m meth c Z own bs ml ret nm R F B) {j : Nat} {C : String} {y z : MethodName} {W kc nc : Nat} {a : Addr} {Qc : Option Value → Heap → List Loc → Prop} {argsL : List Value}
    (w1 : (Jvm.Cond.methodLink own j y).before args s = true) (w2 : (Jvm.Cond.declares y).before args s = true) (hnf : NotFace s y) (w3 : (Jvm.Cond.selects C y z).before args s = true) (w4 : (Jvm.Cond.instanceMethod z).before args s = true) (hy : y.cls ≠ "java/lang/invoke/MethodHandle" ∧ y.cls ≠ "java/lang/invoke/VarHandle") (E : Exa Z h a C)
    (hK : Pays l R p e below s args z 3 W (.ref a :: argsL).toArray h kc nc Qc) (hml : Ls.size = ml) (hlen : ∀ sig, parseMethodDescriptor y.desc = some sig → argsL.length = sig.parameters.length) (hst : st = argsL.reverse ++ .ref a :: rest) (hW : (rest.map fun v => v.category).sum ≤ W) (hc : k + kc ≤ R.cells) (hs : n + nc ≤ R.slots) (hfr : ∀ v h' L, Qc v h' L → Fr n0 L) (hgr : ∀ v h' L, Qc v h' L → h.size ≤ h'.size) (hd : decode bs pc = .ok (.invokevirtual j, 3)) (hp : pc + 3 = pc')
    (H : ∀ v h' L, Qc v h' L → Go p l e R s m args below meth c n0 Q F B h' (k + kc) (n + nc) (mkF m pc' Ls (v.toList ++ rest))) : Go p l e R s m args below meth c n0 Q F B h k n (mkF m pc Ls st) := by
  subst hp hst
  intro T locs X eT N hB
  obtain ⟨cq, kq, qa, qb, qc⟩ := isOf K.cz eT E
  obtain ⟨v, vm₁, ⟨T', L', k', n'⟩, -, X', ⟨L, hq, l1, y1, z1⟩, q⟩ := X.virtualBack K.cx (y := y) (z := z) K.co w1 w2 hnf w3 w4 hy hK qa qc (g := mkF m pc Ls (argsL.reverse ++ .ref a :: rest)) rfl (hml.trans K.cl.symm) (Steps.refl _) (argsL := argsL) (rest := rest) hlen rfl (by show 2 * 0 + _ ≤ _; omega) (hb K.cb hd) (fun _ _ => ⟨rfl, eT, hc, hs⟩)
  dsimp only [Pt.U, Pt.locs, Pt.cells, Pt.slots] at X' l1 y1 z1 q hq
  subst l1 y1 z1
  obtain ⟨s₂, o, r1, r2⟩ := H v _ L hq T' _ X' rfl (N.app (hfr _ _ _ hq)) (Nat.le_trans hB (hgr _ _ _ hq))
  exact ⟨s₂, o, q.trans r1, r2⟩
theorem nar_ref {C : String} {v : Value} (h : v.isRef = true) : narrow (.object C) v = v := by cases v <;> first | rfl | simp [Value.isRef] at h
theorem fit_ref {C : String} {v : Value} (h : v.isRef = true) : fits (.object C) v = true := by cases v <;> first | rfl | simp [Value.isRef] at h
/-! the ends -/
theorem Go.retN {t : FieldType} (K : Ctx p s m meth c Z own bs ml (some t) nm R F B) {x : Int32} (ht : t = .boolean ∨ t = .byte ∨ t = .char ∨ t = .short) (hk : k ≤ R.cells) (hn : n ≤ R.slots) (hd : decode bs pc = .ok (.ireturn, 1)) (q : ∀ (T : State) (locs : List Loc), Stand p l e R s m args below meth c T locs k n → T.heap = h → Q (some (.int (nar t x))) T.vm h) : Go p l e R s m args below meth c n0 Q F B h k n (mkF m pc Ls (.int x :: st)) := by
  intro T locs X eT N hB
  obtain ⟨fs, hr, hrun, hended, hW, hsame⟩ := X.leave (v := some (.int (nar t x))) (fun h => by rw [K.cr] at h; cases h) K.ck
  exact ⟨_, _, Jvm.RoadKit.retN X K.cx K.cr ht (hb K.cb hd) hr, hrun, hended, _, _, rfl, ⟨(show Q _ T.vm T.heap by rw [eT]; exact q T locs X eT), N⟩, K.ce _ _ _ _ _ hW hsame (by show B ≤ T.heap.size; rw [eT]; exact hB) hk hn⟩
theorem Go.retI (K : Ctx p s m meth c Z own bs ml (some .int) nm R F B) {x : Int32} (hk : k ≤ R.cells) (hn : n ≤ R.slots) (hd : decode bs pc = .ok (.ireturn, 1)) (q : ∀ (T : State) (locs : List Loc), Stand p l e R s m args below meth c T locs k n → T.heap = h → Q (some (.int x)) T.vm h) : Go p l e R s m args below meth c n0 Q F B h k n (mkF m pc Ls (.int x :: st)) := by
  intro T locs X eT N hB
  obtain ⟨fs, hr, hrun, hended, hW, hsame⟩ := X.leave (v := some (.int x)) (fun h => by rw [K.cr] at h; cases h) K.ck
  exact ⟨_, _, Jvm.RoadKit.retI X K.cx K.cr (hb K.cb hd) hr, hrun, hended, _, _, rfl, ⟨(show Q _ T.vm T.heap by rw [eT]; exact q T locs X eT), N⟩, K.ce _ _ _ _ _ hW hsame (by show B ≤ T.heap.size; rw [eT]; exact hB) hk hn⟩
theorem Go.retA {t : FieldType} (K : Ctx p s m meth c Z own bs ml (some t) nm R F B) {v : Value} (hnn : narrow t v = v) (ht : t.isReference = true) (hv : v.isRef = true) (hk : k ≤ R.cells) (hn : n ≤ R.slots) (hd : decode bs pc = .ok (.areturn, 1)) (q : ∀ (T : State) (locs : List Loc), Stand p l e R s m args below meth c T locs k n → T.heap = h → Q (some v) T.vm h) : Go p l e R s m args below meth c n0 Q F B h k n (mkF m pc Ls (v :: st)) := by
  intro T locs X eT N hB
  obtain ⟨fs, hr, hrun, hended, hW, hsame⟩ := X.leave (v := some v) (fun h => by rw [K.cr] at h; cases h) K.ck
  exact ⟨_, _, Jvm.RoadKit.retR X K.cx K.cr hnn ht hv (hb K.cb hd) hr, hrun, hended, _, _, rfl, ⟨(show Q _ T.vm T.heap by rw [eT]; exact q T locs X eT), N⟩, K.ce _ _ _ _ _ hW hsame (by show B ≤ T.heap.size; rw [eT]; exact hB) hk hn⟩
theorem Go.retJ (K : Ctx p s m meth c Z own bs ml (some .long) nm R F B) {x : Int64} (hk : k ≤ R.cells) (hn : n ≤ R.slots) (hd : decode bs pc = .ok (.lreturn, 1)) (q : ∀ (T : State) (locs : List Loc), Stand p l e R s m args below meth c T locs k n → T.heap = h → Q (some (.long x)) T.vm h) : Go p l e R s m args below meth c n0 Q F B h k n (mkF m pc Ls (.long x :: st)) := by
  intro T locs X eT N hB
  obtain ⟨fs, hr, hrun, hended, hW, hsame⟩ := X.leave (v := some (.long x)) (fun h => by rw [K.cr] at h; cases h) K.ck
  exact ⟨_, _, Jvm.RoadKit.retL X K.cx K.cr (hb K.cb hd) hr, hrun, hended, _, _, rfl, ⟨(show Q _ T.vm T.heap by rw [eT]; exact q T locs X eT), N⟩, K.ce _ _ _ _ _ hW hsame (by show B ≤ T.heap.size; rw [eT]; exact hB) hk hn⟩
theorem Go.retV (K : Ctx p s m meth c Z own bs ml none nm R F B) (hk : k ≤ R.cells) (hn : n ≤ R.slots) (hd : decode bs pc = .ok (.return_, 1)) (q : ∀ (T : State) (locs : List Loc), Stand p l e R s m args below meth c T locs k n → T.heap = h → Q none T.vm h) : Go p l e R s m args below meth c n0 Q F B h k n (mkF m pc Ls []) := by
  intro T locs X eT N hB
  obtain ⟨fs, hr, hrun, hended, hW, hsame⟩ := X.leave (v := none) (fun _ => rfl) K.ck
  exact ⟨_, _, X.returnOut K.cx K.cr (hb K.cb hd) hr, hrun, hended, _, _, rfl, ⟨(show Q _ T.vm T.heap by rw [eT]; exact q T locs X eT), N⟩, K.ce _ _ _ _ _ hW hsame (by show B ≤ T.heap.size; rw [eT]; exact hB) hk hn⟩
/-- a contract out of a walk -/
theorem Met.of {ws : List Jvm.Cond} {y : MethodName} {rm : Room} {as' : Array Value} {h0 : Heap} {Qm : Option Value → Heap → Prop} (hpl : plainFor y = true)
    (H : ∀ (p : Program) (e : Env) (s : State) (m : MethodId) (below : List Frame) (meth : Method) (c : Code) (F : Outcome → State → List Loc → Prop), Ctx p s m meth c Z y.cls bs ml ret y.name rm F 0 → Go p l e rm s m as' below meth c n0 (fun v _ h => Qm v h) F 0 h0 0 0 (entryFrame m as' ml)) : Met l Z ws y bs ml ret rm as' h0 n0 Qm := by
  refine MetFree.of_bodySF hpl hisR ?_
  intro p e s m args below meth c s₁ Bd hml0 hP hK
  obtain ⟨rfl, hZ, hh⟩ := hP
  have X0 : Stand p l e rm s m args below meth c s₁ [] 0 0 := Stand.of_body Bd
  have e0 : s₁.heap = h0 := by rw [← hh, Bd.state]; rfl
  obtain ⟨s₂, o, r1, r2, r3, v, L, rfl, ⟨q1, q2⟩, q3⟩ := H p e s m below meth c (fun o t L => FrameEnd s o t L rm.cells rm.slots) ⟨Bd.exec, hZ, findClass_of_methodNamed Bd.named, Bd.bytes, hml0, Bd.returns, (name_of_methodNamed Bd.named Bd.method).1, Bd.notSynchronized, fun t v L k n hW hs _ hk hn => ⟨⟨v, rfl⟩, hW, hs.mono hk hn⟩⟩ s₁ [] X0 e0 (Fr.nil n0) (Nat.zero_le _)
  exact ⟨s₂, _, r1, r2, r3, v, L, rfl, ⟨⟨q1, q2⟩, by have := q3.2.2.2.1; rw [← hh]; exact this⟩, q3⟩
theorem MetK.of {ws : List Jvm.Cond} {y : MethodName} {rm : Room} {as' : Array Value} {h0 : Heap} {Qm : Option Value → Heap → Prop} (hpl : plainFor y = true)
    (H : ∀ (p : Program) (e : Env) (s : State) (m : MethodId) (below : List Frame) (meth : Method) (c : Code) (F : Outcome → State → List Loc → Prop), s.heap = h0 → s.vm.MethodsKnown → s.vm.FramesKnown below → Ctx p s m meth c Z y.cls bs ml ret y.name rm F 0 → Go p l e rm s m as' below meth c n0 (fun v _ h => Qm v h) F 0 h0 0 0 (entryFrame m as' ml)) : MetK l Z ws y bs ml ret rm as' h0 n0 Qm := by
  refine MetFree.of_bodySF hpl hisR ?_
  intro p e s m args below meth c s₁ Bd hml0 hP hK
  obtain ⟨rfl, hZ, hh⟩ := hP
  have X0 : Stand p l e rm s m args below meth c s₁ [] 0 0 := Stand.of_body Bd
  have e0 : s₁.heap = h0 := by rw [← hh, Bd.state]; rfl
  obtain ⟨s₂, o, r1, r2, r3, v, L, rfl, ⟨q1, q2⟩, q3⟩ := H p e s m below meth c (fun o t L => FrameEnd s o t L rm.cells rm.slots) hh hK.1 hK.2 ⟨Bd.exec, hZ, findClass_of_methodNamed Bd.named, Bd.bytes, hml0, Bd.returns, (name_of_methodNamed Bd.named Bd.method).1, Bd.notSynchronized, fun t v L k n hW hs _ hk hn => ⟨⟨v, rfl⟩, hW, hs.mono hk hn⟩⟩ s₁ [] X0 e0 (Fr.nil n0) (Nat.zero_le _)
  exact ⟨s₂, _, r1, r2, r3, v, L, rfl, ⟨⟨q1, q2⟩, by have := q3.2.2.2.1; rw [← hh]; exact this⟩, q3⟩
theorem Met.pays {y : MethodName} {rm : Room} {as' : Array Value} {h0 : Heap} {len W : Nat} {Qm : Option Value → Heap → Prop} (M : Met l Z [] y bs ml ret rm as' h0 n0 Qm) (hZ : Z.Warmed39 s.vm) (wc : (Jvm.Cond.code y bs ml ret).before a0 Z = true) (wz : (Jvm.Cond.initialized y.cls).before a0 Z = true) (hf : rm.frames + 1 ≤ R.frames) (hl : W + (ml + 11) + rm.locals ≤ R.locals) :
    Pays l R p e below s args y len W as' h0 rm.cells rm.slots (fun v h L => (Qm v h ∧ Fr n0 L) ∧ h0.size ≤ h.size) :=
  backOf (Q := fun v h L => (Qm v h ∧ Fr n0 L) ∧ h0.size ≤ h.size) M hZ wc wz hf hl
theorem MetK.pays {y : MethodName} {rm : Room} {as' : Array Value} {h0 : Heap} {len W : Nat} {Qm : Option Value → Heap → Prop} (M : MetK l Z [] y bs ml ret rm as' h0 n0 Qm) (hZ : Z.Warmed39 s.vm) (wc : (Jvm.Cond.code y bs ml ret).before a0 Z = true) (wz : (Jvm.Cond.initialized y.cls).before a0 Z = true) (hf : rm.frames + 1 ≤ R.frames) (hl : W + (ml + 11) + rm.locals ≤ R.locals) (hTK : s.vm.MethodsKnown) (hBelow : s.vm.FramesKnown below) :
    Pays l R p e below s args y len W as' h0 rm.cells rm.slots (fun v h L => (Qm v h ∧ Fr n0 L) ∧ h0.size ≤ h.size) :=
  backOfKL (Q := fun v h L => (Qm v h ∧ Fr n0 L) ∧ h0.size ≤ h.size) M hZ wc wz hf hl hTK hBelow
theorem frOf {n0 N : Nat} {Q : Option Value → Heap → Prop} : ∀ (v : Option Value) (h' : Heap) (L : List Loc), ((Q v h' ∧ Fr n0 L) ∧ N ≤ h'.size) → Fr n0 L := fun _ _ _ q => q.1.2
theorem grOf {n0 N : Nat} {Q : Option Value → Heap → Prop} : ∀ (v : Option Value) (h' : Heap) (L : List Loc), ((Q v h' ∧ Fr n0 L) ∧ N ≤ h'.size) → N ≤ h'.size := fun _ _ _ q => q.2
/-! String constants, and callees that load them -/
section Wide
variable {vm0 : Vm} {EL : List (String × Nat)}
abbrev FW (s : State) (R : Room) : Outcome → State → List Loc → Prop := fun o t L => ReturnedEndW s o t L R.cells R.slots
theorem Ctx.wide {B1 : Nat} {vm1 : Vm} (hS : s.Since vm1 B1) (hx : p.tables.exec = Jvm.exec) (hZ : Z.Warmed39 vm1) (ho : vm1.findClass own = some m.cls) (hby : c.code = bs) (hml : c.maxLocals = ml) (hr : meth.sig.returnType = ret) (hn : meth.name = nm) (hk : meth.locks = false) : Ctx p (s.setVm vm1) m meth c Z own bs ml ret nm R (FW s R) B1 :=
  ⟨hx, hZ, ho, hby, hml, hr, hn, hk, fun t v L k n hW hs hB h1 h2 => by
    obtain ⟨a, b, c'⟩ := hS.ended (U := t) hW hB hs
    exact ⟨⟨v, rfl⟩, a, b, c'.mono h1 h2⟩⟩
/-- ldc of a String constant of which nothing is asked -/
theorem Go.ldcO (K : Ctx p (s.setVm vm0) m meth c Z own bs ml ret nm R (FW s R) B) (hS : s.Since vm0 B) {text : String} {j i : Nat} (w : (Jvm.Cond.stringLink own j text).before a0 Z = true) (wS : ∀ a ∈ Bundle.stringAtoms, a.before a0 Z = true) (hEL : EW Z a0 EL) (HC : CHv Z EL vm0 h) (hi : 4 * text.toList.length ≤ i) (hbig : i ≤ 536870912) (hc : k + 2 ≤ R.cells) (hl : n + (i + 4) ≤ R.slots) (hd : decode bs pc = .ok (.ldc j, 2)) (hp : pc + 2 = pc')
    (H : ∀ a vm1 h' B1, Ext h h' → CHr Z EL vm0 h vm1 h' → s.Since vm1 B1 → Ctx p (s.setVm vm1) m meth c Z own bs ml ret nm R (FW s R) B1 → Go p l e R (s.setVm vm1) m args below meth c n0 Q (FW s R) B1 h' (k + 2) (n + (i + 4)) (mkF m pc' Ls (.ref a :: st))) : Go p l e R (s.setVm vm0) m args below meth c n0 Q (FW s R) B h k n (mkF m pc Ls st) := by
  subst hp
  intro T locs X eT N hB
  obtain ⟨a, T', h', k1, X', e', E, hS', hk', hZ', ho', hr', -, q⟩ := ldcOH X K.cx K.cz K.co w wS eT hS hB hEL HC (g := mkF m pc Ls st) rfl (hb K.cb hd) hi hbig hc hl
  obtain ⟨s₂, o, r1, r2⟩ := H a T'.vm h' k1 E hr' hS' (Ctx.wide hS' K.cx hZ' ho' K.cb K.cl K.cr K.cn K.ck) T' locs X' e' N hk'
  exact ⟨s₂, o, q _ r1, r2⟩
/-- ldc of a String constant that is read -/
theorem Go.ldcV (K : Ctx p (s.setVm vm0) m meth c Z own bs ml ret nm R (FW s R) B) (hS : s.Since vm0 B) {text : String} {j i : Nat} (w : (Jvm.Cond.stringLink own j text).before a0 Z = true) (wS : ∀ a ∈ Bundle.stringAtoms, a.before a0 Z = true) (hEL : EW Z a0 EL) (hmem : (own, j) ∈ EL) (HC : CHv Z EL vm0 h)
    {vs : List Value} {z : Int32} (ht : (∀ c ∈ text.toList, c.toNat < 256) ∧ text.toList.map (fun c => Value.int (Jvm.Lit.byteI c.toNat.toUInt16)) = vs) (hz : ¬ z < 0) (hlz : z.toNatClampNeg = vs.length)
    (hi : 4 * text.toList.length ≤ i) (hbig : i ≤ 536870912) (hc : k + 2 ≤ R.cells) (hl : n + (i + 4) ≤ R.slots) (hd : decode bs pc = .ok (.ldc j, 2)) (hp : pc + 2 = pc')
    (H : ∀ a b kb vm1 h' B1, Ext h h' → CHr Z EL vm0 h vm1 h' → s.Since vm1 B1 → Exa Z h' a "java/lang/String" → Fld Z h' a "java/lang/String" "coder" "B" (.int 0) → Fld Z h' a "java/lang/String" "value" "[B" (.ref b) → Arv Z h' b kb .byte z vs (.int 0) → (∀ x, Safe Z EL vm1 h' x → x ≠ a ∧ x ≠ b) → Ctx p (s.setVm vm1) m meth c Z own bs ml ret nm R (FW s R) B1 →
      Go p l e R (s.setVm vm1) m args below meth c n0 Q (FW s R) B1 h' (k + 2) (n + (i + 4)) (mkF m pc' Ls (.ref a :: st))) : Go p l e R (s.setVm vm0) m args below meth c n0 Q (FW s R) B h k n (mkF m pc Ls st) := by
  subst hp
  intro T locs X eT N hB
  obtain ⟨a, T', h', k1, b, kb, X', e', E, hS', hk', hZ', ho', x1, x2, x3, x4, -, -, hr', -, hsf, q⟩ := ldcCH X K.cx K.cz K.co w wS eT hS hB hEL hmem HC ht hz hlz (g := mkF m pc Ls st) rfl (hb K.cb hd) hi hbig hc hl
  obtain ⟨s₂, o, r1, r2⟩ := H a b kb T'.vm h' k1 E hr' hS' x1 x2 x3 x4 hsf (Ctx.wide hS' K.cx hZ' ho' K.cb K.cl K.cr K.cn K.ck) T' locs X' e' N hk'
  exact ⟨s₂, o, q _ r1, r2⟩
theorem Go.callSW (K : Ctx p (s.setVm vm0) m meth c Z own bs ml ret nm R (FW s R) B) (hS : s.Since vm0 B) {j : Nat} {y : MethodName} {bytes : ByteArray} {maxL : Nat} {rt : Option FieldType} {W kc nc : Nat} {Qc : Option Value → Heap → List Loc → Prop} {argsL : List Value}
    (w1 : (Jvm.Cond.methodLink own j y).before args (s.setVm vm0) = true) (w2 : (Jvm.Cond.static y).before args (s.setVm vm0) = true) (w3 : (Jvm.Cond.initialized y.cls).before args (s.setVm vm0) = true) (w4 : (Jvm.Cond.code y bytes maxL rt).before args (s.setVm vm0) = true) (hy : y.cls ≠ "java/lang/invoke/MethodHandle" ∧ y.cls ≠ "java/lang/invoke/VarHandle")
    (hK : PaysW l R p e below s vm0 args y 3 W argsL.toArray h kc nc Z EL Qc) (hml : Ls.size = ml) (hlen : ∀ sig, parseMethodDescriptor y.desc = some sig → argsL.length = sig.parameters.length) (hst : st = argsL.reverse ++ rest) (hW : (rest.map fun v => v.category).sum ≤ W) (hc : k + kc ≤ R.cells) (hs : n + nc ≤ R.slots) (hfr : ∀ v h' L, Qc v h' L → Fr n0 L) (hd : decode bs pc = .ok (.invokestatic j, 3)) (hp : pc + 3 = pc')
    (H : ∀ v h' L vm1 B1, Qc v h' L → CHr Z EL vm0 h vm1 h' → s.Since vm1 B1 → Ctx p (s.setVm vm1) m meth c Z own bs ml ret nm R (FW s R) B1 → Go p l e R (s.setVm vm1) m args below meth c n0 Q (FW s R) B1 h' (k + kc) (n + nc) (mkF m pc' Ls (v.toList ++ rest))) : Go p l e R (s.setVm vm0) m args below meth c n0 Q (FW s R) B h k n (mkF m pc Ls st) := by
  subst hp hst
  intro T locs X eT N hB
  obtain ⟨v, vm₁, ⟨T', L', k', n'⟩, -, X', hs2, hg, ⟨L, hq, l1, y1, z1, hr⟩, q⟩ := callSS X K.cx (y := y) (bytes := bytes) (maxL := maxL) (ret := rt) K.co w1 w2 w3 w4 hy hK (g := mkF m pc Ls (argsL.reverse ++ rest)) rfl (hml.trans K.cl.symm) (argsL := argsL) (rest := rest) hlen rfl (by show 2 * 0 + _ ≤ _; omega) (hb K.cb hd) (fun _ _ => ⟨rfl, eT, hc, hs⟩)
  dsimp only [Pt.U, Pt.locs, Pt.cells, Pt.slots] at X' l1 y1 z1 q hq hr hs2 hg
  subst l1 y1 z1
  obtain ⟨X2, hS2, hZ2, ho2⟩ := rebS hS (Nat.le_trans hB (Nat.le_of_eq (congrArg Array.size eT.symm))) X' hs2 hg K.cz K.co
  obtain ⟨s₂, o, r1, r2⟩ := H v _ L _ _ hq hr hS2 (Ctx.wide hS2 K.cx hZ2 ho2 K.cb K.cl K.cr K.cn K.ck) T' _ X2 rfl (N.app (hfr _ _ _ hq)) (Nat.le_refl _)
  exact ⟨s₂, o, q.trans r1, r2⟩
theorem Go.callCW (K : Ctx p (s.setVm vm0) m meth c Z own bs ml ret nm R (FW s R) B) (hS : s.Since vm0 B) {j : Nat} {y : MethodName} {bytes : ByteArray} {maxL : Nat} {W kc nc : Nat} {a : Addr} {Qc : Option Value → Heap → List Loc → Prop} {argsL : List Value} (hy1 : y.name = "<init>")
    (w1 : (Jvm.Cond.methodLink own j y).before args (s.setVm vm0) = true) (w2 : (Jvm.Cond.instanceMethod y).before args (s.setVm vm0) = true) (w4 : (Jvm.Cond.code y bytes maxL none).before args (s.setVm vm0) = true) (hy : y.cls ≠ "java/lang/invoke/MethodHandle" ∧ y.cls ≠ "java/lang/invoke/VarHandle")
    (hK : PaysW l R p e below s vm0 args y 3 W (.ref a :: argsL).toArray h kc nc Z EL Qc) (hml : Ls.size = ml) (hlen : ∀ sig, parseMethodDescriptor y.desc = some sig → argsL.length = sig.parameters.length) (hst : st = argsL.reverse ++ .ref a :: rest) (hW : (rest.map fun v => v.category).sum ≤ W) (hc : k + kc ≤ R.cells) (hs : n + nc ≤ R.slots) (hfr : ∀ v h' L, Qc v h' L → Fr n0 L) (hd : decode bs pc = .ok (.invokespecial j, 3)) (hp : pc + 3 = pc')
    (H : ∀ v h' L vm1 B1, Qc v h' L → CHr Z EL vm0 h vm1 h' → s.Since vm1 B1 → Ctx p (s.setVm vm1) m meth c Z own bs ml ret nm R (FW s R) B1 → Go p l e R (s.setVm vm1) m args below meth c n0 Q (FW s R) B1 h' (k + kc) (n + nc) (mkF m pc' Ls (v.toList ++ rest))) : Go p l e R (s.setVm vm0) m args below meth c n0 Q (FW s R) B h k n (mkF m pc Ls st) := by
  subst hp hst
  intro T locs X eT N hB
  obtain ⟨v, vm₁, ⟨T', L', k', n'⟩, -, X', hs2, hg, ⟨L, hq, l1, y1, z1, hr⟩, q⟩ := X.specialBackS K.cx (y := y) (bytes := bytes) (maxL := maxL) hy1 K.co w1 w2 w4 hy hK (g := mkF m pc Ls (argsL.reverse ++ .ref a :: rest)) rfl (hml.trans K.cl.symm) (Steps.refl _) (a := a) (argsL := argsL) (rest := rest) hlen rfl (by show 2 * 0 + _ ≤ _; omega) (hb K.cb hd) (fun _ _ => ⟨rfl, eT, hc, hs⟩)
  dsimp only [Pt.U, Pt.locs, Pt.cells, Pt.slots] at X' l1 y1 z1 q hq hr hs2 hg
  subst l1 y1 z1
  obtain ⟨X2, hS2, hZ2, ho2⟩ := rebS hS (Nat.le_trans hB (Nat.le_of_eq (congrArg Array.size eT.symm))) X' hs2 hg K.cz K.co
  obtain ⟨s₂, o, r1, r2⟩ := H v _ L _ _ hq hr hS2 (Ctx.wide hS2 K.cx hZ2 ho2 K.cb K.cl K.cr K.cn K.ck) T' _ X2 rfl (N.app (hfr _ _ _ hq)) (Nat.le_refl _)
  exact ⟨s₂, o, q.trans r1, r2⟩
theorem Go.callVW (K : Ctx p (s.setVm vm0) m meth c Z own bs ml ret nm R (FW s R) B) (hS : s.Since vm0 B) {j : Nat} {C : String} {y z : MethodName} {W kc nc : Nat} {a : Addr} {Qc : Option Value → Heap → List Loc → Prop} {argsL : List Value}
    (w1 : (Jvm.Cond.methodLink own j y).before args (s.setVm vm0) = true) (w2 : (Jvm.Cond.declares y).before args (s.setVm vm0) = true) (hnf : NotFace (s.setVm vm0) y) (w3 : (Jvm.Cond.selects C y z).before args (s.setVm vm0) = true) (w4 : (Jvm.Cond.instanceMethod z).before args (s.setVm vm0) = true) (hy : y.cls ≠ "java/lang/invoke/MethodHandle" ∧ y.cls ≠ "java/lang/invoke/VarHandle") (E : Exa Z h a C)
    (hK : PaysW l R p e below s vm0 args z 3 W (.ref a :: argsL).toArray h kc nc Z EL Qc) (hml : Ls.size = ml) (hlen : ∀ sig, parseMethodDescriptor y.desc = some sig → argsL.length = sig.parameters.length) (hst : st = argsL.reverse ++ .ref a :: rest) (hW : (rest.map fun v => v.category).sum ≤ W) (hc : k + kc ≤ R.cells) (hs : n + nc ≤ R.slots) (hfr : ∀ v h' L, Qc v h' L → Fr n0 L) (hd : decode bs pc = .ok (.invokevirtual j, 3)) (hp : pc + 3 = pc')
    (H : ∀ v h' L vm1 B1, Qc v h' L → CHr Z EL vm0 h vm1 h' → s.Since vm1 B1 → Ctx p (s.setVm vm1) m meth c Z own bs ml ret nm R (FW s R) B1 → Go p l e R (s.setVm vm1) m args below meth c n0 Q (FW s R) B1 h' (k + kc) (n + nc) (mkF m pc' Ls (v.toList ++ rest))) : Go p l e R (s.setVm vm0) m args below meth c n0 Q (FW s R) B h k n (mkF m pc Ls st) := by
  subst hp hst
  intro T locs X eT N hB
  obtain ⟨cq, kq, qa, qb, qc⟩ := isOf K.cz eT E
  obtain ⟨v, vm₁, ⟨T', L', k', n'⟩, -, X', hs2, hg, ⟨L, hq, l1, y1, z1, hr⟩, q⟩ := X.virtualBackS K.cx (y := y) (z := z) K.co w1 w2 hnf w3 w4 hy hK qa qc (g := mkF m pc Ls (argsL.reverse ++ .ref a :: rest)) rfl (hml.trans K.cl.symm) (Steps.refl _) (argsL := argsL) (rest := rest) hlen rfl (by show 2 * 0 + _ ≤ _; omega) (hb K.cb hd) (fun _ _ => ⟨rfl, eT, hc, hs⟩)
  dsimp only [Pt.U, Pt.locs, Pt.cells, Pt.slots] at X' l1 y1 z1 q hq hr hs2 hg
  subst l1 y1 z1
  obtain ⟨X2, hS2, hZ2, ho2⟩ := rebS hS (Nat.le_trans hB (Nat.le_of_eq (congrArg Array.size eT.symm))) X' hs2 hg K.cz K.co
  obtain ⟨s₂, o, r1, r2⟩ := H v _ L _ _ hq hr hS2 (Ctx.wide hS2 K.cx hZ2 ho2 K.cb K.cl K.cr K.cn K.ck) T' _ X2 rfl (N.app (hfr _ _ _ hq)) (Nat.le_refl _)
  exact ⟨s₂, o, q.trans r1, r2⟩
theorem MetW.of {ws : List Jvm.Cond} {y : MethodName} {rm : Room} {as' : Array Value} {h0 : Heap} {Qm : Option Value → Heap → Prop} (hpl : plainFor y = true)
    (H : ∀ (p : Program) (e : Env) (s : State) (m : MethodId) (below : List Frame) (meth : Method) (c : Code) (vm0 : Vm) (B : Nat), s.Since vm0 B → CHv Z EL vm0 h0 → Ctx p (s.setVm vm0) m meth c Z y.cls bs ml ret y.name rm (FW s rm) B → Go p l e rm (s.setVm vm0) m as' below meth c n0 (fun v vm h => Qm v h ∧ CHr Z EL vm0 h0 vm h) (FW s rm) B h0 0 0 (entryFrame m as' ml)) : MetW l Z ws EL y bs ml ret rm as' h0 n0 Qm := by
  refine MetFree.of_bodySF hpl hisR ?_
  intro p e s m args below meth c s₁ Bd hml0 hP hK
  obtain ⟨rfl, hZ, hh, hC⟩ := hP
  have X0 : Stand p l e rm (s.setVm s.vm) m args below meth c s₁ [] 0 0 := Stand.of_body Bd
  have e0 : s₁.heap = h0 := by rw [← hh, Bd.state]; rfl
  have hS : s.Since s.vm 0 := (State.WarmedH.refl s).since 0
  obtain ⟨s₂, o, r1, r2, r3, v, L, rfl, ⟨⟨q1, q1'⟩, q2⟩, q3⟩ := H p e s m below meth c s.vm 0 hS hC (Ctx.wide hS Bd.exec hZ (findClass_of_methodNamed Bd.named) Bd.bytes hml0 Bd.returns (name_of_methodNamed Bd.named Bd.method).1 Bd.notSynchronized) s₁ [] X0 e0 (Fr.nil n0) (Nat.zero_le _)
  exact ⟨s₂, _, r1, r2, r3, v, L, rfl, ⟨⟨q1, q2⟩, q1'.2.1⟩, by rw [hh]; exact q1', q3⟩
theorem MetWK.of {ws : List Jvm.Cond} {y : MethodName} {rm : Room} {as' : Array Value} {h0 : Heap} {Qm : Option Value → Heap → Prop} (hpl : plainFor y = true)
    (H : ∀ (p : Program) (e : Env) (s : State) (m : MethodId) (below : List Frame) (meth : Method) (c : Code) (vm0 : Vm) (B : Nat), s.heap = h0 → vm0.MethodsKnown → vm0.FramesKnown below → s.Since vm0 B → CHv Z EL vm0 h0 → Ctx p (s.setVm vm0) m meth c Z y.cls bs ml ret y.name rm (FW s rm) B → Go p l e rm (s.setVm vm0) m as' below meth c n0 (fun v vm h => Qm v h ∧ CHr Z EL vm0 h0 vm h) (FW s rm) B h0 0 0 (entryFrame m as' ml)) : MetWK l Z ws EL y bs ml ret rm as' h0 n0 Qm := by
  refine MetFree.of_bodySF hpl hisR ?_
  intro p e s m args below meth c s₁ Bd hml0 hP hK
  obtain ⟨rfl, hZ, hh, hC⟩ := hP
  have X0 : Stand p l e rm (s.setVm s.vm) m args below meth c s₁ [] 0 0 := Stand.of_body Bd
  have e0 : s₁.heap = h0 := by rw [← hh, Bd.state]; rfl
  have hS : s.Since s.vm 0 := (State.WarmedH.refl s).since 0
  obtain ⟨s₂, o, r1, r2, r3, v, L, rfl, ⟨⟨q1, q1'⟩, q2⟩, q3⟩ := H p e s m below meth c s.vm 0 hh hK.1 hK.2 hS hC (Ctx.wide hS Bd.exec hZ (findClass_of_methodNamed Bd.named) Bd.bytes hml0 Bd.returns (name_of_methodNamed Bd.named Bd.method).1 Bd.notSynchronized) s₁ [] X0 e0 (Fr.nil n0) (Nat.zero_le _)
  exact ⟨s₂, _, r1, r2, r3, v, L, rfl, ⟨⟨q1, q2⟩, q1'.2.1⟩, by rw [hh]; exact q1', q3⟩
theorem MetW.pays {y : MethodName} {rm : Room} {as' : Array Value} {h0 : Heap} {len W : Nat} {Qm : Option Value → Heap → Prop} (M : MetW l Z [] EL y bs ml ret rm as' h0 n0 Qm) (hZ : Z.Warmed39 vm0) (wc : (Jvm.Cond.code y bs ml ret).before a0 Z = true) (wz : (Jvm.Cond.initialized y.cls).before a0 Z = true) (hf : rm.frames + 1 ≤ R.frames) (hl : W + (ml + 11) + rm.locals ≤ R.locals) (hEL : EW Z a0 EL) (HC : CHv Z EL vm0 h0) :
    PaysW l R p e below s vm0 args y len W as' h0 rm.cells rm.slots Z EL (fun v h L => (Qm v h ∧ Fr n0 L) ∧ h0.size ≤ h.size) :=
  backOfSH (Q := fun v h L => (Qm v h ∧ Fr n0 L) ∧ h0.size ≤ h.size) M hZ wc wz hf hl hEL HC
theorem MetWK.pays {y : MethodName} {rm : Room} {as' : Array Value} {h0 : Heap} {len W : Nat} {Qm : Option Value → Heap → Prop} (M : MetWK l Z [] EL y bs ml ret rm as' h0 n0 Qm) (hZ : Z.Warmed39 vm0) (wc : (Jvm.Cond.code y bs ml ret).before a0 Z = true) (wz : (Jvm.Cond.initialized y.cls).before a0 Z = true) (hf : rm.frames + 1 ≤ R.frames) (hl : W + (ml + 11) + rm.locals ≤ R.locals) (hEL : EW Z a0 EL) (HC : CHv Z EL vm0 h0) (hTK : vm0.MethodsKnown) (hBelow : vm0.FramesKnown below) :
    PaysW l R p e below s vm0 args y len W as' h0 rm.cells rm.slots Z EL (fun v h L => (Qm v h ∧ Fr n0 L) ∧ h0.size ≤ h.size) :=
  backOfSKH (Q := fun v h L => (Qm v h ∧ Fr n0 L) ∧ h0.size ≤ h.size) M hZ wc wz hf hl hEL HC hTK hBelow
/-- what a wide walk says at its return -/
theorem own_end {Z : State} {EL : List (String × Nat)} {vmS vm0 : Vm} {hS h : Heap} {P : Prop} (hEL : EW Z a0 EL) (hZ : Z.Warmed39 vm0) (CR : CHr Z EL vmS hS vm0 h) (q : P) : ∀ (T : State) (locs : List Loc), Stand p l e R (s.setVm vm0) m args below meth c T locs k n → T.heap = h → P ∧ CHr Z EL vmS hS T.vm h :=
  fun T locs X eT => ⟨q, CR.trans (CHv.at X hZ hEL CR.1)⟩
end Wide
theorem own_ne {a b : Nat} {h : Heap} (h1 : a < h.size) (h2 : h.size ≤ b) : a ≠ b := Nat.ne_of_lt (Nat.lt_of_lt_of_le h1 h2)
end GoKit
end Jvm.Pilot.@@N@@
/- laws to paste: Road.backV, Road.eqW, Road.codOf (cut by pick.py; bodies as the Statement names them) -/
namespace Jvm.Pilot.@@N@@
namespace StrChars
open Jvm Sem ClassFile Op Lib Jvm.Stand Jvm.Free.XT Jvm.Free.ALB Jvm.Free.JM Jvm.Free
open Jvm.Lib.Cold (StaticIs)
/-- a char array whose places are chars -/
def Ch (a : Addr) (A : Cell) (U : State) : Prop := Arr .char a A U ∧ Typed .char A
theorem Ch.mv {a : Addr} {A : Cell} {U U' : State} (h : Ch a A U) (hal : U.vm.Alike U'.vm) (hh : U'.heap = U.heap) : Ch a A U' := ⟨h.1.mv hal hh, h.2⟩
theorem Ch.keep {a : Addr} {A : Cell} {U U' : State} (h : Ch a A U) (hal : U.vm.Alike U'.vm) (hk : U'.heap[a]? = some A) : Ch a A U' := ⟨h.1.keep hal hk, h.2⟩
/-- what place i of a char[]'s cell holds -/
def cv (A : Cell) (i : Nat) : Int32 := match A.slots[i]? with | some (.int x) => x | _ => 0
theorem Ch.get {a : Addr} {A : Cell} {U : State} (h : Ch a A U) {i : Nat} (hi : i < A.slots.size) : A.slots[i]? = some (.int (cv A i)) := by
  have e := Array.getElem?_eq_getElem hi
  have f := h.2 i _ e
  unfold cv; rw [e]
  generalize A.slots[i] = v at f
  cases v <;> simp [fits] at f ⊢
/-- the byte that i2b leaves of a char -/
def lo8 (x : Int32) : Int32 := x.toInt8.toInt32
theorem fits_lo8 (y : Int32) : fits .byte (.int (lo8 y)) = true := by
  have h1 := y.toInt8.le_toInt
  have h2 := y.toInt8.toInt_lt
  simp only [lo8, fits, Bool.and_eq_true, decide_eq_true_eq, Int32.le_iff_toInt_le, Int8.toInt_toInt32, show (-128 : Int32).toInt = -128 from by decide, show (127 : Int32).toInt = 127 from by decide]
  omega
/-- A' is A but that each place j of lo .. hi - 1 holds f j -/
def Laid (A A' : Cell) (lo hi : Nat) (f : Nat → Value) : Prop := A'.cls = A.cls ∧ A'.vm = A.vm ∧ A'.slots.size = A.slots.size ∧ ∀ i, A'.slots[i]? = if lo ≤ i ∧ i < hi then some (f i) else A.slots[i]?
theorem Laid.zero (A : Cell) (lo : Nat) (f : Nat → Value) : Laid A A lo (lo + 0) f := ⟨rfl, rfl, rfl, fun i => by rw [if_neg (by omega)]⟩
theorem Laid.step {A Ak : Cell} {lo k : Nat} {f : Nat → Value} {v : Value} (h : Laid A Ak lo k f) (hlo : lo ≤ k) (hk : k < Ak.slots.size) (hv : v = f k) : Laid A (Ak.setSlot k v) lo (k + 1) f := by
  refine ⟨h.1, h.2.1, by simpa [Cell.setSlot] using h.2.2.1, fun i => ?_⟩
  by_cases e : k = i
  · subst e; rw [Cell.slots_setSlot_self v hk, if_pos (by omega), hv]
  · rw [Cell.slots_setSlot_ne v e, h.2.2.2 i]
    by_cases q : lo ≤ i ∧ i < k
    · rw [if_pos q, if_pos (by omega)]
    · rw [if_neg q, if_neg (by omega)]
def U16 : String := "java/lang/StringUTF16"
namespace Cmp5
def yN : MethodName := ⟨"java/lang/StringUTF16", "compress", "([CI[BII)I"⟩
abbrev yB : ByteArray := jdk_52_method_21_code
theorem d0 : decode yB 0 = .ok (.iconst 0, 1) := by decide +kernel
theorem d1 : decode yB 1 = .ok (.istore 5, 2) := by decide +kernel
theorem d3 : decode yB 3 = .ok (.iload 5, 2) := by decide +kernel
theorem d5 : decode yB 5 = .ok (.iload 4, 2) := by decide +kernel
theorem d7 : decode yB 7 = .ok (.if_icmp (.ge) 37, 3) := by decide +kernel
theorem d10 : decode yB 10 = .ok (.aload_n 0, 1) := by decide +kernel
theorem d11 : decode yB 11 = .ok (.iload_n 1, 1) := by decide +kernel
theorem d12 : decode yB 12 = .ok (.caload, 1) := by decide +kernel
theorem d13 : decode yB 13 = .ok (.istore 6, 2) := by decide +kernel
theorem d15 : decode yB 15 = .ok (.iload 6, 2) := by decide +kernel
theorem d17 : decode yB 17 = .ok (.sipush 255, 3) := by decide +kernel
theorem d20 : decode yB 20 = .ok (.if_icmp (.le) 6, 3) := by decide +kernel
theorem d26 : decode yB 26 = .ok (.aload_n 2, 1) := by decide +kernel
theorem d27 : decode yB 27 = .ok (.iload_n 3, 1) := by decide +kernel
theorem d28 : decode yB 28 = .ok (.iload 6, 2) := by decide +kernel
theorem d30 : decode yB 30 = .ok (.i2b, 1) := by decide +kernel
theorem d31 : decode yB 31 = .ok (.bastore, 1) := by decide +kernel
theorem d32 : decode yB 32 = .ok (.iinc 1 1, 3) := by decide +kernel
theorem d35 : decode yB 35 = .ok (.iinc 3 1, 3) := by decide +kernel
theorem d38 : decode yB 38 = .ok (.iinc 5 1, 3) := by decide +kernel
theorem d41 : decode yB 41 = .ok (.goto (-38), 3) := by decide +kernel
theorem d44 : decode yB 44 = .ok (.iload 4, 2) := by decide +kernel
theorem d46 : decode yB 46 = .ok (.ireturn, 1) := by decide +kernel
def site : List Cond := []
def tab : Cond := tabOf yN yB 7 (some .int) site
def P (b : Addr) (A : Cell) (d : Addr) (B : Cell) (o q len : Nat) (args : Array Value) (s : State) : Prop := args = #[.ref b, .int (Int32.ofNat o), .ref d, .int (Int32.ofNat q), .int (Int32.ofNat len)] ∧ Ch b A s ∧ Arr .byte d B s ∧ b ≠ d ∧ o + len ≤ A.slots.size ∧ q + len ≤ B.slots.size ∧ ∀ i, i < len → ¬ 255 < cv A (o + i)
def E (b : Addr) (A : Cell) (d : Addr) (B : Cell) (o q len : Nat) (r : Option Value) (s u : State) : Prop := r = some (.int (Int32.ofNat len)) ∧ ∃ B', Put d B' s u ∧ Laid B B' q (q + len) (fun j => Value.int (lo8 (cv A (o + (j - q)))))
/-- no char of the range above 255: len; the places written hold each char's low byte -/
theorem law (l : Launch) (b : Addr) (A : Cell) (d : Addr) (B : Cell) (o q len : Nat) : Law l yN 5 5 0 0 yB 7 (some .int) site (P b A d B o q len) (E b A d B o q len) (copyLocs d q len) 0 0 := by
  refine Law.of_walk (plainFor_of_name (by decide +kernel)) (by decide +kernel) (by decide +kernel) (by decide) (fun _ _ h => by rw [h.1]; rfl) (fun _ U U' hal hh h => ⟨h.1, h.2.1.mv hal hh, h.2.2.1.mv hal hh, h.2.2.2⟩) (fun r U U' V V' h1 hal h2 h => ⟨h.1, h.2.elim fun B' q => ⟨B', q.1.mv h1 h2, q.2⟩⟩) ?_
  intro p e s m args below meth c s₁ X0 hexec hbytes hml hret hlk hnm hown hh0 W hP
  obtain ⟨rfl, hA, hB, hne, l1, l2, hp⟩ := hP
  have c1 : Steps p.tables e below (s₁.setTop (entryFrame m #[.ref b, .int (Int32.ofNat o), .ref d, .int (Int32.ofNat q), .int (Int32.ofNat len)] 7)) (s₁.setTop (mkF m 0 #[.val (.ref b), .val (.int (Int32.ofNat o)), .val (.ref d), .val (.int (Int32.ofNat q)), .val (.int (Int32.ofNat len)), .unset, .unset] [])) := entry rfl
  have hA0 := hA.1.mv X0.warmed.alike hh0
  have hB0 := hB.mv X0.warmed.alike hh0
  have a31 := hA.1.2.2.2
  have c2 : Steps p.tables e below (s₁.setTop (entryFrame m #[.ref b, .int (Int32.ofNat o), .ref d, .int (Int32.ofNat q), .int (Int32.ofNat len)] 7)) (s₁.setTop (mkF m 3 #[.val (.ref b), .val (.int (Int32.ofNat o)), .val (.ref d), .val (.int (Int32.ofNat q)), .val (.int (Int32.ofNat len)), .val (.int 0), .unset] [])) := c1.trans (by
    refine iconstV X0.here hexec rfl 0 (hb hbytes d0) (by decide) ?_
    refine XS.istore X0.here hexec rfl (hb hbytes d1) rfl rfl ?_
    exact Steps.refl _)
  have loop : ∀ (r i : Nat), i + r = len → ∀ (z : Slot), (z = .unset ∨ ∃ w, z = .val w ∧ w.category = 1) → ∀ (Tl : State) (Bk : Cell), Stand p l e { frames := 0, locals := 0, cells := 0, slots := 0 } s m #[.ref b, .int (Int32.ofNat o), .ref d, .int (Int32.ofNat q), .int (Int32.ofNat len)] below meth c Tl ([] ++ copyLocs d q i) 0 0 → Put d Bk s₁ Tl → Laid B Bk q (q + i) (fun j => Value.int (lo8 (cv A (o + (j - q))))) →
      Steps p.tables e below (s₁.setTop (entryFrame m #[.ref b, .int (Int32.ofNat o), .ref d, .int (Int32.ofNat q), .int (Int32.ofNat len)] 7)) (Tl.setTop (mkF m 3 #[.val (.ref b), .val (.int (Int32.ofNat (o + i))), .val (.ref d), .val (.int (Int32.ofNat (q + i))), .val (.int (Int32.ofNat len)), .val (.int (Int32.ofNat i)), z] [])) → ∃ (T' : State) (B' : Cell) (z' : Slot), Stand p l e { frames := 0, locals := 0, cells := 0, slots := 0 } s m #[.ref b, .int (Int32.ofNat o), .ref d, .int (Int32.ofNat q), .int (Int32.ofNat len)] below meth c T' ([] ++ copyLocs d q len) 0 0 ∧ Put d B' s₁ T' ∧ Laid B B' q (q + len) (fun j => Value.int (lo8 (cv A (o + (j - q))))) ∧
      Steps p.tables e below (s₁.setTop (entryFrame m #[.ref b, .int (Int32.ofNat o), .ref d, .int (Int32.ofNat q), .int (Int32.ofNat len)] 7)) (T'.setTop (mkF m 3 #[.val (.ref b), .val (.int (Int32.ofNat (o + len))), .val (.ref d), .val (.int (Int32.ofNat (q + len))), .val (.int (Int32.ofNat len)), .val (.int (Int32.ofNat len)), z'] [])) := by
    intro r
    induction r with
    | zero =>
      intro i hi z hz Tl Bk Xl pl fl cl
      have hil : i = len := by omega
      rw [hil] at Xl fl cl
      exact ⟨Tl, Bk, z, Xl, pl, fl, cl⟩
    | succ r ih =>
      intro i hi z hz Tl Bk Xl pl fl cl
      have all := X0.warmed.alike.symm.trans Xl.warmed.alike
      have hAl := hA0.keep all (pl.other hne hA0.1)
      have hBk := hB0.like all pl.1 fl.1 fl.2.1 fl.2.2.1
      have hlt : q + i < Bk.slots.size := by rw [fl.2.2.1]; omega
      have c3 : Steps p.tables e below (s₁.setTop (entryFrame m #[.ref b, .int (Int32.ofNat o), .ref d, .int (Int32.ofNat q), .int (Int32.ofNat len)] 7)) (Tl.setTop (mkF m 12 #[.val (.ref b), .val (.int (Int32.ofNat (o + i))), .val (.ref d), .val (.int (Int32.ofNat (q + i))), .val (.int (Int32.ofNat len)), .val (.int (Int32.ofNat i)), z] [.int (Int32.ofNat (o + i)), .ref b])) := cl.trans (by
        refine XS.iload Xl.here hexec rfl (hb hbytes d3) rfl ?_
        refine XS.iload Xl.here hexec rfl (hb hbytes d5) rfl ?_
        refine XS.icmpNo Xl.here hexec rfl (hb hbytes d7) rfl (ii_ge_f (lt32 (by omega) (by omega))) ?_
        refine XS.aloadN Xl.here hexec rfl (hb hbytes d10) rfl rfl ?_
        refine XS.iloadN Xl.here hexec rfl (hb hbytes d11) rfl ?_
        exact Steps.refl _)
      have c4 : Steps p.tables e below (s₁.setTop (entryFrame m #[.ref b, .int (Int32.ofNat o), .ref d, .int (Int32.ofNat q), .int (Int32.ofNat len)] 7)) (Tl.setTop (mkF m 13 #[.val (.ref b), .val (.int (Int32.ofNat (o + i))), .val (.ref d), .val (.int (Int32.ofNat (q + i))), .val (.int (Int32.ofNat len)), .val (.int (Int32.ofNat i)), z] [.int (cv A (o + i))])) := c3.trans (by
        refine Xl.aget hexec hAl rfl (hA.get (i := o + i) (by omega)) rfl rfl (hb hbytes d12) ?_
        exact Steps.refl _)
      have c5 : Steps p.tables e below (s₁.setTop (entryFrame m #[.ref b, .int (Int32.ofNat o), .ref d, .int (Int32.ofNat q), .int (Int32.ofNat len)] 7)) (Tl.setTop (mkF m 15 #[.val (.ref b), .val (.int (Int32.ofNat (o + i))), .val (.ref d), .val (.int (Int32.ofNat (q + i))), .val (.int (Int32.ofNat len)), .val (.int (Int32.ofNat i)), .val (.int (cv A (o + i)))] [])) := c4.trans (by
        refine XS.istoreS Xl.here hexec rfl (hb hbytes d13) rfl rfl hz ?_
        exact Steps.refl _)
      have c6 : Steps p.tables e below (s₁.setTop (entryFrame m #[.ref b, .int (Int32.ofNat o), .ref d, .int (Int32.ofNat q), .int (Int32.ofNat len)] 7)) (Tl.setTop (mkF m 31 #[.val (.ref b), .val (.int (Int32.ofNat (o + i))), .val (.ref d), .val (.int (Int32.ofNat (q + i))), .val (.int (Int32.ofNat len)), .val (.int (Int32.ofNat i)), .val (.int (cv A (o + i)))] [.int (lo8 (cv A (o + i))), .int (Int32.ofNat (q + i)), .ref d])) := c5.trans (by
        refine XS.iload Xl.here hexec rfl (hb hbytes d15) rfl ?_
        refine sipushV Xl.here hexec rfl 255 (hb hbytes d17) (by decide) ?_
        refine XS.icmpYes Xl.here hexec rfl (pc0 := 20) rfl (hb hbytes d20) rfl (ii_le_t (hp i (by omega))) (by decide) rfl ?_
        refine XS.aloadN Xl.here hexec rfl (hb hbytes d26) rfl rfl ?_
        refine XS.iloadN Xl.here hexec rfl (hb hbytes d27) rfl ?_
        refine XS.iload Xl.here hexec rfl (hb hbytes d28) rfl ?_
        refine i2b Xl.here hexec rfl (hb hbytes d30) rfl ?_
        exact Steps.refl _)
      obtain ⟨T7, X7, p7, st7⟩ := Xl.aput hexec hBk rfl hlt rfl (fits_lo8 (cv A (o + i))) (g := (mkF m 31 #[.val (.ref b), .val (.int (Int32.ofNat (o + i))), .val (.ref d), .val (.int (Int32.ofNat (q + i))), .val (.int (Int32.ofNat len)), .val (.int (Int32.ofNat i)), .val (.int (cv A (o + i)))] [.int (lo8 (cv A (o + i))), .int (Int32.ofNat (q + i)), .ref d])) rfl (rest := []) rfl (hb hbytes d31)
      have c8 : Steps p.tables e below (s₁.setTop (entryFrame m #[.ref b, .int (Int32.ofNat o), .ref d, .int (Int32.ofNat q), .int (Int32.ofNat len)] 7)) (T7.setTop (mkF m 32 #[.val (.ref b), .val (.int (Int32.ofNat (o + i))), .val (.ref d), .val (.int (Int32.ofNat (q + i))), .val (.int (Int32.ofNat len)), .val (.int (Int32.ofNat i)), .val (.int (cv A (o + i)))] [])) := c6.trans (st7 _ (Steps.refl _))
      have c9 : Steps p.tables e below (s₁.setTop (entryFrame m #[.ref b, .int (Int32.ofNat o), .ref d, .int (Int32.ofNat q), .int (Int32.ofNat len)] 7)) (T7.setTop (mkF m 3 #[.val (.ref b), .val (.int (Int32.ofNat (o + i) + 1)), .val (.ref d), .val (.int (Int32.ofNat (q + i) + 1)), .val (.int (Int32.ofNat len)), .val (.int (Int32.ofNat i + 1)), .val (.int (cv A (o + i)))] [])) := c8.trans (by
        refine iincV X7.here hexec rfl 1 (hb hbytes d32) (by decide) rfl rfl ?_
        refine iincV X7.here hexec rfl 1 (hb hbytes d35) (by decide) rfl rfl ?_
        refine iincV X7.here hexec rfl 1 (hb hbytes d38) (by decide) rfl rfl ?_
        refine XS.goto X7.here hexec rfl (pc0 := 41) rfl (hb hbytes d41) (by decide) rfl ?_
        exact Steps.refl _)
      have c10 : Steps p.tables e below (s₁.setTop (entryFrame m #[.ref b, .int (Int32.ofNat o), .ref d, .int (Int32.ofNat q), .int (Int32.ofNat len)] 7)) (T7.setTop (mkF m 3 #[.val (.ref b), .val (.int (Int32.ofNat (o + (i + 1)))), .val (.ref d), .val (.int (Int32.ofNat (q + (i + 1)))), .val (.int (Int32.ofNat len)), .val (.int (Int32.ofNat (i + 1))), .val (.int (cv A (o + i)))] [])) := by
        have := c9
        rw [succ32, succ32, succ32] at this
        exact this
      exact ih (i + 1) (by omega) _ (Or.inr ⟨_, rfl, rfl⟩) T7 _ (by rw [copyLocs_step, ← List.append_assoc]; exact X7) (pl.trans p7) (fl.step (by omega) hlt (by simp)) c10
  obtain ⟨T9, B9, z9, X9, p9, f9, g9⟩ := loop len 0 (by omega) .unset (Or.inl rfl) s₁ B (by simpa [copyLocs] using X0) ⟨hB0.1, fun _ _ => rfl, rfl⟩ (Laid.zero _ _ _) c2
  have c11 : Steps p.tables e below (s₁.setTop (entryFrame m #[.ref b, .int (Int32.ofNat o), .ref d, .int (Int32.ofNat q), .int (Int32.ofNat len)] 7)) (T9.setTop (mkF m 46 #[.val (.ref b), .val (.int (Int32.ofNat (o + len))), .val (.ref d), .val (.int (Int32.ofNat (q + len))), .val (.int (Int32.ofNat len)), .val (.int (Int32.ofNat len)), z9] [.int (Int32.ofNat len)])) := g9.trans (by
    refine XS.iload X9.here hexec rfl (hb hbytes d3) rfl ?_
    refine XS.iload X9.here hexec rfl (hb hbytes d5) rfl ?_
    refine XS.icmpYes X9.here hexec rfl (pc0 := 7) rfl (hb hbytes d7) rfl (ii_ge_t (nlt32 (by omega) (Nat.le_refl _))) (by decide) rfl ?_
    refine XS.iload X9.here hexec rfl (hb hbytes d44) rfl ?_
    exact Steps.refl _)
  exact ⟨T9, some (.int (Int32.ofNat len)), _, _, _, X9, by simp, rfl, rfl, (fun h => by cases h), ⟨rfl, B9, p9.from hh0, f9⟩, fun fs hl => c11.trans (X9.ireturnOut hexec hret rfl (Or.inl rfl) (hb hbytes d46) hl)⟩
end Cmp5
namespace Cmp3
def yN : MethodName := ⟨"java/lang/StringUTF16", "compress", "([CII)[B"⟩
abbrev yB : ByteArray := jdk_52_method_16_code
theorem d0 : decode yB 0 = .ok (.iload_n 2, 1) := by decide +kernel
theorem d1 : decode yB 1 = .ok (.newarray .byte, 2) := by decide +kernel
theorem d3 : decode yB 3 = .ok (.astore_n 3, 1) := by decide +kernel
theorem d4 : decode yB 4 = .ok (.aload_n 0, 1) := by decide +kernel
theorem d5 : decode yB 5 = .ok (.iload_n 1, 1) := by decide +kernel
theorem d6 : decode yB 6 = .ok (.aload_n 3, 1) := by decide +kernel
theorem d7 : decode yB 7 = .ok (.iconst 0, 1) := by decide +kernel
theorem d8 : decode yB 8 = .ok (.iload_n 2, 1) := by decide +kernel
theorem d9 : decode yB 9 = .ok (.invokestatic 115, 3) := by decide +kernel
theorem d12 : decode yB 12 = .ok (.istore 4, 2) := by decide +kernel
theorem d14 : decode yB 14 = .ok (.iload 4, 2) := by decide +kernel
theorem d16 : decode yB 16 = .ok (.iload_n 2, 1) := by decide +kernel
theorem d17 : decode yB 17 = .ok (.if_icmp (.eq) 40, 3) := by decide +kernel
theorem d57 : decode yB 57 = .ok (.aload_n 3, 1) := by decide +kernel
theorem d58 : decode yB 58 = .ok (.areturn, 1) := by decide +kernel
def site : List Cond := [.arrayClass .byte, Cmp5.tab] ++ staticW U16 115 Cmp5.yN
def tab : Cond := tabOf yN yB 6 (some (.array .byte)) site
def P (b : Addr) (A : Cell) (o len : Nat) (args : Array Value) (s : State) : Prop := args = #[.ref b, .int (Int32.ofNat o), .int (Int32.ofNat len)] ∧ Ch b A s ∧ o + len ≤ A.slots.size ∧ len ≤ 536870912 ∧ ∀ i, i < len → ¬ 255 < cv A (o + i)
def E (b : Addr) (A : Cell) (o len : Nat) (r : Option Value) (s u : State) : Prop := NewArr .byte "[B" len (fun j => .int (lo8 (cv A (o + j)))) r s u ∧ u.heap.size = s.heap.size + 1
/-- no char of the range above 255: a new byte[] of their low bytes -/
theorem law (l : Launch) (b : Addr) (A : Cell) (o len : Nat) : Law l yN 3 3 1 18 yB 6 (some (.array .byte)) site (P b A o len) (E b A o len) [] 1 len := by
  refine Law.of_walk (plainFor_of_name (by decide +kernel)) (by decide +kernel) (by decide +kernel) (by decide) (fun _ _ h => by rw [h.1]; rfl) (fun _ U U' hal hh h => ⟨h.1, h.2.1.mv hal hh, h.2.2⟩) (fun r U U' V V' h1 hal h2 h => ⟨NewArr.mv r U U' V V' h1 hal h2 h.1, by rw [h1, h2]; exact h.2⟩) ?_
  intro p e s m args below meth c s₁ X0 hexec hbytes hml hret hlk hnm hown hh0 W hP
  obtain ⟨rfl, hA, l1, l2, hp⟩ := hP
  have a31 := hA.1.2.2.2
  have c1 : Steps p.tables e below (s₁.setTop (entryFrame m #[.ref b, .int (Int32.ofNat o), .int (Int32.ofNat len)] 6)) (s₁.setTop (mkF m 0 #[.val (.ref b), .val (.int (Int32.ofNat o)), .val (.int (Int32.ofNat len)), .unset, .unset, .unset] [])) := entry rfl
  have c2 : Steps p.tables e below (s₁.setTop (entryFrame m #[.ref b, .int (Int32.ofNat o), .int (Int32.ofNat len)] 6)) (s₁.setTop (mkF m 1 #[.val (.ref b), .val (.int (Int32.ofNat o)), .val (.int (Int32.ofNat len)), .unset, .unset, .unset] [.int (Int32.ofNat len)])) := c1.trans (by
    refine XS.iloadN X0.here hexec rfl (hb hbytes d0) rfl ?_
    exact Steps.refl _)
  obtain ⟨T3, B3, X3, ba3, bs3, bv3, bh3, bf3, st3⟩ := X0.anew hexec (atype := .byte) (wk W (.arrayClass .byte)) rfl (by show len * 1 ≤ _; omega) (by omega) (g := (mkF m 1 #[.val (.ref b), .val (.int (Int32.ofNat o)), .val (.int (Int32.ofNat len)), .unset, .unset, .unset] [.int (Int32.ofNat len)])) rfl (hb hbytes d1) (rest := []) rfl (Nat.le_refl _) (by show 0 + len ≤ len; omega)
  rw [hh0] at ba3 st3
  have kp3 : XT.Kept s T3 := (XT.Kept.of_eq hh0).push bh3
  have hA3 := hA.keep X3.warmed.alike (kp3 _ _ hA.1.1)
  have hne : b ≠ s.heap.size := hA.1.ne
  have c4 : Steps p.tables e below (s₁.setTop (entryFrame m #[.ref b, .int (Int32.ofNat o), .int (Int32.ofNat len)] 6)) (T3.setTop (mkF m 3 #[.val (.ref b), .val (.int (Int32.ofNat o)), .val (.int (Int32.ofNat len)), .unset, .unset, .unset] [.ref s.heap.size])) := c2.trans (st3 _ (Steps.refl _))
  have c5 : Steps p.tables e below (s₁.setTop (entryFrame m #[.ref b, .int (Int32.ofNat o), .int (Int32.ofNat len)] 6)) (T3.setTop (mkF m 9 #[.val (.ref b), .val (.int (Int32.ofNat o)), .val (.int (Int32.ofNat len)), .val (.ref s.heap.size), .unset, .unset] [.int (Int32.ofNat len), .int 0, .ref s.heap.size, .int (Int32.ofNat o), .ref b])) := c4.trans (by
    refine XS.astoreN X3.here hexec rfl (hb hbytes d3) rfl rfl rfl ?_
    refine XS.aloadN X3.here hexec rfl (hb hbytes d4) rfl rfl ?_
    refine XS.iloadN X3.here hexec rfl (hb hbytes d5) rfl ?_
    refine XS.aloadN X3.here hexec rfl (hb hbytes d6) rfl rfl ?_
    refine iconstV X3.here hexec rfl 0 (hb hbytes d7) (by decide) ?_
    refine XS.iloadN X3.here hexec rfl (hb hbytes d8) rfl ?_
    exact Steps.refl _)
  obtain ⟨v6, T6, X6, E6, g6⟩ := X3.callS hexec (Cmp5.law l b A s.heap.size B3 o 0 len) hown (wks W (staticW U16 115 Cmp5.yN)) (wk W Cmp5.tab) (W := 0) (Nat.le_of_ble_eq_true rfl) (Nat.le_of_ble_eq_true rfl) (Nat.le_refl _) (by show 0 + len + 0 ≤ len; omega) (g := (mkF m 9 #[.val (.ref b), .val (.int (Int32.ofNat o)), .val (.int (Int32.ofNat len)), .val (.ref s.heap.size), .unset, .unset] [.int (Int32.ofNat len), .int (Int32.ofNat 0), .ref s.heap.size, .int (Int32.ofNat o), .ref b])) rfl (by rw [hml]; rfl) c5 (argsL := [.ref b, .int (Int32.ofNat o), .ref s.heap.size, .int (Int32.ofNat 0), .int (Int32.ofNat len)]) (rest := []) rfl rfl (by show 2 * 0 + 0 ≤ _; decide) (hb hbytes d9) (⟨rfl, hA3, ba3, hne, l1, by rw [bs3]; simp, hp⟩)
  obtain ⟨rfl, B6, p6, f6⟩ := E6
  have c7 : Steps p.tables e below (s₁.setTop (entryFrame m #[.ref b, .int (Int32.ofNat o), .int (Int32.ofNat len)] 6)) (T6.setTop (mkF m 12 #[.val (.ref b), .val (.int (Int32.ofNat o)), .val (.int (Int32.ofNat len)), .val (.ref s.heap.size), .unset, .unset] [.int (Int32.ofNat len)])) := g6
  have c8 : Steps p.tables e below (s₁.setTop (entryFrame m #[.ref b, .int (Int32.ofNat o), .int (Int32.ofNat len)] 6)) (T6.setTop (mkF m 58 #[.val (.ref b), .val (.int (Int32.ofNat o)), .val (.int (Int32.ofNat len)), .val (.ref s.heap.size), .val (.int (Int32.ofNat len)), .unset] [.ref s.heap.size])) := c7.trans (by
    refine XS.istore X6.here hexec rfl (hb hbytes d12) rfl rfl ?_
    refine XS.iload X6.here hexec rfl (hb hbytes d14) rfl ?_
    refine XS.iloadN X6.here hexec rfl (hb hbytes d16) rfl ?_
    refine XS.icmpYes X6.here hexec rfl (pc0 := 17) rfl (hb hbytes d17) rfl (ii_eq_t rfl) (by decide) rfl ?_
    refine XS.aloadN X6.here hexec rfl (hb hbytes d57) rfl rfl ?_
    exact Steps.refl _)
  have X8 := X6.wide (L' := []) (cells' := 1) (slots' := len) (fun x hx hlt => by
    simp only [List.nil_append, copyLocs, List.mem_map, List.mem_range] at hx
    obtain ⟨i, -, rfl⟩ := hx
    exact absurd hlt (Nat.lt_irrefl _)) (Nat.le_refl _) (by omega)
  exact ⟨T6, some (.ref s.heap.size), _, _, _, X8, rfl, rfl, rfl, (fun h => by cases h), ⟨⟨rfl, B6, ba3.like (X3.warmed.alike.symm.trans X6.warmed.alike) p6.1 f6.1 f6.2.1 f6.2.2.1, f6.2.1.trans bv3, by rw [X6.warmed.alike.findClass, f6.1]; exact bf3, by rw [f6.2.2.1, bs3]; simp, fun j hj => by rw [f6.2.2.2 j, if_pos (by omega)]; rfl, kp3.put p6 (Nat.le_refl _)⟩, by rw [p6.2.2, bh3, hh0]; simp⟩, fun fs hl => c8.trans (X8.areturnOut hexec rfl hret rfl (hb hbytes d58) hl)⟩
end Cmp3
namespace CodL
def yN : MethodName := ⟨"java/lang/StringUTF16", "coderFromArrayLen", "([BI)B"⟩
abbrev yB : ByteArray := jdk_52_method_15_code
theorem d0 : decode yB 0 = .ok (.iload_n 1, 1) := by decide +kernel
theorem d1 : decode yB 1 = .ok (.aload_n 0, 1) := by decide +kernel
theorem d2 : decode yB 2 = .ok (.arraylength, 1) := by decide +kernel
theorem d3 : decode yB 3 = .ok (.isub, 1) := by decide +kernel
theorem d4 : decode yB 4 = .ok (.bipush 31, 2) := by decide +kernel
theorem d6 : decode yB 6 = .ok (.iushr, 1) := by decide +kernel
theorem d7 : decode yB 7 = .ok (.i2b, 1) := by decide +kernel
theorem d8 : decode yB 8 = .ok (.ireturn, 1) := by decide +kernel
def site : List Cond := []
def tab : Cond := tabOf yN yB 2 (some .byte) site
def P (d : Addr) (B : Cell) (args : Array Value) (s : State) : Prop := args = #[.ref d, .int (Int32.ofNat B.slots.size)] ∧ Arr .byte d B s
def E (r : Option Value) (s u : State) : Prop := XT.PureE (some (.int 0)) r s u
/-- an array as long as the number of chars: LATIN1 -/
theorem law (l : Launch) (d : Addr) (B : Cell) : Law l yN 2 2 0 0 yB 2 (some .byte) site (P d B) E [] 0 0 := by
  refine Law.of_walk (plainFor_of_name (by decide +kernel)) (by decide +kernel) (by decide +kernel) (by decide) (fun _ _ h => by rw [h.1]; rfl) (fun _ U U' hal hh h => ⟨h.1, h.2.mv hal hh⟩) (fun r U U' V V' h1 hal h2 h => XT.PureE.mv r U U' V V' h1 hal h2 h) ?_
  intro p e s m args below meth c s₁ X0 hexec hbytes hml hret hlk hnm hown hh0 W hP
  obtain ⟨rfl, hB⟩ := hP
  have hB0 := hB.mv X0.warmed.alike hh0
  have c1 : Steps p.tables e below (s₁.setTop (entryFrame m #[.ref d, .int (Int32.ofNat B.slots.size)] 2)) (s₁.setTop (mkF m 0 #[.val (.ref d), .val (.int (Int32.ofNat B.slots.size))] [])) := entry rfl
  have c2 : Steps p.tables e below (s₁.setTop (entryFrame m #[.ref d, .int (Int32.ofNat B.slots.size)] 2)) (s₁.setTop (mkF m 2 #[.val (.ref d), .val (.int (Int32.ofNat B.slots.size))] [.ref d, .int (Int32.ofNat B.slots.size)])) := c1.trans (by
    refine XS.iloadN X0.here hexec rfl (hb hbytes d0) rfl ?_
    refine XS.aloadN X0.here hexec rfl (hb hbytes d1) rfl rfl ?_
    exact Steps.refl _)
  have c3 : Steps p.tables e below (s₁.setTop (entryFrame m #[.ref d, .int (Int32.ofNat B.slots.size)] 2)) (s₁.setTop (mkF m 8 #[.val (.ref d), .val (.int (Int32.ofNat B.slots.size))] [.int (lo8 (ushr (Int32.ofNat B.slots.size - Int32.ofNat B.slots.size) 31))])) := c2.trans (by
    refine X0.alen hexec hB0 rfl rfl (hb hbytes d2) ?_
    refine XS.isub X0.here hexec rfl (hb hbytes d3) rfl ?_
    refine bipushV X0.here hexec rfl 31 (hb hbytes d4) (by decide) ?_
    refine iushr X0.here hexec rfl (hb hbytes d6) rfl ?_
    refine i2b X0.here hexec rfl (hb hbytes d7) rfl ?_
    exact Steps.refl _)
  have e0 : lo8 (ushr (Int32.ofNat B.slots.size - Int32.ofNat B.slots.size) 31) = 0 := by rw [Int32.sub_self]; decide
  rw [e0] at c3
  exact ⟨s₁, some (.int 0), _, _, _, X0, rfl, rfl, rfl, (fun h => by cases h), ⟨rfl, hh0⟩, fun fs hl => c3.trans (X0.ireturnOut hexec hret rfl (Or.inr (Or.inr (Or.inl rfl))) (hb hbytes d8) hl)⟩
end CodL
/-- the String at a is Latin-1 over a new byte[] (the heap's one new cell): the low bytes of the len chars of A from o on; every cell but a is kept -/
def Got (a : Addr) (D : Cell) (fV fC : Field) (A : Cell) (o len : Nat) (r : Option Value) (s u : State) : Prop := r = none ∧ ∃ D' V : Cell, Blank "java/lang/String" a D' u ∧ Same D D' [fV.slot, fC.slot] ∧ D'.slots[fV.slot]? = some (.ref s.heap.size) ∧ D'.slots[fC.slot]? = some (.int 0) ∧ Arr .byte s.heap.size V u ∧ V.vm = .none ∧ u.vm.findClass "[B" = some V.cls ∧ V.slots.size = len ∧ (∀ j, j < len → V.slots[j]? = some (.int (lo8 (cv A (o + j))))) ∧ (∀ (y : Addr) (c : Cell), y ≠ a → s.heap[y]? = some c → u.heap[y]? = some c) ∧ u.heap.size = s.heap.size + 1
theorem Got.mv {a : Addr} {D A : Cell} {fV fC : Field} {o len : Nat} : ∀ r (U U' V V' : State), U'.heap = U.heap → V.vm.Alike V'.vm → V'.heap = V.heap → Got a D fV fC A o len r U V → Got a D fV fC A o len r U' V' :=
  fun r U U' V V' h1 hal h2 ⟨e0, D', X, a1, a2, a3, a4, a5, a6, a7, a8, a9, a10, a11⟩ => ⟨e0, D', X, a1.mv hal h2, a2, by rw [h1]; exact a3, a4, by rw [h1]; exact a5.mv hal h2, a6, by rw [hal.findClass]; exact a7, a8, a9, by rw [h1, h2]; exact a10, by rw [h1, h2]; exact a11⟩
namespace New4
def yN : MethodName := ⟨"java/lang/String", "<init>", "([CIILjava/lang/Void;)V"⟩
abbrev yB : ByteArray := jdk_42_method_149_code
theorem d0 : decode yB 0 = .ok (.aload_n 0, 1) := by decide +kernel
theorem d1 : decode yB 1 = .ok (.invokespecial 1, 3) := by decide +kernel
theorem d4 : decode yB 4 = .ok (.iload_n 3, 1) := by decide +kernel
theorem d5 : decode yB 5 = .ok (.ifCond (.ne) 22, 3) := by decide +kernel
theorem d27 : decode yB 27 = .ok (.getstatic 38, 3) := by decide +kernel
theorem d30 : decode yB 30 = .ok (.ifCond (.eq) 28, 3) := by decide +kernel
theorem d33 : decode yB 33 = .ok (.aload_n 1, 1) := by decide +kernel
theorem d34 : decode yB 34 = .ok (.iload_n 2, 1) := by decide +kernel
theorem d35 : decode yB 35 = .ok (.iload_n 3, 1) := by decide +kernel
theorem d36 : decode yB 36 = .ok (.invokestatic 177, 3) := by decide +kernel
theorem d39 : decode yB 39 = .ok (.astore 5, 2) := by decide +kernel
theorem d41 : decode yB 41 = .ok (.aload_n 0, 1) := by decide +kernel
theorem d42 : decode yB 42 = .ok (.aload 5, 2) := by decide +kernel
theorem d44 : decode yB 44 = .ok (.iload_n 3, 1) := by decide +kernel
theorem d45 : decode yB 45 = .ok (.invokestatic 47, 3) := by decide +kernel
theorem d48 : decode yB 48 = .ok (.putfield 15, 3) := by decide +kernel
theorem d51 : decode yB 51 = .ok (.aload_n 0, 1) := by decide +kernel
theorem d52 : decode yB 52 = .ok (.aload 5, 2) := by decide +kernel
theorem d54 : decode yB 54 = .ok (.putfield 9, 3) := by decide +kernel
theorem d57 : decode yB 57 = .ok (.return_, 1) := by decide +kernel
def site : List Cond := [.fieldLink "java/lang/String" 38 "java/lang/String" "COMPACT_STRINGS" "Z", Cmp3.tab, CodL.tab, .laysFinal "java/lang/String" "java/lang/String" "value" "[B", .fieldLink "java/lang/String" 9 "java/lang/String" "value" "[B", .laysFinal "java/lang/String" "java/lang/String" "coder" "B", .fieldLink "java/lang/String" 15 "java/lang/String" "coder" "B"] ++ objW "java/lang/String" 1 ++ staticW "java/lang/String" 177 Cmp3.yN ++ staticW "java/lang/String" 47 CodL.yN
def tab : Cond := tabOf yN yB 6 none site
def P (a : Addr) (D : Cell) (fV fC : Field) (b : Addr) (A : Cell) (z : Int32) (o len : Nat) (args : Array Value) (s : State) : Prop := args = #[.ref a, .ref b, .int (Int32.ofNat o), .int (Int32.ofNat len), .null] ∧ Blank "java/lang/String" a D s ∧ Found "java/lang/String" "value" "[B" fV s ∧ Found "java/lang/String" "coder" "B" fC s ∧ Ch b A s ∧ StaticIs s "java/lang/String" "COMPACT_STRINGS" "Z" (.int z) ∧ ¬ z = 0 ∧ 0 < len ∧ o + len ≤ A.slots.size ∧ len ≤ 536870912 ∧ ∀ i, i < len → ¬ 255 < cv A (o + i)
def E (a : Addr) (D : Cell) (fV fC : Field) (A : Cell) (o len : Nat) (r : Option Value) (s u : State) : Prop := Got a D fV fC A o len r s u
/-- len > 0, no char of the range above 255: a Latin-1 String of their low bytes -/
theorem law (l : Launch) (a : Addr) (D : Cell) (fV fC : Field) (b : Addr) (A : Cell) (z : Int32) (o len : Nat) : Law l yN 5 4 2 35 yB 6 none site (P a D fV fC b A z o len) (E a D fV fC A o len) [⟨a, fC.slot⟩, ⟨a, fV.slot⟩] 1 len := by
  refine Law.of_walk (plainFor_of_name (by decide +kernel)) (by decide +kernel) (by decide +kernel) (by decide) (fun _ _ h => by rw [h.1]; rfl) (fun _ U U' hal hh h => ⟨h.1, h.2.1.mv hal hh, h.2.2.1.al hal, h.2.2.2.1.al hal, h.2.2.2.2.1.mv hal hh, h.2.2.2.2.2.1.there hal hh, h.2.2.2.2.2.2⟩) (fun r U U' V V' h1 hal h2 h => Got.mv r U U' V V' h1 hal h2 h) ?_
  intro p e s m args below meth c s₁ X0 hexec hbytes hml hret hlk hnm hown hh0 W hP
  obtain ⟨rfl, hB, f1, f2, hA, s1, hz, l0, l1, l2, hp⟩ := hP
  have a31 := hA.1.2.2.2
  have c1 : Steps p.tables e below (s₁.setTop (entryFrame m #[.ref a, .ref b, .int (Int32.ofNat o), .int (Int32.ofNat len), .null] 6)) (s₁.setTop (mkF m 0 #[.val (.ref a), .val (.ref b), .val (.int (Int32.ofNat o)), .val (.int (Int32.ofNat len)), .val .null, .unset] [])) := entry rfl
  have c2 : Steps p.tables e below (s₁.setTop (entryFrame m #[.ref a, .ref b, .int (Int32.ofNat o), .int (Int32.ofNat len), .null] 6)) (s₁.setTop (mkF m 1 #[.val (.ref a), .val (.ref b), .val (.int (Int32.ofNat o)), .val (.int (Int32.ofNat len)), .val .null, .unset] [.ref a])) := c1.trans (by
    refine XS.aloadN X0.here hexec rfl (hb hbytes d0) rfl rfl ?_
    exact Steps.refl _)
  obtain ⟨T3, X3, q3, st3⟩ := X0.oinit hexec hown (wks W (objW "java/lang/String" 1)) (g := (mkF m 1 #[.val (.ref a), .val (.ref b), .val (.int (Int32.ofNat o)), .val (.int (Int32.ofNat len)), .val .null, .unset] [.ref a])) rfl (by rw [hml]; rfl) (rest := []) rfl (hb hbytes d1) (W := 0) (by show 2 * 0 + 0 ≤ _; decide) (Nat.le_of_ble_eq_true rfl) (Nat.le_of_ble_eq_true rfl)
  have hh3 := q3.trans hh0
  have c4 : Steps p.tables e below (s₁.setTop (entryFrame m #[.ref a, .ref b, .int (Int32.ofNat o), .int (Int32.ofNat len), .null] 6)) (T3.setTop (mkF m 27 #[.val (.ref a), .val (.ref b), .val (.int (Int32.ofNat o)), .val (.int (Int32.ofNat len)), .val .null, .unset] [])) := (c2.trans (st3 _ (Steps.refl _))).trans (by
    refine XS.iloadN X3.here hexec rfl (hb hbytes d4) rfl ?_
    refine XS.ifYes X3.here hexec rfl (pc0 := 5) rfl (hb hbytes d5) rfl (i0_ne_t (nz32 (by omega) l0)) (by decide) rfl ?_
    exact Steps.refl _)
  obtain ⟨T5, X5, q5, st5⟩ := X3.sget hexec hown (wk W (.fieldLink "java/lang/String" 38 "java/lang/String" "COMPACT_STRINGS" "Z")) s1 (fun _ _ h => by rw [hh3]; exact h) (g := (mkF m 27 #[.val (.ref a), .val (.ref b), .val (.int (Int32.ofNat o)), .val (.int (Int32.ofNat len)), .val .null, .unset] [])) rfl (hb hbytes d27)
  have hh5 := q5.trans hh3
  have c6 : Steps p.tables e below (s₁.setTop (entryFrame m #[.ref a, .ref b, .int (Int32.ofNat o), .int (Int32.ofNat len), .null] 6)) (T5.setTop (mkF m 30 #[.val (.ref a), .val (.ref b), .val (.int (Int32.ofNat o)), .val (.int (Int32.ofNat len)), .val .null, .unset] [.int z])) := c4.trans (st5 _ (Steps.refl _))
  have c7 : Steps p.tables e below (s₁.setTop (entryFrame m #[.ref a, .ref b, .int (Int32.ofNat o), .int (Int32.ofNat len), .null] 6)) (T5.setTop (mkF m 36 #[.val (.ref a), .val (.ref b), .val (.int (Int32.ofNat o)), .val (.int (Int32.ofNat len)), .val .null, .unset] [.int (Int32.ofNat len), .int (Int32.ofNat o), .ref b])) := c6.trans (by
    refine XS.ifNo X5.here hexec rfl (hb hbytes d30) rfl (i0_eq_f hz) ?_
    refine XS.aloadN X5.here hexec rfl (hb hbytes d33) rfl rfl ?_
    refine XS.iloadN X5.here hexec rfl (hb hbytes d34) rfl ?_
    refine XS.iloadN X5.here hexec rfl (hb hbytes d35) rfl ?_
    exact Steps.refl _)
  obtain ⟨v8, T8, X8, E8, g8⟩ := X5.callS hexec (Cmp3.law l b A o len) hown (wks W (staticW "java/lang/String" 177 Cmp3.yN)) (wk W Cmp3.tab) (W := 0) (Nat.le_of_ble_eq_true rfl) (Nat.le_of_ble_eq_true rfl) (Nat.le_refl _) (by show 0 + len ≤ len; omega) (g := (mkF m 36 #[.val (.ref a), .val (.ref b), .val (.int (Int32.ofNat o)), .val (.int (Int32.ofNat len)), .val .null, .unset] [.int (Int32.ofNat len), .int (Int32.ofNat o), .ref b])) rfl (by rw [hml]; rfl) c7 (argsL := [.ref b, .int (Int32.ofNat o), .int (Int32.ofNat len)]) (rest := []) rfl rfl (by show 2 * 0 + 0 ≤ _; decide) (hb hbytes d36) (⟨rfl, hA.mv X5.warmed.alike hh5, l1, l2, hp⟩)
  obtain ⟨e8, z8⟩ := E8
  obtain ⟨rfl, N, n1, n2, n3, n4, n5, n6⟩ := NewArr.mv _ T5 s _ _ hh5.symm (Vm.Alike.refl _) rfl e8
  rw [hh5] at z8
  have hB1 := hB.keep X8.warmed.alike (n6 _ _ hB.1)
  have hne : s.heap.size ≠ a := (Nat.ne_of_lt (Array.getElem?_eq_some_iff.mp hB.1).1).symm
  have c9 : Steps p.tables e below (s₁.setTop (entryFrame m #[.ref a, .ref b, .int (Int32.ofNat o), .int (Int32.ofNat len), .null] 6)) (T8.setTop (mkF m 39 #[.val (.ref a), .val (.ref b), .val (.int (Int32.ofNat o)), .val (.int (Int32.ofNat len)), .val .null, .unset] [.ref s.heap.size])) := g8
  have c10 : Steps p.tables e below (s₁.setTop (entryFrame m #[.ref a, .ref b, .int (Int32.ofNat o), .int (Int32.ofNat len), .null] 6)) (T8.setTop (mkF m 45 #[.val (.ref a), .val (.ref b), .val (.int (Int32.ofNat o)), .val (.int (Int32.ofNat len)), .val .null, .val (.ref s.heap.size)] [.int (Int32.ofNat N.slots.size), .ref s.heap.size, .ref a])) := by
    have hc : Steps p.tables e below (s₁.setTop (entryFrame m #[.ref a, .ref b, .int (Int32.ofNat o), .int (Int32.ofNat len), .null] 6)) (T8.setTop (mkF m 45 #[.val (.ref a), .val (.ref b), .val (.int (Int32.ofNat o)), .val (.int (Int32.ofNat len)), .val .null, .val (.ref s.heap.size)] [.int (Int32.ofNat len), .ref s.heap.size, .ref a])) := c9.trans (by
      refine XS.astore X8.here hexec rfl (hb hbytes d39) rfl rfl rfl ?_
      refine XS.aloadN X8.here hexec rfl (hb hbytes d41) rfl rfl ?_
      refine XS.aload X8.here hexec rfl (hb hbytes d42) rfl rfl ?_
      refine XS.iloadN X8.here hexec rfl (hb hbytes d44) rfl ?_
      exact Steps.refl _)
    rw [n4]; exact hc
  obtain ⟨v11, T11, X11, E11, g11⟩ := X8.callS hexec (CodL.law l s.heap.size N) hown (wks W (staticW "java/lang/String" 47 CodL.yN)) (wk W CodL.tab) (W := 1) (Nat.le_of_ble_eq_true rfl) (Nat.le_of_ble_eq_true rfl) (Nat.le_refl _) (by show 0 + len + 0 ≤ len; omega) (g := (mkF m 45 #[.val (.ref a), .val (.ref b), .val (.int (Int32.ofNat o)), .val (.int (Int32.ofNat len)), .val .null, .val (.ref s.heap.size)] [.int (Int32.ofNat N.slots.size), .ref s.heap.size, .ref a])) rfl (by rw [hml]; rfl) c10 (argsL := [.ref s.heap.size, .int (Int32.ofNat N.slots.size)]) (rest := [.ref a]) rfl rfl (by show 2 * 0 + (1 + 0) ≤ _; decide) (hb hbytes d45) (⟨rfl, n1⟩)
  obtain ⟨rfl, q11⟩ := E11
  have hB11 := hB1.mv (X8.warmed.alike.symm.trans X11.warmed.alike) q11
  have c12 : Steps p.tables e below (s₁.setTop (entryFrame m #[.ref a, .ref b, .int (Int32.ofNat o), .int (Int32.ofNat len), .null] 6)) (T11.setTop (mkF m 48 #[.val (.ref a), .val (.ref b), .val (.int (Int32.ofNat o)), .val (.int (Int32.ofNat len)), .val .null, .val (.ref s.heap.size)] [.int 0, .ref a])) := g11
  obtain ⟨T13, X13, p13, bl13, sl13, st13⟩ := X11.finit hexec hown (wk W (.fieldLink "java/lang/String" 15 "java/lang/String" "coder" "B")) (Or.inr ⟨_, (wk W (.laysFinal "java/lang/String" "java/lang/String" "coder" "B"))⟩) (Or.inl ⟨rfl, hnm⟩) f2 (Or.inl rfl) hB11 (t := .byte) (by decide +kernel) rfl (g := (mkF m 48 #[.val (.ref a), .val (.ref b), .val (.int (Int32.ofNat o)), .val (.int (Int32.ofNat len)), .val .null, .val (.ref s.heap.size)] [.int 0, .ref a])) rfl (rest := []) rfl (hb hbytes d48)
  have c14 : Steps p.tables e below (s₁.setTop (entryFrame m #[.ref a, .ref b, .int (Int32.ofNat o), .int (Int32.ofNat len), .null] 6)) (T13.setTop (mkF m 54 #[.val (.ref a), .val (.ref b), .val (.int (Int32.ofNat o)), .val (.int (Int32.ofNat len)), .val .null, .val (.ref s.heap.size)] [.ref s.heap.size, .ref a])) := (c12.trans (st13 _ (Steps.refl _))).trans (by
    refine XS.aloadN X13.here hexec rfl (hb hbytes d51) rfl rfl ?_
    refine XS.aload X13.here hexec rfl (hb hbytes d52) rfl rfl ?_
    exact Steps.refl _)
  obtain ⟨T15, X15, p15, bl15, sl15, st15⟩ := X13.finit hexec hown (wk W (.fieldLink "java/lang/String" 9 "java/lang/String" "value" "[B")) (Or.inr ⟨_, (wk W (.laysFinal "java/lang/String" "java/lang/String" "value" "[B"))⟩) (Or.inl ⟨rfl, hnm⟩) f1 (Or.inl rfl) bl13 (t := (.array .byte)) (by decide +kernel) rfl (g := (mkF m 54 #[.val (.ref a), .val (.ref b), .val (.int (Int32.ofNat o)), .val (.int (Int32.ofNat len)), .val .null, .val (.ref s.heap.size)] [.ref s.heap.size, .ref a])) rfl (rest := []) rfl (hb hbytes d54)
  have c16 : Steps p.tables e below (s₁.setTop (entryFrame m #[.ref a, .ref b, .int (Int32.ofNat o), .int (Int32.ofNat len), .null] 6)) (T15.setTop (mkF m 57 #[.val (.ref a), .val (.ref b), .val (.int (Int32.ofNat o)), .val (.int (Int32.ofNat len)), .val .null, .val (.ref s.heap.size)] [])) := c14.trans (st15 _ (Steps.refl _))
  have ap := apart (Or.inr ⟨_, (wk W (.laysFinal "java/lang/String" "java/lang/String" "value" "[B"))⟩) (Or.inr ⟨_, (wk W (.laysFinal "java/lang/String" "java/lang/String" "coder" "B"))⟩) f1 f2 (t₁ := .array .byte) (t₂ := .byte) (by decide +kernel) (by decide +kernel) (by decide)
  have al := X8.warmed.alike.symm.trans X15.warmed.alike
  have n7 : T11.heap[s.heap.size]? = some N := by rw [q11]; exact n1.1
  exact ⟨T15, none, _, _, _, X15, by simp, rfl, by omega, (fun _ => rfl), ⟨rfl, _, N, bl15, ((Same.refl D _).set _ (by simp)).set _ (by simp), sl15, (Cell.slots_setSlot_ne _ ap).trans sl13, n1.keep al (p15.other hne (p13.other hne n7)), n2, by rw [al.findClass]; exact n3, n4, n5, fun y c h1 h2 => p15.other h1 (p13.other h1 (by rw [q11]; exact n6 y c h2)), by rw [p15.2.2, p13.2.2, q11]; exact z8⟩, fun fs hl => c16.trans (X15.returnOut hexec hret (hb hbytes d57) hl)⟩
end New4
namespace New1
def yN : MethodName := ⟨"java/lang/String", "<init>", "([C)V"⟩
abbrev yB : ByteArray := jdk_42_method_3_code
theorem d0 : decode yB 0 = .ok (.aload_n 0, 1) := by decide +kernel
theorem d1 : decode yB 1 = .ok (.aload_n 1, 1) := by decide +kernel
theorem d2 : decode yB 2 = .ok (.iconst 0, 1) := by decide +kernel
theorem d3 : decode yB 3 = .ok (.aload_n 1, 1) := by decide +kernel
theorem d4 : decode yB 4 = .ok (.arraylength, 1) := by decide +kernel
theorem d5 : decode yB 5 = .ok (.aconst_null, 1) := by decide +kernel
theorem d6 : decode yB 6 = .ok (.invokespecial 27, 3) := by decide +kernel
theorem d9 : decode yB 9 = .ok (.return_, 1) := by decide +kernel
def site : List Cond := [New4.tab] ++ initW "java/lang/String" 27 New4.yN
def tab : Cond := tabOf yN yB 2 none site
def P (a : Addr) (D : Cell) (fV fC : Field) (b : Addr) (A : Cell) (z : Int32) (args : Array Value) (s : State) : Prop := args = #[.ref a, .ref b] ∧ Blank "java/lang/String" a D s ∧ Found "java/lang/String" "value" "[B" fV s ∧ Found "java/lang/String" "coder" "B" fC s ∧ Ch b A s ∧ StaticIs s "java/lang/String" "COMPACT_STRINGS" "Z" (.int z) ∧ ¬ z = 0 ∧ 0 < A.slots.size ∧ A.slots.size ≤ 536870912 ∧ ∀ i, i < A.slots.size → ¬ 255 < cv A i
def E (a : Addr) (D : Cell) (fV fC : Field) (A : Cell) (r : Option Value) (s u : State) : Prop := Got a D fV fC A 0 A.slots.size r s u
/-- new String(chars), not empty, no char above 255: a Latin-1 String of their low bytes -/
theorem law (l : Launch) (a : Addr) (D : Cell) (fV fC : Field) (b : Addr) (A : Cell) (z : Int32) : Law l yN 2 1 3 52 yB 2 none site (P a D fV fC b A z) (E a D fV fC A) [⟨a, fC.slot⟩, ⟨a, fV.slot⟩] 1 A.slots.size := by
  refine Law.of_walk (plainFor_of_name (by decide +kernel)) (by decide +kernel) (by decide +kernel) (by decide) (fun _ _ h => by rw [h.1]; rfl) (fun _ U U' hal hh h => ⟨h.1, h.2.1.mv hal hh, h.2.2.1.al hal, h.2.2.2.1.al hal, h.2.2.2.2.1.mv hal hh, h.2.2.2.2.2.1.there hal hh, h.2.2.2.2.2.2⟩) (fun r U U' V V' h1 hal h2 h => Got.mv r U U' V V' h1 hal h2 h) ?_
  intro p e s m args below meth c s₁ X0 hexec hbytes hml hret hlk hnm hown hh0 W hP
  obtain ⟨rfl, hB, f1, f2, hA, s1, hz, l0, l2, hp⟩ := hP
  have c1 : Steps p.tables e below (s₁.setTop (entryFrame m #[.ref a, .ref b] 2)) (s₁.setTop (mkF m 0 #[.val (.ref a), .val (.ref b)] [])) := entry rfl
  have c2 : Steps p.tables e below (s₁.setTop (entryFrame m #[.ref a, .ref b] 2)) (s₁.setTop (mkF m 6 #[.val (.ref a), .val (.ref b)] [.null, .int (Int32.ofNat A.slots.size), .int 0, .ref b, .ref a])) := c1.trans (by
    refine XS.aloadN X0.here hexec rfl (hb hbytes d0) rfl rfl ?_
    refine XS.aloadN X0.here hexec rfl (hb hbytes d1) rfl rfl ?_
    refine iconstV X0.here hexec rfl 0 (hb hbytes d2) (by decide) ?_
    refine XS.aloadN X0.here hexec rfl (hb hbytes d3) rfl rfl ?_
    refine X0.alen hexec (hA.1.mv X0.warmed.alike hh0) rfl rfl (hb hbytes d4) ?_
    refine XS.aconstNull X0.here hexec rfl (hb hbytes d5) ?_
    exact Steps.refl _)
  obtain ⟨v3, T3, X3, E3, g3⟩ := X0.callN hexec (New4.law l a D fV fC b A z 0 A.slots.size) rfl hown (wks W (initW "java/lang/String" 27 New4.yN)) (W New4.tab (by simp only [site, List.mem_cons, List.mem_append, true_or, or_true])) (W := 0) (Nat.le_of_ble_eq_true rfl) (Nat.le_of_ble_eq_true rfl) (Nat.le_refl _) (by show 0 + A.slots.size ≤ A.slots.size; omega) (g := (mkF m 6 #[.val (.ref a), .val (.ref b)] [.null, .int (Int32.ofNat A.slots.size), .int (Int32.ofNat 0), .ref b, .ref a])) rfl (by rw [hml]; rfl) c2 (argsL := [.ref b, .int (Int32.ofNat 0), .int (Int32.ofNat A.slots.size), .null]) (rest := []) rfl rfl (by show 2 * 0 + 0 ≤ _; decide) (hb hbytes d6) (⟨rfl, hB.mv X0.warmed.alike hh0, f1.al X0.warmed.alike, f2.al X0.warmed.alike, hA.mv X0.warmed.alike hh0, s1.there X0.warmed.alike hh0, hz, l0, by omega, l2, fun i hi => by rw [Nat.zero_add]; exact hp i hi⟩)
  have e0 := Got.mv _ s₁ s _ _ hh0.symm (Vm.Alike.refl _) rfl E3
  obtain rfl := e0.1
  have c4 : Steps p.tables e below (s₁.setTop (entryFrame m #[.ref a, .ref b] 2)) (T3.setTop (mkF m 9 #[.val (.ref a), .val (.ref b)] [])) := g3
  exact ⟨T3, none, _, _, _, X3, by simp, rfl, by omega, (fun _ => rfl), e0, fun fs hl => c4.trans (X3.returnOut hexec hret (hb hbytes d9) hl)⟩
theorem pays {l : Launch} {R : Room} {p : Program} {e : Env} {below : List Frame} {s : State} {sargs : Array Value} {len W : Nat} (a : Addr) (D : Cell) (fV fC : Field) (b : Addr) (A : Cell) (z : Int32) (htab : tab.before sargs s = true) (hfr : 4 ≤ R.frames) (hlo : W + 65 ≤ R.locals) :
    Back l R p e below s sargs yN len W (fun A₁ a₁ => A₁.cells + 1 ≤ R.cells ∧ A₁.slots + A.slots.size ≤ R.slots ∧ P a D fV fC b A z a₁ A₁.U) (fun A₁ _ v₁ B₁ => E a D fV fC A v₁ A₁.U B₁.U ∧ B₁.locs = A₁.locs ++ [⟨a, fC.slot⟩, ⟨a, fV.slot⟩] ∧ B₁.cells = A₁.cells + 1 ∧ B₁.slots = A₁.slots + A.slots.size) :=
  (law l a D fV fC b A z).pays htab hfr (by omega)
end New1
/-- the byte, read back as charAt reads it, is the char -/
theorem lo8_mask {x : Int32} (h0 : ¬ x < 0) (h1 : ¬ 255 < x) : lo8 x &&& 255 = x := by
  have t : ∀ k : Fin 256, lo8 (Int32.ofNat k.val) &&& 255 = Int32.ofNat k.val := by decide +kernel
  rw [Int32.lt_iff_toInt_lt] at h0 h1
  have e0 : (0 : Int32).toInt = 0 := rfl
  have e1 : (255 : Int32).toInt = 255 := rfl
  obtain ⟨k, hk⟩ : ∃ k : Nat, x.toInt = k := ⟨x.toInt.toNat, by omega⟩
  have hx : x = Int32.ofNat k := Int32.toInt_inj.mp (by rw [hk, Int32.toInt_ofNat_small (by omega)])
  rw [hx]
  exact t ⟨k, by omega⟩
end StrChars
namespace StrChars.Road
open Jvm Sem ClassFile Op Lib Jvm.Stand Jvm.Free Jvm.Free.XT
open Jvm.Lib.Cold (StaticIs)
abbrev ST : String := "java/lang/String"
/-- every table word that New1's law asks, flat -/
abbrev words : List Jvm.Cond := [.code New1.yN New1.yB 2 none, .initialized ST, .methodLink ST 27 New4.yN, .instanceMethod New4.yN,
  .code New4.yN New4.yB 6 none, .fieldLink ST 38 ST "COMPACT_STRINGS" "Z", .laysFinal ST ST "value" "[B", .fieldLink ST 9 ST "value" "[B", .laysFinal ST ST "coder" "B", .fieldLink ST 15 ST "coder" "B",
  .methodLink ST 1 Lib.objectInit, .instanceMethod Lib.objectInit, .code Lib.objectInit ⟨#[0xb1]⟩ 1 none, .methodLink ST 177 Cmp3.yN, .static Cmp3.yN, .methodLink ST 47 CodL.yN, .static CodL.yN,
  .code Cmp3.yN Cmp3.yB 6 (some (.array .byte)), .initialized U16, .arrayClass .byte, .methodLink U16 115 Cmp5.yN, .static Cmp5.yN, .code Cmp5.yN Cmp5.yB 7 (some .int), .code CodL.yN CodL.yB 2 (some .byte)]
theorem tab_of {a : Array Value} {s : State} (h : ∀ w ∈ words, w.before a s = true) : New1.tab.before a s = true := by
  have h5 : Cmp5.tab.before a s = true := unparts (wk h (.code Cmp5.yN Cmp5.yB 7 (some .int))) (wks h (.initialized Cmp5.yN.cls :: Cmp5.site))
  have hc : CodL.tab.before a s = true := unparts (wk h (.code CodL.yN CodL.yB 2 (some .byte))) (wks h (.initialized CodL.yN.cls :: CodL.site))
  have q5 : ∀ w ∈ Cmp5.tab :: words, w.before a s = true := fun w hw => (List.mem_cons.mp hw).elim (fun e => e ▸ h5) (h w)
  have h3 : Cmp3.tab.before a s = true := unparts (wk q5 (.code Cmp3.yN Cmp3.yB 6 (some (.array .byte)))) (wks q5 (.initialized Cmp3.yN.cls :: Cmp3.site))
  have q3 : ∀ w ∈ Cmp3.tab :: CodL.tab :: words, w.before a s = true := fun w hw => (List.mem_cons.mp hw).elim (fun e => e ▸ h3) fun hw => (List.mem_cons.mp hw).elim (fun e => e ▸ hc) (h w)
  have h4 : New4.tab.before a s = true := unparts (wk q3 (.code New4.yN New4.yB 6 none)) (wks q3 (.initialized New4.yN.cls :: New4.site))
  have q4 : ∀ w ∈ New4.tab :: words, w.before a s = true := fun w hw => (List.mem_cons.mp hw).elim (fun e => e ▸ h4) (h w)
  exact unparts (wk q4 (.code New1.yN New1.yB 2 none)) (wks q4 (.initialized New1.yN.cls :: New1.site))
/-- the words ride from the start Z to the walk's own state -/
theorem moved {Z s : State} {a0 args : Array Value} (hZ : Z.Warmed39 s.vm) (hw : ∀ d ∈ words, d.before a0 Z = true) : ∀ d ∈ words, d.before args s = true := fun d hd => by
  have q := hw d hd
  have t : ∀ d ∈ words, d = .arrayClass .byte ∨ (d.onTables && d.keepsFace) = true := by decide +kernel
  rcases t d hd with rfl | t
  · exact RoadKit.mvA hZ q
  · exact RoadKit.mv hZ q t
/-- WHAT COMES BACK, over the tables of the start Z: h the heap at the call, h' behind it -/
def Q (Z : State) (x : Addr) (A : Cell) (h : Heap) (v : Option Value) (h' : Heap) (L : List Loc) : Prop := v = none ∧ (∀ y ∈ L, y.base = x) ∧ RoadKit.Keep h h' [x] ∧ h'.size = h.size + 1 ∧ RoadKit.Exa Z h' x ST ∧ RoadKit.Fld Z h' x ST "value" "[B" (.ref h.size) ∧ RoadKit.Fld Z h' x ST "coder" "B" (.int 0) ∧
  (∃ V : Cell, RoadKit.Arr Z h' h.size V .byte ∧ V.vm = .none ∧ Z.vm.findClass "[B" = some V.cls ∧ V.slots.size = A.slots.size ∧ ∀ j, j < A.slots.size → V.slots[j]? = some (.int (lo8 (cv A j)))) ∧
  ∀ (O n d : String) (w : Value), RoadKit.Fld Z h x O n d w → RoadKit.slotOf Z O n d ≠ RoadKit.slotOf Z ST "value" "[B" → RoadKit.slotOf Z O n d ≠ RoadKit.slotOf Z ST "coder" "B" → RoadKit.Fld Z h' x O n d w
/-- **new String(chars) AT A CALL, IN THE ROAD'S FORM**: for specialBack behind newO: x the fresh String, b the char[] with the cell A -/
theorem back {p : Program} {l : Launch} {e : Env} {R : Room} {s : State} {args : Array Value} {below : List Frame} {len W : Nat} {Z : State} {a0 : Array Value} {h : Heap} (hZ : Z.Warmed39 s.vm) (hw : ∀ d ∈ words, d.before a0 Z = true) {kI : Nat} (wi : (Jvm.Cond.instantiable ST kI).before a0 Z = true)
    {x b : Addr} {A : Cell} {z : Int32} {v0 c0 : Value} (E : RoadKit.Exa Z h x ST) (V : RoadKit.Fld Z h x ST "value" "[B" v0) (C : RoadKit.Fld Z h x ST "coder" "B" c0) (K : RoadKit.Arr Z h b A .char) (hty : Typed .char A) (S : RoadKit.Sta Z h ST "COMPACT_STRINGS" "Z" (.int z)) (hz : ¬ z = 0)
    (l0 : 0 < A.slots.size) (l2 : A.slots.size ≤ 536870912) (hp : ∀ i, i < A.slots.size → ¬ 255 < cv A i) (hfr : 4 ≤ R.frames) (hlo : W + 65 ≤ R.locals) :
    Back l R p e below s args New1.yN len W (fun P a => a = #[.ref x, .ref b] ∧ P.U.heap = h ∧ P.cells + 1 ≤ R.cells ∧ P.slots + A.slots.size ≤ R.slots)
      (fun P _ v B => ∃ L, Q Z x A h v B.U.heap L ∧ B.locs = P.locs ++ L ∧ B.cells = P.cells + 1 ∧ B.slots = P.slots + A.slots.size) := by
  intro m meth c P g ig mk a X hg hsize hdg hW hn hp'
  obtain ⟨rfl, rfl, r1, r2⟩ := hp'
  have al : Z.vm.Alike P.U.vm := hZ.alike.trans X.warmed.alike
  obtain ⟨D, cfV, kV, iV, fV, hD, gV, stV, knV, obV, asV, slV⟩ := id V
  obtain ⟨D', cfC, kC, iC, fC, hD', gC, stC, -, -, asC, slC⟩ := id C
  cases hD.symm.trans hD'
  obtain ⟨D2, kD, e1, e2, e3, e4, e5⟩ := id E
  cases hD.symm.trans e1
  obtain ⟨c2, k2, i1, i2, i3, -⟩ := Cond.instantiable_spec wi
  cases e2.symm.trans i1
  cases e3.symm.trans i2
  obtain ⟨kU, u1, u2⟩ := al.2.2 _ _ e3
  have hB : Blank ST x D P.U := ⟨hD, ⟨knV, fun q hq => by rw [hq] at obV; cases obV⟩, by rw [al.findClass]; exact e2, kU, u1, by rw [u2]; exact i3, by rw [u2]; exact e5 i3⟩
  have F1 : Found ST "value" "[B" fV P.U := ⟨SBG.found_only al ⟨cfV, kV, iV, gV⟩, stV⟩
  have F2 : Found ST "coder" "B" fC P.U := ⟨SBG.found_only al ⟨cfC, kC, iC, gC⟩, stC⟩
  have hA : Ch b A P.U := ⟨⟨K.1, State.isArrayOf_alike al K.2.1, K.2.2, by omega⟩, hty⟩
  have hS : StaticIs P.U ST "COMPACT_STRINGS" "Z" (.int z) := by
    obtain ⟨cfS, iS, kS, fS, st, cS, t1, t2, t3, t4, t5, t6, t7⟩ := S
    exact StaticIs.there (s := { Z with heap := P.U.heap }) ⟨cfS, iS, kS, fS, st, cS, t1, t2, t3, t4, t5, (fun q => by rw [q] at t6; cases t6), t7⟩ al rfl
  obtain ⟨v, B, X', ⟨⟨hv, E', V', q1, q2, q3, q4, q5, q6, q7, q8, q9, q10, q11⟩, hl, hc, hs⟩, st⟩ := New1.pays x D fV fC b A z (tab_of (moved hZ hw)) hfr hlo m meth c P g ig mk _ X hg hsize hdg hW hn ⟨r1, r2, rfl, hB, F1, F2, hA, hS, hz, l0, l2, hp⟩
  have al' : Z.vm.Alike B.U.vm := hZ.alike.trans X'.warmed.alike
  have hsz : E'.slots.size = D.slots.size := by
    obtain ⟨-, -, -, kB, w1, w2, w3⟩ := q1
    obtain ⟨kB', y1, y2⟩ := al'.2.2 _ _ e3
    rw [q2.2.1] at w1
    cases w1.symm.trans y1
    rw [w3, e5 i3, y2]
  refine ⟨v, B, X', ⟨_, ⟨hv, ?_, ⟨by omega, fun y cy hy hn' => q10 y cy (by simpa using hn') hy, fun y cy hy => ?_⟩, q11, ⟨E', _, q1.1, by rw [q2.2.1]; exact e2, by rw [q2.2.1]; exact e3, by rw [q2.1]; exact obV, fun _ => by rw [hsz]; exact e5 i3⟩,
    ⟨E', cfV, kV, iV, fV, q1.1, gV, stV, by rw [q2.1]; exact knV, by rw [q2.1]; exact obV, by rw [q2.2.1]; exact asV, q3⟩, ⟨E', cfC, kC, iC, fC, q1.1, gC, stC, by rw [q2.1]; exact knV, by rw [q2.1]; exact obV, by rw [q2.2.1]; exact asC, q4⟩,
    ⟨V', ⟨q5.1, State.isArrayOf_alike al'.symm q5.2.1, q5.2.2.1⟩, q6, by rw [← al'.findClass]; exact q7, q8, fun j hj => by have := q9 j hj; rwa [Nat.zero_add] at this⟩, fun O n d w F n1 n2 => ?_⟩, hl, hc, hs⟩, st⟩
  · intro y hy
    simp only [List.mem_cons, List.not_mem_nil, or_false] at hy
    rcases hy with rfl | rfl <;> rfl
  · by_cases q : y = x
    · subst q
      cases hD.symm.trans hy
      exact ⟨E', q1.1, q2.2.1, q2.1, hsz⟩
    · exact ⟨cy, q10 y cy q hy, rfl, rfl, rfl⟩
  · obtain ⟨D3, cf, k, i, f, g1, g2, g3, g4, g5, g6, g7⟩ := F
    cases hD.symm.trans g1
    simp only [RoadKit.slotOf, g2, gV, gC, Option.map_some, Option.getD_some] at n1 n2
    exact ⟨E', cf, k, i, f, q1.1, g2, g3, by rw [q2.1]; exact g4, by rw [q2.1]; exact g5, by rw [q2.2.1]; exact g6, by rw [q2.2.2 f.slot (by simp [n1, n2])]; exact g7⟩
end StrChars.Road
namespace StrChars.Road
open Jvm Sem ClassFile Op Lib Jvm.Stand Jvm.Free Jvm.Free.XT
/-- WHAT COMES BACK, the byte[] as a list of values -/
def QA (Z : State) (x : Addr) (zn : Int32) (cs : List Int32) (h : Heap) (v : Option Value) (h' : Heap) (L : List Loc) : Prop := v = none ∧ (∀ y ∈ L, y.base = x) ∧ RoadKit.Keep h h' [x] ∧ h'.size = h.size + 1 ∧ RoadKit.Exa Z h' x ST ∧ RoadKit.Fld Z h' x ST "value" "[B" (.ref h.size) ∧ RoadKit.Fld Z h' x ST "coder" "B" (.int 0) ∧
  (∃ kb, Z.vm.findClass "[B" = some kb ∧ RoadKit.Arv Z h' h.size kb .byte zn (cs.map fun c => .int (lo8 c)) (.int 0)) ∧
  ∀ (O n d : String) (w : Value), RoadKit.Fld Z h x O n d w → RoadKit.slotOf Z O n d ≠ RoadKit.slotOf Z ST "value" "[B" → RoadKit.slotOf Z O n d ≠ RoadKit.slotOf Z ST "coder" "B" → RoadKit.Fld Z h' x O n d w
/-- **new String(chars) AT A CALL, THE ARRAYS AS LISTS**: the char[] at b holds cs, not empty, no char above 255 -/
theorem backArv {p : Program} {l : Launch} {e : Env} {R : Room} {s : State} {args : Array Value} {below : List Frame} {len W : Nat} {Z : State} {a0 : Array Value} {h : Heap} (hZ : Z.Warmed39 s.vm) (hw : ∀ d ∈ words, d.before a0 Z = true) {kI : Nat} (wi : (Jvm.Cond.instantiable ST kI).before a0 Z = true)
    {x b : Addr} {k : ClassId} {zn z : Int32} {cs : List Int32} {dv v0 c0 : Value} (E : RoadKit.Exa Z h x ST) (V : RoadKit.Fld Z h x ST "value" "[B" v0) (C : RoadKit.Fld Z h x ST "coder" "B" c0) (K : RoadKit.Arv Z h b k .char zn (cs.map Value.int) dv) (S : RoadKit.Sta Z h ST "COMPACT_STRINGS" "Z" (.int z)) (hz : ¬ z = 0)
    (hlen : zn.toNatClampNeg = cs.length) (h0 : 0 < cs.length) (hbig : cs.length ≤ 536870912) (hall : ∀ c ∈ cs, ¬ 255 < c) (hfr : 4 ≤ R.frames) (hlo : W + 65 ≤ R.locals) :
    Back l R p e below s args New1.yN len W (fun P a => a = #[.ref x, .ref b] ∧ P.U.heap = h ∧ P.cells + 1 ≤ R.cells ∧ P.slots + cs.length ≤ R.slots)
      (fun P _ v B => ∃ L, QA Z x zn cs h v B.U.heap L ∧ B.locs = P.locs ++ L ∧ B.cells = P.cells + 1 ∧ B.slots = P.slots + cs.length) := by
  obtain ⟨A, K1, K2, K3, K4, K5, K6⟩ := K
  have e : A.slots.size = cs.length := K3.trans hlen
  have hat : ∀ (i : Nat) (hi : i < cs.length), A.slots[i]? = some (.int cs[i]) := fun i hi => by rw [K5 i (by omega)]; simp [List.getD_eq_getElem?_getD, hi]
  have hcv : ∀ (i : Nat) (hi : i < cs.length), cv A i = cs[i] := fun i hi => by unfold cv; rw [hat i hi]
  have hty : Typed .char A := fun i v hv => by
    have hi : i < A.slots.size := (Array.getElem?_eq_some_iff.mp hv).1
    have q := K5 i hi
    rw [hv] at q
    rw [Option.some.inj q]
    exact K6 i hi
  refine Back.mono (back hZ hw wi E V C K1 hty S hz (by omega) (by omega) (fun i hi => by rw [hcv i (by omega)]; exact hall _ (List.getElem_mem _)) hfr hlo) (fun P a hp => ⟨hp.1, hp.2.1, hp.2.2.1, by rw [e]; exact hp.2.2.2⟩) (fun P a v B hp hq => ?_)
  obtain ⟨L, ⟨q1, q2, q3, q4, q5, q6, q7, ⟨V', v1, v2, v3, v4, v5⟩, q9⟩, hl, hc, hs⟩ := hq
  refine ⟨L, ⟨q1, q2, q3, q4, q5, q6, q7, ⟨V'.cls, v3, V', v1, rfl, by rw [v4, e, hlen], K4, fun i hi => ?_, fun i hi => ?_⟩, q9⟩, hl, hc, by rw [hs, e]⟩
  · have hi' : i < cs.length := by omega
    rw [v5 i (by omega), hcv i hi']; simp [List.getD_eq_getElem?_getD, hi']
  · have hi' : i < cs.length := by omega
    simp only [List.getD_eq_getElem?_getD, List.getElem?_map, List.getElem?_eq_getElem hi', Option.map_some, Option.getD_some]
    exact fits_lo8 _
end StrChars.Road
namespace StrChars.Road
open Jvm Sem ClassFile Op Lib Jvm.Stand Jvm.Free Jvm.Free.XT
/-- WHAT COMES BACK, in the writer's own shape -/
def QV (Z : State) (x : Addr) (N : Int32) (bs : List Int32) (h : Heap) (n0 : Nat) (v : Option Value) (h' : Heap) (L : List Loc) : Prop := v = none ∧ RoadKit.Fr n0 L ∧ RoadKit.Keep h h' [x] ∧ RoadKit.Exa Z h' x ST ∧ RoadKit.Fld Z h' x ST "coder" "B" (.int 0) ∧
  ∃ (t : Addr) (kb : ClassId), n0 ≤ t ∧ h.size ≤ t ∧ ¬ t = x ∧ RoadKit.Fld Z h' x ST "value" "[B" (.ref t) ∧ RoadKit.Arv Z h' t kb .byte N (bs.map Value.int) (.int 0)
/-- **new String(chars) AT A CALL, FOR THE WRITER**: a char[] of n known ints, each 0 to 255 -/
theorem backV {p : Program} {l : Launch} {e : Env} {R : Room} {s : State} {args : Array Value} {below : List Frame} {len W : Nat} {Z : State} {a0 : Array Value} {h : Heap} (hZ : Z.Warmed39 s.vm) (hw : ∀ d ∈ words, d.before a0 Z = true) {kI : Nat} (wi : (Jvm.Cond.instantiable ST kI).before a0 Z = true)
    {x b : Addr} {kC : ClassId} {cs bs : List Int32} {d v0 c0 : Value} {z N : Int32} {n n0 : Nat} (hx0 : n0 ≤ x) (hh0 : n0 ≤ h.size) (E : RoadKit.Exa Z h x ST) (V : RoadKit.Fld Z h x ST "value" "[B" v0) (C : RoadKit.Fld Z h x ST "coder" "B" c0) (K : RoadKit.Arv Z h b kC .char N (cs.map Value.int) d) (S : RoadKit.Sta Z h ST "COMPACT_STRINGS" "Z" (.int z)) (hz : ¬ z = 0)
    (hn : cs.length = n) (hN : N = Int32.ofNat n) (l0 : 0 < n) (l2 : n ≤ 4000) (hp : ∀ c ∈ cs, ¬ c < 0 ∧ ¬ (255 : Int32) < c) (hb : bs = cs.map (fun c => c.toInt8.toInt32)) (hfr : 4 ≤ R.frames) (hlo : W + 65 ≤ R.locals) :
    Back l R p e below s args (⟨"java/lang/String", "<init>", "([C)V"⟩ : MethodName) len W (fun P a => a = #[.ref x, .ref b] ∧ P.U.heap = h ∧ P.cells + 1 ≤ R.cells ∧ P.slots + n ≤ R.slots)
      (fun P _ v B => ∃ L, QV Z x N bs h n0 v B.U.heap L ∧ B.locs = P.locs ++ L ∧ B.cells = P.cells + 1 ∧ B.slots = P.slots + n) := by
  subst hn hN hb
  refine Back.mono (backArv hZ hw wi E V C K S hz (n32 (by omega)) l0 (by omega) (fun c hc => (hp c hc).2) hfr hlo) (fun P a hp => hp) (fun P a v B hp hq => ?_)
  obtain ⟨L, ⟨q1, q2, q3, q4, q5, q6, q7, ⟨kb, v1, v2⟩, q9⟩, hl, hc, hs⟩ := hq
  exact ⟨L, ⟨q1, fun y hy => by rw [q2 y hy]; exact hx0, q3, q5, q7, h.size, kb, hh0, Nat.le_refl _, Nat.ne_of_gt E.lt, q6, by rw [List.map_map]; exact v2⟩, hl, hc, hs⟩
end StrChars.Road
namespace StrChars
open Jvm Sem ClassFile Op Lib Jvm.Stand Jvm.Free.XT Jvm.Free.ALB Jvm.Free.JM Jvm.Free
open Jvm.Lib.Cold (StaticIs)
def hi8 (x : Int32) : Int32 := lo8 (x >>> ((8 : Int32) &&& 31))
/-- what StringUTF16.getChar makes of two bytes -/
def pairCh (u v : Int32) : Int32 := (((u &&& 255) <<< ((0 : Int32) &&& 31)) ||| ((v &&& 255) <<< ((8 : Int32) &&& 31))).toUInt32.toUInt16.toUInt32.toInt32
theorem lo8_and (x : Int32) : (lo8 x &&& 255).toBitVec.toNat = x.toBitVec.toNat % 256 := by
  have h : (lo8 x).toBitVec = (x.toBitVec.signExtend 8).signExtend 32 := by rw [lo8, Int8.toBitVec_toInt32, Int32.toBitVec_toInt8]
  rw [Int32.toBitVec_and, BitVec.toNat_and, h]
  have e : ((x.toBitVec.signExtend 8).signExtend 32).toNat % 256 = x.toBitVec.toNat % 256 := by
    rw [BitVec.toNat_signExtend]
    have hlt := x.toBitVec.isLt
    simp only [BitVec.toNat_setWidth, BitVec.toNat_signExtend]
    split <;> split <;> omega
  rw [← e]
  exact Nat.and_two_pow_sub_one_eq_mod _ 8
theorem pair_says {c : Int32} (h0 : ¬ c < 0) (h1 : ¬ 65535 < c) : pairCh (lo8 c) (hi8 c) = c := by
  rw [Int32.lt_iff_toInt_lt] at h0 h1
  have e0 : (0 : Int32).toInt = 0 := rfl
  have e1 : (65535 : Int32).toInt = 65535 := rfl
  have hc : c.toInt = c.toBitVec.toNat := by
    have := c.toBitVec.isLt
    have e : c.toInt = c.toBitVec.toInt := rfl
    rw [e] at h0 h1
    rw [e]
    rw [BitVec.toInt_eq_toNat_cond] at h0 h1 ⊢
    split at h0 <;> split <;> omega
  have hn : c.toBitVec.toNat < 65536 := by omega
  have a1 := lo8_and c
  have a2 : (hi8 c &&& 255).toBitVec.toNat = c.toBitVec.toNat / 256 := by
    rw [hi8, lo8_and]
    have e : ((8 : Int32) &&& 31) = 8 := by decide
    rw [e, Int32.toBitVec_shiftRight]
    have e2 : ((8 : Int32).toBitVec.smod 32) = 8#32 := by decide
    rw [e2, BitVec.sshiftRight_eq', BitVec.toNat_sshiftRight_of_msb_false (by rw [BitVec.msb_eq_false_iff_two_mul_lt]; omega)]
    show c.toBitVec.toNat >>> 8 % 256 = _
    rw [Nat.shiftRight_eq_div_pow]
    omega
  unfold pairCh
  apply Int32.toBitVec_inj.mp
  apply BitVec.eq_of_toNat_eq
  have f0 : ((0 : Int32) &&& 31) = 0 := by decide
  have f8 : ((8 : Int32) &&& 31) = 8 := by decide
  rw [f0, f8]
  have g : (((lo8 c &&& 255) <<< (0 : Int32)) ||| ((hi8 c &&& 255) <<< (8 : Int32))).toBitVec.toNat = c.toBitVec.toNat := by
    rw [Int32.toBitVec_or, Int32.toBitVec_shiftLeft, Int32.toBitVec_shiftLeft]
    have s0 : ((0 : Int32).toBitVec.smod 32) = 0#32 := by decide
    have s8 : ((8 : Int32).toBitVec.smod 32) = 8#32 := by decide
    rw [s0, s8, BitVec.toNat_or]
    simp only [BitVec.shiftLeft_eq', BitVec.toNat_shiftLeft, a1, a2]
    show (c.toBitVec.toNat % 256) <<< 0 % 2 ^ 32 ||| (c.toBitVec.toNat / 256) <<< 8 % 2 ^ 32 = _
    rw [Nat.shiftLeft_zero, Nat.mod_eq_of_lt (show c.toBitVec.toNat % 256 < 2 ^ 32 by omega), Nat.mod_eq_of_lt (show (c.toBitVec.toNat / 256) <<< 8 < 2 ^ 32 by rw [Nat.shiftLeft_eq]; omega), Nat.or_comm, ← Nat.shiftLeft_add_eq_or_of_lt (by omega), Nat.shiftLeft_eq]
    omega
  show BitVec.toNat (((((lo8 c &&& 255) <<< (0 : Int32)) ||| ((hi8 c &&& 255) <<< (8 : Int32))).toBitVec.setWidth 16).setWidth 32) = _
  rw [BitVec.toNat_setWidth, BitVec.toNat_setWidth, g]
  omega
end StrChars
namespace StrChars
open Jvm Sem ClassFile Op Lib Jvm.Stand Jvm.Free.XT Jvm.Free.ALB Jvm.Free.JM Jvm.Free
open Jvm.Lib.Cold (StaticIs)
/-- the array's cell V codes the n chars f 0 .. f (n - 1) by the coder cd, as the JDK does: coder 1 just where some char is above 255 -/
def Cod (cd : Int32) (n : Nat) (f : Nat → Int32) (V : Cell) : Prop := (cd = 0 ∧ V.slots.size = n ∧ ∀ j, j < n → V.slots[j]? = some (.int (lo8 (f j))) ∧ ¬ 255 < f j) ∨ (cd = 1 ∧ V.slots.size = 2 * n ∧ (∀ j, j < n → V.slots[2 * j]? = some (.int (lo8 (f j))) ∧ V.slots[2 * j + 1]? = some (.int (hi8 (f j)))) ∧ ∃ j, j < n ∧ 255 < f j)
/-- **x is a String of the n chars f 0 .. f (n - 1)**, Latin-1 or UTF-16; its array at t has the cell V -/
def Txt (x t : Addr) (V : Cell) (cd : Int32) (n : Nat) (f : Nat → Int32) (U : State) : Prop := Exact "java/lang/String" x U ∧ Has x "java/lang/String" "value" "[B" (.ref t) U ∧ Has x "java/lang/String" "coder" "B" (.int cd) U ∧ XT.Arr .byte t V U ∧ Cod cd n f V ∧ ∀ j, j < n → ¬ f j < 0 ∧ ¬ 65535 < f j
theorem Txt.mv {x t : Addr} {V : Cell} {cd : Int32} {n : Nat} {f : Nat → Int32} {U U' : State} (h : Txt x t V cd n f U) (hal : U.vm.Alike U'.vm) (hh : U'.heap = U.heap) : Txt x t V cd n f U' := ⟨h.1.mv hal hh, h.2.1.mv hal hh, h.2.2.1.mv hal hh, h.2.2.2.1.mv hal hh, h.2.2.2.2⟩
end StrChars
namespace StrChars.Road
open Jvm Sem ClassFile Op Lib Jvm.Stand Jvm.Free Jvm.Free.XT
open Jvm.Lib.Cold (StaticIs)
theorem consq {a : Array Value} {s : State} {c : Jvm.Cond} {L : List Jvm.Cond} (h0 : c.before a s = true) (h : ∀ w ∈ L, w.before a s = true) : ∀ w ∈ c :: L, w.before a s = true := fun w hw => (List.mem_cons.mp hw).elim (fun e => e ▸ h0) (h w)
/-- the bytes of the chars cs, low before high -/
def wideBytes : List Int32 → List Value
  | [] => []
  | c :: cs => .int (lo8 c) :: .int (hi8 c) :: wideBytes cs
theorem wide_lo (d : Value) : ∀ (cs : List Int32) (j : Nat), j < cs.length → (wideBytes cs).getD (2 * j) d = .int (lo8 (cs.getD j 0))
  | [], j, h => absurd h (Nat.not_lt_zero j)
  | c :: cs, 0, _ => rfl
  | c :: cs, j + 1, h => by
    have q := wide_lo d cs j (by simpa using h)
    rw [show 2 * (j + 1) = 2 * j + 1 + 1 from by omega]
    simpa [wideBytes] using q
theorem wide_hi (d : Value) : ∀ (cs : List Int32) (j : Nat), j < cs.length → (wideBytes cs).getD (2 * j + 1) d = .int (hi8 (cs.getD j 0))
  | [], j, h => absurd h (Nat.not_lt_zero j)
  | c :: cs, 0, _ => rfl
  | c :: cs, j + 1, h => by
    have q := wide_hi d cs j (by simpa using h)
    rw [show 2 * (j + 1) + 1 = 2 * j + 1 + 1 + 1 from by omega]
    simpa [wideBytes] using q
theorem low_at (d : Value) (cs : List Int32) (j : Nat) (h : j < cs.length) : (cs.map fun c => Value.int (lo8 c)).getD j d = .int (lo8 (cs.getD j 0)) := by
  simp [List.getD_eq_getElem?_getD, h]
/-- an array of N2 bytes vs codes the chars cs by the coder cd -/
def CodA (cs : List Int32) (cd N2 : Int32) (vs : List Value) : Prop := (cd = 0 ∧ N2 = Int32.ofNat cs.length ∧ vs = (cs.map fun c => Value.int (lo8 c)) ∧ ∀ c ∈ cs, ¬ 255 < c) ∨ (cd = 1 ∧ N2 = Int32.ofNat (2 * cs.length) ∧ vs = wideBytes cs ∧ ∃ c ∈ cs, 255 < c)
theorem CodA.cod {cs : List Int32} {cd N2 : Int32} {vs : List Value} {V : Cell} (h : CodA cs cd N2 vs) (hn : 2 * cs.length < 2 ^ 31) (hs : V.slots.size = N2.toNatClampNeg) (hv : RoadKit.Has V vs (.int 0)) : Cod cd cs.length (fun j => cs.getD j 0) V := by
  rcases h with ⟨rfl, rfl, rfl, h⟩ | ⟨rfl, rfl, rfl, c, hc, hw⟩
  · rw [n32 (by omega)] at hs
    exact Or.inl ⟨rfl, hs, fun j hj => ⟨by rw [hv j (by omega), low_at _ _ _ hj], by
      have e : cs.getD j 0 = cs[j] := by simp [List.getD_eq_getElem?_getD, hj]
      show ¬ 255 < cs.getD j 0
      rw [e]; exact h _ (List.getElem_mem _)⟩⟩
  · rw [n32 (by omega)] at hs
    obtain ⟨j, hj, rfl⟩ := List.getElem_of_mem hc
    exact Or.inr ⟨rfl, hs, fun j hj => ⟨by rw [hv _ (by omega), wide_lo _ _ _ hj], by rw [hv _ (by omega), wide_hi _ _ _ hj]⟩, j, hj, by
      have e : cs.getD j 0 = cs[j] := by simp [List.getD_eq_getElem?_getD, hj]
      show 255 < cs.getD j 0
      rw [e]; exact hw⟩
/-- an object of exactly java/lang/String, its two fields found: as the laws ask it -/
theorem strObj {Z U : State} {a0 : Array Value} {kI : Nat} (wi : (Jvm.Cond.instantiable ST kI).before a0 Z = true) (al : Z.vm.Alike U.vm) {x : Addr} {v0 c0 : Value} (E : RoadKit.Exa Z U.heap x ST) (V : RoadKit.Fld Z U.heap x ST "value" "[B" v0) (C : RoadKit.Fld Z U.heap x ST "coder" "B" c0) :
    ∃ (D : Cell) (fV fC : Field), Blank ST x D U ∧ Found ST "value" "[B" fV U ∧ Found ST "coder" "B" fC U ∧ D.slots[fV.slot]? = some v0 ∧ D.slots[fC.slot]? = some c0 ∧ RoadKit.slotOf Z ST "value" "[B" = fV.slot ∧ RoadKit.slotOf Z ST "coder" "B" = fC.slot := by
  obtain ⟨D, cfV, kV, iV, fV, hD, gV, stV, knV, obV, asV, slV⟩ := V
  obtain ⟨D', cfC, kC, iC, fC, hD', gC, stC, -, -, asC, slC⟩ := C
  cases hD.symm.trans hD'
  obtain ⟨D2, kD, e1, e2, e3, e4, e5⟩ := E
  cases hD.symm.trans e1
  obtain ⟨c2, k2, i1, i2, i3, -⟩ := Cond.instantiable_spec wi
  cases e2.symm.trans i1
  cases e3.symm.trans i2
  obtain ⟨kU, u1, u2⟩ := al.2.2 _ _ e3
  exact ⟨D, fV, fC, ⟨hD, ⟨knV, fun q hq => by rw [hq] at obV; cases obV⟩, by rw [al.findClass]; exact e2, kU, u1, by rw [u2]; exact i3, by rw [u2]; exact e5 i3⟩, ⟨SBG.found_only al ⟨cfV, kV, iV, gV⟩, stV⟩, ⟨SBG.found_only al ⟨cfC, kC, iC, gC⟩, stC⟩, slV, slC, by simp [RoadKit.slotOf, gV], by simp [RoadKit.slotOf, gC]⟩
theorem sta_is {Z U : State} (al : Z.vm.Alike U.vm) {C n d : String} {v : Value} (S : RoadKit.Sta Z U.heap C n d v) : StaticIs U C n d v := by
  obtain ⟨cfS, iS, kS, fS, st, cS, t1, t2, t3, t4, t5, t6, t7⟩ := S
  exact StaticIs.there (s := { Z with heap := U.heap }) ⟨cfS, iS, kS, fS, st, cS, t1, t2, t3, t4, t5, (fun q => by rw [q] at t6; cases t6), t7⟩ al rfl
end StrChars.Road
namespace StrChars
open Jvm Sem ClassFile Op Lib Jvm.Stand Jvm.Free.XT Jvm.Free.ALB Jvm.Free.JM Jvm.Free
open Jvm.Lib.Cold (StaticIs)
/-- what place i of a byte[]'s cell holds -/
def yv (A : Cell) (i : Nat) : Int32 := match A.slots[i]? with | some (.int x) => x | _ => 0
theorem yv_get {a : Addr} {A : Cell} {U : State} (h : XT.Arr .byte a A U) (ht : Typed .byte A) {i : Nat} (hi : i < A.slots.size) : A.slots[i]? = some (.int (yv A i)) := by
  have e := Array.getElem?_eq_getElem hi
  have f := ht i _ e
  unfold yv; rw [e]
  generalize A.slots[i] = v at f
  cases v <;> simp [fits] at f ⊢
/-- the two arrays are equal, place for place -/
def EqC (A B : Cell) : Prop := A.slots.size = B.slots.size ∧ ∀ i, i < A.slots.size → yv A i = yv B i
/-- a boolean that says whether p -/
def Says01 (q : Prop) (r : Option Value) (s u : State) : Prop := ∃ v : Int32, r = some (.int v) ∧ u.heap = s.heap ∧ ((v = 1 ∧ q) ∨ (v = 0 ∧ ¬ q))
theorem Says01.mv {q : Prop} : ∀ r (U U' V V' : State), U'.heap = U.heap → V.vm.Alike V'.vm → V'.heap = V.heap → Says01 q r U V → Says01 q r U' V' :=
  fun r U U' V V' h1 _ h2 ⟨v, a, b, c⟩ => ⟨v, a, by rw [h1, h2]; exact b, c⟩
namespace LEq
def yN : MethodName := ⟨"java/lang/StringLatin1", "equals", "([B[B)Z"⟩
abbrev yB : ByteArray := jdk_43_method_13_code
theorem d0 : decode yB 0 = .ok (.aload_n 0, 1) := by decide +kernel
theorem d1 : decode yB 1 = .ok (.arraylength, 1) := by decide +kernel
theorem d2 : decode yB 2 = .ok (.aload_n 1, 1) := by decide +kernel
theorem d3 : decode yB 3 = .ok (.arraylength, 1) := by decide +kernel
theorem d4 : decode yB 4 = .ok (.if_icmp (.ne) 30, 3) := by decide +kernel
theorem d7 : decode yB 7 = .ok (.iconst 0, 1) := by decide +kernel
theorem d8 : decode yB 8 = .ok (.istore_n 2, 1) := by decide +kernel
theorem d9 : decode yB 9 = .ok (.iload_n 2, 1) := by decide +kernel
theorem d10 : decode yB 10 = .ok (.aload_n 0, 1) := by decide +kernel
theorem d11 : decode yB 11 = .ok (.arraylength, 1) := by decide +kernel
theorem d12 : decode yB 12 = .ok (.if_icmp (.ge) 20, 3) := by decide +kernel
theorem d15 : decode yB 15 = .ok (.aload_n 0, 1) := by decide +kernel
theorem d16 : decode yB 16 = .ok (.iload_n 2, 1) := by decide +kernel
theorem d17 : decode yB 17 = .ok (.baload, 1) := by decide +kernel
theorem d18 : decode yB 18 = .ok (.aload_n 1, 1) := by decide +kernel
theorem d19 : decode yB 19 = .ok (.iload_n 2, 1) := by decide +kernel
theorem d20 : decode yB 20 = .ok (.baload, 1) := by decide +kernel
theorem d21 : decode yB 21 = .ok (.if_icmp (.eq) 5, 3) := by decide +kernel
theorem d24 : decode yB 24 = .ok (.iconst 0, 1) := by decide +kernel
theorem d25 : decode yB 25 = .ok (.ireturn, 1) := by decide +kernel
theorem d26 : decode yB 26 = .ok (.iinc 2 1, 3) := by decide +kernel
theorem d29 : decode yB 29 = .ok (.goto (-20), 3) := by decide +kernel
theorem d32 : decode yB 32 = .ok (.iconst 1, 1) := by decide +kernel
theorem d33 : decode yB 33 = .ok (.ireturn, 1) := by decide +kernel
theorem d34 : decode yB 34 = .ok (.iconst 0, 1) := by decide +kernel
theorem d35 : decode yB 35 = .ok (.ireturn, 1) := by decide +kernel
def site : List Cond := []
def tab : Cond := tabOf yN yB 3 (some .boolean) site
def P (a : Addr) (A : Cell) (b : Addr) (B : Cell) (args : Array Value) (s : State) : Prop := args = #[.ref a, .ref b] ∧ XT.Arr .byte a A s ∧ Typed .byte A ∧ XT.Arr .byte b B s ∧ Typed .byte B
/-- whether two byte[] are equal, place for place -/
theorem law (l : Launch) (a : Addr) (A : Cell) (b : Addr) (B : Cell) : Law l yN 2 2 0 0 yB 3 (some .boolean) site (P a A b B) (Says01 (EqC A B)) [] 0 0 := by
  refine Law.of_walk (plainFor_of_name (by decide +kernel)) (by decide +kernel) (by decide +kernel) (by decide) (fun _ _ h => by rw [h.1]; rfl) (fun _ U U' hal hh h => ⟨h.1, h.2.1.mv hal hh, h.2.2.1, h.2.2.2.1.mv hal hh, h.2.2.2.2⟩) (fun r U U' V V' h1 hal h2 h => Says01.mv r U U' V V' h1 hal h2 h) ?_
  intro p e s m args below meth c s₁ X0 hexec hbytes hml hret hlk hnm hown hh0 W hP
  obtain ⟨rfl, hA, tA, hB, tB⟩ := hP
  have a31 := hA.2.2.2
  have b31 := hB.2.2.2
  have hA0 := hA.mv X0.warmed.alike hh0
  have hB0 := hB.mv X0.warmed.alike hh0
  have c1 : Steps p.tables e below (s₁.setTop (entryFrame m #[.ref a, .ref b] 3)) (s₁.setTop (mkF m 0 #[.val (.ref a), .val (.ref b), .unset] [])) := entry rfl
  have c2 : Steps p.tables e below (s₁.setTop (entryFrame m #[.ref a, .ref b] 3)) (s₁.setTop (mkF m 4 #[.val (.ref a), .val (.ref b), .unset] [.int (Int32.ofNat B.slots.size), .int (Int32.ofNat A.slots.size)])) := c1.trans (by
    refine XS.aloadN X0.here hexec rfl (hb hbytes d0) rfl rfl ?_
    refine X0.alen hexec hA0 rfl rfl (hb hbytes d1) ?_
    refine XS.aloadN X0.here hexec rfl (hb hbytes d2) rfl rfl ?_
    refine X0.alen hexec hB0 rfl rfl (hb hbytes d3) ?_
    exact Steps.refl _)
  by_cases hs : A.slots.size = B.slots.size
  · have c3 : Steps p.tables e below (s₁.setTop (entryFrame m #[.ref a, .ref b] 3)) (s₁.setTop (mkF m 9 #[.val (.ref a), .val (.ref b), .val (.int 0)] [])) := c2.trans (by
      refine XS.icmpNo X0.here hexec rfl (hb hbytes d4) rfl (ii_ne_f (by rw [hs])) ?_
      refine iconstV X0.here hexec rfl 0 (hb hbytes d7) (by decide) ?_
      refine XS.istoreN X0.here hexec rfl (hb hbytes d8) rfl rfl ?_
      exact Steps.refl _)
    have loop : ∀ (r i : Nat), i + r = A.slots.size → (∀ j, j < i → yv A j = yv B j) → Steps p.tables e below (s₁.setTop (entryFrame m #[.ref a, .ref b] 3)) (s₁.setTop (mkF m 9 #[.val (.ref a), .val (.ref b), .val (.int (Int32.ofNat i))] [])) → ∃ (pc : Nat) (Ls : Array Slot) (v : Int32), (pc = 25 ∨ pc = 33) ∧ ((v = 1 ∧ EqC A B) ∨ (v = 0 ∧ ¬ EqC A B)) ∧ Steps p.tables e below (s₁.setTop (entryFrame m #[.ref a, .ref b] 3)) (s₁.setTop (mkF m pc Ls [.int v])) := by
      intro r
      induction r with
      | zero =>
        intro i hi he cl
        exact ⟨33, _, 1, Or.inr rfl, Or.inl ⟨rfl, hs, fun j hj => he j (by omega)⟩, cl.trans (by
          refine XS.iloadN X0.here hexec rfl (hb hbytes d9) rfl ?_
          refine XS.aloadN X0.here hexec rfl (hb hbytes d10) rfl rfl ?_
          refine X0.alen hexec hA0 rfl rfl (hb hbytes d11) ?_
          refine XS.icmpYes X0.here hexec rfl (pc0 := 12) rfl (hb hbytes d12) rfl (ii_ge_t (nlt32 (by omega) (by omega))) (by decide) rfl ?_
          refine iconstV X0.here hexec rfl 1 (hb hbytes d32) (by decide) ?_
          exact Steps.refl _)⟩
      | succ r ih =>
        intro i hi he cl
        have c4 : Steps p.tables e below (s₁.setTop (entryFrame m #[.ref a, .ref b] 3)) (s₁.setTop (mkF m 21 #[.val (.ref a), .val (.ref b), .val (.int (Int32.ofNat i))] [.int (yv B i), .int (yv A i)])) := cl.trans (by
          refine XS.iloadN X0.here hexec rfl (hb hbytes d9) rfl ?_
          refine XS.aloadN X0.here hexec rfl (hb hbytes d10) rfl rfl ?_
          refine X0.alen hexec hA0 rfl rfl (hb hbytes d11) ?_
          refine XS.icmpNo X0.here hexec rfl (hb hbytes d12) rfl (ii_ge_f (lt32 (by omega) (by omega))) ?_
          refine XS.aloadN X0.here hexec rfl (hb hbytes d15) rfl rfl ?_
          refine XS.iloadN X0.here hexec rfl (hb hbytes d16) rfl ?_
          refine X0.aget hexec hA0 rfl (yv_get hA tA (i := i) (by omega)) rfl rfl (hb hbytes d17) ?_
          refine XS.aloadN X0.here hexec rfl (hb hbytes d18) rfl rfl ?_
          refine XS.iloadN X0.here hexec rfl (hb hbytes d19) rfl ?_
          refine X0.aget hexec hB0 rfl (yv_get hB tB (i := i) (by omega)) rfl rfl (hb hbytes d20) ?_
          exact Steps.refl _)
        by_cases hv : yv A i = yv B i
        · have c5 : Steps p.tables e below (s₁.setTop (entryFrame m #[.ref a, .ref b] 3)) (s₁.setTop (mkF m 9 #[.val (.ref a), .val (.ref b), .val (.int (Int32.ofNat i + 1))] [])) := c4.trans (by
            refine XS.icmpYes X0.here hexec rfl (pc0 := 21) rfl (hb hbytes d21) rfl (ii_eq_t hv) (by decide) rfl ?_
            refine iincV X0.here hexec rfl 1 (hb hbytes d26) (by decide) rfl rfl ?_
            refine XS.goto X0.here hexec rfl (pc0 := 29) rfl (hb hbytes d29) (by decide) rfl ?_
            exact Steps.refl _)
          rw [succ32] at c5
          exact ih (i + 1) (by omega) (fun j hj => by
            by_cases e : j = i
            · rw [e]; exact hv
            · exact he j (by omega)) c5
        · exact ⟨25, _, 0, Or.inl rfl, Or.inr ⟨rfl, fun q => hv (q.2 i (by omega))⟩, c4.trans (by
            refine XS.icmpNo X0.here hexec rfl (hb hbytes d21) rfl (ii_eq_f hv) ?_
            refine iconstV X0.here hexec rfl 0 (hb hbytes d24) (by decide) ?_
            exact Steps.refl _)⟩
    obtain ⟨pc, Ls, v, hpc, hv, cz⟩ := loop A.slots.size 0 (by omega) (fun j hj => absurd hj (Nat.not_lt_zero j)) c3
    have nv : narrow .boolean (.int v) = .int v := by rcases hv with ⟨rfl, -⟩ | ⟨rfl, -⟩ <;> rfl
    rcases hpc with rfl | rfl
    · exact ⟨s₁, some (.int v), _, _, _, X0, rfl, rfl, rfl, (fun h => by cases h), ⟨v, rfl, hh0, hv⟩, fun fs hl => cz.trans (X0.ireturnOut hexec hret nv (Or.inr (Or.inl rfl)) (hb hbytes d25) hl)⟩
    · exact ⟨s₁, some (.int v), _, _, _, X0, rfl, rfl, rfl, (fun h => by cases h), ⟨v, rfl, hh0, hv⟩, fun fs hl => cz.trans (X0.ireturnOut hexec hret nv (Or.inr (Or.inl rfl)) (hb hbytes d33) hl)⟩
  · have c3 : Steps p.tables e below (s₁.setTop (entryFrame m #[.ref a, .ref b] 3)) (s₁.setTop (mkF m 35 #[.val (.ref a), .val (.ref b), .unset] [.int 0])) := c2.trans (by
      refine XS.icmpYes X0.here hexec rfl (pc0 := 4) rfl (hb hbytes d4) rfl (ii_ne_t (ne32 a31 b31 hs)) (by decide) rfl ?_
      refine iconstV X0.here hexec rfl 0 (hb hbytes d34) (by decide) ?_
      exact Steps.refl _)
    exact ⟨s₁, some (.int 0), _, _, _, X0, rfl, rfl, rfl, (fun h => by cases h), ⟨0, rfl, hh0, Or.inr ⟨rfl, fun q => hs q.1⟩⟩, fun fs hl => c3.trans (X0.ireturnOut hexec hret rfl (Or.inr (Or.inl rfl)) (hb hbytes d35) hl)⟩
end LEq
theorem Cod.ty {cd : Int32} {n : Nat} {f : Nat → Int32} {V : Cell} (h : Cod cd n f V) : Typed .byte V := fun i v hv => by
  have hi : i < V.slots.size := (Array.getElem?_eq_some_iff.mp hv).1
  rcases h with ⟨-, k1, k2⟩ | ⟨-, k1, k2, -⟩
  · rw [(k2 i (by omega)).1] at hv; cases hv; exact fits_lo8 _
  · rcases Nat.mod_two_eq_zero_or_one i with e | e
    · obtain ⟨j, rfl⟩ : ∃ j, i = 2 * j := ⟨i / 2, by omega⟩
      rw [(k2 j (by omega)).1] at hv; cases hv; exact fits_lo8 _
    · obtain ⟨j, rfl⟩ : ∃ j, i = 2 * j + 1 := ⟨i / 2, by omega⟩
      rw [(k2 j (by omega)).2] at hv; cases hv; exact fits_lo8 _
/-- the same text -/
def SameT (n : Nat) (f : Nat → Int32) (k : Nat) (g : Nat → Int32) : Prop := n = k ∧ ∀ j, j < n → f j = g j
theorem lo8_inj {x y : Int32} (h0 : ¬ x < 0) (h1 : ¬ 255 < x) (k0 : ¬ y < 0) (k1 : ¬ 255 < y) (h : lo8 x = lo8 y) : x = y := by
  rw [← lo8_mask h0 h1, ← lo8_mask k0 k1, h]
/-- arrays coded by one coder are equal just where the texts are -/
theorem Cod.eqv {cd : Int32} {n k : Nat} {f g : Nat → Int32} {V V' : Cell} (h : Cod cd n f V) (h' : Cod cd k g V') (hf : ∀ j, j < n → ¬ f j < 0 ∧ ¬ 65535 < f j) (hg : ∀ j, j < k → ¬ g j < 0 ∧ ¬ 65535 < g j) : EqC V V' ↔ SameT n f k g := by
  have yvv : ∀ {W : Cell} {i : Nat} {x : Int32}, W.slots[i]? = some (.int x) → yv W i = x := fun q => by unfold yv; rw [q]
  rcases h with ⟨rfl, k1, k2⟩ | ⟨rfl, k1, k2, -⟩
  · rcases h' with ⟨-, m1, m2⟩ | ⟨e, -⟩
    · constructor
      · rintro ⟨e1, e2⟩
        refine ⟨by omega, fun j hj => ?_⟩
        have q := e2 j (by omega)
        rw [yvv (k2 j hj).1, yvv (m2 j (by omega)).1] at q
        exact lo8_inj (hf j hj).1 (k2 j hj).2 (hg j (by omega)).1 (m2 j (by omega)).2 q
      · rintro ⟨rfl, e2⟩
        refine ⟨by omega, fun j hj => ?_⟩
        rw [yvv (k2 j (by omega)).1, yvv (m2 j (by omega)).1, e2 j (by omega)]
    · exact absurd e (by decide)
  · rcases h' with ⟨e, -⟩ | ⟨-, m1, m2, -⟩
    · exact absurd e (by decide)
    · constructor
      · rintro ⟨e1, e2⟩
        refine ⟨by omega, fun j hj => ?_⟩
        have q1 := e2 (2 * j) (by omega)
        have q2 := e2 (2 * j + 1) (by omega)
        rw [yvv (k2 j hj).1, yvv (m2 j (by omega)).1] at q1
        rw [yvv (k2 j hj).2, yvv (m2 j (by omega)).2] at q2
        rw [← pair_says (hf j hj).1 (hf j hj).2, ← pair_says (hg j (by omega)).1 (hg j (by omega)).2, q1, q2]
      · rintro ⟨rfl, e2⟩
        refine ⟨by omega, fun i hi => ?_⟩
        rcases Nat.mod_two_eq_zero_or_one i with e | e
        · obtain ⟨j, rfl⟩ : ∃ j, i = 2 * j := ⟨i / 2, by omega⟩
          rw [yvv (k2 j (by omega)).1, yvv (m2 j (by omega)).1, e2 j (by omega)]
        · obtain ⟨j, rfl⟩ : ∃ j, i = 2 * j + 1 := ⟨i / 2, by omega⟩
          rw [yvv (k2 j (by omega)).2, yvv (m2 j (by omega)).2, e2 j (by omega)]
/-- two codings differ: so do the texts -/
theorem Cod.dif {cd cd' : Int32} {n k : Nat} {f g : Nat → Int32} {V V' : Cell} (h : Cod cd n f V) (h' : Cod cd' k g V') (hne : ¬ cd = cd') : ¬ SameT n f k g := by
  rintro ⟨rfl, e⟩
  rcases h with ⟨rfl, -, k2⟩ | ⟨rfl, -, -, j, hj, hw⟩
  · rcases h' with ⟨rfl, -⟩ | ⟨-, -, -, j, hj, hw⟩
    · exact hne rfl
    · exact (k2 j hj).2 (by rw [e j hj]; exact hw)
  · rcases h' with ⟨-, -, m2⟩ | ⟨rfl, -⟩
    · exact (m2 j hj).2 (by rw [← e j hj]; exact hw)
    · exact hne rfl
/-- an object of exactly C is an instance of C -/
theorem cinst {p : Program} {l : Launch} {e : Env} {R : Room} {s : State} {m : MethodId} {args : Array Value} {below : List Frame} {meth : Method} {c : Code} {T : State} {locs : List Loc} {cells slots : Nat} (X : Stand p l e R s m args below meth c T locs cells slots) (hexec : p.tables.exec = Jvm.exec) {own C : String} {index : Nat} (hown : s.vm.findClass own = some m.cls) (hlink : (Cond.classLink own index C).before args s = true) {a : Addr} (hE : Exact C a T)
    {g : JFrame} (hg : g.method = m) {rest : List Value} (hstack : g.stack = .ref a :: rest) (hdg : decode c.code g.pc = .ok (.instanceof index, 3)) :
    ∃ T', Stand p l e R s m args below meth c T' locs cells slots ∧ T'.heap = T.heap ∧ ∀ target, Steps p.tables e below (T'.setTop { g with pc := g.pc + 3, stack := .int 1 :: rest }) target → Steps p.tables e below (T.setTop g) target := by
  obtain ⟨cB, h1, D, h2, h3, h4⟩ := hE
  have h1' : s.vm.findClass C = some cB := by rw [← X.warmed.alike.findClass]; exact h1
  obtain ⟨vm', X', st⟩ := X.instanceofYes hexec hown hlink h2 h4 h1' (by rw [h3]; exact Jvm.Free.SB.assignable_self _ _) hg hstack hdg
  exact ⟨_, X', rfl, st⟩
theorem cself {p : Program} {l : Launch} {e : Env} {R : Room} {s : State} {m : MethodId} {args : Array Value} {below : List Frame} {meth : Method} {c : Code} {T : State} {locs : List Loc} {cells slots : Nat} (X : Stand p l e R s m args below meth c T locs cells slots) (hexec : p.tables.exec = Jvm.exec) {own C : String} {index : Nat} (hown : s.vm.findClass own = some m.cls) (hlink : (Cond.classLink own index C).before args s = true) {a : Addr} (hE : Exact C a T)
    {g : JFrame} (hg : g.method = m) {rest : List Value} (hstack : g.stack = .ref a :: rest) (hdg : decode c.code g.pc = .ok (.checkcast index, 3)) :
    ∃ T', Stand p l e R s m args below meth c T' locs cells slots ∧ T'.heap = T.heap ∧ ∀ target, Steps p.tables e below (T'.setTop { g with pc := g.pc + 3, stack := .ref a :: rest }) target → Steps p.tables e below (T.setTop g) target := by
  obtain ⟨cB, h1, D, h2, h3, h4⟩ := hE
  have h1' : s.vm.findClass C = some cB := by rw [← X.warmed.alike.findClass]; exact h1
  obtain ⟨vm', X', st⟩ := X.checkcastYes hexec hown hlink h2 h4 h1' (by rw [h3]; exact Jvm.Free.SB.assignable_self _ _) hg hstack hdg
  exact ⟨_, X', rfl, fun t h => st t (by rw [← hstack] at h; exact h)⟩
namespace SEq
def yN : MethodName := ⟨"java/lang/String", "equals", "(Ljava/lang/Object;)Z"⟩
abbrev yB : ByteArray := jdk_42_method_66_code
theorem d0 : decode yB 0 = .ok (.aload_n 0, 1) := by decide +kernel
theorem d1 : decode yB 1 = .ok (.aload_n 1, 1) := by decide +kernel
theorem d2 : decode yB 2 = .ok (.if_acmp (.ne) 5, 3) := by decide +kernel
theorem d5 : decode yB 5 = .ok (.iconst 1, 1) := by decide +kernel
theorem d6 : decode yB 6 = .ok (.ireturn, 1) := by decide +kernel
theorem d7 : decode yB 7 = .ok (.aload_n 1, 1) := by decide +kernel
theorem d8 : decode yB 8 = .ok (.instanceof 10, 3) := by decide +kernel
theorem d11 : decode yB 11 = .ok (.ifCond (.eq) 43, 3) := by decide +kernel
theorem d14 : decode yB 14 = .ok (.aload_n 1, 1) := by decide +kernel
theorem d15 : decode yB 15 = .ok (.checkcast 10, 3) := by decide +kernel
theorem d18 : decode yB 18 = .ok (.astore_n 2, 1) := by decide +kernel
theorem d19 : decode yB 19 = .ok (.getstatic 38, 3) := by decide +kernel
theorem d22 : decode yB 22 = .ok (.ifCond (.eq) 14, 3) := by decide +kernel
theorem d25 : decode yB 25 = .ok (.aload_n 0, 1) := by decide +kernel
theorem d26 : decode yB 26 = .ok (.getfield 15, 3) := by decide +kernel
theorem d29 : decode yB 29 = .ok (.aload_n 2, 1) := by decide +kernel
theorem d30 : decode yB 30 = .ok (.getfield 15, 3) := by decide +kernel
theorem d33 : decode yB 33 = .ok (.if_icmp (.ne) 21, 3) := by decide +kernel
theorem d36 : decode yB 36 = .ok (.aload_n 0, 1) := by decide +kernel
theorem d37 : decode yB 37 = .ok (.getfield 9, 3) := by decide +kernel
theorem d40 : decode yB 40 = .ok (.aload_n 2, 1) := by decide +kernel
theorem d41 : decode yB 41 = .ok (.getfield 9, 3) := by decide +kernel
theorem d44 : decode yB 44 = .ok (.invokestatic 541, 3) := by decide +kernel
theorem d47 : decode yB 47 = .ok (.ifCond (.eq) 7, 3) := by decide +kernel
theorem d50 : decode yB 50 = .ok (.iconst 1, 1) := by decide +kernel
theorem d51 : decode yB 51 = .ok (.goto 4, 3) := by decide +kernel
theorem d54 : decode yB 54 = .ok (.iconst 0, 1) := by decide +kernel
theorem d55 : decode yB 55 = .ok (.ireturn, 1) := by decide +kernel
def site : List Cond := [.classLink "java/lang/String" 10 "java/lang/String", .fieldLink "java/lang/String" 38 "java/lang/String" "COMPACT_STRINGS" "Z", .fieldLink "java/lang/String" 15 "java/lang/String" "coder" "B", .fieldLink "java/lang/String" 9 "java/lang/String" "value" "[B", LEq.tab] ++ staticW "java/lang/String" 541 LEq.yN
def tab : Cond := tabOf yN yB 3 (some .boolean) site
def P (x t : Addr) (V : Cell) (cd : Int32) (n : Nat) (f : Nat → Int32) (y t' : Addr) (V' : Cell) (cd' : Int32) (k : Nat) (g : Nat → Int32) (z : Int32) (args : Array Value) (s : State) : Prop := args = #[.ref x, .ref y] ∧ Txt x t V cd n f s ∧ Txt y t' V' cd' k g s ∧ StaticIs s "java/lang/String" "COMPACT_STRINGS" "Z" (.int z) ∧ ¬ z = 0
/-- equals(Object) of two Strings: whether the texts are the same -/
theorem law (l : Launch) (x t : Addr) (V : Cell) (cd : Int32) (n : Nat) (f : Nat → Int32) (y t' : Addr) (V' : Cell) (cd' : Int32) (k : Nat) (g : Nat → Int32) (z : Int32) : Law l yN 2 1 1 14 yB 3 (some .boolean) site (P x t V cd n f y t' V' cd' k g z) (Says01 (SameT n f k g)) [] 0 0 := by
  refine Law.of_walk (plainFor_of_name (by decide +kernel)) (by decide +kernel) (by decide +kernel) (by decide) (fun _ _ h => by rw [h.1]; rfl) (fun _ U U' hal hh h => ⟨h.1, h.2.1.mv hal hh, h.2.2.1.mv hal hh, h.2.2.2.1.there hal hh, h.2.2.2.2⟩) (fun r U U' V V' h1 hal h2 h => Says01.mv r U U' V V' h1 hal h2 h) ?_
  intro p e s m args below meth c s₁ X0 hexec hbytes hml hret hlk hnm hown hh0 W hP
  obtain ⟨rfl, hx, hy, s1, hz⟩ := hP
  have c1 : Steps p.tables e below (s₁.setTop (entryFrame m #[.ref x, .ref y] 3)) (s₁.setTop (mkF m 2 #[.val (.ref x), .val (.ref y), .unset] [.ref y, .ref x])) := Steps.trans (entry rfl) (by
    show Steps p.tables e below (s₁.setTop (mkF m 0 #[.val (.ref x), .val (.ref y), .unset] [])) _
    refine XS.aloadN X0.here hexec rfl (hb hbytes d0) rfl rfl ?_
    refine XS.aloadN X0.here hexec rfl (hb hbytes d1) rfl rfl ?_
    exact Steps.refl _)
  by_cases hxy : x = y
  · have c2 : Steps p.tables e below (s₁.setTop (entryFrame m #[.ref x, .ref y] 3)) (s₁.setTop (mkF m 6 #[.val (.ref x), .val (.ref y), .unset] [.int 1])) := c1.trans (by
      refine acmpNo X0.here hexec rfl (hb hbytes d2) rfl rfl rfl (by simp [acmp, hxy]) ?_
      refine iconstV X0.here hexec rfl 1 (hb hbytes d5) (by decide) ?_
      exact Steps.refl _)
    subst hxy
    have ec : cd = cd' := by
      obtain ⟨D, fd, a1, a2, a3⟩ := hx.2.2.1
      obtain ⟨D', fd', b1, b2, b3⟩ := hy.2.2.1
      cases a1.symm.trans b1
      obtain ⟨q1, q2, q3, q4⟩ := a2.1
      obtain ⟨r1, r2, r3, r4⟩ := b2.1
      cases q4.symm.trans r4
      cases a3.symm.trans b3; rfl
    have et : t = t' := by
      obtain ⟨D, fd, a1, a2, a3⟩ := hx.2.1
      obtain ⟨D', fd', b1, b2, b3⟩ := hy.2.1
      cases a1.symm.trans b1
      obtain ⟨q1, q2, q3, q4⟩ := a2.1
      obtain ⟨r1, r2, r3, r4⟩ := b2.1
      cases q4.symm.trans r4
      cases a3.symm.trans b3; rfl
    subst ec et
    have ev : V = V' := by cases hx.2.2.2.1.1.symm.trans hy.2.2.2.1.1; rfl
    subst ev
    have hs : SameT n f k g := (Cod.eqv hx.2.2.2.2.1 hy.2.2.2.2.1 hx.2.2.2.2.2 hy.2.2.2.2.2).mp ⟨rfl, fun _ _ => rfl⟩
    exact ⟨s₁, some (.int 1), _, _, _, X0, rfl, rfl, rfl, (fun h => by cases h), ⟨1, rfl, hh0, Or.inl ⟨rfl, hs⟩⟩, fun fs hl => c2.trans (X0.ireturnOut hexec hret rfl (Or.inr (Or.inl rfl)) (hb hbytes d6) hl)⟩
  · have c2 : Steps p.tables e below (s₁.setTop (entryFrame m #[.ref x, .ref y] 3)) (s₁.setTop (mkF m 8 #[.val (.ref x), .val (.ref y), .unset] [.ref y])) := c1.trans (by
      refine acmpYes X0.here hexec rfl (pc0 := 2) rfl (hb hbytes d2) rfl rfl rfl (by simp [acmp, hxy]) (by decide) rfl ?_
      refine XS.aloadN X0.here hexec rfl (hb hbytes d7) rfl rfl ?_
      exact Steps.refl _)
    obtain ⟨T3, X3, q3, st3⟩ := cinst X0 hexec hown (wk W (.classLink "java/lang/String" 10 "java/lang/String")) (hy.mv X0.warmed.alike hh0).1 (g := (mkF m 8 #[.val (.ref x), .val (.ref y), .unset] [.ref y])) rfl (rest := []) rfl (hb hbytes d8)
    have hh3 := q3.trans hh0
    have c4 : Steps p.tables e below (s₁.setTop (entryFrame m #[.ref x, .ref y] 3)) (T3.setTop (mkF m 15 #[.val (.ref x), .val (.ref y), .unset] [.ref y])) := (c2.trans (st3 _ (Steps.refl _))).trans (by
      refine XS.ifNo X3.here hexec rfl (hb hbytes d11) rfl (i0_eq_f (by decide)) ?_
      refine XS.aloadN X3.here hexec rfl (hb hbytes d14) rfl rfl ?_
      exact Steps.refl _)
    obtain ⟨T5, X5, q5, st5⟩ := cself X3 hexec hown (wk W (.classLink "java/lang/String" 10 "java/lang/String")) (hy.mv X3.warmed.alike hh3).1 (g := (mkF m 15 #[.val (.ref x), .val (.ref y), .unset] [.ref y])) rfl (rest := []) rfl (hb hbytes d15)
    have hh5 := q5.trans hh3
    have c6 : Steps p.tables e below (s₁.setTop (entryFrame m #[.ref x, .ref y] 3)) (T5.setTop (mkF m 19 #[.val (.ref x), .val (.ref y), .val (.ref y)] [])) := (c4.trans (st5 _ (Steps.refl _))).trans (by
      refine XS.astoreN X5.here hexec rfl (hb hbytes d18) rfl rfl rfl ?_
      exact Steps.refl _)
    obtain ⟨T7, X7, q7, st7⟩ := X5.sget hexec hown (wk W (.fieldLink "java/lang/String" 38 "java/lang/String" "COMPACT_STRINGS" "Z")) s1 (fun _ _ h => by rw [hh5]; exact h) (g := (mkF m 19 #[.val (.ref x), .val (.ref y), .val (.ref y)] [])) rfl (hb hbytes d19)
    have hh7 := q7.trans hh5
    have c8 : Steps p.tables e below (s₁.setTop (entryFrame m #[.ref x, .ref y] 3)) (T7.setTop (mkF m 26 #[.val (.ref x), .val (.ref y), .val (.ref y)] [.ref x])) := (c6.trans (st7 _ (Steps.refl _))).trans (by
      refine XS.ifNo X7.here hexec rfl (hb hbytes d22) rfl (i0_eq_f hz) ?_
      refine XS.aloadN X7.here hexec rfl (hb hbytes d25) rfl rfl ?_
      exact Steps.refl _)
    obtain ⟨T9, X9, q9, st9⟩ := X7.hget hexec hown (wk W (.fieldLink "java/lang/String" 15 "java/lang/String" "coder" "B")) (hx.mv X7.warmed.alike hh7).2.2.1 (g := (mkF m 26 #[.val (.ref x), .val (.ref y), .val (.ref y)] [.ref x])) rfl (rest := []) rfl (hb hbytes d26)
    have hh9 := q9.trans hh7
    have c10 : Steps p.tables e below (s₁.setTop (entryFrame m #[.ref x, .ref y] 3)) (T9.setTop (mkF m 30 #[.val (.ref x), .val (.ref y), .val (.ref y)] [.ref y, .int cd])) := (c8.trans (st9 _ (Steps.refl _))).trans (by
      refine XS.aloadN X9.here hexec rfl (hb hbytes d29) rfl rfl ?_
      exact Steps.refl _)
    obtain ⟨T11, X11, q11, st11⟩ := X9.hget hexec hown (wk W (.fieldLink "java/lang/String" 15 "java/lang/String" "coder" "B")) (hy.mv X9.warmed.alike hh9).2.2.1 (g := (mkF m 30 #[.val (.ref x), .val (.ref y), .val (.ref y)] [.ref y, .int cd])) rfl (rest := [.int cd]) rfl (hb hbytes d30)
    have hh11 := q11.trans hh9
    have c12 : Steps p.tables e below (s₁.setTop (entryFrame m #[.ref x, .ref y] 3)) (T11.setTop (mkF m 33 #[.val (.ref x), .val (.ref y), .val (.ref y)] [.int cd', .int cd])) := c10.trans (st11 _ (Steps.refl _))
    by_cases hcd : cd = cd'
    · subst hcd
      have c13 : Steps p.tables e below (s₁.setTop (entryFrame m #[.ref x, .ref y] 3)) (T11.setTop (mkF m 37 #[.val (.ref x), .val (.ref y), .val (.ref y)] [.ref x])) := c12.trans (by
        refine XS.icmpNo X11.here hexec rfl (hb hbytes d33) rfl (ii_ne_f rfl) ?_
        refine XS.aloadN X11.here hexec rfl (hb hbytes d36) rfl rfl ?_
        exact Steps.refl _)
      obtain ⟨T14, X14, q14, st14⟩ := X11.hget hexec hown (wk W (.fieldLink "java/lang/String" 9 "java/lang/String" "value" "[B")) (hx.mv X11.warmed.alike hh11).2.1 (g := (mkF m 37 #[.val (.ref x), .val (.ref y), .val (.ref y)] [.ref x])) rfl (rest := []) rfl (hb hbytes d37)
      have hh14 := q14.trans hh11
      have c15 : Steps p.tables e below (s₁.setTop (entryFrame m #[.ref x, .ref y] 3)) (T14.setTop (mkF m 41 #[.val (.ref x), .val (.ref y), .val (.ref y)] [.ref y, .ref t])) := (c13.trans (st14 _ (Steps.refl _))).trans (by
        refine XS.aloadN X14.here hexec rfl (hb hbytes d40) rfl rfl ?_
        exact Steps.refl _)
      obtain ⟨T16, X16, q16, st16⟩ := X14.hget hexec hown (wk W (.fieldLink "java/lang/String" 9 "java/lang/String" "value" "[B")) (hy.mv X14.warmed.alike hh14).2.1 (g := (mkF m 41 #[.val (.ref x), .val (.ref y), .val (.ref y)] [.ref y, .ref t])) rfl (rest := [.ref t]) rfl (hb hbytes d41)
      have hh16 := q16.trans hh14
      have c17 : Steps p.tables e below (s₁.setTop (entryFrame m #[.ref x, .ref y] 3)) (T16.setTop (mkF m 44 #[.val (.ref x), .val (.ref y), .val (.ref y)] [.ref t', .ref t])) := c15.trans (st16 _ (Steps.refl _))
      obtain ⟨v18, T18, X18, E18, g18⟩ := X16.callS hexec (LEq.law l t V t' V') hown (wks W (staticW "java/lang/String" 541 LEq.yN)) (wk W LEq.tab) (W := 0) (Nat.le_of_ble_eq_true rfl) (Nat.le_of_ble_eq_true rfl) (Nat.le_refl _) (Nat.le_refl _) (g := (mkF m 44 #[.val (.ref x), .val (.ref y), .val (.ref y)] [.ref t', .ref t])) rfl (by rw [hml]; rfl) c17 (argsL := [.ref t, .ref t']) (rest := []) rfl rfl (by show 2 * 0 + 0 ≤ _; decide) (hb hbytes d44) (⟨rfl, hx.2.2.2.1.mv X16.warmed.alike hh16, hx.2.2.2.2.1.ty, hy.2.2.2.1.mv X16.warmed.alike hh16, hy.2.2.2.2.1.ty⟩)
      obtain ⟨v, rfl, q18, hv⟩ := E18
      have iff := Cod.eqv hx.2.2.2.2.1 hy.2.2.2.2.1 hx.2.2.2.2.2 hy.2.2.2.2.2
      rcases hv with ⟨rfl, he⟩ | ⟨rfl, he⟩
      · have c19 : Steps p.tables e below (s₁.setTop (entryFrame m #[.ref x, .ref y] 3)) (T18.setTop (mkF m 55 #[.val (.ref x), .val (.ref y), .val (.ref y)] [.int 1])) := Steps.trans g18 (by
          refine XS.ifNo X18.here hexec rfl (hb hbytes d47) rfl (i0_eq_f (by decide)) ?_
          refine iconstV X18.here hexec rfl 1 (hb hbytes d50) (by decide) ?_
          refine XS.goto X18.here hexec rfl (pc0 := 51) rfl (hb hbytes d51) (by decide) rfl ?_
          exact Steps.refl _)
        exact ⟨T18, some (.int 1), _, _, _, X18, rfl, rfl, rfl, (fun h => by cases h), ⟨1, rfl, q18.trans hh16, Or.inl ⟨rfl, iff.mp he⟩⟩, fun fs hl => c19.trans (X18.ireturnOut hexec hret rfl (Or.inr (Or.inl rfl)) (hb hbytes d55) hl)⟩
      · have c19 : Steps p.tables e below (s₁.setTop (entryFrame m #[.ref x, .ref y] 3)) (T18.setTop (mkF m 55 #[.val (.ref x), .val (.ref y), .val (.ref y)] [.int 0])) := Steps.trans g18 (by
          refine XS.ifYes X18.here hexec rfl (pc0 := 47) rfl (hb hbytes d47) rfl (i0_eq_t rfl) (by decide) rfl ?_
          refine iconstV X18.here hexec rfl 0 (hb hbytes d54) (by decide) ?_
          exact Steps.refl _)
        exact ⟨T18, some (.int 0), _, _, _, X18, rfl, rfl, rfl, (fun h => by cases h), ⟨0, rfl, q18.trans hh16, Or.inr ⟨rfl, fun q => he (iff.mpr q)⟩⟩, fun fs hl => c19.trans (X18.ireturnOut hexec hret rfl (Or.inr (Or.inl rfl)) (hb hbytes d55) hl)⟩
    · have c13 : Steps p.tables e below (s₁.setTop (entryFrame m #[.ref x, .ref y] 3)) (T11.setTop (mkF m 55 #[.val (.ref x), .val (.ref y), .val (.ref y)] [.int 0])) := c12.trans (by
        refine XS.icmpYes X11.here hexec rfl (pc0 := 33) rfl (hb hbytes d33) rfl (ii_ne_t hcd) (by decide) rfl ?_
        refine iconstV X11.here hexec rfl 0 (hb hbytes d54) (by decide) ?_
        exact Steps.refl _)
      exact ⟨T11, some (.int 0), _, _, _, X11, rfl, rfl, rfl, (fun h => by cases h), ⟨0, rfl, hh11, Or.inr ⟨rfl, Cod.dif hx.2.2.2.2.1 hy.2.2.2.2.1 hcd⟩⟩, fun fs hl => c13.trans (X11.ireturnOut hexec hret rfl (Or.inr (Or.inl rfl)) (hb hbytes d55) hl)⟩
theorem pays {l : Launch} {R : Room} {p : Program} {e : Env} {below : List Frame} {s : State} {sargs : Array Value} {len W : Nat} (x t : Addr) (V : Cell) (cd : Int32) (n : Nat) (f : Nat → Int32) (y t' : Addr) (V' : Cell) (cd' : Int32) (k : Nat) (g : Nat → Int32) (z : Int32) (htab : tab.before sargs s = true) (hfr : 2 ≤ R.frames) (hlo : W + 28 ≤ R.locals) :
    Back l R p e below s sargs yN len W (fun A₁ a₁ => A₁.cells + 0 ≤ R.cells ∧ A₁.slots + 0 ≤ R.slots ∧ P x t V cd n f y t' V' cd' k g z a₁ A₁.U) (fun A₁ _ v₁ B₁ => Says01 (SameT n f k g) v₁ A₁.U B₁.U ∧ B₁.locs = A₁.locs ++ [] ∧ B₁.cells = A₁.cells + 0 ∧ B₁.slots = A₁.slots + 0) :=
  (law l x t V cd n f y t' V' cd' k g z).pays htab hfr (by omega)
end SEq
end StrChars
namespace StrChars.Road
open Jvm Sem ClassFile Op Lib Jvm.Stand Jvm.Free Jvm.Free.XT
open Jvm.Lib.Cold (StaticIs)
/-- the words of String.equals(Object) -/
abbrev wordsEq : List Jvm.Cond := [.code SEq.yN SEq.yB 3 (some .boolean), .initialized ST, .classLink ST 10 ST, .fieldLink ST 38 ST "COMPACT_STRINGS" "Z", .fieldLink ST 15 ST "coder" "B", .fieldLink ST 9 ST "value" "[B", .methodLink ST 541 LEq.yN, .static LEq.yN, .code LEq.yN LEq.yB 3 (some .boolean), .initialized "java/lang/StringLatin1"]
theorem tabEq_of {a : Array Value} {s : State} (h : ∀ w ∈ wordsEq, w.before a s = true) : SEq.tab.before a s = true := by
  have hl : LEq.tab.before a s = true := unparts (wk h (.code LEq.yN LEq.yB 3 (some .boolean))) (wks h (.initialized LEq.yN.cls :: LEq.site))
  have q := consq hl h
  exact unparts (wk q (.code SEq.yN SEq.yB 3 (some .boolean))) (wks q (.initialized SEq.yN.cls :: SEq.site))
theorem movedEq {Z s : State} {a0 args : Array Value} (hZ : Z.Warmed39 s.vm) (hw : ∀ d ∈ wordsEq, d.before a0 Z = true) : ∀ d ∈ wordsEq, d.before args s = true := fun d hd => by
  have t : ∀ d ∈ wordsEq, (d.onTables && d.keepsFace) = true := by decide +kernel
  exact RoadKit.mv hZ (hw d hd) (t d hd)
/-- the road's facts of a String, as the laws ask it -/
theorem txt_of {Z U : State} {a0 : Array Value} {kI : Nat} (wi : (Jvm.Cond.instantiable ST kI).before a0 Z = true) (al : Z.vm.Alike U.vm) {x t : Addr} {kb : ClassId} {cs : List Int32} {cd N2 : Int32} {vs : List Value} (E : RoadKit.Exa Z U.heap x ST) (V : RoadKit.Fld Z U.heap x ST "value" "[B" (.ref t)) (C : RoadKit.Fld Z U.heap x ST "coder" "B" (.int cd)) (K : RoadKit.Arv Z U.heap t kb .byte N2 vs (.int 0)) (hc : CodA cs cd N2 vs) (hb : ∀ c ∈ cs, ¬ c < 0 ∧ ¬ (65535 : Int32) < c) (l2 : cs.length ≤ 4000) :
    ∃ A, Txt x t A cd cs.length (fun j => cs.getD j 0) U := by
  obtain ⟨A, K1, K2, K3, K4, K5, K6⟩ := K
  have hcod := hc.cod (by omega) K3 K5
  obtain ⟨D, fV, fC, hB, F1, F2, g1, g2, -, -⟩ := strObj wi al E V C
  exact ⟨A, ⟨_, hB.2.2.1, D, hB.1, rfl, by cases q : D.vm <;> first | rfl | exact absurd q (hB.2.1.2 _)⟩, Has.of hB F1 g1, Has.of hB F2 g2, ⟨K1.1, State.isArrayOf_alike al K1.2.1, K1.2.2, by rcases hcod with ⟨-, q, -⟩ | ⟨-, q, -⟩ <;> omega⟩, hcod, fun j hj => by
    have e : cs.getD j 0 = cs[j] := by simp [List.getD_eq_getElem?_getD, hj]
    show ¬ cs.getD j 0 < 0 ∧ ¬ 65535 < cs.getD j 0
    rw [e]; exact hb _ (List.getElem_mem _)⟩
theorem same_list (cs ds : List Int32) : SameT cs.length (fun j => cs.getD j 0) ds.length (fun j => ds.getD j 0) ↔ cs = ds := by
  constructor
  · rintro ⟨e, q⟩
    refine List.ext_getElem e fun j h1 h2 => ?_
    have := q j h1
    simpa [List.getD_eq_getElem?_getD, h1, h2] using this
  · rintro rfl
    exact ⟨rfl, fun _ _ => rfl⟩
/-- **equals(Object) OF TWO SUCH STRINGS**: 1 just where the chars are the same -/
theorem eqW {p : Program} {l : Launch} {e : Env} {R : Room} {s : State} {args : Array Value} {below : List Frame} {len W : Nat} {Z : State} {a0 : Array Value} {h : Heap} (hZ : Z.Warmed39 s.vm) (hw : ∀ d ∈ wordsEq, d.before a0 Z = true) {kI : Nat} (wi : (Jvm.Cond.instantiable ST kI).before a0 Z = true)
    {x t : Addr} {kb : ClassId} {cs : List Int32} {cd N2 : Int32} {vs : List Value} (E : RoadKit.Exa Z h x ST) (V : RoadKit.Fld Z h x ST "value" "[B" (.ref t)) (C : RoadKit.Fld Z h x ST "coder" "B" (.int cd)) (K : RoadKit.Arv Z h t kb .byte N2 vs (.int 0)) (hc : CodA cs cd N2 vs) (hb : ∀ c ∈ cs, ¬ c < 0 ∧ ¬ (65535 : Int32) < c) (l2 : cs.length ≤ 4000)
    {y t' : Addr} {kb' : ClassId} {ds : List Int32} {cd' N2' : Int32} {vs' : List Value} (E' : RoadKit.Exa Z h y ST) (V' : RoadKit.Fld Z h y ST "value" "[B" (.ref t')) (C' : RoadKit.Fld Z h y ST "coder" "B" (.int cd')) (K' : RoadKit.Arv Z h t' kb' .byte N2' vs' (.int 0)) (hc' : CodA ds cd' N2' vs') (hb' : ∀ c ∈ ds, ¬ c < 0 ∧ ¬ (65535 : Int32) < c) (l2' : ds.length ≤ 4000)
    {z : Int32} (S : RoadKit.Sta Z h ST "COMPACT_STRINGS" "Z" (.int z)) (hz : ¬ z = 0) (hfr : 2 ≤ R.frames) (hlo : W + 28 ≤ R.locals) :
    Back l R p e below s args (⟨"java/lang/String", "equals", "(Ljava/lang/Object;)Z"⟩ : MethodName) len W (fun P a => a = #[.ref x, .ref y] ∧ P.U.heap = h ∧ P.cells + 0 ≤ R.cells ∧ P.slots + 0 ≤ R.slots)
      (fun P _ v B => ∃ L, (((v = some (.int 1) ∧ cs = ds) ∨ (v = some (.int 0) ∧ ¬ cs = ds)) ∧ L = [] ∧ B.U.heap = h) ∧ B.locs = P.locs ++ L ∧ B.cells = P.cells + 0 ∧ B.slots = P.slots + 0) := by
  intro m meth c P g ig mk a X hg hsize hdg hW hn hp'
  obtain ⟨rfl, rfl, r1, r2⟩ := hp'
  have al : Z.vm.Alike P.U.vm := hZ.alike.trans X.warmed.alike
  obtain ⟨A, hx⟩ := txt_of wi al E V C K hc hb l2
  obtain ⟨A', hy⟩ := txt_of wi al E' V' C' K' hc' hb' l2'
  obtain ⟨v, B, X', ⟨⟨w, hv, hh, hq⟩, hl, hk, hs⟩, st⟩ := SEq.pays x t A cd cs.length (fun j => cs.getD j 0) y t' A' cd' ds.length (fun j => ds.getD j 0) z (tabEq_of (movedEq hZ hw)) hfr hlo m meth c P g ig mk _ X hg hsize hdg hW hn ⟨r1, r2, rfl, hx, hy, sta_is al S, hz⟩
  refine ⟨v, B, X', ⟨[], ⟨?_, rfl, hh⟩, hl, hk, hs⟩, st⟩
  rcases hq with ⟨rfl, q⟩ | ⟨rfl, q⟩
  · exact Or.inl ⟨hv, (same_list cs ds).mp q⟩
  · exact Or.inr ⟨hv, fun e => q ((same_list cs ds).mpr e)⟩
end StrChars.Road
namespace StrChars.Road
open Jvm Sem ClassFile Op Lib Jvm.Stand Jvm.Free Jvm.Free.XT
open Jvm.Lib.Cold (StaticIs)
/-- what backV says of its String, as the contracts of this text ask it: cs's low bytes, coder 0 -/
theorem codOf {cs : List Int32} {n : Nat} (hn : cs.length = n) (hb : ∀ c ∈ cs, ¬ 255 < c) : CodA cs 0 (Int32.ofNat n) ((cs.map lo8).map Value.int) := Or.inl ⟨rfl, by rw [hn], by simp [List.map_map, Function.comp_def], hb⟩
end StrChars.Road
end Jvm.Pilot.@@N@@
namespace Jvm.Pilot.@@N@@
open Jvm Jvm.ClassFile Sem Op Lib Jvm.Free Jvm.Stand Jvm.LawKit Jvm.RoadKit Bundle Jvm.Pilot.@@N@@.Jvm.D
theorem paysEq {p : Program} {l : Launch} {e : Env} {R : Room} {s : State} {args : Array Value} {below : List Frame} {len W : Nat} {Z : State} {a0 : Array Value} {h : Heap} (hZ : Z.Warmed39 s.vm) (hw : ∀ d ∈ StrChars.Road.wordsEq, d.before a0 Z = true) {kI : Nat} (wi : (Jvm.Cond.instantiable StrChars.Road.ST kI).before a0 Z = true) {x t : Addr} {kb : ClassId} {cs : List Int32} {cd N : Int32} {vs : List Value} (E : RoadKit.Exa Z h x StrChars.Road.ST) (F : RoadKit.Fld Z h x StrChars.Road.ST "value" "[B" (.ref t)) (C : RoadKit.Fld Z h x StrChars.Road.ST "coder" "B" (.int cd)) (A : RoadKit.Arv Z h t kb .byte N vs (.int 0)) (hc : StrChars.Road.CodA cs cd N vs) (hb : ∀ c ∈ cs, ¬ c < 0 ∧ ¬ (65535 : Int32) < c) (l2 : cs.length ≤ 4000) {x' t' : Addr} {kb' : ClassId} {cs' : List Int32} {cd' N' : Int32} {vs' : List Value} (E' : RoadKit.Exa Z h x' StrChars.Road.ST) (F' : RoadKit.Fld Z h x' StrChars.Road.ST "value" "[B" (.ref t')) (C' : RoadKit.Fld Z h x' StrChars.Road.ST "coder" "B" (.int cd')) (A' : RoadKit.Arv Z h t' kb' .byte N' vs' (.int 0)) (hc' : StrChars.Road.CodA cs' cd' N' vs') (hb' : ∀ c ∈ cs', ¬ c < 0 ∧ ¬ (65535 : Int32) < c) (l2' : cs'.length ≤ 4000) {z : Int32} (S : RoadKit.Sta Z h StrChars.Road.ST "COMPACT_STRINGS" "Z" (.int z)) (hz : ¬ z = 0) (hfr : 2 ≤ R.frames) (hlo : W + 28 ≤ R.locals) : Pays l R p e below s args (⟨"java/lang/String", "equals", "(Ljava/lang/Object;)Z"⟩ : MethodName) len W #[.ref x, .ref x'] h 0 0 (fun v h' L => ((v = some (.int 1) ∧ cs = cs') ∨ (v = some (.int 0) ∧ ¬ cs = cs')) ∧ L = [] ∧ h' = h) :=
  StrChars.Road.eqW hZ hw wi E F C A hc hb l2 E' F' C' A' hc' hb' l2' S hz hfr hlo
theorem paysNew {p : Program} {l : Launch} {e : Env} {R : Room} {s : State} {args : Array Value} {below : List Frame} {len W : Nat} {Z : State} {a0 : Array Value} {h : Heap} (hZ : Z.Warmed39 s.vm) (hw : ∀ d ∈ StrChars.Road.words, d.before a0 Z = true) {kI : Nat} (wi : (Jvm.Cond.instantiable StrChars.Road.ST kI).before a0 Z = true) {x b : Addr} {kC : ClassId} {cs bs : List Int32} {d v0 c0 : Value} {z N : Int32} {n n0 : Nat} (hx0 : n0 ≤ x) (hh0 : n0 ≤ h.size) (E : RoadKit.Exa Z h x StrChars.Road.ST) (F : RoadKit.Fld Z h x StrChars.Road.ST "value" "[B" v0) (C : RoadKit.Fld Z h x StrChars.Road.ST "coder" "B" c0) (A : RoadKit.Arv Z h b kC .char N (cs.map Value.int) d) (S : RoadKit.Sta Z h StrChars.Road.ST "COMPACT_STRINGS" "Z" (.int z)) (hz : ¬ z = 0) (hn : cs.length = n) (hN : N = Int32.ofNat n) (l0 : 0 < n) (l2 : n ≤ 4000) (hp : ∀ c ∈ cs, ¬ c < 0 ∧ ¬ (255 : Int32) < c) (hb : bs = cs.map (fun c => c.toInt8.toInt32)) (hfr : 4 ≤ R.frames) (hlo : W + 65 ≤ R.locals) : Pays l R p e below s args (⟨"java/lang/String", "<init>", "([C)V"⟩ : MethodName) len W #[.ref x, .ref b] h 1 n (StrChars.Road.QV Z x N bs h n0) :=
  StrChars.Road.backV hZ hw wi hx0 hh0 E F C A S hz hn hN l0 l2 hp hb hfr hlo
end Jvm.Pilot.@@N@@
namespace Jvm.Pilot.@@N@@
open Jvm Jvm.ClassFile Sem Op Lib Jvm.Free Jvm.Stand Jvm.LawKit Jvm.RoadKit Bundle Jvm.Pilot.@@N@@.Jvm.D
theorem own_small {x : Int32} {n : Nat} (h0 : 0 ≤ x.toInt) (h1 : x.toInt < n) : ∃ i : Fin n, x = Int32.ofNat i.val := by
  obtain ⟨k, hk⟩ : ∃ k : Nat, x.toInt = k := ⟨x.toInt.toNat, by omega⟩
  have := x.toInt_lt
  exact ⟨⟨k, by omega⟩, Int32.toInt_inj.mp (show x.toInt = (Int32.ofNat k).toInt by rw [hk, Int32.toInt_ofNat_small (by omega)])⟩
theorem own_and3 (x : Int32) : (x &&& 3) = 0 ∨ (x &&& 3) = 1 ∨ (x &&& 3) = 2 ∨ (x &&& 3) = 3 := by
  have q := c_and x 3 (by decide)
  have e3 : (3 : Int32).toInt = 3 := by decide
  obtain ⟨i, hi⟩ := own_small (n := 4) q.1 (by omega)
  have t : ∀ i : Fin 4, Int32.ofNat i.val = 0 ∨ Int32.ofNat i.val = 1 ∨ Int32.ofNat i.val = 2 ∨ Int32.ofNat i.val = 3 := by decide +kernel
  rw [hi]
  exact t i
theorem own_ofN {i n : Nat} (hn : n ≤ 4000) (hi : i ≤ n) : Int32.ofNat i < Int32.ofNat n ↔ i < n := by
  rw [Int32.lt_iff_toInt_lt, Int32.toInt_ofNat_small (by omega), Int32.toInt_ofNat_small (by omega)]
  omega
theorem own_nn {i : Nat} (hi : i ≤ 4000) : ¬ Int32.ofNat i < 0 := by
  rw [Int32.lt_iff_toInt_lt, Int32.toInt_ofNat_small (by omega)]
  show ¬ (i : Int) < 0
  omega
theorem own_in {i n : Nat} (hn : n ≤ 4000) (hi : i < n) : ¬ Int32.ofNat i < 0 ∧ Int32.ofNat i < Int32.ofNat n := ⟨own_nn (by omega), (own_ofN hn (by omega)).mpr hi⟩
theorem own_cl {i : Nat} (hi : i ≤ 4000) : (Int32.ofNat i).toNatClampNeg = i := by
  rw [Int32.toNatClampNeg, Int32.toInt_ofNat_small (by omega)]
  rfl
theorem own_inc {i : Nat} : Int32.ofNat i + Int32.ofInt 1 = Int32.ofNat (i + 1) := by
  rw [Int32.ofNat_add]; rfl
theorem own_at {cs : List Int32} {i : Nat} {dv : Value} (h4 : cs.length ≤ 4000) (hi : i < cs.length) : (cs.map Value.int).getD (Int32.ofNat i).toNatClampNeg dv = .int (cs.getD i 0) := by
  rw [own_cl (by omega)]
  simp [List.getD_eq_getElem?_getD, hi]
theorem own_inj {i n : Nat} (hn : n ≤ 4000) (hi : i ≤ 4000) (h : Int32.ofNat i = Int32.ofNat n) : i = n := by
  have := congrArg Int32.toInt h
  rw [Int32.toInt_ofNat_small (by omega), Int32.toInt_ofNat_small (by omega)] at this
  omega
theorem own_and255 (x : Int32) : ¬ nar .char ((x &&& (255 : Int32)).toUInt32.toUInt16.toUInt32.toInt32) < 0 ∧ ¬ (255 : Int32) < nar .char ((x &&& (255 : Int32)).toUInt32.toUInt16.toUInt32.toInt32) := by
  have t : ∀ k : Fin 256, ¬ nar .char ((Int32.ofNat k.val).toUInt32.toUInt16.toUInt32.toInt32) < 0 ∧ ¬ (255 : Int32) < nar .char ((Int32.ofNat k.val).toUInt32.toUInt16.toUInt32.toInt32) := by decide +kernel
  have h : (x &&& 255).toBitVec.toNat < 256 := by
    simp only [Int32.toBitVec_and, BitVec.toNat_and]
    exact Nat.lt_succ_of_le Nat.and_le_right
  have e : (x &&& 255) = Int32.ofNat (x &&& 255).toBitVec.toNat := by
    apply Int32.toBitVec_inj.mp
    show _ = BitVec.ofNat 32 _
    rw [BitVec.ofNat_toNat]; simp
  rw [e]
  exact t ⟨_, h⟩
theorem own_safeS {Z : State} {EL : List (String × Nat)} {vm : Vm} {h : Heap} {x : Addr} (hal : Z.vm.Alike vm) (E : Exa Z h x "java/lang/String") (V : Fld Z h x "java/lang/String" "value" "[B" .null) : Safe Z EL vm h x := fun B => by
  obtain ⟨cell, cf, kk, i, f, e1, e2, -, -, -, -, e7⟩ := V
  obtain ⟨p, -, u, a, -, q, -, W, hy⟩ := B
  obtain ⟨cS, ⟨L, g1, g2⟩, -, hB, -⟩ := W
  rcases hy with rfl | rfl
  · cases (show h[q.sa]? = some q.sC from L.1).symm.trans e1
    obtain ⟨c', k', i', hf, -⟩ := L.2.2.2.1
    obtain ⟨k2, hi, -⟩ := State.fieldFound?_setVm (s := Z) hal e2
    have hf' : (Z.setVm vm).fieldFound? "java/lang/String" "value" "[B" = some (c', k', i', q.fSV) := hf
    rw [hi] at hf'
    cases hf'
    have := L.2.2.2.2.2.2.2.1
    rw [this] at e7
    cases e7
  · obtain ⟨cell2, k2, r1, r2, -⟩ := E
    cases r1.symm.trans e1
    cases (show h[q.sd]? = some q.SA from L.2.2.2.2.2.2.2.2.2.1).symm.trans e1
    have hB' : vm.findClass "[B" = some q.SA.cls := hB
    rw [hal.findClass] at hB'
    obtain ⟨k3, s1, s2⟩ := Vm.findClass_spec hB'
    obtain ⟨k4, s3, s4⟩ := Vm.findClass_spec r2
    cases s1.symm.trans s3
    have := s2.symm.trans s4
    exact absurd this (by decide)
theorem own_c255 (x : Int32) : ¬ ((x &&& (255 : Int32)).toUInt32.toUInt16.toUInt32.toInt32) < 0 ∧ ¬ (255 : Int32) < ((x &&& (255 : Int32)).toUInt32.toUInt16.toUInt32.toInt32) := by
  have q := own_and255 x
  have e : nar .char ((x &&& (255 : Int32)).toUInt32.toUInt16.toUInt32.toInt32) = (x &&& (255 : Int32)).toUInt32.toUInt16.toUInt32.toInt32 := by simp only [nar, UInt32.toUInt32_toInt32, UInt16.toUInt16_toUInt32]
  rwa [e] at q
theorem own_narb (x : Int32) : nar .byte (StrChars.lo8 x) = StrChars.lo8 x := by
  have q := Jvm.Free.XT.narrow_b x
  simpa [narrow, nar, StrChars.lo8] using q
theorem own_65 {x : Int32} (h : ¬ (255 : Int32) < x) : ¬ (65535 : Int32) < x := by
  rw [Int32.lt_iff_toInt_lt] at h ⊢
  have e0 : (255 : Int32).toInt = 255 := by decide
  have e1 : (65535 : Int32).toInt = 65535 := by decide
  omega
theorem own_irem (x : Int32) : ¬ ((x &&& (2147483647 : Int32)) % (22 : Int32)) < 0 ∧ ((x &&& (2147483647 : Int32)) % (22 : Int32)) < (22 : Int32) := by
  have q := c_and x 2147483647 (by decide)
  have e0 : (0 : Int32).toInt = 0 := by decide
  have e1 : (22 : Int32).toInt = 22 := by decide
  have em : ((x &&& (2147483647 : Int32)) % (22 : Int32)).toInt = ((x &&& (2147483647 : Int32)).toInt).tmod 22 := by rw [Int32.toInt_mod, e1]
  have b0 := Int.tmod_nonneg 22 q.1
  have b1 := Int.tmod_lt_of_pos ((x &&& (2147483647 : Int32)).toInt) (b := 22) (by decide)
  rw [Int32.lt_iff_toInt_lt, Int32.lt_iff_toInt_lt, em]
  omega
theorem own_pick {P : Addr → Prop} (L : List Addr) {i : Nat} (hi : i < L.length) (hP : ∀ a ∈ L, P a) : ∃ a, (L.map Value.ref).getD i .null = .ref a ∧ P a :=
  ⟨L[i], by simp [List.getD_eq_getElem?_getD, hi], hP _ (List.getElem_mem hi)⟩
theorem own_nclt {x : Int32} {n : Nat} (hn : n < 1000) (h : ¬ x < 0 ∧ x < Int32.ofNat n) : x.toNatClampNeg < n := by
  have a := h.1
  have b := h.2
  rw [Int32.lt_iff_toInt_lt] at a b
  rw [Int32.toInt_ofNat_small (by omega)] at b
  have e0 : (0 : Int32).toInt = 0 := by decide
  rw [Int32.toNatClampNeg]
  omega
theorem ef_rn (m : MethodId) (ra : Addr) : entryFrame m #[(.ref ra)] 1 = mkF m 0 #[.val (.ref ra)] [] := by first | (simp [entryFrame, mkF, argsToLocals, Value.category]; done) | rfl
theorem d_jdk_31_method_10_0 : decode jdk_31_method_10_code 0 = .ok (.aload_n 0, 1) := by decide +kernel
theorem d_jdk_31_method_10_1 : decode jdk_31_method_10_code 1 = .ok (.ifnonnull 11, 3) := by decide +kernel
theorem d_jdk_31_method_10_12 : decode jdk_31_method_10_code 12 = .ok (.aload_n 0, 1) := by decide +kernel
theorem d_jdk_31_method_10_13 : decode jdk_31_method_10_code 13 = .ok (.areturn, 1) := by decide +kernel
theorem pn_java_util_Objects : plainName "java/util/Objects" = true := by first | (simp [plainName, overriddenIn]; done) | decide +kernel
set_option maxRecDepth 65536 in
set_option maxHeartbeats 40000000 in
theorem m_rn (l : Launch) (Z : State) (a0 : Array Value) (hw : ∀ d ∈ tables_1, d.before a0 Z = true) (h0 : Heap) (n0 : Nat) (Z0 : n0 ≤ h0.size) (ra : Addr) :
    Met l Z [] (⟨"java/util/Objects", "requireNonNull", "(Ljava/lang/Object;)Ljava/lang/Object;"⟩ : MethodName) jdk_31_method_10_code 1 (some (.object "java/lang/Object")) ({ frames := 0, cells := 0, slots := 0, locals := 0 } : Room) #[(.ref ra)] h0 n0 (fun v h => v = some (.ref ra) ∧ h0 = h) := by
  refine Met.of (plainFor_of_name pn_java_util_Objects) ?_
  intro p e s m below meth c F K
  refine Go.cast (ef_rn m ra) ?_
  refine Go.aloadN K d_jdk_31_method_10_0 rfl rfl (pc' := 1) rfl ?_
  refine Go.ifnonnullR K d_jdk_31_method_10_1 (pc' := 12) (by decide) (by decide) ?_
  refine Go.aloadN K d_jdk_31_method_10_12 rfl rfl (pc' := 13) rfl ?_
  exact Go.retA K rfl rfl rfl (by decide) (by decide) d_jdk_31_method_10_13 (fun _ _ _ _ => ⟨rfl, rfl⟩)
theorem ef_ai0 (m : MethodId) (oa : Addr) (idd : Addr) (ra : Addr) : entryFrame m #[(.ref oa), (.ref idd), (.long (0 : Int64)), (.ref ra), (.int (0 : Int32))] 6 = mkF m 0 #[.val (.ref oa), .val (.ref idd), .val (.long (0 : Int64)), .second, .val (.ref ra), .val (.int (0 : Int32))] [] := by first | (simp [entryFrame, mkF, argsToLocals, Value.category]; done) | rfl
theorem d_prog_1_method_1_0 : decode prog_1_method_1_code 0 = .ok (.aload_n 0, 1) := by decide +kernel
theorem d_prog_1_method_1_1 : decode prog_1_method_1_code 1 = .ok (.invokespecial 1, 3) := by decide +kernel
theorem d_prog_1_method_1_4 : decode prog_1_method_1_code 4 = .ok (.aload_n 0, 1) := by decide +kernel
theorem d_prog_1_method_1_5 : decode prog_1_method_1_code 5 = .ok (.aload_n 1, 1) := by decide +kernel
theorem d_prog_1_method_1_6 : decode prog_1_method_1_code 6 = .ok (.ifnonnull 8, 3) := by decide +kernel
theorem d_prog_1_method_1_14 : decode prog_1_method_1_code 14 = .ok (.aload_n 1, 1) := by decide +kernel
theorem d_prog_1_method_1_15 : decode prog_1_method_1_code 15 = .ok (.putfield 11, 3) := by decide +kernel
theorem d_prog_1_method_1_18 : decode prog_1_method_1_code 18 = .ok (.aload_n 0, 1) := by decide +kernel
theorem d_prog_1_method_1_19 : decode prog_1_method_1_code 19 = .ok (.lload_n 2, 1) := by decide +kernel
theorem d_prog_1_method_1_20 : decode prog_1_method_1_code 20 = .ok (.putfield 15, 3) := by decide +kernel
theorem d_prog_1_method_1_23 : decode prog_1_method_1_code 23 = .ok (.aload_n 0, 1) := by decide +kernel
theorem d_prog_1_method_1_24 : decode prog_1_method_1_code 24 = .ok (.aload 4, 2) := by decide +kernel
theorem d_prog_1_method_1_26 : decode prog_1_method_1_code 26 = .ok (.putfield 19, 3) := by decide +kernel
theorem d_prog_1_method_1_29 : decode prog_1_method_1_code 29 = .ok (.aload_n 0, 1) := by decide +kernel
theorem d_prog_1_method_1_30 : decode prog_1_method_1_code 30 = .ok (.iload 5, 2) := by decide +kernel
theorem d_prog_1_method_1_32 : decode prog_1_method_1_code 32 = .ok (.putfield 23, 3) := by decide +kernel
theorem d_prog_1_method_1_35 : decode prog_1_method_1_code 35 = .ok (.return_, 1) := by decide +kernel
theorem pn_com_example_eunomia_eunomia_Answer : plainName "com/example/eunomia/eunomia/Answer" = true := by first | (simp [plainName, overriddenIn]; done) | decide +kernel
set_option maxRecDepth 65536 in
set_option maxHeartbeats 40000000 in
theorem m_ai0 (l : Launch) (Z : State) (a0 : Array Value) (hw : ∀ d ∈ tables_1, d.before a0 Z = true) (h0 : Heap) (n0 : Nat) (Z0 : n0 ≤ h0.size) (oa : Addr) (E_oa : Exa Z h0 oa "com/example/eunomia/eunomia/Answer") (g_oa : n0 ≤ oa) (F_id : Fld Z h0 oa "com/example/eunomia/eunomia/Answer" "id" "Ljava/lang/String;" .null) (F_seq : Fld Z h0 oa "com/example/eunomia/eunomia/Answer" "seq" "J" (.long (0 : Int64))) (F_reason : Fld Z h0 oa "com/example/eunomia/eunomia/Answer" "reason" "Lcom/example/eunomia/eunomia/Reason;" .null) (F_dryRun : Fld Z h0 oa "com/example/eunomia/eunomia/Answer" "dryRun" "Z" (.int (0 : Int32))) (idd : Addr) (ra : Addr) :
    Met l Z [] (⟨"com/example/eunomia/eunomia/Answer", "<init>", "(Ljava/lang/String;JLcom/example/eunomia/eunomia/Reason;Z)V"⟩ : MethodName) prog_1_method_1_code 6 none ({ frames := 1, cells := 0, slots := 0, locals := 20 } : Room) #[(.ref oa), (.ref idd), (.long (0 : Int64)), (.ref ra), (.int (0 : Int32))] h0 n0 (fun v h => v = none ∧ Keep h0 h [oa] ∧ Exa Z h oa "com/example/eunomia/eunomia/Answer" ∧ Fld Z h oa "com/example/eunomia/eunomia/Answer" "id" "Ljava/lang/String;" (.ref idd) ∧ Fld Z h oa "com/example/eunomia/eunomia/Answer" "seq" "J" (.long (0 : Int64)) ∧ Fld Z h oa "com/example/eunomia/eunomia/Answer" "reason" "Lcom/example/eunomia/eunomia/Reason;" (.ref ra)) := by
  refine Met.of (plainFor_of_name pn_com_example_eunomia_eunomia_Answer) ?_
  intro p e s m below meth c F K
  refine Go.cast (ef_ai0 m oa idd ra) ?_
  have kc0 := Keep.refl h0 [oa]
  refine Go.aloadN K d_prog_1_method_1_0 rfl rfl (pc' := 1) rfl ?_
  refine Go.initO K (hw _ (List.mem_of_getElem? (i := 71) rfl)) (hw _ (List.mem_of_getElem? (i := 72) rfl)) (hw _ (List.mem_of_getElem? (i := 73) rfl)) rfl (by decide) 0 (Nat.le_of_ble_eq_true rfl) (by decide) d_prog_1_method_1_1 (pc' := 4) rfl ?_
  refine Go.aloadN K d_prog_1_method_1_4 rfl rfl (pc' := 5) rfl ?_
  refine Go.aloadN K d_prog_1_method_1_5 rfl rfl (pc' := 6) rfl ?_
  refine Go.ifnonnullR K d_prog_1_method_1_6 (pc' := 14) (by decide) (by decide) ?_
  refine Go.aloadN K d_prog_1_method_1_14 rfl rfl (pc' := 15) rfl ?_
  refine Go.putF K (host := "") (Or.inl (hw _ (List.mem_of_getElem? (i := 75) rfl))) Via.refl F_id E_oa (Or.inr ⟨(hw _ (List.mem_of_getElem? (i := 76) rfl)), rfl, rfl⟩) (hw _ (List.mem_of_getElem? (i := 62) rfl)) (ty := (.object "java/lang/String")) (by decide) rfl rfl g_oa d_prog_1_method_1_15 (pc' := 18) rfl ?_
  intro h1 W2 f3
  have f4 := F_seq.other W2 (Or.inr (slot_ne (Or.inr (hw _ (List.mem_of_getElem? (i := 78) rfl))) (Or.inr (hw _ (List.mem_of_getElem? (i := 76) rfl))) (by decide) (t := .long) (t' := (.object "java/lang/String")) (by decide) (by decide)))
  have f5 := F_reason.other W2 (Or.inr (slot_ne (Or.inr (hw _ (List.mem_of_getElem? (i := 80) rfl))) (Or.inr (hw _ (List.mem_of_getElem? (i := 76) rfl))) (by decide) (t := (.object "com/example/eunomia/eunomia/Reason")) (t' := (.object "java/lang/String")) (by decide) (by decide)))
  have f6 := F_dryRun.other W2 (Or.inr (slot_ne (Or.inr (hw _ (List.mem_of_getElem? (i := 82) rfl))) (Or.inr (hw _ (List.mem_of_getElem? (i := 76) rfl))) (by decide) (t := .boolean) (t' := (.object "java/lang/String")) (by decide) (by decide)))
  have K7 := Keep.of_wr W2
  have f8 := E_oa.keep K7
  have z13 := Nat.le_trans Z0 K7.1
  have kc14 := kc0.trans K7 (allS (Or.inl (List.mem_of_getElem? (i := 0) rfl)) all0)
  refine Go.aloadN K d_prog_1_method_1_18 rfl rfl (pc' := 19) rfl ?_
  refine Go.lloadN K d_prog_1_method_1_19 rfl (pc' := 20) rfl ?_
  refine Go.putF K (host := "") (Or.inl (hw _ (List.mem_of_getElem? (i := 77) rfl))) Via.refl f4 f8 (Or.inr ⟨(hw _ (List.mem_of_getElem? (i := 78) rfl)), rfl, rfl⟩) (hw _ (List.mem_of_getElem? (i := 62) rfl)) (ty := .long) (by decide) rfl rfl g_oa d_prog_1_method_1_20 (pc' := 23) rfl ?_
  intro h15 W16 f17
  have f18 := f5.other W16 (Or.inr (slot_ne (Or.inr (hw _ (List.mem_of_getElem? (i := 80) rfl))) (Or.inr (hw _ (List.mem_of_getElem? (i := 78) rfl))) (by decide) (t := (.object "com/example/eunomia/eunomia/Reason")) (t' := .long) (by decide) (by decide)))
  have f19 := f6.other W16 (Or.inr (slot_ne (Or.inr (hw _ (List.mem_of_getElem? (i := 82) rfl))) (Or.inr (hw _ (List.mem_of_getElem? (i := 78) rfl))) (by decide) (t := .boolean) (t' := .long) (by decide) (by decide)))
  have f20 := f3.other W16 (Or.inr (slot_ne (Or.inr (hw _ (List.mem_of_getElem? (i := 76) rfl))) (Or.inr (hw _ (List.mem_of_getElem? (i := 78) rfl))) (by decide) (t := (.object "java/lang/String")) (t' := .long) (by decide) (by decide)))
  have K21 := Keep.of_wr W16
  have f22 := f8.keep K21
  have z27 := Nat.le_trans z13 K21.1
  have kc28 := kc14.trans K21 (allS (Or.inl (List.mem_of_getElem? (i := 0) rfl)) all0)
  refine Go.aloadN K d_prog_1_method_1_23 rfl rfl (pc' := 24) rfl ?_
  refine Go.aload K d_prog_1_method_1_24 rfl rfl (pc' := 26) rfl ?_
  refine Go.putF K (host := "") (Or.inl (hw _ (List.mem_of_getElem? (i := 79) rfl))) Via.refl f18 f22 (Or.inr ⟨(hw _ (List.mem_of_getElem? (i := 80) rfl)), rfl, rfl⟩) (hw _ (List.mem_of_getElem? (i := 62) rfl)) (ty := (.object "com/example/eunomia/eunomia/Reason")) (by decide) rfl rfl g_oa d_prog_1_method_1_26 (pc' := 29) rfl ?_
  intro h29 W30 f31
  have f32 := f19.other W30 (Or.inr (slot_ne (Or.inr (hw _ (List.mem_of_getElem? (i := 82) rfl))) (Or.inr (hw _ (List.mem_of_getElem? (i := 80) rfl))) (by decide) (t := .boolean) (t' := (.object "com/example/eunomia/eunomia/Reason")) (by decide) (by decide)))
  have f33 := f20.other W30 (Or.inr (slot_ne (Or.inr (hw _ (List.mem_of_getElem? (i := 76) rfl))) (Or.inr (hw _ (List.mem_of_getElem? (i := 80) rfl))) (by decide) (t := (.object "java/lang/String")) (t' := (.object "com/example/eunomia/eunomia/Reason")) (by decide) (by decide)))
  have f34 := f17.other W30 (Or.inr (slot_ne (Or.inr (hw _ (List.mem_of_getElem? (i := 78) rfl))) (Or.inr (hw _ (List.mem_of_getElem? (i := 80) rfl))) (by decide) (t := .long) (t' := (.object "com/example/eunomia/eunomia/Reason")) (by decide) (by decide)))
  have K35 := Keep.of_wr W30
  have f36 := f22.keep K35
  have z41 := Nat.le_trans z27 K35.1
  have kc42 := kc28.trans K35 (allS (Or.inl (List.mem_of_getElem? (i := 0) rfl)) all0)
  refine Go.aloadN K d_prog_1_method_1_29 rfl rfl (pc' := 30) rfl ?_
  refine Go.iload K d_prog_1_method_1_30 rfl (pc' := 32) rfl ?_
  refine Go.putFN K (hw _ (List.mem_of_getElem? (i := 81) rfl)) Via.refl f32 f36 (Or.inr ⟨(hw _ (List.mem_of_getElem? (i := 82) rfl)), rfl, rfl⟩) (hw _ (List.mem_of_getElem? (i := 62) rfl)) (ty := .boolean) (v' := (.int (0 : Int32))) (by decide) rfl rfl g_oa d_prog_1_method_1_32 (pc' := 35) rfl ?_
  intro h43 W44 f45
  have f46 := f33.other W44 (Or.inr (slot_ne (Or.inr (hw _ (List.mem_of_getElem? (i := 76) rfl))) (Or.inr (hw _ (List.mem_of_getElem? (i := 82) rfl))) (by decide) (t := (.object "java/lang/String")) (t' := .boolean) (by decide) (by decide)))
  have f47 := f34.other W44 (Or.inr (slot_ne (Or.inr (hw _ (List.mem_of_getElem? (i := 78) rfl))) (Or.inr (hw _ (List.mem_of_getElem? (i := 82) rfl))) (by decide) (t := .long) (t' := .boolean) (by decide) (by decide)))
  have f48 := f31.other W44 (Or.inr (slot_ne (Or.inr (hw _ (List.mem_of_getElem? (i := 80) rfl))) (Or.inr (hw _ (List.mem_of_getElem? (i := 82) rfl))) (by decide) (t := (.object "com/example/eunomia/eunomia/Reason")) (t' := .boolean) (by decide) (by decide)))
  have K49 := Keep.of_wr W44
  have f50 := f36.keep K49
  have z55 := Nat.le_trans z41 K49.1
  have kc56 := kc42.trans K49 (allS (Or.inl (List.mem_of_getElem? (i := 0) rfl)) all0)
  exact Go.retV K (by decide) (by decide) d_prog_1_method_1_35 (fun _ _ _ _ => ⟨rfl, kc56, f50, f46, f47, f48⟩)
theorem ef_ref0 (m : MethodId) (idd : Addr) (ra : Addr) : entryFrame m #[(.ref idd), (.ref ra)] 2 = mkF m 0 #[.val (.ref idd), .val (.ref ra)] [] := by first | (simp [entryFrame, mkF, argsToLocals, Value.category]; done) | rfl
theorem d_prog_1_method_4_0 : decode prog_1_method_4_code 0 = .ok (.new 7, 3) := by decide +kernel
theorem d_prog_1_method_4_3 : decode prog_1_method_4_code 3 = .ok (.dup, 1) := by decide +kernel
theorem d_prog_1_method_4_4 : decode prog_1_method_4_code 4 = .ok (.aload_n 0, 1) := by decide +kernel
theorem d_prog_1_method_4_5 : decode prog_1_method_4_code 5 = .ok (.lconst 0, 1) := by decide +kernel
theorem d_prog_1_method_4_6 : decode prog_1_method_4_code 6 = .ok (.aload_n 1, 1) := by decide +kernel
theorem d_prog_1_method_4_7 : decode prog_1_method_4_code 7 = .ok (.invokestatic 27, 3) := by decide +kernel
theorem pd__28Ljava_2flang_2fObject_3b_29Ljava_2flang_2fObject_3b : parseMethodDescriptor "(Ljava/lang/Object;)Ljava/lang/Object;" = some ⟨[(.object "java/lang/Object")], some (.object "java/lang/Object")⟩ := by decide +kernel
theorem d_prog_1_method_4_10 : decode prog_1_method_4_code 10 = .ok (.checkcast 38, 3) := by decide +kernel
theorem d_prog_1_method_4_13 : decode prog_1_method_4_code 13 = .ok (.iconst 0, 1) := by decide +kernel
theorem d_prog_1_method_4_14 : decode prog_1_method_4_code 14 = .ok (.invokespecial 35, 3) := by decide +kernel
theorem pd__28Ljava_2flang_2fString_3bJLcom_2fexample_2feunomia_2feunomia_2fReason_3bZ_29V : parseMethodDescriptor "(Ljava/lang/String;JLcom/example/eunomia/eunomia/Reason;Z)V" = some ⟨[(.object "java/lang/String"), .long, (.object "com/example/eunomia/eunomia/Reason"), .boolean], none⟩ := by decide +kernel
theorem d_prog_1_method_4_17 : decode prog_1_method_4_code 17 = .ok (.areturn, 1) := by decide +kernel
set_option maxRecDepth 65536 in
set_option maxHeartbeats 40000000 in
theorem m_ref0 (l : Launch) (Z : State) (a0 : Array Value) (hw : ∀ d ∈ tables_1, d.before a0 Z = true) (h0 : Heap) (n0 : Nat) (Z0 : n0 ≤ h0.size) (idd : Addr) (ra : Addr) (E_ra : Exa Z h0 ra "com/example/eunomia/eunomia/Reason") :
    Met l Z [] (⟨"com/example/eunomia/eunomia/Answer", "refused", "(Ljava/lang/String;Lcom/example/eunomia/eunomia/Reason;)Lcom/example/eunomia/eunomia/Answer;"⟩ : MethodName) prog_1_method_4_code 2 (some (.object "com/example/eunomia/eunomia/Answer")) ({ frames := 2, cells := 1, slots := 4, locals := 44 } : Room) #[(.ref idd), (.ref ra)] h0 n0 (fun v h => ∃ oa : Addr, v = some (.ref oa) ∧ h0.size ≤ oa ∧ Keep h0 h [] ∧ Exa Z h oa "com/example/eunomia/eunomia/Answer" ∧ Fld Z h oa "com/example/eunomia/eunomia/Answer" "id" "Ljava/lang/String;" (.ref idd) ∧ Fld Z h oa "com/example/eunomia/eunomia/Answer" "seq" "J" (.long (0 : Int64)) ∧ Fld Z h oa "com/example/eunomia/eunomia/Answer" "reason" "Lcom/example/eunomia/eunomia/Reason;" (.ref ra)) := by
  refine Met.of (plainFor_of_name pn_com_example_eunomia_eunomia_Answer) ?_
  intro p e s m below meth c F K
  refine Go.cast (ef_ref0 m idd ra) ?_
  have kc0 := Keep.refl h0 []
  refine Go.newO K (hw _ (List.mem_of_getElem? (i := 61) rfl)) (hw _ (List.mem_of_getElem? (i := 62) rfl)) (hw _ (List.mem_of_getElem? (i := 59) rfl)) (by decide) (by decide) d_prog_1_method_4_0 (pc' := 3) rfl ?_
  intro h57 oa eq60 E58 E_oa D59
  have sz_oa := Nat.le_trans kc0.1 (Nat.le_of_eq eq60.symm)
  have ne61 : ra ≠ oa := own_ne E_ra.lt (Nat.le_of_eq eq60.symm)
  have g_oa : n0 ≤ oa := Nat.le_trans Z0 (Nat.le_of_eq eq60.symm)
  have f63 := E_ra.ext E58
  have z64 := Nat.le_trans Z0 E58.1
  have kc65 := kc0.ext E58
  have f66 : Fld Z h57 oa "com/example/eunomia/eunomia/Answer" "id" "Ljava/lang/String;" .null := D59 (Or.inr (hw _ (List.mem_of_getElem? (i := 76) rfl))) (ty := (.object "java/lang/String")) (by decide)
  have f67 : Fld Z h57 oa "com/example/eunomia/eunomia/Answer" "seq" "J" (.long (0 : Int64)) := D59 (Or.inr (hw _ (List.mem_of_getElem? (i := 78) rfl))) (ty := .long) (by decide)
  have f68 : Fld Z h57 oa "com/example/eunomia/eunomia/Answer" "reason" "Lcom/example/eunomia/eunomia/Reason;" .null := D59 (Or.inr (hw _ (List.mem_of_getElem? (i := 80) rfl))) (ty := (.object "com/example/eunomia/eunomia/Reason")) (by decide)
  have f69 : Fld Z h57 oa "com/example/eunomia/eunomia/Answer" "dryRun" "Z" (.int (0 : Int32)) := D59 (Or.inr (hw _ (List.mem_of_getElem? (i := 82) rfl))) (ty := .boolean) (by decide)
  refine Go.dup K d_prog_1_method_4_3 rfl (pc' := 4) rfl ?_
  refine Go.aloadN K d_prog_1_method_4_4 rfl rfl (pc' := 5) rfl ?_
  refine Go.lconst K (v := 0) d_prog_1_method_4_5 rfl (pc' := 6) rfl ?_
  refine Go.aloadN K d_prog_1_method_4_6 rfl rfl (pc' := 7) rfl ?_
  refine Go.callS K (y := (⟨"java/util/Objects", "requireNonNull", "(Ljava/lang/Object;)Ljava/lang/Object;"⟩ : MethodName)) (W := 5) (kc := 0) (nc := 0) (mvT K.cz (hw _ (List.mem_of_getElem? (i := 63) rfl))) (mvT K.cz (hw _ (List.mem_of_getElem? (i := 64) rfl))) (mvT K.cz (hw _ (List.mem_of_getElem? (i := 65) rfl))) (mvT K.cz (hw _ (List.mem_of_getElem? (i := 66) rfl))) (by decide) ((m_rn l Z a0 hw h57 n0 z64 ra).pays (W := 5) K.cz (hw _ (List.mem_of_getElem? (i := 66) rfl)) (hw _ (List.mem_of_getElem? (i := 65) rfl)) (by decide) (by decide)) rfl (argsL := [(.ref ra)]) (rest := [(.long (0 : Int64)), (.ref idd), (.ref oa), (.ref oa)]) (lenOf pd__28Ljava_2flang_2fObject_3b_29Ljava_2flang_2fObject_3b rfl) rfl (Nat.le_of_ble_eq_true rfl) (by decide) (by decide) frOf grOf d_prog_1_method_4_7 (pc' := 10) rfl ?_
  rintro v72 h70 Lc71 ⟨⟨⟨rfl, eh⟩, -⟩, -⟩
  obtain rfl := eh
  show Go p l e _ _ m _ below meth c _ _ _ _ h57 _ _ (mkF m 10 #[.val (.ref idd), .val (.ref ra)] [(.ref ra), (.long (0 : Int64)), (.ref idd), (.ref oa), (.ref oa)])
  refine Go.castY K (hw _ (List.mem_of_getElem? (i := 67) rfl)) (Ins.self f63) d_prog_1_method_4_10 (pc' := 13) rfl ?_
  refine Go.iconst K (v := 0) d_prog_1_method_4_13 rfl (pc' := 14) rfl ?_
  refine Go.callC K (y := (⟨"com/example/eunomia/eunomia/Answer", "<init>", "(Ljava/lang/String;JLcom/example/eunomia/eunomia/Reason;Z)V"⟩ : MethodName)) (W := 1) (kc := 0) (nc := 0) (a := oa) rfl (mvT K.cz (hw _ (List.mem_of_getElem? (i := 68) rfl))) (mvT K.cz (hw _ (List.mem_of_getElem? (i := 69) rfl))) (mvT K.cz (hw _ (List.mem_of_getElem? (i := 70) rfl))) (by decide) ((m_ai0 l Z a0 hw h57 n0 z64 oa E_oa g_oa f66 f67 f68 f69 idd ra).pays (W := 1) K.cz (hw _ (List.mem_of_getElem? (i := 70) rfl)) (hw _ (List.mem_of_getElem? (i := 59) rfl)) (by decide) (by decide)) rfl (argsL := [(.ref idd), (.long (0 : Int64)), (.ref ra), (.int (0 : Int32))]) (rest := [(.ref oa)]) (lenOf pd__28Ljava_2flang_2fString_3bJLcom_2fexample_2feunomia_2feunomia_2fReason_3bZ_29V rfl) rfl (Nat.le_of_ble_eq_true rfl) (by decide) (by decide) frOf grOf d_prog_1_method_4_14 (pc' := 17) rfl ?_
  rintro v75 h73 Lc74 ⟨⟨⟨rfl, Kq, qa⟩, -⟩, -⟩
  have f76 := f63.keep Kq
  have f77 := E_oa.keep Kq
  have z82 := Nat.le_trans z64 Kq.1
  have kc83 := kc65.trans Kq (allS (Or.inr sz_oa) all0)
  show Go p l e _ _ m _ below meth c _ _ _ _ h73 _ _ (mkF m 17 #[.val (.ref idd), .val (.ref ra)] [(.ref oa)])
  exact Go.retA K rfl rfl rfl (by decide) (by decide) d_prog_1_method_4_17 (fun _ _ _ _ => ⟨oa, rfl, sz_oa, kc83, qa⟩)
theorem ef_ai1 (m : MethodId) (oa : Addr) (ra : Addr) : entryFrame m #[(.ref oa), .null, (.long (0 : Int64)), (.ref ra), (.int (0 : Int32))] 6 = mkF m 0 #[.val (.ref oa), .val .null, .val (.long (0 : Int64)), .second, .val (.ref ra), .val (.int (0 : Int32))] [] := by first | (simp [entryFrame, mkF, argsToLocals, Value.category]; done) | rfl
theorem d_prog_1_method_1_9 : decode prog_1_method_1_code 9 = .ok (.ldc 9, 2) := by decide +kernel
theorem d_prog_1_method_1_11 : decode prog_1_method_1_code 11 = .ok (.goto 4, 3) := by decide +kernel
set_option maxRecDepth 65536 in
set_option maxHeartbeats 40000000 in
theorem m_ai1 (l : Launch) (Z : State) (a0 : Array Value) (hw : ∀ d ∈ tables_1, d.before a0 Z = true) (h0 : Heap) (n0 : Nat) (Z0 : n0 ≤ h0.size) (wS : ∀ a ∈ Bundle.stringAtoms, a.before a0 Z = true) (hEL : EW Z a0 [("com/example/eunomia/eunomia/Answer", 9), ("com/example/eunomia/eunomia/AnswerRefusedPinLaw", 77), ("java/lang/String", 7)]) (oa : Addr) (E_oa : Exa Z h0 oa "com/example/eunomia/eunomia/Answer") (g_oa : n0 ≤ oa) (F_id : Fld Z h0 oa "com/example/eunomia/eunomia/Answer" "id" "Ljava/lang/String;" .null) (F_seq : Fld Z h0 oa "com/example/eunomia/eunomia/Answer" "seq" "J" (.long (0 : Int64))) (F_reason : Fld Z h0 oa "com/example/eunomia/eunomia/Answer" "reason" "Lcom/example/eunomia/eunomia/Reason;" .null) (F_dryRun : Fld Z h0 oa "com/example/eunomia/eunomia/Answer" "dryRun" "Z" (.int (0 : Int32))) (ra : Addr) :
    MetW l Z [] [("com/example/eunomia/eunomia/Answer", 9), ("com/example/eunomia/eunomia/AnswerRefusedPinLaw", 77), ("java/lang/String", 7)] (⟨"com/example/eunomia/eunomia/Answer", "<init>", "(Ljava/lang/String;JLcom/example/eunomia/eunomia/Reason;Z)V"⟩ : MethodName) prog_1_method_1_code 6 none ({ frames := 1, cells := 2, slots := 8, locals := 20 } : Room) #[(.ref oa), .null, (.long (0 : Int64)), (.ref ra), (.int (0 : Int32))] h0 n0 (fun v h => v = none ∧ Keep h0 h [oa] ∧ ∃ (da tb : Addr) (kb : ClassId), (Exa Z h oa "com/example/eunomia/eunomia/Answer" ∧ Fld Z h oa "com/example/eunomia/eunomia/Answer" "id" "Ljava/lang/String;" (.ref da) ∧ Fld Z h oa "com/example/eunomia/eunomia/Answer" "seq" "J" (.long (0 : Int64)) ∧ Fld Z h oa "com/example/eunomia/eunomia/Answer" "reason" "Lcom/example/eunomia/eunomia/Reason;" (.ref ra)) ∧ Exa Z h da "java/lang/String" ∧ Fld Z h da "java/lang/String" "coder" "B" (.int 0) ∧ Fld Z h da "java/lang/String" "value" "[B" (.ref tb) ∧ Arv Z h tb kb .byte (1 : Int32) [(.int (45 : Int32))] (.int 0)) := by
  refine MetW.of (plainFor_of_name pn_com_example_eunomia_eunomia_Answer) ?_
  intro p e s m below meth c vm0 B hS HC K
  have CR := CHr.refl HC
  refine Go.cast (ef_ai1 m oa ra) ?_
  have kc0 := Keep.refl h0 [oa]
  refine Go.aloadN K d_prog_1_method_1_0 rfl rfl (pc' := 1) rfl ?_
  refine Go.initO K (hw _ (List.mem_of_getElem? (i := 71) rfl)) (hw _ (List.mem_of_getElem? (i := 72) rfl)) (hw _ (List.mem_of_getElem? (i := 73) rfl)) rfl (by decide) 0 (Nat.le_of_ble_eq_true rfl) (by decide) d_prog_1_method_1_1 (pc' := 4) rfl ?_
  refine Go.aloadN K d_prog_1_method_1_4 rfl rfl (pc' := 5) rfl ?_
  refine Go.aloadN K d_prog_1_method_1_5 rfl rfl (pc' := 6) rfl ?_
  refine Go.ifnonnullN K d_prog_1_method_1_6 (pc' := 9) rfl ?_
  refine Go.ldcV K hS (i := 4) (vs := [(.int (45 : Int32))]) (z := 1) (hw _ (List.mem_of_getElem? (i := 74) rfl)) wS hEL (by decide) CR.1 (by decide +kernel) (by decide) rfl (by decide) (by decide) (by decide) (by decide) d_prog_1_method_1_9 (pc' := 11) rfl ?_
  intro da t_da kb_da vm88 h84 B89 E85 hr86 hS E_da C_da F_da A_da sf87 K
  have f95 := E_oa.ext E85
  have f96 := F_id.ext E85
  have f97 := F_seq.ext E85
  have f98 := F_reason.ext E85
  have f99 := F_dryRun.ext E85
  have z100 := Nat.le_trans Z0 E85.1
  have cr101 := CR.trans (hr86)
  have kc102 := kc0.ext E85
  have ne103 := (sf87 _ (Safe.exa K.cz.alike f95 (by decide) (by decide))).1
  have ne104 := (sf87 _ (Safe.exa K.cz.alike f95 (by decide) (by decide))).2
  refine Go.goto K d_prog_1_method_1_11 (pc' := 15) (by decide) (by decide) ?_
  refine Go.putF K (host := "") (Or.inl (hw _ (List.mem_of_getElem? (i := 75) rfl))) Via.refl f96 f95 (Or.inr ⟨(hw _ (List.mem_of_getElem? (i := 76) rfl)), rfl, rfl⟩) (hw _ (List.mem_of_getElem? (i := 62) rfl)) (ty := (.object "java/lang/String")) (by decide) rfl rfl g_oa d_prog_1_method_1_15 (pc' := 18) rfl ?_
  intro h105 W106 f107
  have f108 := f97.other W106 (Or.inr (slot_ne (Or.inr (hw _ (List.mem_of_getElem? (i := 78) rfl))) (Or.inr (hw _ (List.mem_of_getElem? (i := 76) rfl))) (by decide) (t := .long) (t' := (.object "java/lang/String")) (by decide) (by decide)))
  have f109 := f98.other W106 (Or.inr (slot_ne (Or.inr (hw _ (List.mem_of_getElem? (i := 80) rfl))) (Or.inr (hw _ (List.mem_of_getElem? (i := 76) rfl))) (by decide) (t := (.object "com/example/eunomia/eunomia/Reason")) (t' := (.object "java/lang/String")) (by decide) (by decide)))
  have f110 := f99.other W106 (Or.inr (slot_ne (Or.inr (hw _ (List.mem_of_getElem? (i := 82) rfl))) (Or.inr (hw _ (List.mem_of_getElem? (i := 76) rfl))) (by decide) (t := .boolean) (t' := (.object "java/lang/String")) (by decide) (by decide)))
  have K111 := Keep.of_wr W106
  have cr112 := cr101.trans (CHr.keep K111 (sfS (Safe.exa K.cz.alike f95 (by decide) (by decide)) sf0) cr101.1)
  have f113 := f95.keep K111
  have f118 := E_da.keep K111
  have f119 := C_da.keep K111 (ninS (Ne.symm ne103) nin0)
  have f120 := F_da.keep K111 (ninS (Ne.symm ne103) nin0)
  have f121 := A_da.keep K111 (ninS (Ne.symm ne104) nin0)
  have z122 := Nat.le_trans z100 K111.1
  have kc123 := kc102.trans K111 (allS (Or.inl (List.mem_of_getElem? (i := 0) rfl)) all0)
  refine Go.aloadN K d_prog_1_method_1_18 rfl rfl (pc' := 19) rfl ?_
  refine Go.lloadN K d_prog_1_method_1_19 rfl (pc' := 20) rfl ?_
  refine Go.putF K (host := "") (Or.inl (hw _ (List.mem_of_getElem? (i := 77) rfl))) Via.refl f108 f113 (Or.inr ⟨(hw _ (List.mem_of_getElem? (i := 78) rfl)), rfl, rfl⟩) (hw _ (List.mem_of_getElem? (i := 62) rfl)) (ty := .long) (by decide) rfl rfl g_oa d_prog_1_method_1_20 (pc' := 23) rfl ?_
  intro h124 W125 f126
  have f127 := f109.other W125 (Or.inr (slot_ne (Or.inr (hw _ (List.mem_of_getElem? (i := 80) rfl))) (Or.inr (hw _ (List.mem_of_getElem? (i := 78) rfl))) (by decide) (t := (.object "com/example/eunomia/eunomia/Reason")) (t' := .long) (by decide) (by decide)))
  have f128 := f110.other W125 (Or.inr (slot_ne (Or.inr (hw _ (List.mem_of_getElem? (i := 82) rfl))) (Or.inr (hw _ (List.mem_of_getElem? (i := 78) rfl))) (by decide) (t := .boolean) (t' := .long) (by decide) (by decide)))
  have f129 := f107.other W125 (Or.inr (slot_ne (Or.inr (hw _ (List.mem_of_getElem? (i := 76) rfl))) (Or.inr (hw _ (List.mem_of_getElem? (i := 78) rfl))) (by decide) (t := (.object "java/lang/String")) (t' := .long) (by decide) (by decide)))
  have K130 := Keep.of_wr W125
  have cr131 := cr112.trans (CHr.keep K130 (sfS (Safe.exa K.cz.alike f113 (by decide) (by decide)) sf0) cr112.1)
  have f132 := f113.keep K130
  have f133 := f118.keep K130
  have f134 := f119.keep K130 (ninS (Ne.symm ne103) nin0)
  have f135 := f120.keep K130 (ninS (Ne.symm ne103) nin0)
  have f136 := f121.keep K130 (ninS (Ne.symm ne104) nin0)
  have z141 := Nat.le_trans z122 K130.1
  have kc142 := kc123.trans K130 (allS (Or.inl (List.mem_of_getElem? (i := 0) rfl)) all0)
  refine Go.aloadN K d_prog_1_method_1_23 rfl rfl (pc' := 24) rfl ?_
  refine Go.aload K d_prog_1_method_1_24 rfl rfl (pc' := 26) rfl ?_
  refine Go.putF K (host := "") (Or.inl (hw _ (List.mem_of_getElem? (i := 79) rfl))) Via.refl f127 f132 (Or.inr ⟨(hw _ (List.mem_of_getElem? (i := 80) rfl)), rfl, rfl⟩) (hw _ (List.mem_of_getElem? (i := 62) rfl)) (ty := (.object "com/example/eunomia/eunomia/Reason")) (by decide) rfl rfl g_oa d_prog_1_method_1_26 (pc' := 29) rfl ?_
  intro h143 W144 f145
  have f146 := f128.other W144 (Or.inr (slot_ne (Or.inr (hw _ (List.mem_of_getElem? (i := 82) rfl))) (Or.inr (hw _ (List.mem_of_getElem? (i := 80) rfl))) (by decide) (t := .boolean) (t' := (.object "com/example/eunomia/eunomia/Reason")) (by decide) (by decide)))
  have f147 := f129.other W144 (Or.inr (slot_ne (Or.inr (hw _ (List.mem_of_getElem? (i := 76) rfl))) (Or.inr (hw _ (List.mem_of_getElem? (i := 80) rfl))) (by decide) (t := (.object "java/lang/String")) (t' := (.object "com/example/eunomia/eunomia/Reason")) (by decide) (by decide)))
  have f148 := f126.other W144 (Or.inr (slot_ne (Or.inr (hw _ (List.mem_of_getElem? (i := 78) rfl))) (Or.inr (hw _ (List.mem_of_getElem? (i := 80) rfl))) (by decide) (t := .long) (t' := (.object "com/example/eunomia/eunomia/Reason")) (by decide) (by decide)))
  have K149 := Keep.of_wr W144
  have cr150 := cr131.trans (CHr.keep K149 (sfS (Safe.exa K.cz.alike f132 (by decide) (by decide)) sf0) cr131.1)
  have f151 := f132.keep K149
  have f152 := f133.keep K149
  have f153 := f134.keep K149 (ninS (Ne.symm ne103) nin0)
  have f154 := f135.keep K149 (ninS (Ne.symm ne103) nin0)
  have f155 := f136.keep K149 (ninS (Ne.symm ne104) nin0)
  have z160 := Nat.le_trans z141 K149.1
  have kc161 := kc142.trans K149 (allS (Or.inl (List.mem_of_getElem? (i := 0) rfl)) all0)
  refine Go.aloadN K d_prog_1_method_1_29 rfl rfl (pc' := 30) rfl ?_
  refine Go.iload K d_prog_1_method_1_30 rfl (pc' := 32) rfl ?_
  refine Go.putFN K (hw _ (List.mem_of_getElem? (i := 81) rfl)) Via.refl f146 f151 (Or.inr ⟨(hw _ (List.mem_of_getElem? (i := 82) rfl)), rfl, rfl⟩) (hw _ (List.mem_of_getElem? (i := 62) rfl)) (ty := .boolean) (v' := (.int (0 : Int32))) (by decide) rfl rfl g_oa d_prog_1_method_1_32 (pc' := 35) rfl ?_
  intro h162 W163 f164
  have f165 := f147.other W163 (Or.inr (slot_ne (Or.inr (hw _ (List.mem_of_getElem? (i := 76) rfl))) (Or.inr (hw _ (List.mem_of_getElem? (i := 82) rfl))) (by decide) (t := (.object "java/lang/String")) (t' := .boolean) (by decide) (by decide)))
  have f166 := f148.other W163 (Or.inr (slot_ne (Or.inr (hw _ (List.mem_of_getElem? (i := 78) rfl))) (Or.inr (hw _ (List.mem_of_getElem? (i := 82) rfl))) (by decide) (t := .long) (t' := .boolean) (by decide) (by decide)))
  have f167 := f145.other W163 (Or.inr (slot_ne (Or.inr (hw _ (List.mem_of_getElem? (i := 80) rfl))) (Or.inr (hw _ (List.mem_of_getElem? (i := 82) rfl))) (by decide) (t := (.object "com/example/eunomia/eunomia/Reason")) (t' := .boolean) (by decide) (by decide)))
  have K168 := Keep.of_wr W163
  have cr169 := cr150.trans (CHr.keep K168 (sfS (Safe.exa K.cz.alike f151 (by decide) (by decide)) sf0) cr150.1)
  have f170 := f151.keep K168
  have f171 := f152.keep K168
  have f172 := f153.keep K168 (ninS (Ne.symm ne103) nin0)
  have f173 := f154.keep K168 (ninS (Ne.symm ne103) nin0)
  have f174 := f155.keep K168 (ninS (Ne.symm ne104) nin0)
  have z179 := Nat.le_trans z160 K168.1
  have kc180 := kc161.trans K168 (allS (Or.inl (List.mem_of_getElem? (i := 0) rfl)) all0)
  exact Go.retV K (by decide) (by decide) d_prog_1_method_1_35 (own_end hEL K.cz cr169 ⟨rfl, kc180, da, t_da, kb_da, ⟨f170, f165, f166, f167⟩, f171, f172, f173, f174⟩)
theorem ef_ref1 (m : MethodId) (ra : Addr) : entryFrame m #[.null, (.ref ra)] 2 = mkF m 0 #[.val .null, .val (.ref ra)] [] := by first | (simp [entryFrame, mkF, argsToLocals, Value.category]; done) | rfl
set_option maxRecDepth 65536 in
set_option maxHeartbeats 40000000 in
theorem m_ref1 (l : Launch) (Z : State) (a0 : Array Value) (hw : ∀ d ∈ tables_1, d.before a0 Z = true) (h0 : Heap) (n0 : Nat) (Z0 : n0 ≤ h0.size) (wS : ∀ a ∈ Bundle.stringAtoms, a.before a0 Z = true) (hEL : EW Z a0 [("com/example/eunomia/eunomia/Answer", 9), ("com/example/eunomia/eunomia/AnswerRefusedPinLaw", 77), ("java/lang/String", 7)]) (ra : Addr) (E_ra : Exa Z h0 ra "com/example/eunomia/eunomia/Reason") :
    MetW l Z [] [("com/example/eunomia/eunomia/Answer", 9), ("com/example/eunomia/eunomia/AnswerRefusedPinLaw", 77), ("java/lang/String", 7)] (⟨"com/example/eunomia/eunomia/Answer", "refused", "(Ljava/lang/String;Lcom/example/eunomia/eunomia/Reason;)Lcom/example/eunomia/eunomia/Answer;"⟩ : MethodName) prog_1_method_4_code 2 (some (.object "com/example/eunomia/eunomia/Answer")) ({ frames := 2, cells := 3, slots := 12, locals := 44 } : Room) #[.null, (.ref ra)] h0 n0 (fun v h => ∃ oa : Addr, v = some (.ref oa) ∧ h0.size ≤ oa ∧ Keep h0 h [] ∧ ∃ (da tb : Addr) (kb : ClassId), (Exa Z h oa "com/example/eunomia/eunomia/Answer" ∧ Fld Z h oa "com/example/eunomia/eunomia/Answer" "id" "Ljava/lang/String;" (.ref da) ∧ Fld Z h oa "com/example/eunomia/eunomia/Answer" "seq" "J" (.long (0 : Int64)) ∧ Fld Z h oa "com/example/eunomia/eunomia/Answer" "reason" "Lcom/example/eunomia/eunomia/Reason;" (.ref ra)) ∧ Exa Z h da "java/lang/String" ∧ Fld Z h da "java/lang/String" "coder" "B" (.int 0) ∧ Fld Z h da "java/lang/String" "value" "[B" (.ref tb) ∧ Arv Z h tb kb .byte (1 : Int32) [(.int (45 : Int32))] (.int 0)) := by
  refine MetW.of (plainFor_of_name pn_com_example_eunomia_eunomia_Answer) ?_
  intro p e s m below meth c vm0 B hS HC K
  have CR := CHr.refl HC
  refine Go.cast (ef_ref1 m ra) ?_
  have kc0 := Keep.refl h0 []
  refine Go.newO K (hw _ (List.mem_of_getElem? (i := 61) rfl)) (hw _ (List.mem_of_getElem? (i := 62) rfl)) (hw _ (List.mem_of_getElem? (i := 59) rfl)) (by decide) (by decide) d_prog_1_method_4_0 (pc' := 3) rfl ?_
  intro h181 oa eq184 E182 E_oa D183
  have sz_oa := Nat.le_trans kc0.1 (Nat.le_of_eq eq184.symm)
  have ne185 : ra ≠ oa := own_ne E_ra.lt (Nat.le_of_eq eq184.symm)
  have g_oa : n0 ≤ oa := Nat.le_trans Z0 (Nat.le_of_eq eq184.symm)
  have f187 := E_ra.ext E182
  have z188 := Nat.le_trans Z0 E182.1
  have cr189 := CR.trans (CHr.ext E182 CR.1)
  have kc190 := kc0.ext E182
  have f191 : Fld Z h181 oa "com/example/eunomia/eunomia/Answer" "id" "Ljava/lang/String;" .null := D183 (Or.inr (hw _ (List.mem_of_getElem? (i := 76) rfl))) (ty := (.object "java/lang/String")) (by decide)
  have f192 : Fld Z h181 oa "com/example/eunomia/eunomia/Answer" "seq" "J" (.long (0 : Int64)) := D183 (Or.inr (hw _ (List.mem_of_getElem? (i := 78) rfl))) (ty := .long) (by decide)
  have f193 : Fld Z h181 oa "com/example/eunomia/eunomia/Answer" "reason" "Lcom/example/eunomia/eunomia/Reason;" .null := D183 (Or.inr (hw _ (List.mem_of_getElem? (i := 80) rfl))) (ty := (.object "com/example/eunomia/eunomia/Reason")) (by decide)
  have f194 : Fld Z h181 oa "com/example/eunomia/eunomia/Answer" "dryRun" "Z" (.int (0 : Int32)) := D183 (Or.inr (hw _ (List.mem_of_getElem? (i := 82) rfl))) (ty := .boolean) (by decide)
  refine Go.dup K d_prog_1_method_4_3 rfl (pc' := 4) rfl ?_
  refine Go.aloadN K d_prog_1_method_4_4 rfl rfl (pc' := 5) rfl ?_
  refine Go.lconst K (v := 0) d_prog_1_method_4_5 rfl (pc' := 6) rfl ?_
  refine Go.aloadN K d_prog_1_method_4_6 rfl rfl (pc' := 7) rfl ?_
  refine Go.callS K (y := (⟨"java/util/Objects", "requireNonNull", "(Ljava/lang/Object;)Ljava/lang/Object;"⟩ : MethodName)) (W := 5) (kc := 0) (nc := 0) (mvT K.cz (hw _ (List.mem_of_getElem? (i := 63) rfl))) (mvT K.cz (hw _ (List.mem_of_getElem? (i := 64) rfl))) (mvT K.cz (hw _ (List.mem_of_getElem? (i := 65) rfl))) (mvT K.cz (hw _ (List.mem_of_getElem? (i := 66) rfl))) (by decide) ((m_rn l Z a0 hw h181 n0 z188 ra).pays (W := 5) K.cz (hw _ (List.mem_of_getElem? (i := 66) rfl)) (hw _ (List.mem_of_getElem? (i := 65) rfl)) (by decide) (by decide)) rfl (argsL := [(.ref ra)]) (rest := [(.long (0 : Int64)), .null, (.ref oa), (.ref oa)]) (lenOf pd__28Ljava_2flang_2fObject_3b_29Ljava_2flang_2fObject_3b rfl) rfl (Nat.le_of_ble_eq_true rfl) (by decide) (by decide) frOf grOf d_prog_1_method_4_7 (pc' := 10) rfl ?_
  rintro v197 h195 Lc196 ⟨⟨⟨rfl, eh⟩, -⟩, -⟩
  obtain rfl := eh
  show Go p l e _ _ m _ below meth c _ _ _ _ h181 _ _ (mkF m 10 #[.val .null, .val (.ref ra)] [(.ref ra), (.long (0 : Int64)), .null, (.ref oa), (.ref oa)])
  refine Go.castY K (hw _ (List.mem_of_getElem? (i := 67) rfl)) (Ins.self f187) d_prog_1_method_4_10 (pc' := 13) rfl ?_
  refine Go.iconst K (v := 0) d_prog_1_method_4_13 rfl (pc' := 14) rfl ?_
  refine Go.callCW K hS (y := (⟨"com/example/eunomia/eunomia/Answer", "<init>", "(Ljava/lang/String;JLcom/example/eunomia/eunomia/Reason;Z)V"⟩ : MethodName)) (W := 1) (kc := 2) (nc := 8) (a := oa) rfl (mvT K.cz (hw _ (List.mem_of_getElem? (i := 68) rfl))) (mvT K.cz (hw _ (List.mem_of_getElem? (i := 69) rfl))) (mvT K.cz (hw _ (List.mem_of_getElem? (i := 70) rfl))) (by decide) ((m_ai1 l Z a0 hw h181 n0 z188 wS hEL oa E_oa g_oa f191 f192 f193 f194 ra).pays (W := 1) K.cz (hw _ (List.mem_of_getElem? (i := 70) rfl)) (hw _ (List.mem_of_getElem? (i := 59) rfl)) (by decide) (by decide) hEL cr189.1) rfl (argsL := [.null, (.long (0 : Int64)), (.ref ra), (.int (0 : Int32))]) (rest := [(.ref oa)]) (lenOf pd__28Ljava_2flang_2fString_3bJLcom_2fexample_2feunomia_2feunomia_2fReason_3bZ_29V rfl) rfl (Nat.le_of_ble_eq_true rfl) (by decide) (by decide) frOf d_prog_1_method_4_14 (pc' := 17) rfl ?_
  rintro v200 h198 Lc199 vm201 B202 ⟨⟨⟨rfl, Kq, da, tb, kb, qa, ql⟩, -⟩, -⟩ hrh198 hS K
  have cr203 := cr189.trans (hrh198)
  have f204 := f187.keep Kq
  have f205 := E_oa.keep Kq
  have z210 := Nat.le_trans z188 Kq.1
  have kc211 := kc190.trans Kq (allS (Or.inr sz_oa) all0)
  show Go p l e _ _ m _ below meth c _ _ _ _ h198 _ _ (mkF m 17 #[.val .null, .val (.ref ra)] [(.ref oa)])
  exact Go.retA K rfl rfl rfl (by decide) (by decide) d_prog_1_method_4_17 (own_end hEL K.cz cr203 ⟨oa, rfl, sz_oa, kc211, da, tb, kb, qa, ql⟩)
theorem ef_m_id (m : MethodId) (oa : Addr) : entryFrame m #[(.ref oa)] 1 = mkF m 0 #[.val (.ref oa)] [] := by first | (simp [entryFrame, mkF, argsToLocals, Value.category]; done) | rfl
theorem d_prog_1_method_5_0 : decode prog_1_method_5_code 0 = .ok (.aload_n 0, 1) := by decide +kernel
theorem d_prog_1_method_5_1 : decode prog_1_method_5_code 1 = .ok (.getfield 11, 3) := by decide +kernel
theorem d_prog_1_method_5_4 : decode prog_1_method_5_code 4 = .ok (.areturn, 1) := by decide +kernel
set_option maxRecDepth 65536 in
set_option maxHeartbeats 40000000 in
theorem m_id (l : Launch) (Z : State) (a0 : Array Value) (hw : ∀ d ∈ tables_1, d.before a0 Z = true) (h0 : Heap) (n0 : Nat) (Z0 : n0 ≤ h0.size) (oa : Addr) (va : Addr) (E_oa : Exa Z h0 oa "com/example/eunomia/eunomia/Answer") (F_f : Fld Z h0 oa "com/example/eunomia/eunomia/Answer" "id" "Ljava/lang/String;" (.ref va)) :
    Met l Z [] (⟨"com/example/eunomia/eunomia/Answer", "id", "()Ljava/lang/String;"⟩ : MethodName) prog_1_method_5_code 1 (some (.object "java/lang/String")) ({ frames := 0, cells := 0, slots := 0, locals := 0 } : Room) #[(.ref oa)] h0 n0 (fun v h => v = some (.ref va) ∧ h0 = h) := by
  refine Met.of (plainFor_of_name pn_com_example_eunomia_eunomia_Answer) ?_
  intro p e s m below meth c F K
  refine Go.cast (ef_m_id m oa) ?_
  refine Go.aloadN K d_prog_1_method_5_0 rfl rfl (pc' := 1) rfl ?_
  refine Go.getF K (host := "") (Or.inl (hw _ (List.mem_of_getElem? (i := 75) rfl))) Via.refl F_f d_prog_1_method_5_1 (pc' := 4) rfl ?_
  exact Go.retA K rfl rfl rfl (by decide) (by decide) d_prog_1_method_5_4 (fun _ _ _ _ => ⟨rfl, rfl⟩)
theorem ef_m_sq (m : MethodId) (oa : Addr) : entryFrame m #[(.ref oa)] 1 = mkF m 0 #[.val (.ref oa)] [] := by first | (simp [entryFrame, mkF, argsToLocals, Value.category]; done) | rfl
theorem d_prog_1_method_7_0 : decode prog_1_method_7_code 0 = .ok (.aload_n 0, 1) := by decide +kernel
theorem d_prog_1_method_7_1 : decode prog_1_method_7_code 1 = .ok (.getfield 15, 3) := by decide +kernel
theorem d_prog_1_method_7_4 : decode prog_1_method_7_code 4 = .ok (.lreturn, 1) := by decide +kernel
set_option maxRecDepth 65536 in
set_option maxHeartbeats 40000000 in
theorem m_sq (l : Launch) (Z : State) (a0 : Array Value) (hw : ∀ d ∈ tables_1, d.before a0 Z = true) (h0 : Heap) (n0 : Nat) (Z0 : n0 ≤ h0.size) (oa : Addr) (E_oa : Exa Z h0 oa "com/example/eunomia/eunomia/Answer") (F_f : Fld Z h0 oa "com/example/eunomia/eunomia/Answer" "seq" "J" (.long (0 : Int64))) :
    Met l Z [] (⟨"com/example/eunomia/eunomia/Answer", "seq", "()J"⟩ : MethodName) prog_1_method_7_code 1 (some .long) ({ frames := 0, cells := 0, slots := 0, locals := 0 } : Room) #[(.ref oa)] h0 n0 (fun v h => v = some (.long (0 : Int64)) ∧ h0 = h) := by
  refine Met.of (plainFor_of_name pn_com_example_eunomia_eunomia_Answer) ?_
  intro p e s m below meth c F K
  refine Go.cast (ef_m_sq m oa) ?_
  refine Go.aloadN K d_prog_1_method_7_0 rfl rfl (pc' := 1) rfl ?_
  refine Go.getF K (host := "") (Or.inl (hw _ (List.mem_of_getElem? (i := 77) rfl))) Via.refl F_f d_prog_1_method_7_1 (pc' := 4) rfl ?_
  exact Go.retJ K (by decide) (by decide) d_prog_1_method_7_4 (fun _ _ _ _ => ⟨rfl, rfl⟩)
theorem ef_m_re (m : MethodId) (oa : Addr) : entryFrame m #[(.ref oa)] 1 = mkF m 0 #[.val (.ref oa)] [] := by first | (simp [entryFrame, mkF, argsToLocals, Value.category]; done) | rfl
theorem d_prog_1_method_8_0 : decode prog_1_method_8_code 0 = .ok (.aload_n 0, 1) := by decide +kernel
theorem d_prog_1_method_8_1 : decode prog_1_method_8_code 1 = .ok (.getfield 19, 3) := by decide +kernel
theorem d_prog_1_method_8_4 : decode prog_1_method_8_code 4 = .ok (.areturn, 1) := by decide +kernel
set_option maxRecDepth 65536 in
set_option maxHeartbeats 40000000 in
theorem m_re (l : Launch) (Z : State) (a0 : Array Value) (hw : ∀ d ∈ tables_1, d.before a0 Z = true) (h0 : Heap) (n0 : Nat) (Z0 : n0 ≤ h0.size) (oa : Addr) (va : Addr) (E_oa : Exa Z h0 oa "com/example/eunomia/eunomia/Answer") (F_f : Fld Z h0 oa "com/example/eunomia/eunomia/Answer" "reason" "Lcom/example/eunomia/eunomia/Reason;" (.ref va)) :
    Met l Z [] (⟨"com/example/eunomia/eunomia/Answer", "reason", "()Lcom/example/eunomia/eunomia/Reason;"⟩ : MethodName) prog_1_method_8_code 1 (some (.object "com/example/eunomia/eunomia/Reason")) ({ frames := 0, cells := 0, slots := 0, locals := 0 } : Room) #[(.ref oa)] h0 n0 (fun v h => v = some (.ref va) ∧ h0 = h) := by
  refine Met.of (plainFor_of_name pn_com_example_eunomia_eunomia_Answer) ?_
  intro p e s m below meth c F K
  refine Go.cast (ef_m_re m oa) ?_
  refine Go.aloadN K d_prog_1_method_8_0 rfl rfl (pc' := 1) rfl ?_
  refine Go.getF K (host := "") (Or.inl (hw _ (List.mem_of_getElem? (i := 79) rfl))) Via.refl F_f d_prog_1_method_8_1 (pc' := 4) rfl ?_
  exact Go.retA K rfl rfl rfl (by decide) (by decide) d_prog_1_method_8_4 (fun _ _ _ _ => ⟨rfl, rfl⟩)
theorem ef_ac (m : MethodId) (oa : Addr) : entryFrame m #[(.ref oa)] 1 = mkF m 0 #[.val (.ref oa)] [] := by first | (simp [entryFrame, mkF, argsToLocals, Value.category]; done) | rfl
theorem d_prog_1_method_6_0 : decode prog_1_method_6_code 0 = .ok (.aload_n 0, 1) := by decide +kernel
theorem d_prog_1_method_6_1 : decode prog_1_method_6_code 1 = .ok (.getfield 19, 3) := by decide +kernel
theorem d_prog_1_method_6_4 : decode prog_1_method_6_code 4 = .ok (.ifnonnull 7, 3) := by decide +kernel
theorem d_prog_1_method_6_11 : decode prog_1_method_6_code 11 = .ok (.iconst 0, 1) := by decide +kernel
theorem d_prog_1_method_6_12 : decode prog_1_method_6_code 12 = .ok (.ireturn, 1) := by decide +kernel
set_option maxRecDepth 65536 in
set_option maxHeartbeats 40000000 in
theorem m_ac (l : Launch) (Z : State) (a0 : Array Value) (hw : ∀ d ∈ tables_1, d.before a0 Z = true) (h0 : Heap) (n0 : Nat) (Z0 : n0 ≤ h0.size) (oa va : Addr) (E_oa : Exa Z h0 oa "com/example/eunomia/eunomia/Answer") (F_f : Fld Z h0 oa "com/example/eunomia/eunomia/Answer" "reason" "Lcom/example/eunomia/eunomia/Reason;" (.ref va)) :
    Met l Z [] (⟨"com/example/eunomia/eunomia/Answer", "isAccepted", "()Z"⟩ : MethodName) prog_1_method_6_code 1 (some .boolean) ({ frames := 0, cells := 0, slots := 0, locals := 0 } : Room) #[(.ref oa)] h0 n0 (fun v h => v = some (.int 0) ∧ h0 = h) := by
  refine Met.of (plainFor_of_name pn_com_example_eunomia_eunomia_Answer) ?_
  intro p e s m below meth c F K
  refine Go.cast (ef_ac m oa) ?_
  refine Go.aloadN K d_prog_1_method_6_0 rfl rfl (pc' := 1) rfl ?_
  refine Go.getF K (host := "") (Or.inl (hw _ (List.mem_of_getElem? (i := 79) rfl))) Via.refl F_f d_prog_1_method_6_1 (pc' := 4) rfl ?_
  refine Go.ifnonnullR K d_prog_1_method_6_4 (pc' := 11) (by decide) (by decide) ?_
  refine Go.iconst K (v := 0) d_prog_1_method_6_11 rfl (pc' := 12) rfl ?_
  exact Go.retN K (by simp) (by decide) (by decide) d_prog_1_method_6_12 (fun _ _ _ _ => ⟨rfl, rfl⟩)
theorem ef_s4e (m : MethodId) (xs : Addr) (ba : Addr) : entryFrame m #[(.ref xs), (.ref ba), (.int (0 : Int32)), (.int (0 : Int32)), .null] 6 = mkF m 0 #[.val (.ref xs), .val (.ref ba), .val (.int (0 : Int32)), .val (.int (0 : Int32)), .val .null, .unset] [] := by first | (simp [entryFrame, mkF, argsToLocals, Value.category]; done) | rfl
theorem d_jdk_42_method_149_0 : decode jdk_42_method_149_code 0 = .ok (.aload_n 0, 1) := by decide +kernel
theorem d_jdk_42_method_149_1 : decode jdk_42_method_149_code 1 = .ok (.invokespecial 1, 3) := by decide +kernel
theorem d_jdk_42_method_149_4 : decode jdk_42_method_149_code 4 = .ok (.iload_n 3, 1) := by decide +kernel
theorem d_jdk_42_method_149_5 : decode jdk_42_method_149_code 5 = .ok (.ifCond .ne 22, 3) := by decide +kernel
theorem d_jdk_42_method_149_8 : decode jdk_42_method_149_code 8 = .ok (.aload_n 0, 1) := by decide +kernel
theorem d_jdk_42_method_149_9 : decode jdk_42_method_149_code 9 = .ok (.ldc 7, 2) := by decide +kernel
theorem d_jdk_42_method_149_11 : decode jdk_42_method_149_code 11 = .ok (.getfield 9, 3) := by decide +kernel
theorem d_jdk_42_method_149_14 : decode jdk_42_method_149_code 14 = .ok (.putfield 9, 3) := by decide +kernel
theorem d_jdk_42_method_149_17 : decode jdk_42_method_149_code 17 = .ok (.aload_n 0, 1) := by decide +kernel
theorem d_jdk_42_method_149_18 : decode jdk_42_method_149_code 18 = .ok (.ldc 7, 2) := by decide +kernel
theorem d_jdk_42_method_149_20 : decode jdk_42_method_149_code 20 = .ok (.getfield 15, 3) := by decide +kernel
theorem d_jdk_42_method_149_23 : decode jdk_42_method_149_code 23 = .ok (.putfield 15, 3) := by decide +kernel
theorem d_jdk_42_method_149_26 : decode jdk_42_method_149_code 26 = .ok (.return_, 1) := by decide +kernel
theorem pn_java_lang_String : plainName "java/lang/String" = true := by first | (simp [plainName, overriddenIn]; done) | decide +kernel
set_option maxRecDepth 65536 in
set_option maxHeartbeats 40000000 in
theorem m_s4e (l : Launch) (Z : State) (a0 : Array Value) (hw : ∀ d ∈ tables_1, d.before a0 Z = true) (h0 : Heap) (n0 : Nat) (Z0 : n0 ≤ h0.size) (wS : ∀ a ∈ Bundle.stringAtoms, a.before a0 Z = true) (hEL : EW Z a0 [("com/example/eunomia/eunomia/Answer", 9), ("com/example/eunomia/eunomia/AnswerRefusedPinLaw", 77), ("java/lang/String", 7)]) (xs : Addr) (E_xs : Exa Z h0 xs "java/lang/String") (F_v : Fld Z h0 xs "java/lang/String" "value" "[B" .null) (F_c : Fld Z h0 xs "java/lang/String" "coder" "B" (.int (0 : Int32))) (g_xs : n0 ≤ xs) (ba : Addr) :
    MetW l Z [] [("com/example/eunomia/eunomia/Answer", 9), ("com/example/eunomia/eunomia/AnswerRefusedPinLaw", 77), ("java/lang/String", 7)] (⟨"java/lang/String", "<init>", "([CIILjava/lang/Void;)V"⟩ : MethodName) jdk_42_method_149_code 6 none ({ frames := 1, cells := 4, slots := 8, locals := 20 } : Room) #[(.ref xs), (.ref ba), (.int (0 : Int32)), (.int (0 : Int32)), .null] h0 n0 (fun v h => v = none ∧ Keep h0 h [xs] ∧ Exa Z h xs "java/lang/String" ∧ Fld Z h xs "java/lang/String" "coder" "B" (.int 0) ∧ ∃ (t : Addr) (kt : ClassId), Fld Z h xs "java/lang/String" "value" "[B" (.ref t) ∧ Arv Z h t kt .byte (0 : Int32) [] (.int 0)) := by
  refine MetW.of (plainFor_of_name pn_java_lang_String) ?_
  intro p e s m below meth c vm0 B hS HC K
  have CR := CHr.refl HC
  refine Go.cast (ef_s4e m xs ba) ?_
  have kc0 := Keep.refl h0 [xs]
  have sf_xs := own_safeS (EL := [("com/example/eunomia/eunomia/Answer", 9), ("com/example/eunomia/eunomia/AnswerRefusedPinLaw", 77), ("java/lang/String", 7)]) K.cz.alike E_xs F_v
  refine Go.aloadN K d_jdk_42_method_149_0 rfl rfl (pc' := 1) rfl ?_
  refine Go.initO K (hw _ (List.mem_of_getElem? (i := 117) rfl)) (hw _ (List.mem_of_getElem? (i := 72) rfl)) (hw _ (List.mem_of_getElem? (i := 73) rfl)) rfl (by decide) 0 (Nat.le_of_ble_eq_true rfl) (by decide) d_jdk_42_method_149_1 (pc' := 4) rfl ?_
  refine Go.iloadN K d_jdk_42_method_149_4 rfl (pc' := 5) rfl ?_
  refine Go.ifc K d_jdk_42_method_149_5 (by decide) (pcT := 27) (pcF := 8) (by decide) rfl (fun h5 => ?_) (fun h5 => ?_)
  · replace h5 : ¬ (0 : Int32) = 0 := h5
    exact absurd rfl h5
  · replace h5 : ¬ (¬ (0 : Int32) = 0) := h5
    refine Go.aloadN K d_jdk_42_method_149_8 rfl rfl (pc' := 9) rfl ?_
    refine Go.ldcV K hS (i := 0) (vs := []) (z := 0) (hw _ (List.mem_of_getElem? (i := 148) rfl)) wS hEL (by decide) CR.1 (by decide +kernel) (by decide) rfl (by decide) (by decide) (by decide) (by decide) d_jdk_42_method_149_9 (pc' := 11) rfl ?_
    intro ea t_ea kb_ea vm216 h212 B217 E213 hr214 hS E_ea C_ea F_ea A_ea sf215 K
    have f221 := hr214.safe E_xs.lt sf_xs
    have f222 := E_xs.ext E213
    have f223 := F_v.ext E213
    have f224 := F_c.ext E213
    have z225 := Nat.le_trans Z0 E213.1
    have cr226 := CR.trans (hr214)
    have kc227 := kc0.ext E213
    have ne228 := (sf215 _ f221).1
    have ne229 := (sf215 _ f221).2
    refine Go.getF K (host := "") (Or.inl (hw _ (List.mem_of_getElem? (i := 130) rfl))) Via.refl F_ea d_jdk_42_method_149_11 (pc' := 14) rfl ?_
    refine Go.putF K (host := "") (Or.inl (hw _ (List.mem_of_getElem? (i := 130) rfl))) Via.refl f223 f222 (Or.inr ⟨(hw _ (List.mem_of_getElem? (i := 53) rfl)), rfl, rfl⟩) (hw _ (List.mem_of_getElem? (i := 51) rfl)) (ty := (.array .byte)) (by decide) rfl rfl g_xs d_jdk_42_method_149_14 (pc' := 17) rfl ?_
    intro h230 W231 f232
    have f233 := f224.other W231 (Or.inr (slot_ne (Or.inr (hw _ (List.mem_of_getElem? (i := 54) rfl))) (Or.inr (hw _ (List.mem_of_getElem? (i := 53) rfl))) (by decide) (t := .byte) (t' := (.array .byte)) (by decide) (by decide)))
    have K234 := Keep.of_wr W231
    have f235 := Safe.keep K234 (sfS f221 sf0) cr226.1 f221
    have cr236 := cr226.trans (CHr.keep K234 (sfS f221 sf0) cr226.1)
    have f237 := f222.keep K234
    have f240 := E_ea.keep K234
    have f241 := C_ea.keep K234 (ninS (Ne.symm ne228) nin0)
    have f242 := F_ea.keep K234 (ninS (Ne.symm ne228) nin0)
    have f243 := A_ea.keep K234 (ninS (Ne.symm ne229) nin0)
    have z244 := Nat.le_trans z225 K234.1
    have kc245 := kc227.trans K234 (allS (Or.inl (List.mem_of_getElem? (i := 0) rfl)) all0)
    refine Go.aloadN K d_jdk_42_method_149_17 rfl rfl (pc' := 18) rfl ?_
    refine Go.ldcV K hS (i := 0) (vs := []) (z := 0) (hw _ (List.mem_of_getElem? (i := 148) rfl)) wS hEL (by decide) cr236.1 (by decide +kernel) (by decide) rfl (by decide) (by decide) (by decide) (by decide) d_jdk_42_method_149_18 (pc' := 20) rfl ?_
    intro eb t_eb kb_eb vm250 h246 B251 E247 hr248 hS E_eb C_eb F_eb A_eb sf249 K
    have f253 := hr248.safe f237.lt f235
    have f260 := f237.ext E247
    have f261 := f240.ext E247
    have f262 := f241.ext E247
    have f263 := f242.ext E247
    have f264 := f243.ext E247
    have f265 := f233.ext E247
    have f266 := f232.ext E247
    have z267 := Nat.le_trans z244 E247.1
    have cr268 := cr236.trans (hr248)
    have kc269 := kc245.ext E247
    have ne270 := (sf249 _ f253).1
    have ne271 := (sf249 _ f253).2
    refine Go.getF K (host := "") (Or.inl (hw _ (List.mem_of_getElem? (i := 129) rfl))) Via.refl C_eb d_jdk_42_method_149_20 (pc' := 23) rfl ?_
    refine Go.putFN K (hw _ (List.mem_of_getElem? (i := 129) rfl)) Via.refl f265 f260 (Or.inr ⟨(hw _ (List.mem_of_getElem? (i := 54) rfl)), rfl, rfl⟩) (hw _ (List.mem_of_getElem? (i := 51) rfl)) (ty := .byte) (v' := (.int (0 : Int32))) (by decide) rfl rfl g_xs d_jdk_42_method_149_23 (pc' := 26) rfl ?_
    intro h272 W273 f274
    have f275 := f266.other W273 (Or.inr (slot_ne (Or.inr (hw _ (List.mem_of_getElem? (i := 53) rfl))) (Or.inr (hw _ (List.mem_of_getElem? (i := 54) rfl))) (by decide) (t := (.array .byte)) (t' := .byte) (by decide) (by decide)))
    have K276 := Keep.of_wr W273
    have f277 := Safe.keep K276 (sfS f253 sf0) cr268.1 f253
    have cr278 := cr268.trans (CHr.keep K276 (sfS f253 sf0) cr268.1)
    have f279 := f260.keep K276
    have f280 := f261.keep K276
    have f281 := f262.keep K276 (ninS (Ne.symm ne228) nin0)
    have f282 := f263.keep K276 (ninS (Ne.symm ne228) nin0)
    have f283 := f264.keep K276 (ninS (Ne.symm ne229) nin0)
    have f286 := E_eb.keep K276
    have f287 := C_eb.keep K276 (ninS (Ne.symm ne270) nin0)
    have f288 := F_eb.keep K276 (ninS (Ne.symm ne270) nin0)
    have f289 := A_eb.keep K276 (ninS (Ne.symm ne271) nin0)
    have z290 := Nat.le_trans z267 K276.1
    have kc291 := kc269.trans K276 (allS (Or.inl (List.mem_of_getElem? (i := 0) rfl)) all0)
    exact Go.retV K (by decide) (by decide) d_jdk_42_method_149_26 (own_end hEL K.cz cr278 ⟨rfl, kc291, f279, f274, t_ea, kb_ea, f275, f283⟩)
theorem ef_s1e (m : MethodId) (xs : Addr) (ba : Addr) : entryFrame m #[(.ref xs), (.ref ba)] 2 = mkF m 0 #[.val (.ref xs), .val (.ref ba)] [] := by first | (simp [entryFrame, mkF, argsToLocals, Value.category]; done) | rfl
theorem d_jdk_42_method_3_0 : decode jdk_42_method_3_code 0 = .ok (.aload_n 0, 1) := by decide +kernel
theorem d_jdk_42_method_3_1 : decode jdk_42_method_3_code 1 = .ok (.aload_n 1, 1) := by decide +kernel
theorem d_jdk_42_method_3_2 : decode jdk_42_method_3_code 2 = .ok (.iconst 0, 1) := by decide +kernel
theorem d_jdk_42_method_3_3 : decode jdk_42_method_3_code 3 = .ok (.aload_n 1, 1) := by decide +kernel
theorem d_jdk_42_method_3_4 : decode jdk_42_method_3_code 4 = .ok (.arraylength, 1) := by decide +kernel
theorem d_jdk_42_method_3_5 : decode jdk_42_method_3_code 5 = .ok (.aconst_null, 1) := by decide +kernel
theorem d_jdk_42_method_3_6 : decode jdk_42_method_3_code 6 = .ok (.invokespecial 27, 3) := by decide +kernel
theorem pd__28_5bCIILjava_2flang_2fVoid_3b_29V : parseMethodDescriptor "([CIILjava/lang/Void;)V" = some ⟨[(.array .char), .int, .int, (.object "java/lang/Void")], none⟩ := by decide +kernel
theorem d_jdk_42_method_3_9 : decode jdk_42_method_3_code 9 = .ok (.return_, 1) := by decide +kernel
set_option maxRecDepth 65536 in
set_option maxHeartbeats 40000000 in
theorem m_s1e (l : Launch) (Z : State) (a0 : Array Value) (hw : ∀ d ∈ tables_1, d.before a0 Z = true) (h0 : Heap) (n0 : Nat) (Z0 : n0 ≤ h0.size) (wS : ∀ a ∈ Bundle.stringAtoms, a.before a0 Z = true) (hEL : EW Z a0 [("com/example/eunomia/eunomia/Answer", 9), ("com/example/eunomia/eunomia/AnswerRefusedPinLaw", 77), ("java/lang/String", 7)]) (xs : Addr) (E_xs : Exa Z h0 xs "java/lang/String") (F_v : Fld Z h0 xs "java/lang/String" "value" "[B" .null) (F_c : Fld Z h0 xs "java/lang/String" "coder" "B" (.int (0 : Int32))) (g_xs : n0 ≤ xs) (ba : Addr) (ka : ClassId) (dc : Value) (V_a : Arv Z h0 ba ka .char (0 : Int32) [] dc) :
    MetW l Z [] [("com/example/eunomia/eunomia/Answer", 9), ("com/example/eunomia/eunomia/AnswerRefusedPinLaw", 77), ("java/lang/String", 7)] (⟨"java/lang/String", "<init>", "([C)V"⟩ : MethodName) jdk_42_method_3_code 2 none ({ frames := 2, cells := 4, slots := 8, locals := 40 } : Room) #[(.ref xs), (.ref ba)] h0 n0 (fun v h => v = none ∧ Keep h0 h [xs] ∧ Exa Z h xs "java/lang/String" ∧ Fld Z h xs "java/lang/String" "coder" "B" (.int 0) ∧ ∃ (t : Addr) (kt : ClassId), Fld Z h xs "java/lang/String" "value" "[B" (.ref t) ∧ Arv Z h t kt .byte (0 : Int32) [] (.int 0)) := by
  refine MetW.of (plainFor_of_name pn_java_lang_String) ?_
  intro p e s m below meth c vm0 B hS HC K
  have CR := CHr.refl HC
  refine Go.cast (ef_s1e m xs ba) ?_
  refine Go.aloadN K d_jdk_42_method_3_0 rfl rfl (pc' := 1) rfl ?_
  refine Go.aloadN K d_jdk_42_method_3_1 rfl rfl (pc' := 2) rfl ?_
  refine Go.iconst K (v := 0) d_jdk_42_method_3_2 rfl (pc' := 3) rfl ?_
  refine Go.aloadN K d_jdk_42_method_3_3 rfl rfl (pc' := 4) rfl ?_
  refine Go.arraylength K V_a d_jdk_42_method_3_4 (pc' := 5) rfl ?_
  refine Go.aconstNull K d_jdk_42_method_3_5 (pc' := 6) rfl ?_
  refine Go.callCW K hS (y := (⟨"java/lang/String", "<init>", "([CIILjava/lang/Void;)V"⟩ : MethodName)) (W := 0) (kc := 4) (nc := 8) (a := xs) rfl (mvT K.cz (hw _ (List.mem_of_getElem? (i := 113) rfl))) (mvT K.cz (hw _ (List.mem_of_getElem? (i := 114) rfl))) (mvT K.cz (hw _ (List.mem_of_getElem? (i := 116) rfl))) (by decide) ((m_s4e l Z a0 hw h0 n0 Z0 wS hEL xs E_xs F_v F_c g_xs ba).pays (W := 0) K.cz (hw _ (List.mem_of_getElem? (i := 116) rfl)) (hw _ (List.mem_of_getElem? (i := 50) rfl)) (by decide) (by decide) hEL CR.1) rfl (argsL := [(.ref ba), (.int (0 : Int32)), (.int (0 : Int32)), .null]) (rest := []) (lenOf pd__28_5bCIILjava_2flang_2fVoid_3b_29V rfl) rfl (Nat.le_of_ble_eq_true rfl) (by decide) (by decide) frOf d_jdk_42_method_3_6 (pc' := 9) rfl ?_
  rintro v294 h292 Lc293 vm295 B296 ⟨⟨⟨rfl, Kq⟩, -⟩, -⟩ hrh292 hS K
  have CR2 := CR.trans hrh292
  show Go p l e _ _ m _ below meth c _ _ _ _ h292 _ _ (mkF m 9 #[.val (.ref xs), .val (.ref ba)] [])
  exact Go.retV K (by decide) (by decide) d_jdk_42_method_3_9 (own_end hEL K.cz CR2 ⟨rfl, Kq⟩)
theorem ef_ce (m : MethodId) (ch : Int32) : entryFrame m #[(.int ch)] 1 = mkF m 0 #[.val (.int ch)] [] := by first | (simp [entryFrame, mkF, argsToLocals, Value.category]; done) | rfl
theorem d_jdk_43_method_3_0 : decode jdk_43_method_3_code 0 = .ok (.iload_n 0, 1) := by decide +kernel
theorem d_jdk_43_method_3_1 : decode jdk_43_method_3_code 1 = .ok (.sipush 255, 3) := by decide +kernel
theorem d_jdk_43_method_3_4 : decode jdk_43_method_3_code 4 = .ok (.if_icmp .gt 7, 3) := by decide +kernel
theorem d_jdk_43_method_3_7 : decode jdk_43_method_3_code 7 = .ok (.iconst 1, 1) := by decide +kernel
theorem d_jdk_43_method_3_8 : decode jdk_43_method_3_code 8 = .ok (.goto 4, 3) := by decide +kernel
theorem d_jdk_43_method_3_12 : decode jdk_43_method_3_code 12 = .ok (.ireturn, 1) := by decide +kernel
theorem pn_java_lang_StringLatin1 : plainName "java/lang/StringLatin1" = true := by first | (simp [plainName, overriddenIn]; done) | decide +kernel
set_option maxRecDepth 65536 in
set_option maxHeartbeats 40000000 in
theorem m_ce (l : Launch) (Z : State) (a0 : Array Value) (hw : ∀ d ∈ tables_1, d.before a0 Z = true) (h0 : Heap) (n0 : Nat) (Z0 : n0 ≤ h0.size) (ch : Int32) (hch : ¬ (255 : Int32) < ch) :
    Met l Z [] (⟨"java/lang/StringLatin1", "canEncode", "(C)Z"⟩ : MethodName) jdk_43_method_3_code 1 (some .boolean) ({ frames := 0, cells := 0, slots := 0, locals := 0 } : Room) #[(.int ch)] h0 n0 (fun v h => v = some (.int 1) ∧ h0 = h) := by
  refine Met.of (plainFor_of_name pn_java_lang_StringLatin1) ?_
  intro p e s m below meth c F K
  refine Go.cast (ef_ce m ch) ?_
  refine Go.iloadN K d_jdk_43_method_3_0 rfl (pc' := 1) rfl ?_
  refine Go.sipush K (v := 255) d_jdk_43_method_3_1 rfl (pc' := 4) rfl ?_
  refine Go.icmp K d_jdk_43_method_3_4 (by decide) (pcT := 11) (pcF := 7) (by decide) rfl (fun h4 => ?_) (fun h4 => ?_)
  · replace h4 : (255 : Int32) < ch := h4
    exact absurd h4 hch
  · replace h4 : ¬ ((255 : Int32) < ch) := h4
    refine Go.iconst K (v := 1) d_jdk_43_method_3_7 rfl (pc' := 8) rfl ?_
    refine Go.goto K d_jdk_43_method_3_8 (pc' := 12) (by decide) (by decide) ?_
    exact Go.retN K (by simp) (by decide) (by decide) d_jdk_43_method_3_12 (fun _ _ _ _ => ⟨rfl, rfl⟩)
theorem ef_tb (m : MethodId) (ch : Int32) : entryFrame m #[(.int ch)] 1 = mkF m 0 #[.val (.int ch)] [] := by first | (simp [entryFrame, mkF, argsToLocals, Value.category]; done) | rfl
theorem d_jdk_43_method_46_0 : decode jdk_43_method_46_code 0 = .ok (.iconst 1, 1) := by decide +kernel
theorem d_jdk_43_method_46_1 : decode jdk_43_method_46_code 1 = .ok (.newarray .byte, 2) := by decide +kernel
theorem d_jdk_43_method_46_3 : decode jdk_43_method_46_code 3 = .ok (.dup, 1) := by decide +kernel
theorem d_jdk_43_method_46_4 : decode jdk_43_method_46_code 4 = .ok (.iconst 0, 1) := by decide +kernel
theorem d_jdk_43_method_46_5 : decode jdk_43_method_46_code 5 = .ok (.iload_n 0, 1) := by decide +kernel
theorem d_jdk_43_method_46_6 : decode jdk_43_method_46_code 6 = .ok (.i2b, 1) := by decide +kernel
theorem d_jdk_43_method_46_7 : decode jdk_43_method_46_code 7 = .ok (.bastore, 1) := by decide +kernel
theorem d_jdk_43_method_46_8 : decode jdk_43_method_46_code 8 = .ok (.areturn, 1) := by decide +kernel
set_option maxRecDepth 65536 in
set_option maxHeartbeats 40000000 in
theorem m_tb (l : Launch) (Z : State) (a0 : Array Value) (hw : ∀ d ∈ tables_1, d.before a0 Z = true) (h0 : Heap) (n0 : Nat) (Z0 : n0 ≤ h0.size) (ch : Int32) :
    Met l Z [] (⟨"java/lang/StringLatin1", "toBytes", "(C)[B"⟩ : MethodName) jdk_43_method_46_code 1 (some (.array .byte)) ({ frames := 0, cells := 1, slots := 1, locals := 0 } : Room) #[(.int ch)] h0 n0 (fun v h => ∃ (ta : Addr) (kt : ClassId), v = some (.ref ta) ∧ h0.size ≤ ta ∧ Keep h0 h [] ∧ Arv Z h ta kt .byte (1 : Int32) [(.int (StrChars.lo8 ch))] (.int 0)) := by
  refine Met.of (plainFor_of_name pn_java_lang_StringLatin1) ?_
  intro p e s m below meth c F K
  refine Go.cast (ef_tb m ch) ?_
  have kc0 := Keep.refl h0 []
  refine Go.iconst K (v := 1) d_jdk_43_method_46_0 rfl (pc' := 1) rfl ?_
  refine Go.newP K (hw _ (List.mem_of_getElem? (i := 52) rfl)) (by decide) 1 (by decide) (by decide) (by decide) (by decide) d_jdk_43_method_46_1 (pc' := 3) rfl ?_
  intro h297 ta kA_ta eq299 E298 V_ta
  have sz_ta := Nat.le_trans kc0.1 (Nat.le_of_eq eq299.symm)
  have g_ta : n0 ≤ ta := Nat.le_trans Z0 (Nat.le_of_eq eq299.symm)
  have z300 := Nat.le_trans Z0 E298.1
  have kc301 := kc0.ext E298
  have V302 : Arv Z h297 ta kA_ta .byte (1 : Int32) [(.int (0 : Int32))] (.int (0 : Int32)) := V_ta.pad (pad_rep [] (.int (0 : Int32)) 1)
  refine Go.dup K d_jdk_43_method_46_3 rfl (pc' := 4) rfl ?_
  refine Go.iconst K (v := 0) d_jdk_43_method_46_4 rfl (pc' := 5) rfl ?_
  refine Go.iloadN K d_jdk_43_method_46_5 rfl (pc' := 6) rfl ?_
  refine Go.i2b K d_jdk_43_method_46_6 (pc' := 7) rfl ?_
  refine Go.bastore K V302 0 rfl (Nat.le_of_ble_eq_true rfl) ⟨by decide, by decide⟩ g_ta d_jdk_43_method_46_7 (pc' := 8) rfl ?_
  intro h303 K304 V305
  replace V305 : Arv Z h303 ta kA_ta .byte (1 : Int32) [(.int (nar .byte (ch.toInt8.toInt32)))] (.int (0 : Int32)) := V305
  have z307 := Nat.le_trans z300 K304.1
  have kc308 := kc301.trans K304 (allS (Or.inr sz_ta) all0)
  have e1 : nar .byte (ch.toInt8.toInt32) = StrChars.lo8 ch := own_narb ch
  have Vx := V305
  rw [e1] at Vx
  exact Go.retA K rfl rfl rfl (by decide) (by decide) d_jdk_43_method_46_8 (fun _ _ _ _ => ⟨ta, kA_ta, rfl, sz_ta, kc308, Vx⟩)
theorem ef_sb (m : MethodId) (xs : Addr) (ta : Addr) : entryFrame m #[(.ref xs), (.ref ta), (.int (0 : Int32))] 3 = mkF m 0 #[.val (.ref xs), .val (.ref ta), .val (.int (0 : Int32))] [] := by first | (simp [entryFrame, mkF, argsToLocals, Value.category]; done) | rfl
theorem d_jdk_42_method_151_0 : decode jdk_42_method_151_code 0 = .ok (.aload_n 0, 1) := by decide +kernel
theorem d_jdk_42_method_151_1 : decode jdk_42_method_151_code 1 = .ok (.invokespecial 1, 3) := by decide +kernel
theorem d_jdk_42_method_151_4 : decode jdk_42_method_151_code 4 = .ok (.aload_n 0, 1) := by decide +kernel
theorem d_jdk_42_method_151_5 : decode jdk_42_method_151_code 5 = .ok (.aload_n 1, 1) := by decide +kernel
theorem d_jdk_42_method_151_6 : decode jdk_42_method_151_code 6 = .ok (.putfield 9, 3) := by decide +kernel
theorem d_jdk_42_method_151_9 : decode jdk_42_method_151_code 9 = .ok (.aload_n 0, 1) := by decide +kernel
theorem d_jdk_42_method_151_10 : decode jdk_42_method_151_code 10 = .ok (.iload_n 2, 1) := by decide +kernel
theorem d_jdk_42_method_151_11 : decode jdk_42_method_151_code 11 = .ok (.putfield 15, 3) := by decide +kernel
theorem d_jdk_42_method_151_14 : decode jdk_42_method_151_code 14 = .ok (.return_, 1) := by decide +kernel
set_option maxRecDepth 65536 in
set_option maxHeartbeats 40000000 in
theorem m_sb (l : Launch) (Z : State) (a0 : Array Value) (hw : ∀ d ∈ tables_1, d.before a0 Z = true) (h0 : Heap) (n0 : Nat) (Z0 : n0 ≤ h0.size) (xs : Addr) (E_xs : Exa Z h0 xs "java/lang/String") (F_v : Fld Z h0 xs "java/lang/String" "value" "[B" .null) (F_c : Fld Z h0 xs "java/lang/String" "coder" "B" (.int (0 : Int32))) (g_xs : n0 ≤ xs) (ta : Addr) :
    Met l Z [] (⟨"java/lang/String", "<init>", "([BB)V"⟩ : MethodName) jdk_42_method_151_code 3 none ({ frames := 1, cells := 0, slots := 0, locals := 20 } : Room) #[(.ref xs), (.ref ta), (.int (0 : Int32))] h0 n0 (fun v h => v = none ∧ Keep h0 h [xs] ∧ Exa Z h xs "java/lang/String" ∧ Fld Z h xs "java/lang/String" "coder" "B" (.int 0) ∧ Fld Z h xs "java/lang/String" "value" "[B" (.ref ta)) := by
  refine Met.of (plainFor_of_name pn_java_lang_String) ?_
  intro p e s m below meth c F K
  refine Go.cast (ef_sb m xs ta) ?_
  have kc0 := Keep.refl h0 [xs]
  refine Go.aloadN K d_jdk_42_method_151_0 rfl rfl (pc' := 1) rfl ?_
  refine Go.initO K (hw _ (List.mem_of_getElem? (i := 117) rfl)) (hw _ (List.mem_of_getElem? (i := 72) rfl)) (hw _ (List.mem_of_getElem? (i := 73) rfl)) rfl (by decide) 0 (Nat.le_of_ble_eq_true rfl) (by decide) d_jdk_42_method_151_1 (pc' := 4) rfl ?_
  refine Go.aloadN K d_jdk_42_method_151_4 rfl rfl (pc' := 5) rfl ?_
  refine Go.aloadN K d_jdk_42_method_151_5 rfl rfl (pc' := 6) rfl ?_
  refine Go.putF K (host := "") (Or.inl (hw _ (List.mem_of_getElem? (i := 130) rfl))) Via.refl F_v E_xs (Or.inr ⟨(hw _ (List.mem_of_getElem? (i := 53) rfl)), rfl, rfl⟩) (hw _ (List.mem_of_getElem? (i := 51) rfl)) (ty := (.array .byte)) (by decide) rfl rfl g_xs d_jdk_42_method_151_6 (pc' := 9) rfl ?_
  intro h309 W310 f311
  have f312 := F_c.other W310 (Or.inr (slot_ne (Or.inr (hw _ (List.mem_of_getElem? (i := 54) rfl))) (Or.inr (hw _ (List.mem_of_getElem? (i := 53) rfl))) (by decide) (t := .byte) (t' := (.array .byte)) (by decide) (by decide)))
  have K313 := Keep.of_wr W310
  have f314 := E_xs.keep K313
  have z317 := Nat.le_trans Z0 K313.1
  have kc318 := kc0.trans K313 (allS (Or.inl (List.mem_of_getElem? (i := 0) rfl)) all0)
  refine Go.aloadN K d_jdk_42_method_151_9 rfl rfl (pc' := 10) rfl ?_
  refine Go.iloadN K d_jdk_42_method_151_10 rfl (pc' := 11) rfl ?_
  refine Go.putFN K (hw _ (List.mem_of_getElem? (i := 129) rfl)) Via.refl f312 f314 (Or.inr ⟨(hw _ (List.mem_of_getElem? (i := 54) rfl)), rfl, rfl⟩) (hw _ (List.mem_of_getElem? (i := 51) rfl)) (ty := .byte) (v' := (.int (0 : Int32))) (by decide) rfl rfl g_xs d_jdk_42_method_151_11 (pc' := 14) rfl ?_
  intro h319 W320 f321
  have f322 := f311.other W320 (Or.inr (slot_ne (Or.inr (hw _ (List.mem_of_getElem? (i := 53) rfl))) (Or.inr (hw _ (List.mem_of_getElem? (i := 54) rfl))) (by decide) (t := (.array .byte)) (t' := .byte) (by decide) (by decide)))
  have K323 := Keep.of_wr W320
  have f324 := f314.keep K323
  have z327 := Nat.le_trans z317 K323.1
  have kc328 := kc318.trans K323 (allS (Or.inl (List.mem_of_getElem? (i := 0) rfl)) all0)
  exact Go.retV K (by decide) (by decide) d_jdk_42_method_151_14 (fun _ _ _ _ => ⟨rfl, kc328, f324, f321, f322⟩)
theorem ef_vo (m : MethodId) (ch : Int32) : entryFrame m #[(.int ch)] 1 = mkF m 0 #[.val (.int ch)] [] := by first | (simp [entryFrame, mkF, argsToLocals, Value.category]; done) | rfl
theorem d_jdk_42_method_139_0 : decode jdk_42_method_139_code 0 = .ok (.getstatic 38, 3) := by decide +kernel
theorem d_jdk_42_method_139_3 : decode jdk_42_method_139_code 3 = .ok (.ifCond .eq 23, 3) := by decide +kernel
theorem d_jdk_42_method_139_6 : decode jdk_42_method_139_code 6 = .ok (.iload_n 0, 1) := by decide +kernel
theorem d_jdk_42_method_139_7 : decode jdk_42_method_139_code 7 = .ok (.invokestatic 1015, 3) := by decide +kernel
theorem pd__28C_29Z : parseMethodDescriptor "(C)Z" = some ⟨[.char], some .boolean⟩ := by decide +kernel
theorem d_jdk_42_method_139_10 : decode jdk_42_method_139_code 10 = .ok (.ifCond .eq 16, 3) := by decide +kernel
theorem d_jdk_42_method_139_13 : decode jdk_42_method_139_code 13 = .ok (.new 10, 3) := by decide +kernel
theorem d_jdk_42_method_139_16 : decode jdk_42_method_139_code 16 = .ok (.dup, 1) := by decide +kernel
theorem d_jdk_42_method_139_17 : decode jdk_42_method_139_code 17 = .ok (.iload_n 0, 1) := by decide +kernel
theorem d_jdk_42_method_139_18 : decode jdk_42_method_139_code 18 = .ok (.invokestatic 1018, 3) := by decide +kernel
theorem pd__28C_29_5bB : parseMethodDescriptor "(C)[B" = some ⟨[.char], some (.array .byte)⟩ := by decide +kernel
theorem d_jdk_42_method_139_21 : decode jdk_42_method_139_code 21 = .ok (.iconst 0, 1) := by decide +kernel
theorem d_jdk_42_method_139_22 : decode jdk_42_method_139_code 22 = .ok (.invokespecial 209, 3) := by decide +kernel
theorem pd__28_5bBB_29V : parseMethodDescriptor "([BB)V" = some ⟨[(.array .byte), .byte], none⟩ := by decide +kernel
theorem d_jdk_42_method_139_25 : decode jdk_42_method_139_code 25 = .ok (.areturn, 1) := by decide +kernel
set_option maxRecDepth 65536 in
set_option maxHeartbeats 40000000 in
theorem m_vo (l : Launch) (Z : State) (a0 : Array Value) (hw : ∀ d ∈ tables_1, d.before a0 Z = true) (h0 : Heap) (n0 : Nat) (Z0 : n0 ≤ h0.size) (ch : Int32) (hch : ¬ (255 : Int32) < ch) (od : Old Z n0 h0) (zc : Int32) (S1 : Sta Z Z.heap "java/lang/String" "COMPACT_STRINGS" "Z" (.int zc)) (P1 : ¬ (zc = (0 : Int32))) :
    Met l Z [] (⟨"java/lang/String", "valueOf", "(C)Ljava/lang/String;"⟩ : MethodName) jdk_42_method_139_code 1 (some (.object "java/lang/String")) ({ frames := 2, cells := 2, slots := 5, locals := 60 } : Room) #[(.int ch)] h0 n0 (fun v h => ∃ (xs ta : Addr) (kt : ClassId), v = some (.ref xs) ∧ h0.size ≤ xs ∧ Keep h0 h [] ∧ Exa Z h xs "java/lang/String" ∧ Fld Z h xs "java/lang/String" "coder" "B" (.int 0) ∧ Fld Z h xs "java/lang/String" "value" "[B" (.ref ta) ∧ Arv Z h ta kt .byte (1 : Int32) [(.int (StrChars.lo8 ch))] (.int 0)) := by
  refine Met.of (plainFor_of_name pn_java_lang_String) ?_
  intro p e s m below meth c F K
  refine Go.cast (ef_vo m ch) ?_
  have kc0 := Keep.refl h0 []
  refine Go.getS K (host := "") (Or.inl (hw _ (List.mem_of_getElem? (i := 118) rfl))) Via.refl (S1.ext od.2) d_jdk_42_method_139_0 (pc' := 3) rfl ?_
  refine Go.ifc K d_jdk_42_method_139_3 (by decide) (pcT := 26) (pcF := 6) (by decide) rfl (fun h3 => ?_) (fun h3 => ?_)
  · replace h3 : zc = 0 := h3
    exact absurd h3 P1
  · replace h3 : ¬ (zc = 0) := h3
    refine Go.iloadN K d_jdk_42_method_139_6 rfl (pc' := 7) rfl ?_
    refine Go.callS K (y := (⟨"java/lang/StringLatin1", "canEncode", "(C)Z"⟩ : MethodName)) (W := 0) (kc := 0) (nc := 0) (mvT K.cz (hw _ (List.mem_of_getElem? (i := 139) rfl))) (mvT K.cz (hw _ (List.mem_of_getElem? (i := 140) rfl))) (mvT K.cz (hw _ (List.mem_of_getElem? (i := 134) rfl))) (mvT K.cz (hw _ (List.mem_of_getElem? (i := 141) rfl))) (by decide) ((m_ce l Z a0 hw h0 n0 Z0 ch hch).pays (W := 0) K.cz (hw _ (List.mem_of_getElem? (i := 141) rfl)) (hw _ (List.mem_of_getElem? (i := 134) rfl)) (by decide) (by decide)) rfl (argsL := [(.int ch)]) (rest := []) (lenOf pd__28C_29Z rfl) rfl (Nat.le_of_ble_eq_true rfl) (by decide) (by decide) frOf grOf d_jdk_42_method_139_7 (pc' := 10) rfl ?_
    rintro v331 h329 Lc330 ⟨⟨⟨rfl, eh⟩, -⟩, -⟩
    obtain rfl := eh
    show Go p l e _ _ m _ below meth c _ _ _ _ h0 _ _ (mkF m 10 #[.val (.int ch)] [(.int (1 : Int32))])
    refine Go.ifc K d_jdk_42_method_139_10 (by decide) (pcT := 26) (pcF := 13) (by decide) rfl (fun h10 => ?_) (fun h10 => ?_)
    · replace h10 : (1 : Int32) = 0 := h10
      exact absurd h10 (by decide)
    · replace h10 : ¬ ((1 : Int32) = 0) := h10
      refine Go.newO K (hw _ (List.mem_of_getElem? (i := 131) rfl)) (hw _ (List.mem_of_getElem? (i := 51) rfl)) (hw _ (List.mem_of_getElem? (i := 50) rfl)) (by decide) (by decide) d_jdk_42_method_139_13 (pc' := 16) rfl ?_
      intro h332 xs eq335 E333 E_xs D334
      have sz_xs := Nat.le_trans kc0.1 (Nat.le_of_eq eq335.symm)
      have g_xs : n0 ≤ xs := Nat.le_trans Z0 (Nat.le_of_eq eq335.symm)
      have od336 := od.ext E333
      have z337 := Nat.le_trans Z0 E333.1
      have kc338 := kc0.ext E333
      have f339 : Fld Z h332 xs "java/lang/String" "value" "[B" .null := D334 (Or.inr (hw _ (List.mem_of_getElem? (i := 53) rfl))) (ty := (.array .byte)) (by decide)
      have f340 : Fld Z h332 xs "java/lang/String" "coder" "B" (.int (0 : Int32)) := D334 (Or.inr (hw _ (List.mem_of_getElem? (i := 54) rfl))) (ty := .byte) (by decide)
      refine Go.dup K d_jdk_42_method_139_16 rfl (pc' := 17) rfl ?_
      refine Go.iloadN K d_jdk_42_method_139_17 rfl (pc' := 18) rfl ?_
      refine Go.callS K (y := (⟨"java/lang/StringLatin1", "toBytes", "(C)[B"⟩ : MethodName)) (W := 2) (kc := 1) (nc := 1) (mvT K.cz (hw _ (List.mem_of_getElem? (i := 142) rfl))) (mvT K.cz (hw _ (List.mem_of_getElem? (i := 143) rfl))) (mvT K.cz (hw _ (List.mem_of_getElem? (i := 134) rfl))) (mvT K.cz (hw _ (List.mem_of_getElem? (i := 144) rfl))) (by decide) ((m_tb l Z a0 hw h332 n0 z337 ch).pays (W := 2) K.cz (hw _ (List.mem_of_getElem? (i := 144) rfl)) (hw _ (List.mem_of_getElem? (i := 134) rfl)) (by decide) (by decide)) rfl (argsL := [(.int ch)]) (rest := [(.ref xs), (.ref xs)]) (lenOf pd__28C_29_5bB rfl) rfl (Nat.le_of_ble_eq_true rfl) (by decide) (by decide) frOf grOf d_jdk_42_method_139_18 (pc' := 21) rfl ?_
      rintro v343 h341 Lc342 ⟨⟨⟨ta, kt, rfl, hle, Kq, Vt⟩, -⟩, -⟩
      have sz_ta := Nat.le_trans kc338.1 hle
      have ne344 : xs ≠ ta := own_ne E_xs.lt hle
      have f345 := E_xs.keep Kq
      have f346 := f339.keep Kq nin0
      have f347 := f340.keep Kq nin0
      have od348 := od336.keep Kq all0
      have z349 := Nat.le_trans z337 Kq.1
      have kc350 := kc338.trans Kq all0
      show Go p l e _ _ m _ below meth c _ _ _ _ h341 _ _ (mkF m 21 #[.val (.int ch)] [(.ref ta), (.ref xs), (.ref xs)])
      refine Go.iconst K (v := 0) d_jdk_42_method_139_21 rfl (pc' := 22) rfl ?_
      refine Go.callC K (y := (⟨"java/lang/String", "<init>", "([BB)V"⟩ : MethodName)) (W := 1) (kc := 0) (nc := 0) (a := xs) rfl (mvT K.cz (hw _ (List.mem_of_getElem? (i := 145) rfl))) (mvT K.cz (hw _ (List.mem_of_getElem? (i := 146) rfl))) (mvT K.cz (hw _ (List.mem_of_getElem? (i := 147) rfl))) (by decide) ((m_sb l Z a0 hw h341 n0 z349 xs f345 f346 f347 g_xs ta).pays (W := 1) K.cz (hw _ (List.mem_of_getElem? (i := 147) rfl)) (hw _ (List.mem_of_getElem? (i := 50) rfl)) (by decide) (by decide)) rfl (argsL := [(.ref ta), (.int (0 : Int32))]) (rest := [(.ref xs)]) (lenOf pd__28_5bBB_29V rfl) rfl (Nat.le_of_ble_eq_true rfl) (by decide) (by decide) frOf grOf d_jdk_42_method_139_22 (pc' := 25) rfl ?_
      rintro v353 h351 Lc352 ⟨⟨⟨rfl, Kx, Ex, Cx, Fx⟩, -⟩, -⟩
      have f354 := f345.keep Kx
      have f357 := Vt.keep Kx (ninS (Ne.symm ne344) nin0)
      have od358 := od348.keep Kx (allS g_xs all0)
      have z359 := Nat.le_trans z349 Kx.1
      have kc360 := kc350.trans Kx (allS (Or.inr sz_xs) all0)
      show Go p l e _ _ m _ below meth c _ _ _ _ h351 _ _ (mkF m 25 #[.val (.int ch)] [(.ref xs)])
      exact Go.retA K rfl rfl rfl (by decide) (by decide) d_jdk_42_method_139_25 (fun _ _ _ _ => ⟨xs, ta, kt, rfl, sz_xs, kc360, Ex, Cx, Fx, f357⟩)
theorem own_len {n : Nat} (h : n ≤ 2) : n ≤ 4000 := by omega
theorem pd__28Ljava_2flang_2fString_3bLcom_2fexample_2feunomia_2feunomia_2fReason_3b_29Lcom_2fexample_2feunomia_2feunomia_2fAnswer_3b : parseMethodDescriptor "(Ljava/lang/String;Lcom/example/eunomia/eunomia/Reason;)Lcom/example/eunomia/eunomia/Answer;" = some ⟨[(.object "java/lang/String"), (.object "com/example/eunomia/eunomia/Reason")], some (.object "com/example/eunomia/eunomia/Answer")⟩ := by decide +kernel
theorem pd__28_29Ljava_2flang_2fString_3b : parseMethodDescriptor "()Ljava/lang/String;" = some ⟨[], some (.object "java/lang/String")⟩ := by decide +kernel
theorem pd__28Ljava_2flang_2fObject_3b_29Z : parseMethodDescriptor "(Ljava/lang/Object;)Z" = some ⟨[(.object "java/lang/Object")], some .boolean⟩ := by decide +kernel
theorem pd__28_29J : parseMethodDescriptor "()J" = some ⟨[], some .long⟩ := by decide +kernel
theorem pd__28_29Lcom_2fexample_2feunomia_2feunomia_2fReason_3b : parseMethodDescriptor "()Lcom/example/eunomia/eunomia/Reason;" = some ⟨[], some (.object "com/example/eunomia/eunomia/Reason")⟩ := by decide +kernel
theorem pd__28_29Z : parseMethodDescriptor "()Z" = some ⟨[], some .boolean⟩ := by decide +kernel
set_option maxRecDepth 65536 in
set_option maxHeartbeats 40000000 in
theorem segT {p : Program} {l : Launch} {e : Env} {s : State} {m : MethodId} {args : Array Value} {below : List Frame} {meth : Method} {c : Code} {vmS vm0 : Vm} {B : Nat} {Z : State} {a0 : Array Value} (hw : ∀ d ∈ tables_1, d.before a0 Z = true) (wS : ∀ a ∈ Bundle.stringAtoms, a.before a0 Z = true) (hEL : EW Z a0 [("com/example/eunomia/eunomia/Answer", 9), ("com/example/eunomia/eunomia/AnswerRefusedPinLaw", 77), ("java/lang/String", 7)]) (hws : ∀ d ∈ StrChars.Road.words, d.before a0 Z = true) (hwe : ∀ d ∈ StrChars.Road.wordsEq, d.before a0 Z = true) (K : Ctx p (s.setVm vm0) m meth c Z x.cls code maxLocals ret x.name room_1 (FW s room_1) B) (hS : s.Since vm0 B) (h0 h : Heap) (n0 : Nat) (zh : n0 ≤ h.size) (CR : CHr Z [("com/example/eunomia/eunomia/Answer", 9), ("com/example/eunomia/eunomia/AnswerRefusedPinLaw", 77), ("java/lang/String", 7)] vmS h0 vm0 h) (odh : Old Z n0 h) (zc : Int32) (S1 : Sta Z Z.heap "java/lang/String" "COMPACT_STRINGS" "Z" (.int zc)) (P1 : ¬ (zc = (0 : Int32))) (cs : List Int32) (hlen : cs.length ≤ 2) (hb : ∀ c ∈ cs, ¬ c < 0 ∧ ¬ (65535 : Int32) < c)  (idd t1 : Addr) (k1 : ClassId) (N1 : Int32) (vs1 : List Value) (E_idd : Exa Z h idd "java/lang/String") (F_idd : Fld Z h idd "java/lang/String" "value" "[B" (.ref t1)) (C_idd : Fld Z h idd "java/lang/String" "coder" "B" (.int 0)) (A_idd : Arv Z h t1 k1 .byte N1 vs1 (.int 0)) (hc1 : StrChars.Road.CodA cs 0 N1 vs1) (ex t2 : Addr) (k2 : ClassId) (N2 : Int32) (vs2 : List Value) (E_ex : Exa Z h ex "java/lang/String") (F_ex : Fld Z h ex "java/lang/String" "value" "[B" (.ref t2)) (C_ex : Fld Z h ex "java/lang/String" "coder" "B" (.int 0)) (A_ex : Arv Z h t2 k2 .byte N2 vs2 (.int 0)) (hc2 : StrChars.Road.CodA cs 0 N2 vs2) (ra : Addr) (E_ra : Exa Z h ra "com/example/eunomia/eunomia/Reason") (ar : Addr) (p0 p1 p2 p3 x6 x7 x8 : Int32) (k n : Nat) (hk : k ≤ 20) (hn : n ≤ 100) :
    Go p l e room_1 (s.setVm vm0) m args below meth c n0 (fun v vm h => v = some (.int 1) ∧ CHr Z [("com/example/eunomia/eunomia/Answer", 9), ("com/example/eunomia/eunomia/AnswerRefusedPinLaw", 77), ("java/lang/String", 7)] vmS h0 vm h) (FW s room_1) B h k n (mkF m 303 #[.val (.int p0), .val (.int p1), .val (.int p2), .val (.int p3), .val (.ref ar), .val (.ref ra), .val (.int x6), .val (.int x7), .val (.int x8), .val (.ref idd), .val (.ref ex), .unset, .unset] []) := by
  refine Go.aload K at_303 rfl rfl (pc' := 305) rfl ?_
  refine Go.aload K at_305 rfl rfl (pc' := 307) rfl ?_
  refine Go.callS K (y := (⟨"com/example/eunomia/eunomia/Answer", "refused", "(Ljava/lang/String;Lcom/example/eunomia/eunomia/Reason;)Lcom/example/eunomia/eunomia/Answer;"⟩ : MethodName)) (W := 0) (kc := 1) (nc := 4) (mvT K.cz (hw _ (List.mem_of_getElem? (i := 57) rfl))) (mvT K.cz (hw _ (List.mem_of_getElem? (i := 58) rfl))) (mvT K.cz (hw _ (List.mem_of_getElem? (i := 59) rfl))) (mvT K.cz (hw _ (List.mem_of_getElem? (i := 60) rfl))) (by decide) ((m_ref0 l Z a0 hw h n0 zh idd ra E_ra).pays (W := 0) K.cz (hw _ (List.mem_of_getElem? (i := 60) rfl)) (hw _ (List.mem_of_getElem? (i := 59) rfl)) (by decide) (by decide)) rfl (argsL := [(.ref idd), (.ref ra)]) (rest := []) (lenOf pd__28Ljava_2flang_2fString_3bLcom_2fexample_2feunomia_2feunomia_2fReason_3b_29Lcom_2fexample_2feunomia_2feunomia_2fAnswer_3b rfl) rfl (Nat.le_of_ble_eq_true rfl) (by show _ ≤ 32; omega) (by show _ ≤ 3264; omega) frOf grOf at_307 (pc' := 310) rfl ?_
  rintro v363 h361 Lc362 ⟨⟨⟨oa, rfl, hle, Kq, Eo, Fi, Fs, Fre⟩, -⟩, -⟩
  have ne364 : ra ≠ oa := own_ne E_ra.lt hle
  have ne365 : ex ≠ oa := own_ne E_ex.lt hle
  have ne366 : t2 ≠ oa := own_ne A_ex.lt hle
  have ne367 : idd ≠ oa := own_ne E_idd.lt hle
  have ne368 : t1 ≠ oa := own_ne A_idd.lt hle
  have cr369 := CR.trans (CHr.keep Kq sf0 CR.1)
  have f370 := E_idd.keep Kq
  have f371 := F_idd.keep Kq nin0
  have f372 := C_idd.keep Kq nin0
  have f373 := A_idd.keep Kq nin0
  have f374 := E_ex.keep Kq
  have f375 := F_ex.keep Kq nin0
  have f376 := C_ex.keep Kq nin0
  have f377 := A_ex.keep Kq nin0
  have f378 := E_ra.keep Kq
  have od379 := odh.keep Kq all0
  have z380 := Nat.le_trans zh Kq.1
  show Go p l e _ _ m _ below meth c _ _ _ _ h361 _ _ (mkF m 310 #[.val (.int p0), .val (.int p1), .val (.int p2), .val (.int p3), .val (.ref ar), .val (.ref ra), .val (.int x6), .val (.int x7), .val (.int x8), .val (.ref idd), .val (.ref ex), .unset, .unset] [(.ref oa)])
  refine Go.astore K at_310 rfl (Ls' := #[.val (.int p0), .val (.int p1), .val (.int p2), .val (.int p3), .val (.ref ar), .val (.ref ra), .val (.int x6), .val (.int x7), .val (.int x8), .val (.ref idd), .val (.ref ex), .val (.ref oa), .unset]) rfl (pc' := 312) rfl ?_
  refine Go.aload K at_312 rfl rfl (pc' := 314) rfl ?_
  refine Go.callV K (y := (⟨"com/example/eunomia/eunomia/Answer", "id", "()Ljava/lang/String;"⟩ : MethodName)) (z := (⟨"com/example/eunomia/eunomia/Answer", "id", "()Ljava/lang/String;"⟩ : MethodName)) (W := 0) (kc := 0) (nc := 0) (a := oa) (mvT K.cz (hw _ (List.mem_of_getElem? (i := 83) rfl))) (mvT K.cz (hw _ (List.mem_of_getElem? (i := 84) rfl))) (notFace_of_selects (args := #[]) (mvT K.cz (hw _ (List.mem_of_getElem? (i := 86) rfl)))) (mvT K.cz (hw _ (List.mem_of_getElem? (i := 86) rfl))) (mvT K.cz (hw _ (List.mem_of_getElem? (i := 85) rfl))) (by decide) Eo ((m_id l Z a0 hw h361 n0 z380 oa idd Eo Fi).pays (W := 0) K.cz (hw _ (List.mem_of_getElem? (i := 87) rfl)) (hw _ (List.mem_of_getElem? (i := 59) rfl)) (by decide) (by decide)) rfl (argsL := []) (rest := []) (lenOf pd__28_29Ljava_2flang_2fString_3b rfl) rfl (Nat.le_of_ble_eq_true rfl) (by show _ ≤ 32; omega) (by show _ ≤ 3264; omega) frOf grOf at_314 (pc' := 317) rfl ?_
  rintro v383 h381 Lc382 ⟨⟨⟨rfl, eh⟩, -⟩, -⟩
  obtain rfl := eh
  show Go p l e _ _ m _ below meth c _ _ _ _ h361 _ _ (mkF m 317 #[.val (.int p0), .val (.int p1), .val (.int p2), .val (.int p3), .val (.ref ar), .val (.ref ra), .val (.int x6), .val (.int x7), .val (.int x8), .val (.ref idd), .val (.ref ex), .val (.ref oa), .unset] [(.ref idd)])
  refine Go.astore K at_317 rfl (Ls' := #[.val (.int p0), .val (.int p1), .val (.int p2), .val (.int p3), .val (.ref ar), .val (.ref ra), .val (.int x6), .val (.int x7), .val (.int x8), .val (.ref idd), .val (.ref ex), .val (.ref oa), .val (.ref idd)]) rfl (pc' := 319) rfl ?_
  refine Go.aload K at_319 rfl rfl (pc' := 321) rfl ?_
  refine Go.ifnullR K at_321 (pc' := 324) rfl ?_
  refine Go.aload K at_324 rfl rfl (pc' := 326) rfl ?_
  refine Go.aload K at_326 rfl rfl (pc' := 328) rfl ?_
  refine Go.callV K (y := (⟨"java/lang/String", "equals", "(Ljava/lang/Object;)Z"⟩ : MethodName)) (z := (⟨"java/lang/String", "equals", "(Ljava/lang/Object;)Z"⟩ : MethodName)) (W := 0) (kc := 0) (nc := 0) (a := idd) (mvT K.cz (hw _ (List.mem_of_getElem? (i := 88) rfl))) (mvT K.cz (hw _ (List.mem_of_getElem? (i := 89) rfl))) (notFace_of_selects (args := #[]) (mvT K.cz (hw _ (List.mem_of_getElem? (i := 91) rfl)))) (mvT K.cz (hw _ (List.mem_of_getElem? (i := 91) rfl))) (mvT K.cz (hw _ (List.mem_of_getElem? (i := 90) rfl))) (by decide) f370 (paysEq (W := 0) K.cz hwe (kI := 4) (hw _ (List.mem_of_getElem? (i := 51) rfl)) (cs := cs) (cs' := cs) f370 f371 f372 f373 hc1 hb (own_len hlen) f374 f375 f376 f377 hc2 hb (own_len hlen) (S1.ext od379.2) P1 (by decide) (by decide)) rfl (argsL := [(.ref ex)]) (rest := []) (lenOf pd__28Ljava_2flang_2fObject_3b_29Z rfl) rfl (Nat.le_of_ble_eq_true rfl) (by show _ ≤ 32; omega) (by show _ ≤ 3264; omega) (fun v h' L q => q.2.1 ▸ (Fr.nil _)) (fun v h' L q => q.2.2 ▸ Nat.le_refl _) at_328 (pc' := 331) rfl ?_
  rintro v386 h384 Lc385 ⟨qv, rfl, eh⟩
  obtain rfl := eh.symm
  rcases qv with ⟨rfl, -⟩ | ⟨-, qx⟩
  · show Go p l e _ _ m _ below meth c _ _ _ _ h361 _ _ (mkF m 331 #[.val (.int p0), .val (.int p1), .val (.int p2), .val (.int p3), .val (.ref ar), .val (.ref ra), .val (.int x6), .val (.int x7), .val (.int x8), .val (.ref idd), .val (.ref ex), .val (.ref oa), .val (.ref idd)] [(.int (1 : Int32))])
    refine Go.ifc K at_331 (by decide) (pcT := 366) (pcF := 334) (by decide) rfl (fun h331 => ?_) (fun h331 => ?_)
    · replace h331 : (1 : Int32) = 0 := h331
      exact absurd h331 (by decide)
    · replace h331 : ¬ ((1 : Int32) = 0) := h331
      refine Go.aload K at_334 rfl rfl (pc' := 336) rfl ?_
      refine Go.callV K (y := (⟨"com/example/eunomia/eunomia/Answer", "seq", "()J"⟩ : MethodName)) (z := (⟨"com/example/eunomia/eunomia/Answer", "seq", "()J"⟩ : MethodName)) (W := 0) (kc := 0) (nc := 0) (a := oa) (mvT K.cz (hw _ (List.mem_of_getElem? (i := 93) rfl))) (mvT K.cz (hw _ (List.mem_of_getElem? (i := 94) rfl))) (notFace_of_selects (args := #[]) (mvT K.cz (hw _ (List.mem_of_getElem? (i := 96) rfl)))) (mvT K.cz (hw _ (List.mem_of_getElem? (i := 96) rfl))) (mvT K.cz (hw _ (List.mem_of_getElem? (i := 95) rfl))) (by decide) Eo ((m_sq l Z a0 hw h361 n0 z380 oa Eo Fs).pays (W := 0) K.cz (hw _ (List.mem_of_getElem? (i := 97) rfl)) (hw _ (List.mem_of_getElem? (i := 59) rfl)) (by decide) (by decide)) rfl (argsL := []) (rest := []) (lenOf pd__28_29J rfl) rfl (Nat.le_of_ble_eq_true rfl) (by show _ ≤ 32; omega) (by show _ ≤ 3264; omega) frOf grOf at_336 (pc' := 339) rfl ?_
      rintro v389 h387 Lc388 ⟨⟨⟨rfl, eh⟩, -⟩, -⟩
      obtain rfl := eh
      show Go p l e _ _ m _ below meth c _ _ _ _ h361 _ _ (mkF m 339 #[.val (.int p0), .val (.int p1), .val (.int p2), .val (.int p3), .val (.ref ar), .val (.ref ra), .val (.int x6), .val (.int x7), .val (.int x8), .val (.ref idd), .val (.ref ex), .val (.ref oa), .val (.ref idd)] [(.long (0 : Int64))])
      refine Go.lconst K (v := 0) at_339 rfl (pc' := 340) rfl ?_
      refine Go.lcmp K at_340 (pc' := 341) rfl ?_
      refine Go.ifc K at_341 (by decide) (pcT := 366) (pcF := 344) (by decide) rfl (fun h341 => ?_) (fun h341 => ?_)
      · replace h341 : ¬ (lcmpW (0 : Int64) (0 : Int64)) = 0 := h341
        exact absurd (by decide) h341
      · replace h341 : ¬ (¬ (lcmpW (0 : Int64) (0 : Int64)) = 0) := h341
        refine Go.aload K at_344 rfl rfl (pc' := 346) rfl ?_
        refine Go.callV K (y := (⟨"com/example/eunomia/eunomia/Answer", "reason", "()Lcom/example/eunomia/eunomia/Reason;"⟩ : MethodName)) (z := (⟨"com/example/eunomia/eunomia/Answer", "reason", "()Lcom/example/eunomia/eunomia/Reason;"⟩ : MethodName)) (W := 0) (kc := 0) (nc := 0) (a := oa) (mvT K.cz (hw _ (List.mem_of_getElem? (i := 98) rfl))) (mvT K.cz (hw _ (List.mem_of_getElem? (i := 99) rfl))) (notFace_of_selects (args := #[]) (mvT K.cz (hw _ (List.mem_of_getElem? (i := 101) rfl)))) (mvT K.cz (hw _ (List.mem_of_getElem? (i := 101) rfl))) (mvT K.cz (hw _ (List.mem_of_getElem? (i := 100) rfl))) (by decide) Eo ((m_re l Z a0 hw h361 n0 z380 oa ra Eo Fre).pays (W := 0) K.cz (hw _ (List.mem_of_getElem? (i := 102) rfl)) (hw _ (List.mem_of_getElem? (i := 59) rfl)) (by decide) (by decide)) rfl (argsL := []) (rest := []) (lenOf pd__28_29Lcom_2fexample_2feunomia_2feunomia_2fReason_3b rfl) rfl (Nat.le_of_ble_eq_true rfl) (by show _ ≤ 32; omega) (by show _ ≤ 3264; omega) frOf grOf at_346 (pc' := 349) rfl ?_
        rintro v392 h390 Lc391 ⟨⟨⟨rfl, eh⟩, -⟩, -⟩
        obtain rfl := eh
        show Go p l e _ _ m _ below meth c _ _ _ _ h361 _ _ (mkF m 349 #[.val (.int p0), .val (.int p1), .val (.int p2), .val (.int p3), .val (.ref ar), .val (.ref ra), .val (.int x6), .val (.int x7), .val (.int x8), .val (.ref idd), .val (.ref ex), .val (.ref oa), .val (.ref idd)] [(.ref ra)])
        refine Go.aload K at_349 rfl rfl (pc' := 351) rfl ?_
        refine Go.acmp K (same := true) at_351 rfl rfl (decide_eq_true rfl) (by decide) (pc' := 354) (by decide) ?_
        refine Go.aload K at_354 rfl rfl (pc' := 356) rfl ?_
        refine Go.callV K (y := (⟨"com/example/eunomia/eunomia/Answer", "isAccepted", "()Z"⟩ : MethodName)) (z := (⟨"com/example/eunomia/eunomia/Answer", "isAccepted", "()Z"⟩ : MethodName)) (W := 0) (kc := 0) (nc := 0) (a := oa) (mvT K.cz (hw _ (List.mem_of_getElem? (i := 103) rfl))) (mvT K.cz (hw _ (List.mem_of_getElem? (i := 104) rfl))) (notFace_of_selects (args := #[]) (mvT K.cz (hw _ (List.mem_of_getElem? (i := 106) rfl)))) (mvT K.cz (hw _ (List.mem_of_getElem? (i := 106) rfl))) (mvT K.cz (hw _ (List.mem_of_getElem? (i := 105) rfl))) (by decide) Eo ((m_ac l Z a0 hw h361 n0 z380 oa ra Eo Fre).pays (W := 0) K.cz (hw _ (List.mem_of_getElem? (i := 107) rfl)) (hw _ (List.mem_of_getElem? (i := 59) rfl)) (by decide) (by decide)) rfl (argsL := []) (rest := []) (lenOf pd__28_29Z rfl) rfl (Nat.le_of_ble_eq_true rfl) (by show _ ≤ 32; omega) (by show _ ≤ 3264; omega) frOf grOf at_356 (pc' := 359) rfl ?_
        rintro v395 h393 Lc394 ⟨⟨⟨rfl, eh⟩, -⟩, -⟩
        obtain rfl := eh
        show Go p l e _ _ m _ below meth c _ _ _ _ h361 _ _ (mkF m 359 #[.val (.int p0), .val (.int p1), .val (.int p2), .val (.int p3), .val (.ref ar), .val (.ref ra), .val (.int x6), .val (.int x7), .val (.int x8), .val (.ref idd), .val (.ref ex), .val (.ref oa), .val (.ref idd)] [(.int (0 : Int32))])
        refine Go.ifc K at_359 (by decide) (pcT := 366) (pcF := 362) (by decide) rfl (fun h359 => ?_) (fun h359 => ?_)
        · replace h359 : ¬ (0 : Int32) = 0 := h359
          exact absurd (by decide) h359
        · replace h359 : ¬ (¬ (0 : Int32) = 0) := h359
          refine Go.iconst K (v := 1) at_362 rfl (pc' := 363) rfl ?_
          refine Go.goto K at_363 (pc' := 367) (by decide) (by decide) ?_
          exact Go.retN K (by simp) (by show _ ≤ 32; omega) (by show _ ≤ 3264; omega) at_367 (own_end hEL K.cz cr369 rfl)
  · exact absurd rfl qx
theorem pd__28_5bC_29V : parseMethodDescriptor "([C)V" = some ⟨[(.array .char)], none⟩ := by decide +kernel
theorem pd__28C_29Ljava_2flang_2fString_3b : parseMethodDescriptor "(C)Ljava/lang/String;" = some ⟨[.char], some (.object "java/lang/String")⟩ := by decide +kernel
set_option maxRecDepth 65536 in
set_option maxHeartbeats 40000000 in
theorem seg2 {p : Program} {l : Launch} {e : Env} {s : State} {m : MethodId} {args : Array Value} {below : List Frame} {meth : Method} {c : Code} {vmS vm0 : Vm} {B : Nat} {Z : State} {a0 : Array Value} (hw : ∀ d ∈ tables_1, d.before a0 Z = true) (wS : ∀ a ∈ Bundle.stringAtoms, a.before a0 Z = true) (hEL : EW Z a0 [("com/example/eunomia/eunomia/Answer", 9), ("com/example/eunomia/eunomia/AnswerRefusedPinLaw", 77), ("java/lang/String", 7)]) (hws : ∀ d ∈ StrChars.Road.words, d.before a0 Z = true) (hwe : ∀ d ∈ StrChars.Road.wordsEq, d.before a0 Z = true) (K : Ctx p (s.setVm vm0) m meth c Z x.cls code maxLocals ret x.name room_1 (FW s room_1) B) (hS : s.Since vm0 B) (h0 h : Heap) (n0 : Nat) (zh : n0 ≤ h.size) (CR : CHr Z [("com/example/eunomia/eunomia/Answer", 9), ("com/example/eunomia/eunomia/AnswerRefusedPinLaw", 77), ("java/lang/String", 7)] vmS h0 vm0 h) (odh : Old Z n0 h) (zc : Int32) (S1 : Sta Z Z.heap "java/lang/String" "COMPACT_STRINGS" "Z" (.int zc)) (P1 : ¬ (zc = (0 : Int32))) (ra : Addr) (E_ra : Exa Z h ra "com/example/eunomia/eunomia/Reason") (ar : Addr) (p0 p1 p2 p3 : Int32) (k n : Nat) (hk : k ≤ 4) (hn : n ≤ 40) :
    Go p l e room_1 (s.setVm vm0) m args below meth c n0 (fun v vm h => v = some (.int 1) ∧ CHr Z [("com/example/eunomia/eunomia/Answer", 9), ("com/example/eunomia/eunomia/AnswerRefusedPinLaw", 77), ("java/lang/String", 7)] vmS h0 vm h) (FW s room_1) B h k n (mkF m 167 #[.val (.int p0), .val (.int p1), .val (.int p2), .val (.int p3), .val (.ref ar), .val (.ref ra), .unset, .unset, .unset, .unset, .unset, .unset, .unset] []) := by
  refine Go.iloadN K at_167 rfl (pc' := 168) rfl ?_
  refine Go.sipush K (v := 255) at_168 rfl (pc' := 171) rfl ?_
  refine Go.iand K at_171 (pc' := 172) rfl ?_
  refine Go.i2c K at_172 (pc' := 173) rfl ?_
  refine Go.istore K at_173 (Ls' := #[.val (.int p0), .val (.int p1), .val (.int p2), .val (.int p3), .val (.ref ar), .val (.ref ra), .val (.int ((p1 &&& (255 : Int32)).toUInt32.toUInt16.toUInt32.toInt32)), .unset, .unset, .unset, .unset, .unset, .unset]) rfl (pc' := 175) rfl ?_
  refine Go.iloadN K at_175 rfl (pc' := 176) rfl ?_
  refine Go.sipush K (v := 255) at_176 rfl (pc' := 179) rfl ?_
  refine Go.iand K at_179 (pc' := 180) rfl ?_
  refine Go.i2c K at_180 (pc' := 181) rfl ?_
  refine Go.istore K at_181 (Ls' := #[.val (.int p0), .val (.int p1), .val (.int p2), .val (.int p3), .val (.ref ar), .val (.ref ra), .val (.int ((p1 &&& (255 : Int32)).toUInt32.toUInt16.toUInt32.toInt32)), .val (.int ((p2 &&& (255 : Int32)).toUInt32.toUInt16.toUInt32.toInt32)), .unset, .unset, .unset, .unset, .unset]) rfl (pc' := 183) rfl ?_
  refine Go.iloadN K at_183 rfl (pc' := 184) rfl ?_
  refine Go.iconst K (v := 3) at_184 rfl (pc' := 185) rfl ?_
  refine Go.iand K at_185 (pc' := 186) rfl ?_
  rcases own_and3 p0 with hk0 | hk0 | hk0 | hk0 <;> rw [hk0]
  · refine Go.istore K at_186 (Ls' := #[.val (.int p0), .val (.int p1), .val (.int p2), .val (.int p3), .val (.ref ar), .val (.ref ra), .val (.int ((p1 &&& (255 : Int32)).toUInt32.toUInt16.toUInt32.toInt32)), .val (.int ((p2 &&& (255 : Int32)).toUInt32.toUInt16.toUInt32.toInt32)), .val (.int (0 : Int32)), .unset, .unset, .unset, .unset]) rfl (pc' := 188) rfl ?_
    refine Go.iload K at_188 rfl (pc' := 190) rfl ?_
    refine Go.ifc K at_190 (by decide) (pcT := 203) (pcF := 193) (by decide) rfl (fun h190 => ?_) (fun h190 => ?_)
    · replace h190 : ¬ (0 : Int32) = 0 := h190
      exact absurd rfl h190
    · replace h190 : ¬ (¬ (0 : Int32) = 0) := h190
      refine Go.aconstNull K at_193 (pc' := 194) rfl ?_
      refine Go.astore K at_194 rfl (Ls' := #[.val (.int p0), .val (.int p1), .val (.int p2), .val (.int p3), .val (.ref ar), .val (.ref ra), .val (.int ((p1 &&& (255 : Int32)).toUInt32.toUInt16.toUInt32.toInt32)), .val (.int ((p2 &&& (255 : Int32)).toUInt32.toUInt16.toUInt32.toInt32)), .val (.int (0 : Int32)), .val .null, .unset, .unset, .unset]) rfl (pc' := 196) rfl ?_
      refine Go.ldcV K hS (i := 4) (vs := [(.int (45 : Int32))]) (z := 1) (hw _ (List.mem_of_getElem? (i := 49) rfl)) wS hEL (by decide) CR.1 (by decide +kernel) (by decide) rfl (by decide) (by decide) (by show _ ≤ 32; omega) (by show _ ≤ 3264; omega) at_196 (pc' := 198) rfl ?_
      intro ex t_ex kb_ex vm400 h396 B401 E397 hr398 hS E_ex C_ex F_ex A_ex sf399 K
      have f403 := E_ra.ext E397
      have od404 := odh.ext E397
      have z405 := Nat.le_trans zh E397.1
      have cr406 := CR.trans (hr398)
      have ne407 := (sf399 _ (Safe.exa K.cz.alike f403 (by decide) (by decide))).1
      have ne408 := (sf399 _ (Safe.exa K.cz.alike f403 (by decide) (by decide))).2
      refine Go.astore K at_198 rfl (Ls' := #[.val (.int p0), .val (.int p1), .val (.int p2), .val (.int p3), .val (.ref ar), .val (.ref ra), .val (.int ((p1 &&& (255 : Int32)).toUInt32.toUInt16.toUInt32.toInt32)), .val (.int ((p2 &&& (255 : Int32)).toUInt32.toUInt16.toUInt32.toInt32)), .val (.int (0 : Int32)), .val .null, .val (.ref ex), .unset, .unset]) rfl (pc' := 200) rfl ?_
      refine Go.goto K at_200 (pc' := 303) (by decide) (by decide) ?_
      refine Go.aload K at_303 rfl rfl (pc' := 305) rfl ?_
      refine Go.aload K at_305 rfl rfl (pc' := 307) rfl ?_
      have hc : StrChars.Road.CodA [45] 0 (1 : Int32) [(.int (45 : Int32))] := StrChars.Road.codOf (cs := [45]) (n := 1) rfl (by decide)
      have hb : ∀ c ∈ ([45] : List Int32), ¬ c < 0 ∧ ¬ (65535 : Int32) < c := by decide
      have hlen : ([45] : List Int32).length ≤ 2 := by decide
      refine Go.callSW K hS (y := (⟨"com/example/eunomia/eunomia/Answer", "refused", "(Ljava/lang/String;Lcom/example/eunomia/eunomia/Reason;)Lcom/example/eunomia/eunomia/Answer;"⟩ : MethodName)) (W := 0) (kc := 3) (nc := 12) (mvT K.cz (hw _ (List.mem_of_getElem? (i := 57) rfl))) (mvT K.cz (hw _ (List.mem_of_getElem? (i := 58) rfl))) (mvT K.cz (hw _ (List.mem_of_getElem? (i := 59) rfl))) (mvT K.cz (hw _ (List.mem_of_getElem? (i := 60) rfl))) (by decide) ((m_ref1 l Z a0 hw h396 n0 z405 wS hEL ra f403).pays (W := 0) K.cz (hw _ (List.mem_of_getElem? (i := 60) rfl)) (hw _ (List.mem_of_getElem? (i := 59) rfl)) (by decide) (by decide) hEL cr406.1) rfl (argsL := [.null, (.ref ra)]) (rest := []) (lenOf pd__28Ljava_2flang_2fString_3bLcom_2fexample_2feunomia_2feunomia_2fReason_3b_29Lcom_2fexample_2feunomia_2feunomia_2fAnswer_3b rfl) rfl (Nat.le_of_ble_eq_true rfl) (by show _ ≤ 32; omega) (by show _ ≤ 3264; omega) frOf at_307 (pc' := 310) rfl ?_
      rintro v411 h409 Lc410 vm412 B413 ⟨⟨⟨oa, rfl, hle, Kq, da, tb, kb, ⟨Eo, Fi, Fs, Fre⟩, Ed, Cd, Fd, Ad⟩, -⟩, -⟩ hrh409 hS K
      have ne414 : ra ≠ oa := own_ne f403.lt hle
      have ne415 : t_ex ≠ oa := own_ne A_ex.lt hle
      have ne416 : ex ≠ oa := own_ne E_ex.lt hle
      have cr417 := cr406.trans (hrh409)
      have f418 := f403.keep Kq
      have f419 := E_ex.keep Kq
      have f420 := C_ex.keep Kq nin0
      have f421 := F_ex.keep Kq nin0
      have f422 := A_ex.keep Kq nin0
      have od423 := od404.keep Kq all0
      have z424 := Nat.le_trans z405 Kq.1
      show Go p l e _ _ m _ below meth c _ _ _ _ h409 _ _ (mkF m 310 #[.val (.int p0), .val (.int p1), .val (.int p2), .val (.int p3), .val (.ref ar), .val (.ref ra), .val (.int ((p1 &&& (255 : Int32)).toUInt32.toUInt16.toUInt32.toInt32)), .val (.int ((p2 &&& (255 : Int32)).toUInt32.toUInt16.toUInt32.toInt32)), .val (.int (0 : Int32)), .val .null, .val (.ref ex), .unset, .unset] [(.ref oa)])
      refine Go.astore K at_310 rfl (Ls' := #[.val (.int p0), .val (.int p1), .val (.int p2), .val (.int p3), .val (.ref ar), .val (.ref ra), .val (.int ((p1 &&& (255 : Int32)).toUInt32.toUInt16.toUInt32.toInt32)), .val (.int ((p2 &&& (255 : Int32)).toUInt32.toUInt16.toUInt32.toInt32)), .val (.int (0 : Int32)), .val .null, .val (.ref ex), .val (.ref oa), .unset]) rfl (pc' := 312) rfl ?_
      refine Go.aload K at_312 rfl rfl (pc' := 314) rfl ?_
      refine Go.callV K (y := (⟨"com/example/eunomia/eunomia/Answer", "id", "()Ljava/lang/String;"⟩ : MethodName)) (z := (⟨"com/example/eunomia/eunomia/Answer", "id", "()Ljava/lang/String;"⟩ : MethodName)) (W := 0) (kc := 0) (nc := 0) (a := oa) (mvT K.cz (hw _ (List.mem_of_getElem? (i := 83) rfl))) (mvT K.cz (hw _ (List.mem_of_getElem? (i := 84) rfl))) (notFace_of_selects (args := #[]) (mvT K.cz (hw _ (List.mem_of_getElem? (i := 86) rfl)))) (mvT K.cz (hw _ (List.mem_of_getElem? (i := 86) rfl))) (mvT K.cz (hw _ (List.mem_of_getElem? (i := 85) rfl))) (by decide) Eo ((m_id l Z a0 hw h409 n0 z424 oa da Eo Fi).pays (W := 0) K.cz (hw _ (List.mem_of_getElem? (i := 87) rfl)) (hw _ (List.mem_of_getElem? (i := 59) rfl)) (by decide) (by decide)) rfl (argsL := []) (rest := []) (lenOf pd__28_29Ljava_2flang_2fString_3b rfl) rfl (Nat.le_of_ble_eq_true rfl) (by show _ ≤ 32; omega) (by show _ ≤ 3264; omega) frOf grOf at_314 (pc' := 317) rfl ?_
      rintro v427 h425 Lc426 ⟨⟨⟨rfl, eh⟩, -⟩, -⟩
      obtain rfl := eh
      show Go p l e _ _ m _ below meth c _ _ _ _ h409 _ _ (mkF m 317 #[.val (.int p0), .val (.int p1), .val (.int p2), .val (.int p3), .val (.ref ar), .val (.ref ra), .val (.int ((p1 &&& (255 : Int32)).toUInt32.toUInt16.toUInt32.toInt32)), .val (.int ((p2 &&& (255 : Int32)).toUInt32.toUInt16.toUInt32.toInt32)), .val (.int (0 : Int32)), .val .null, .val (.ref ex), .val (.ref oa), .unset] [(.ref da)])
      refine Go.astore K at_317 rfl (Ls' := #[.val (.int p0), .val (.int p1), .val (.int p2), .val (.int p3), .val (.ref ar), .val (.ref ra), .val (.int ((p1 &&& (255 : Int32)).toUInt32.toUInt16.toUInt32.toInt32)), .val (.int ((p2 &&& (255 : Int32)).toUInt32.toUInt16.toUInt32.toInt32)), .val (.int (0 : Int32)), .val .null, .val (.ref ex), .val (.ref oa), .val (.ref da)]) rfl (pc' := 319) rfl ?_
      refine Go.aload K at_319 rfl rfl (pc' := 321) rfl ?_
      refine Go.ifnullR K at_321 (pc' := 324) rfl ?_
      refine Go.aload K at_324 rfl rfl (pc' := 326) rfl ?_
      refine Go.aload K at_326 rfl rfl (pc' := 328) rfl ?_
      refine Go.callV K (y := (⟨"java/lang/String", "equals", "(Ljava/lang/Object;)Z"⟩ : MethodName)) (z := (⟨"java/lang/String", "equals", "(Ljava/lang/Object;)Z"⟩ : MethodName)) (W := 0) (kc := 0) (nc := 0) (a := da) (mvT K.cz (hw _ (List.mem_of_getElem? (i := 88) rfl))) (mvT K.cz (hw _ (List.mem_of_getElem? (i := 89) rfl))) (notFace_of_selects (args := #[]) (mvT K.cz (hw _ (List.mem_of_getElem? (i := 91) rfl)))) (mvT K.cz (hw _ (List.mem_of_getElem? (i := 91) rfl))) (mvT K.cz (hw _ (List.mem_of_getElem? (i := 90) rfl))) (by decide) Ed (paysEq (W := 0) K.cz hwe (kI := 4) (hw _ (List.mem_of_getElem? (i := 51) rfl)) (cs := [45]) (cs' := [45]) Ed Fd Cd Ad hc hb (own_len hlen) f419 f421 f420 f422 hc hb (own_len hlen) (S1.ext od423.2) P1 (by decide) (by decide)) rfl (argsL := [(.ref ex)]) (rest := []) (lenOf pd__28Ljava_2flang_2fObject_3b_29Z rfl) rfl (Nat.le_of_ble_eq_true rfl) (by show _ ≤ 32; omega) (by show _ ≤ 3264; omega) (fun v h' L q => q.2.1 ▸ (Fr.nil _)) (fun v h' L q => q.2.2 ▸ Nat.le_refl _) at_328 (pc' := 331) rfl ?_
      rintro v430 h428 Lc429 ⟨qv, rfl, eh⟩
      obtain rfl := eh.symm
      rcases qv with ⟨rfl, -⟩ | ⟨-, qx⟩
      · show Go p l e _ _ m _ below meth c _ _ _ _ h409 _ _ (mkF m 331 #[.val (.int p0), .val (.int p1), .val (.int p2), .val (.int p3), .val (.ref ar), .val (.ref ra), .val (.int ((p1 &&& (255 : Int32)).toUInt32.toUInt16.toUInt32.toInt32)), .val (.int ((p2 &&& (255 : Int32)).toUInt32.toUInt16.toUInt32.toInt32)), .val (.int (0 : Int32)), .val .null, .val (.ref ex), .val (.ref oa), .val (.ref da)] [(.int (1 : Int32))])
        refine Go.ifc K at_331 (by decide) (pcT := 366) (pcF := 334) (by decide) rfl (fun h331 => ?_) (fun h331 => ?_)
        · replace h331 : (1 : Int32) = 0 := h331
          exact absurd h331 (by decide)
        · replace h331 : ¬ ((1 : Int32) = 0) := h331
          refine Go.aload K at_334 rfl rfl (pc' := 336) rfl ?_
          refine Go.callV K (y := (⟨"com/example/eunomia/eunomia/Answer", "seq", "()J"⟩ : MethodName)) (z := (⟨"com/example/eunomia/eunomia/Answer", "seq", "()J"⟩ : MethodName)) (W := 0) (kc := 0) (nc := 0) (a := oa) (mvT K.cz (hw _ (List.mem_of_getElem? (i := 93) rfl))) (mvT K.cz (hw _ (List.mem_of_getElem? (i := 94) rfl))) (notFace_of_selects (args := #[]) (mvT K.cz (hw _ (List.mem_of_getElem? (i := 96) rfl)))) (mvT K.cz (hw _ (List.mem_of_getElem? (i := 96) rfl))) (mvT K.cz (hw _ (List.mem_of_getElem? (i := 95) rfl))) (by decide) Eo ((m_sq l Z a0 hw h409 n0 z424 oa Eo Fs).pays (W := 0) K.cz (hw _ (List.mem_of_getElem? (i := 97) rfl)) (hw _ (List.mem_of_getElem? (i := 59) rfl)) (by decide) (by decide)) rfl (argsL := []) (rest := []) (lenOf pd__28_29J rfl) rfl (Nat.le_of_ble_eq_true rfl) (by show _ ≤ 32; omega) (by show _ ≤ 3264; omega) frOf grOf at_336 (pc' := 339) rfl ?_
          rintro v433 h431 Lc432 ⟨⟨⟨rfl, eh⟩, -⟩, -⟩
          obtain rfl := eh
          show Go p l e _ _ m _ below meth c _ _ _ _ h409 _ _ (mkF m 339 #[.val (.int p0), .val (.int p1), .val (.int p2), .val (.int p3), .val (.ref ar), .val (.ref ra), .val (.int ((p1 &&& (255 : Int32)).toUInt32.toUInt16.toUInt32.toInt32)), .val (.int ((p2 &&& (255 : Int32)).toUInt32.toUInt16.toUInt32.toInt32)), .val (.int (0 : Int32)), .val .null, .val (.ref ex), .val (.ref oa), .val (.ref da)] [(.long (0 : Int64))])
          refine Go.lconst K (v := 0) at_339 rfl (pc' := 340) rfl ?_
          refine Go.lcmp K at_340 (pc' := 341) rfl ?_
          refine Go.ifc K at_341 (by decide) (pcT := 366) (pcF := 344) (by decide) rfl (fun h341 => ?_) (fun h341 => ?_)
          · replace h341 : ¬ (lcmpW (0 : Int64) (0 : Int64)) = 0 := h341
            exact absurd (by decide) h341
          · replace h341 : ¬ (¬ (lcmpW (0 : Int64) (0 : Int64)) = 0) := h341
            refine Go.aload K at_344 rfl rfl (pc' := 346) rfl ?_
            refine Go.callV K (y := (⟨"com/example/eunomia/eunomia/Answer", "reason", "()Lcom/example/eunomia/eunomia/Reason;"⟩ : MethodName)) (z := (⟨"com/example/eunomia/eunomia/Answer", "reason", "()Lcom/example/eunomia/eunomia/Reason;"⟩ : MethodName)) (W := 0) (kc := 0) (nc := 0) (a := oa) (mvT K.cz (hw _ (List.mem_of_getElem? (i := 98) rfl))) (mvT K.cz (hw _ (List.mem_of_getElem? (i := 99) rfl))) (notFace_of_selects (args := #[]) (mvT K.cz (hw _ (List.mem_of_getElem? (i := 101) rfl)))) (mvT K.cz (hw _ (List.mem_of_getElem? (i := 101) rfl))) (mvT K.cz (hw _ (List.mem_of_getElem? (i := 100) rfl))) (by decide) Eo ((m_re l Z a0 hw h409 n0 z424 oa ra Eo Fre).pays (W := 0) K.cz (hw _ (List.mem_of_getElem? (i := 102) rfl)) (hw _ (List.mem_of_getElem? (i := 59) rfl)) (by decide) (by decide)) rfl (argsL := []) (rest := []) (lenOf pd__28_29Lcom_2fexample_2feunomia_2feunomia_2fReason_3b rfl) rfl (Nat.le_of_ble_eq_true rfl) (by show _ ≤ 32; omega) (by show _ ≤ 3264; omega) frOf grOf at_346 (pc' := 349) rfl ?_
            rintro v436 h434 Lc435 ⟨⟨⟨rfl, eh⟩, -⟩, -⟩
            obtain rfl := eh
            show Go p l e _ _ m _ below meth c _ _ _ _ h409 _ _ (mkF m 349 #[.val (.int p0), .val (.int p1), .val (.int p2), .val (.int p3), .val (.ref ar), .val (.ref ra), .val (.int ((p1 &&& (255 : Int32)).toUInt32.toUInt16.toUInt32.toInt32)), .val (.int ((p2 &&& (255 : Int32)).toUInt32.toUInt16.toUInt32.toInt32)), .val (.int (0 : Int32)), .val .null, .val (.ref ex), .val (.ref oa), .val (.ref da)] [(.ref ra)])
            refine Go.aload K at_349 rfl rfl (pc' := 351) rfl ?_
            refine Go.acmp K (same := true) at_351 rfl rfl (decide_eq_true rfl) (by decide) (pc' := 354) (by decide) ?_
            refine Go.aload K at_354 rfl rfl (pc' := 356) rfl ?_
            refine Go.callV K (y := (⟨"com/example/eunomia/eunomia/Answer", "isAccepted", "()Z"⟩ : MethodName)) (z := (⟨"com/example/eunomia/eunomia/Answer", "isAccepted", "()Z"⟩ : MethodName)) (W := 0) (kc := 0) (nc := 0) (a := oa) (mvT K.cz (hw _ (List.mem_of_getElem? (i := 103) rfl))) (mvT K.cz (hw _ (List.mem_of_getElem? (i := 104) rfl))) (notFace_of_selects (args := #[]) (mvT K.cz (hw _ (List.mem_of_getElem? (i := 106) rfl)))) (mvT K.cz (hw _ (List.mem_of_getElem? (i := 106) rfl))) (mvT K.cz (hw _ (List.mem_of_getElem? (i := 105) rfl))) (by decide) Eo ((m_ac l Z a0 hw h409 n0 z424 oa ra Eo Fre).pays (W := 0) K.cz (hw _ (List.mem_of_getElem? (i := 107) rfl)) (hw _ (List.mem_of_getElem? (i := 59) rfl)) (by decide) (by decide)) rfl (argsL := []) (rest := []) (lenOf pd__28_29Z rfl) rfl (Nat.le_of_ble_eq_true rfl) (by show _ ≤ 32; omega) (by show _ ≤ 3264; omega) frOf grOf at_356 (pc' := 359) rfl ?_
            rintro v439 h437 Lc438 ⟨⟨⟨rfl, eh⟩, -⟩, -⟩
            obtain rfl := eh
            show Go p l e _ _ m _ below meth c _ _ _ _ h409 _ _ (mkF m 359 #[.val (.int p0), .val (.int p1), .val (.int p2), .val (.int p3), .val (.ref ar), .val (.ref ra), .val (.int ((p1 &&& (255 : Int32)).toUInt32.toUInt16.toUInt32.toInt32)), .val (.int ((p2 &&& (255 : Int32)).toUInt32.toUInt16.toUInt32.toInt32)), .val (.int (0 : Int32)), .val .null, .val (.ref ex), .val (.ref oa), .val (.ref da)] [(.int (0 : Int32))])
            refine Go.ifc K at_359 (by decide) (pcT := 366) (pcF := 362) (by decide) rfl (fun h359 => ?_) (fun h359 => ?_)
            · replace h359 : ¬ (0 : Int32) = 0 := h359
              exact absurd (by decide) h359
            · replace h359 : ¬ (¬ (0 : Int32) = 0) := h359
              refine Go.iconst K (v := 1) at_362 rfl (pc' := 363) rfl ?_
              refine Go.goto K at_363 (pc' := 367) (by decide) (by decide) ?_
              exact Go.retN K (by simp) (by show _ ≤ 32; omega) (by show _ ≤ 3264; omega) at_367 (own_end hEL K.cz cr417 rfl)
      · exact absurd rfl qx
  · refine Go.istore K at_186 (Ls' := #[.val (.int p0), .val (.int p1), .val (.int p2), .val (.int p3), .val (.ref ar), .val (.ref ra), .val (.int ((p1 &&& (255 : Int32)).toUInt32.toUInt16.toUInt32.toInt32)), .val (.int ((p2 &&& (255 : Int32)).toUInt32.toUInt16.toUInt32.toInt32)), .val (.int (1 : Int32)), .unset, .unset, .unset, .unset]) rfl (pc' := 188) rfl ?_
    refine Go.iload K at_188 rfl (pc' := 190) rfl ?_
    refine Go.ifc K at_190 (by decide) (pcT := 203) (pcF := 193) (by decide) rfl (fun h190 => ?_) (fun h190 => ?_)
    · replace h190 : ¬ (1 : Int32) = 0 := h190
      refine Go.iload K at_203 rfl (pc' := 205) rfl ?_
      refine Go.iconst K (v := 1) at_205 rfl (pc' := 206) rfl ?_
      refine Go.icmp K at_206 (by decide) (pcT := 236) (pcF := 209) (by decide) rfl (fun h206 => ?_) (fun h206 => ?_)
      · replace h206 : ¬ (1 : Int32) = (1 : Int32) := h206
        exact absurd rfl h206
      · replace h206 : ¬ (¬ (1 : Int32) = (1 : Int32)) := h206
        refine Go.newO K (hw _ (List.mem_of_getElem? (i := 108) rfl)) (hw _ (List.mem_of_getElem? (i := 51) rfl)) (hw _ (List.mem_of_getElem? (i := 50) rfl)) (by show _ ≤ 32; omega) (by show _ ≤ 3264; omega) at_209 (pc' := 212) rfl ?_
        intro h440 idd eq443 E441 E_idd D442
        have ne444 : ra ≠ idd := own_ne E_ra.lt (Nat.le_of_eq eq443.symm)
        have g_idd : n0 ≤ idd := Nat.le_trans zh (Nat.le_of_eq eq443.symm)
        have sf445 := Safe.ext E441 CR.1 (Safe.new (Nat.le_of_eq eq443.symm))
        have f447 := E_ra.ext E441
        have od448 := odh.ext E441
        have z449 := Nat.le_trans zh E441.1
        have cr450 := CR.trans (CHr.ext E441 CR.1)
        have f451 : Fld Z h440 idd "java/lang/String" "value" "[B" .null := D442 (Or.inr (hw _ (List.mem_of_getElem? (i := 53) rfl))) (ty := (.array .byte)) (by decide)
        have f452 : Fld Z h440 idd "java/lang/String" "coder" "B" (.int (0 : Int32)) := D442 (Or.inr (hw _ (List.mem_of_getElem? (i := 54) rfl))) (ty := .byte) (by decide)
        refine Go.dup K at_212 rfl (pc' := 213) rfl ?_
        refine Go.iconst K (v := 0) at_213 rfl (pc' := 214) rfl ?_
        refine Go.newP K (hw _ (List.mem_of_getElem? (i := 109) rfl)) (by decide) 0 (by decide) (by decide) (by show _ ≤ 32; omega) (by show _ ≤ 3264; omega) at_214 (pc' := 216) rfl ?_
        intro h453 bidd kA_bidd eq455 E454 V_bidd
        have ne456 : ra ≠ bidd := own_ne f447.lt (Nat.le_of_eq eq455.symm)
        have ne457 : idd ≠ bidd := own_ne E_idd.lt (Nat.le_of_eq eq455.symm)
        have g_bidd : n0 ≤ bidd := Nat.le_trans z449 (Nat.le_of_eq eq455.symm)
        have f460 := Safe.ext E454 cr450.1 sf445
        have f463 := f447.ext E454
        have f464 := E_idd.ext E454
        have f465 := f451.ext E454
        have f466 := f452.ext E454
        have od467 := od448.ext E454
        have z468 := Nat.le_trans z449 E454.1
        have cr469 := cr450.trans (CHr.ext E454 cr450.1)
        have V470 : Arv Z h453 bidd kA_bidd .char (0 : Int32) [] (.int (0 : Int32)) := V_bidd.pad (pad_rep [] (.int (0 : Int32)) 0)
        refine Go.callCW K hS (y := (⟨"java/lang/String", "<init>", "([C)V"⟩ : MethodName)) (W := 1) (kc := 4) (nc := 8) (a := idd) rfl (mvT K.cz (hw _ (List.mem_of_getElem? (i := 110) rfl))) (mvT K.cz (hw _ (List.mem_of_getElem? (i := 111) rfl))) (mvT K.cz (hw _ (List.mem_of_getElem? (i := 112) rfl))) (by decide) ((m_s1e l Z a0 hw h453 n0 z468 wS hEL idd f464 f465 f466 g_idd bidd kA_bidd _ V470).pays (W := 1) K.cz (hw _ (List.mem_of_getElem? (i := 112) rfl)) (hw _ (List.mem_of_getElem? (i := 50) rfl)) (by decide) (by decide) hEL cr469.1) rfl (argsL := [(.ref bidd)]) (rest := [(.ref idd)]) (lenOf pd__28_5bC_29V rfl) rfl (Nat.le_of_ble_eq_true rfl) (by show _ ≤ 32; omega) (by show _ ≤ 3264; omega) frOf at_216 (pc' := 219) rfl ?_
        rintro v473 h471 Lc472 vm474 B475 ⟨⟨⟨rfl, Kq_idd, E_idd, C_idd, t1, kb_idd, F_idd, V_t1⟩, -⟩, -⟩ hrh471 hS K
        have f476 := hrh471.safe f464.lt f460
        have cr477 := cr469.trans (hrh471)
        have f478 := f463.keep Kq_idd
        have f479 := f464.keep Kq_idd
        have od482 := od467.keep Kq_idd (allS g_idd all0)
        have z483 := Nat.le_trans z468 Kq_idd.1
        show Go p l e _ _ m _ below meth c _ _ _ _ h471 _ _ (mkF m 219 #[.val (.int p0), .val (.int p1), .val (.int p2), .val (.int p3), .val (.ref ar), .val (.ref ra), .val (.int ((p1 &&& (255 : Int32)).toUInt32.toUInt16.toUInt32.toInt32)), .val (.int ((p2 &&& (255 : Int32)).toUInt32.toUInt16.toUInt32.toInt32)), .val (.int (1 : Int32)), .unset, .unset, .unset, .unset] [(.ref idd)])
        refine Go.astore K at_219 rfl (Ls' := #[.val (.int p0), .val (.int p1), .val (.int p2), .val (.int p3), .val (.ref ar), .val (.ref ra), .val (.int ((p1 &&& (255 : Int32)).toUInt32.toUInt16.toUInt32.toInt32)), .val (.int ((p2 &&& (255 : Int32)).toUInt32.toUInt16.toUInt32.toInt32)), .val (.int (1 : Int32)), .val (.ref idd), .unset, .unset, .unset]) rfl (pc' := 221) rfl ?_
        refine Go.newO K (hw _ (List.mem_of_getElem? (i := 108) rfl)) (hw _ (List.mem_of_getElem? (i := 51) rfl)) (hw _ (List.mem_of_getElem? (i := 50) rfl)) (by show _ ≤ 32; omega) (by show _ ≤ 3264; omega) at_221 (pc' := 224) rfl ?_
        intro h484 ex eq487 E485 E_ex D486
        have ne488 : ra ≠ ex := own_ne f478.lt (Nat.le_of_eq eq487.symm)
        have ne489 : idd ≠ ex := own_ne E_idd.lt (Nat.le_of_eq eq487.symm)
        have ne490 : t1 ≠ ex := own_ne V_t1.lt (Nat.le_of_eq eq487.symm)
        have g_ex : n0 ≤ ex := Nat.le_trans z483 (Nat.le_of_eq eq487.symm)
        have sf491 := Safe.ext E485 cr477.1 (Safe.new (Nat.le_of_eq eq487.symm))
        have f497 := f478.ext E485
        have f498 := E_idd.ext E485
        have f499 := C_idd.ext E485
        have f500 := F_idd.ext E485
        have f501 := V_t1.ext E485
        have od502 := od482.ext E485
        have z503 := Nat.le_trans z483 E485.1
        have cr504 := cr477.trans (CHr.ext E485 cr477.1)
        have f505 : Fld Z h484 ex "java/lang/String" "value" "[B" .null := D486 (Or.inr (hw _ (List.mem_of_getElem? (i := 53) rfl))) (ty := (.array .byte)) (by decide)
        have f506 : Fld Z h484 ex "java/lang/String" "coder" "B" (.int (0 : Int32)) := D486 (Or.inr (hw _ (List.mem_of_getElem? (i := 54) rfl))) (ty := .byte) (by decide)
        refine Go.dup K at_224 rfl (pc' := 225) rfl ?_
        refine Go.iconst K (v := 0) at_225 rfl (pc' := 226) rfl ?_
        refine Go.newP K (hw _ (List.mem_of_getElem? (i := 109) rfl)) (by decide) 0 (by decide) (by decide) (by show _ ≤ 32; omega) (by show _ ≤ 3264; omega) at_226 (pc' := 228) rfl ?_
        intro h507 bex kA_bex eq509 E508 V_bex
        have ne510 : ra ≠ bex := own_ne f497.lt (Nat.le_of_eq eq509.symm)
        have ne511 : idd ≠ bex := own_ne f498.lt (Nat.le_of_eq eq509.symm)
        have ne512 : t1 ≠ bex := own_ne f501.lt (Nat.le_of_eq eq509.symm)
        have ne513 : ex ≠ bex := own_ne E_ex.lt (Nat.le_of_eq eq509.symm)
        have g_bex : n0 ≤ bex := Nat.le_trans z503 (Nat.le_of_eq eq509.symm)
        have f520 := Safe.ext E508 cr504.1 sf491
        have f523 := f497.ext E508
        have f524 := f498.ext E508
        have f525 := f499.ext E508
        have f526 := f500.ext E508
        have f527 := f501.ext E508
        have f528 := E_ex.ext E508
        have f529 := f505.ext E508
        have f530 := f506.ext E508
        have od531 := od502.ext E508
        have z532 := Nat.le_trans z503 E508.1
        have cr533 := cr504.trans (CHr.ext E508 cr504.1)
        have V534 : Arv Z h507 bex kA_bex .char (0 : Int32) [] (.int (0 : Int32)) := V_bex.pad (pad_rep [] (.int (0 : Int32)) 0)
        refine Go.callCW K hS (y := (⟨"java/lang/String", "<init>", "([C)V"⟩ : MethodName)) (W := 1) (kc := 4) (nc := 8) (a := ex) rfl (mvT K.cz (hw _ (List.mem_of_getElem? (i := 110) rfl))) (mvT K.cz (hw _ (List.mem_of_getElem? (i := 111) rfl))) (mvT K.cz (hw _ (List.mem_of_getElem? (i := 112) rfl))) (by decide) ((m_s1e l Z a0 hw h507 n0 z532 wS hEL ex f528 f529 f530 g_ex bex kA_bex _ V534).pays (W := 1) K.cz (hw _ (List.mem_of_getElem? (i := 112) rfl)) (hw _ (List.mem_of_getElem? (i := 50) rfl)) (by decide) (by decide) hEL cr533.1) rfl (argsL := [(.ref bex)]) (rest := [(.ref ex)]) (lenOf pd__28_5bC_29V rfl) rfl (Nat.le_of_ble_eq_true rfl) (by show _ ≤ 32; omega) (by show _ ≤ 3264; omega) frOf at_228 (pc' := 231) rfl ?_
        rintro v537 h535 Lc536 vm538 B539 ⟨⟨⟨rfl, Kq_ex, E_ex, C_ex, t2, kb_ex, F_ex, V_t2⟩, -⟩, -⟩ hrh535 hS K
        have f540 := hrh535.safe f528.lt f520
        have cr541 := cr533.trans (hrh535)
        have f542 := f523.keep Kq_ex
        have f543 := f524.keep Kq_ex
        have f544 := f525.keep Kq_ex (ninS ne489 nin0)
        have f545 := f526.keep Kq_ex (ninS ne489 nin0)
        have f546 := f527.keep Kq_ex (ninS ne490 nin0)
        have f547 := f528.keep Kq_ex
        have od550 := od531.keep Kq_ex (allS g_ex all0)
        have z551 := Nat.le_trans z532 Kq_ex.1
        show Go p l e _ _ m _ below meth c _ _ _ _ h535 _ _ (mkF m 231 #[.val (.int p0), .val (.int p1), .val (.int p2), .val (.int p3), .val (.ref ar), .val (.ref ra), .val (.int ((p1 &&& (255 : Int32)).toUInt32.toUInt16.toUInt32.toInt32)), .val (.int ((p2 &&& (255 : Int32)).toUInt32.toUInt16.toUInt32.toInt32)), .val (.int (1 : Int32)), .val (.ref idd), .unset, .unset, .unset] [(.ref ex)])
        have hc : StrChars.Road.CodA [] 0 (0 : Int32) [] := StrChars.Road.codOf (cs := []) (n := 0) rfl (by decide)
        have hb : ∀ c ∈ ([] : List Int32), ¬ c < 0 ∧ ¬ (65535 : Int32) < c := fun c q => nomatch q
        refine Go.astore K at_231 rfl (Ls' := #[.val (.int p0), .val (.int p1), .val (.int p2), .val (.int p3), .val (.ref ar), .val (.ref ra), .val (.int ((p1 &&& (255 : Int32)).toUInt32.toUInt16.toUInt32.toInt32)), .val (.int ((p2 &&& (255 : Int32)).toUInt32.toUInt16.toUInt32.toInt32)), .val (.int (1 : Int32)), .val (.ref idd), .val (.ref ex), .unset, .unset]) rfl (pc' := 233) rfl ?_
        refine Go.goto K at_233 (pc' := 303) (by decide) (by decide) ?_
        exact segT hw wS hEL hws hwe K hS h0 h535 n0 z551 cr541 od550 zc S1 P1 [] (Nat.le_of_ble_eq_true rfl) hb idd t1 _ _ _ f543 f545 f544 f546 hc ex t2 _ _ _ E_ex F_ex C_ex V_t2 hc ra f542 ar p0 p1 p2 p3 _ _ _ _ _ (by omega) (by omega)
    · replace h190 : ¬ (¬ (1 : Int32) = 0) := h190
      exact absurd (by decide) h190
  · refine Go.istore K at_186 (Ls' := #[.val (.int p0), .val (.int p1), .val (.int p2), .val (.int p3), .val (.ref ar), .val (.ref ra), .val (.int ((p1 &&& (255 : Int32)).toUInt32.toUInt16.toUInt32.toInt32)), .val (.int ((p2 &&& (255 : Int32)).toUInt32.toUInt16.toUInt32.toInt32)), .val (.int (2 : Int32)), .unset, .unset, .unset, .unset]) rfl (pc' := 188) rfl ?_
    refine Go.iload K at_188 rfl (pc' := 190) rfl ?_
    refine Go.ifc K at_190 (by decide) (pcT := 203) (pcF := 193) (by decide) rfl (fun h190 => ?_) (fun h190 => ?_)
    · replace h190 : ¬ (2 : Int32) = 0 := h190
      refine Go.iload K at_203 rfl (pc' := 205) rfl ?_
      refine Go.iconst K (v := 1) at_205 rfl (pc' := 206) rfl ?_
      refine Go.icmp K at_206 (by decide) (pcT := 236) (pcF := 209) (by decide) rfl (fun h206 => ?_) (fun h206 => ?_)
      · replace h206 : ¬ (2 : Int32) = (1 : Int32) := h206
        refine Go.iload K at_236 rfl (pc' := 238) rfl ?_
        refine Go.iconst K (v := 2) at_238 rfl (pc' := 239) rfl ?_
        refine Go.icmp K at_239 (by decide) (pcT := 259) (pcF := 242) (by decide) rfl (fun h239 => ?_) (fun h239 => ?_)
        · replace h239 : ¬ (2 : Int32) = (2 : Int32) := h239
          exact absurd rfl h239
        · replace h239 : ¬ (¬ (2 : Int32) = (2 : Int32)) := h239
          refine Go.iload K at_242 rfl (pc' := 244) rfl ?_
          refine Go.callS K (y := (⟨"java/lang/String", "valueOf", "(C)Ljava/lang/String;"⟩ : MethodName)) (W := 0) (kc := 2) (nc := 5) (mvT K.cz (hw _ (List.mem_of_getElem? (i := 136) rfl))) (mvT K.cz (hw _ (List.mem_of_getElem? (i := 137) rfl))) (mvT K.cz (hw _ (List.mem_of_getElem? (i := 50) rfl))) (mvT K.cz (hw _ (List.mem_of_getElem? (i := 138) rfl))) (by decide) ((m_vo l Z a0 hw h n0 zh ((p1 &&& (255 : Int32)).toUInt32.toUInt16.toUInt32.toInt32) (own_c255 p1).2 odh zc S1 P1).pays (W := 0) K.cz (hw _ (List.mem_of_getElem? (i := 138) rfl)) (hw _ (List.mem_of_getElem? (i := 50) rfl)) (by decide) (by decide)) rfl (argsL := [(.int ((p1 &&& (255 : Int32)).toUInt32.toUInt16.toUInt32.toInt32))]) (rest := []) (lenOf pd__28C_29Ljava_2flang_2fString_3b rfl) rfl (Nat.le_of_ble_eq_true rfl) (by show _ ≤ 32; omega) (by show _ ≤ 3264; omega) frOf grOf at_244 (pc' := 247) rfl ?_
          rintro v554 h552 Lc553 ⟨⟨⟨idd, t1, kt_idd, rfl, hle_idd, Kq_idd, E_idd, C_idd, F_idd, V_t1⟩, -⟩, -⟩
          have ne555 : ra ≠ idd := own_ne E_ra.lt hle_idd
          have cr556 := CR.trans (CHr.keep Kq_idd sf0 CR.1)
          have f557 := E_ra.keep Kq_idd
          have od558 := odh.keep Kq_idd all0
          have z559 := Nat.le_trans zh Kq_idd.1
          show Go p l e _ _ m _ below meth c _ _ _ _ h552 _ _ (mkF m 247 #[.val (.int p0), .val (.int p1), .val (.int p2), .val (.int p3), .val (.ref ar), .val (.ref ra), .val (.int ((p1 &&& (255 : Int32)).toUInt32.toUInt16.toUInt32.toInt32)), .val (.int ((p2 &&& (255 : Int32)).toUInt32.toUInt16.toUInt32.toInt32)), .val (.int (2 : Int32)), .unset, .unset, .unset, .unset] [(.ref idd)])
          refine Go.astore K at_247 rfl (Ls' := #[.val (.int p0), .val (.int p1), .val (.int p2), .val (.int p3), .val (.ref ar), .val (.ref ra), .val (.int ((p1 &&& (255 : Int32)).toUInt32.toUInt16.toUInt32.toInt32)), .val (.int ((p2 &&& (255 : Int32)).toUInt32.toUInt16.toUInt32.toInt32)), .val (.int (2 : Int32)), .val (.ref idd), .unset, .unset, .unset]) rfl (pc' := 249) rfl ?_
          refine Go.iload K at_249 rfl (pc' := 251) rfl ?_
          refine Go.callS K (y := (⟨"java/lang/String", "valueOf", "(C)Ljava/lang/String;"⟩ : MethodName)) (W := 0) (kc := 2) (nc := 5) (mvT K.cz (hw _ (List.mem_of_getElem? (i := 136) rfl))) (mvT K.cz (hw _ (List.mem_of_getElem? (i := 137) rfl))) (mvT K.cz (hw _ (List.mem_of_getElem? (i := 50) rfl))) (mvT K.cz (hw _ (List.mem_of_getElem? (i := 138) rfl))) (by decide) ((m_vo l Z a0 hw h552 n0 z559 ((p1 &&& (255 : Int32)).toUInt32.toUInt16.toUInt32.toInt32) (own_c255 p1).2 od558 zc S1 P1).pays (W := 0) K.cz (hw _ (List.mem_of_getElem? (i := 138) rfl)) (hw _ (List.mem_of_getElem? (i := 50) rfl)) (by decide) (by decide)) rfl (argsL := [(.int ((p1 &&& (255 : Int32)).toUInt32.toUInt16.toUInt32.toInt32))]) (rest := []) (lenOf pd__28C_29Ljava_2flang_2fString_3b rfl) rfl (Nat.le_of_ble_eq_true rfl) (by show _ ≤ 32; omega) (by show _ ≤ 3264; omega) frOf grOf at_251 (pc' := 254) rfl ?_
          rintro v562 h560 Lc561 ⟨⟨⟨ex, t2, kt_ex, rfl, hle_ex, Kq_ex, E_ex, C_ex, F_ex, V_t2⟩, -⟩, -⟩
          have ne563 : ra ≠ ex := own_ne f557.lt hle_ex
          have ne564 : idd ≠ ex := own_ne E_idd.lt hle_ex
          have ne565 : t1 ≠ ex := own_ne V_t1.lt hle_ex
          have cr566 := cr556.trans (CHr.keep Kq_ex sf0 cr556.1)
          have f567 := f557.keep Kq_ex
          have f568 := E_idd.keep Kq_ex
          have f569 := C_idd.keep Kq_ex nin0
          have f570 := F_idd.keep Kq_ex nin0
          have f571 := V_t1.keep Kq_ex nin0
          have od572 := od558.keep Kq_ex all0
          have z573 := Nat.le_trans z559 Kq_ex.1
          show Go p l e _ _ m _ below meth c _ _ _ _ h560 _ _ (mkF m 254 #[.val (.int p0), .val (.int p1), .val (.int p2), .val (.int p3), .val (.ref ar), .val (.ref ra), .val (.int ((p1 &&& (255 : Int32)).toUInt32.toUInt16.toUInt32.toInt32)), .val (.int ((p2 &&& (255 : Int32)).toUInt32.toUInt16.toUInt32.toInt32)), .val (.int (2 : Int32)), .val (.ref idd), .unset, .unset, .unset] [(.ref ex)])
          have hc : StrChars.Road.CodA [((p1 &&& (255 : Int32)).toUInt32.toUInt16.toUInt32.toInt32)] 0 (1 : Int32) [(.int (StrChars.lo8 ((p1 &&& (255 : Int32)).toUInt32.toUInt16.toUInt32.toInt32)))] := StrChars.Road.codOf (cs := [((p1 &&& (255 : Int32)).toUInt32.toUInt16.toUInt32.toInt32)]) (n := 1) rfl (fun c q => by obtain rfl := List.mem_singleton.mp q; exact (own_c255 p1).2)
          have hb : ∀ c ∈ ([((p1 &&& (255 : Int32)).toUInt32.toUInt16.toUInt32.toInt32)] : List Int32), ¬ c < 0 ∧ ¬ (65535 : Int32) < c := fun c q => by obtain rfl := List.mem_singleton.mp q; exact ⟨(own_c255 p1).1, own_65 (own_c255 p1).2⟩
          refine Go.astore K at_254 rfl (Ls' := #[.val (.int p0), .val (.int p1), .val (.int p2), .val (.int p3), .val (.ref ar), .val (.ref ra), .val (.int ((p1 &&& (255 : Int32)).toUInt32.toUInt16.toUInt32.toInt32)), .val (.int ((p2 &&& (255 : Int32)).toUInt32.toUInt16.toUInt32.toInt32)), .val (.int (2 : Int32)), .val (.ref idd), .val (.ref ex), .unset, .unset]) rfl (pc' := 256) rfl ?_
          refine Go.goto K at_256 (pc' := 303) (by decide) (by decide) ?_
          exact segT hw wS hEL hws hwe K hS h0 h560 n0 z573 cr566 od572 zc S1 P1 [((p1 &&& (255 : Int32)).toUInt32.toUInt16.toUInt32.toInt32)] (Nat.le_of_ble_eq_true rfl) hb idd t1 _ _ _ f568 f570 f569 f571 hc ex t2 _ _ _ E_ex F_ex C_ex V_t2 hc ra f567 ar p0 p1 p2 p3 _ _ _ _ _ (by omega) (by omega)
      · replace h206 : ¬ (¬ (2 : Int32) = (1 : Int32)) := h206
        exact absurd (by decide) h206
    · replace h190 : ¬ (¬ (2 : Int32) = 0) := h190
      exact absurd (by decide) h190
  · refine Go.istore K at_186 (Ls' := #[.val (.int p0), .val (.int p1), .val (.int p2), .val (.int p3), .val (.ref ar), .val (.ref ra), .val (.int ((p1 &&& (255 : Int32)).toUInt32.toUInt16.toUInt32.toInt32)), .val (.int ((p2 &&& (255 : Int32)).toUInt32.toUInt16.toUInt32.toInt32)), .val (.int (3 : Int32)), .unset, .unset, .unset, .unset]) rfl (pc' := 188) rfl ?_
    refine Go.iload K at_188 rfl (pc' := 190) rfl ?_
    refine Go.ifc K at_190 (by decide) (pcT := 203) (pcF := 193) (by decide) rfl (fun h190 => ?_) (fun h190 => ?_)
    · replace h190 : ¬ (3 : Int32) = 0 := h190
      refine Go.iload K at_203 rfl (pc' := 205) rfl ?_
      refine Go.iconst K (v := 1) at_205 rfl (pc' := 206) rfl ?_
      refine Go.icmp K at_206 (by decide) (pcT := 236) (pcF := 209) (by decide) rfl (fun h206 => ?_) (fun h206 => ?_)
      · replace h206 : ¬ (3 : Int32) = (1 : Int32) := h206
        refine Go.iload K at_236 rfl (pc' := 238) rfl ?_
        refine Go.iconst K (v := 2) at_238 rfl (pc' := 239) rfl ?_
        refine Go.icmp K at_239 (by decide) (pcT := 259) (pcF := 242) (by decide) rfl (fun h239 => ?_) (fun h239 => ?_)
        · replace h239 : ¬ (3 : Int32) = (2 : Int32) := h239
          refine Go.newO K (hw _ (List.mem_of_getElem? (i := 108) rfl)) (hw _ (List.mem_of_getElem? (i := 51) rfl)) (hw _ (List.mem_of_getElem? (i := 50) rfl)) (by show _ ≤ 32; omega) (by show _ ≤ 3264; omega) at_259 (pc' := 262) rfl ?_
          intro h574 idd eq577 E575 E_idd D576
          have ne578 : ra ≠ idd := own_ne E_ra.lt (Nat.le_of_eq eq577.symm)
          have g_idd : n0 ≤ idd := Nat.le_trans zh (Nat.le_of_eq eq577.symm)
          have sf579 := Safe.ext E575 CR.1 (Safe.new (Nat.le_of_eq eq577.symm))
          have f581 := E_ra.ext E575
          have od582 := odh.ext E575
          have z583 := Nat.le_trans zh E575.1
          have cr584 := CR.trans (CHr.ext E575 CR.1)
          have f585 : Fld Z h574 idd "java/lang/String" "value" "[B" .null := D576 (Or.inr (hw _ (List.mem_of_getElem? (i := 53) rfl))) (ty := (.array .byte)) (by decide)
          have f586 : Fld Z h574 idd "java/lang/String" "coder" "B" (.int (0 : Int32)) := D576 (Or.inr (hw _ (List.mem_of_getElem? (i := 54) rfl))) (ty := .byte) (by decide)
          refine Go.dup K at_262 rfl (pc' := 263) rfl ?_
          refine Go.iconst K (v := 2) at_263 rfl (pc' := 264) rfl ?_
          refine Go.newP K (hw _ (List.mem_of_getElem? (i := 109) rfl)) (by decide) 2 (by decide) (by decide) (by show _ ≤ 32; omega) (by show _ ≤ 3264; omega) at_264 (pc' := 266) rfl ?_
          intro h587 bidd kA_bidd eq589 E588 V_bidd
          have ne590 : ra ≠ bidd := own_ne f581.lt (Nat.le_of_eq eq589.symm)
          have ne591 : idd ≠ bidd := own_ne E_idd.lt (Nat.le_of_eq eq589.symm)
          have g_bidd : n0 ≤ bidd := Nat.le_trans z583 (Nat.le_of_eq eq589.symm)
          have f594 := Safe.ext E588 cr584.1 sf579
          have f597 := f581.ext E588
          have f598 := E_idd.ext E588
          have f599 := f585.ext E588
          have f600 := f586.ext E588
          have od601 := od582.ext E588
          have z602 := Nat.le_trans z583 E588.1
          have cr603 := cr584.trans (CHr.ext E588 cr584.1)
          have V604 : Arv Z h587 bidd kA_bidd .char (2 : Int32) [(.int (0 : Int32)), (.int (0 : Int32))] (.int (0 : Int32)) := V_bidd.pad (pad_rep [] (.int (0 : Int32)) 2)
          refine Go.dup K at_266 rfl (pc' := 267) rfl ?_
          refine Go.iconst K (v := 0) at_267 rfl (pc' := 268) rfl ?_
          refine Go.iload K at_268 rfl (pc' := 270) rfl ?_
          refine Go.castore K V604 0 rfl (Nat.le_of_ble_eq_true rfl) ⟨by decide, by decide⟩ g_bidd at_270 (pc' := 271) rfl ?_
          intro h605 K606 V607
          replace V607 : Arv Z h605 bidd kA_bidd .char (2 : Int32) [(.int (nar .char ((p1 &&& (255 : Int32)).toUInt32.toUInt16.toUInt32.toInt32))), (.int (0 : Int32))] (.int (0 : Int32)) := V607
          have f608 := Safe.keep K606 (sfS (Safe.arv K.cz.alike V604 (by decide)) sf0) cr603.1 f594
          have cr609 := cr603.trans (CHr.keep K606 (sfS (Safe.arv K.cz.alike V604 (by decide)) sf0) cr603.1)
          have f610 := f597.keep K606
          have f611 := f598.keep K606
          have f612 := f599.keep K606 (ninS ne591 nin0)
          have f613 := f600.keep K606 (ninS ne591 nin0)
          have od615 := od601.keep K606 (allS g_bidd all0)
          have z616 := Nat.le_trans z602 K606.1
          refine Go.dup K at_271 rfl (pc' := 272) rfl ?_
          refine Go.iconst K (v := 1) at_272 rfl (pc' := 273) rfl ?_
          refine Go.iload K at_273 rfl (pc' := 275) rfl ?_
          refine Go.castore K V607 1 rfl (Nat.le_of_ble_eq_true rfl) ⟨by decide, by decide⟩ g_bidd at_275 (pc' := 276) rfl ?_
          intro h617 K618 V619
          replace V619 : Arv Z h617 bidd kA_bidd .char (2 : Int32) [(.int (nar .char ((p1 &&& (255 : Int32)).toUInt32.toUInt16.toUInt32.toInt32))), (.int (nar .char ((p2 &&& (255 : Int32)).toUInt32.toUInt16.toUInt32.toInt32)))] (.int (0 : Int32)) := V619
          have f620 := Safe.keep K618 (sfS (Safe.arv K.cz.alike V607 (by decide)) sf0) cr609.1 f608
          have cr621 := cr609.trans (CHr.keep K618 (sfS (Safe.arv K.cz.alike V607 (by decide)) sf0) cr609.1)
          have f622 := f610.keep K618
          have f623 := f611.keep K618
          have f624 := f612.keep K618 (ninS ne591 nin0)
          have f625 := f613.keep K618 (ninS ne591 nin0)
          have od627 := od615.keep K618 (allS g_bidd all0)
          have z628 := Nat.le_trans z616 K618.1
          have hp : ∀ c ∈ ([(nar .char ((p1 &&& (255 : Int32)).toUInt32.toUInt16.toUInt32.toInt32)), (nar .char ((p2 &&& (255 : Int32)).toUInt32.toUInt16.toUInt32.toInt32))] : List Int32), ¬ c < 0 ∧ ¬ (255 : Int32) < c := by
            intro c hc
            simp only [List.mem_cons, List.not_mem_nil, or_false] at hc
            rcases hc with rfl | rfl
            · exact own_and255 p1
            · exact own_and255 p2
          refine Go.callC K (y := (⟨"java/lang/String", "<init>", "([C)V"⟩ : MethodName)) (W := 1) (kc := 1) (nc := 2) (a := idd) rfl (mvT K.cz (hw _ (List.mem_of_getElem? (i := 110) rfl))) (mvT K.cz (hw _ (List.mem_of_getElem? (i := 111) rfl))) (mvT K.cz (hw _ (List.mem_of_getElem? (i := 112) rfl))) (by decide) (paysNew (W := 1) K.cz hws (kI := 4) (hw _ (List.mem_of_getElem? (i := 51) rfl)) (cs := ([(nar .char ((p1 &&& (255 : Int32)).toUInt32.toUInt16.toUInt32.toInt32)), (nar .char ((p2 &&& (255 : Int32)).toUInt32.toUInt16.toUInt32.toInt32))] : List Int32)) (bs := ([(nar .char ((p1 &&& (255 : Int32)).toUInt32.toUInt16.toUInt32.toInt32)), (nar .char ((p2 &&& (255 : Int32)).toUInt32.toUInt16.toUInt32.toInt32))] : List Int32).map (fun c => c.toInt8.toInt32)) (n := 2) g_idd z628 f623 f624 f625 V619 (S1.ext od627.2) P1 rfl rfl (by decide) (by decide) hp rfl (by decide) (by decide)) rfl (argsL := [(.ref bidd)]) (rest := [(.ref idd)]) (lenOf pd__28_5bC_29V rfl) rfl (Nat.le_of_ble_eq_true rfl) (by show _ ≤ 32; omega) (by show _ ≤ 3264; omega) (fun v h' L q => q.2.1) (fun v h' L q => q.2.2.1.1) at_276 (pc' := 279) rfl ?_
          rintro v631 h629 Lc630 ⟨rfl, Nq, Kq_idd, E_idd, C_idd, t1, kb_idd, ht0, ht1_idd, htne, F_idd, V_t1⟩
          have ne632 : ra ≠ t1 := own_ne f622.lt ht1_idd
          have ne633 : idd ≠ t1 := own_ne f623.lt ht1_idd
          have ne634 : bidd ≠ t1 := own_ne V619.lt ht1_idd
          have f635 := Safe.keep Kq_idd (sfS f620 sf0) cr621.1 f620
          have cr636 := cr621.trans (CHr.keep Kq_idd (sfS f620 sf0) cr621.1)
          have f637 := f622.keep Kq_idd
          have f638 := f623.keep Kq_idd
          have f641 := V619.keep Kq_idd (ninS (Ne.symm ne591) nin0)
          have od642 := od627.keep Kq_idd (allS g_idd all0)
          have z643 := Nat.le_trans z628 Kq_idd.1
          show Go p l e _ _ m _ below meth c _ _ _ _ h629 _ _ (mkF m 279 #[.val (.int p0), .val (.int p1), .val (.int p2), .val (.int p3), .val (.ref ar), .val (.ref ra), .val (.int ((p1 &&& (255 : Int32)).toUInt32.toUInt16.toUInt32.toInt32)), .val (.int ((p2 &&& (255 : Int32)).toUInt32.toUInt16.toUInt32.toInt32)), .val (.int (3 : Int32)), .unset, .unset, .unset, .unset] [(.ref idd)])
          refine Go.astore K at_279 rfl (Ls' := #[.val (.int p0), .val (.int p1), .val (.int p2), .val (.int p3), .val (.ref ar), .val (.ref ra), .val (.int ((p1 &&& (255 : Int32)).toUInt32.toUInt16.toUInt32.toInt32)), .val (.int ((p2 &&& (255 : Int32)).toUInt32.toUInt16.toUInt32.toInt32)), .val (.int (3 : Int32)), .val (.ref idd), .unset, .unset, .unset]) rfl (pc' := 281) rfl ?_
          refine Go.newO K (hw _ (List.mem_of_getElem? (i := 108) rfl)) (hw _ (List.mem_of_getElem? (i := 51) rfl)) (hw _ (List.mem_of_getElem? (i := 50) rfl)) (by show _ ≤ 32; omega) (by show _ ≤ 3264; omega) at_281 (pc' := 284) rfl ?_
          intro h644 ex eq647 E645 E_ex D646
          have ne648 : ra ≠ ex := own_ne f637.lt (Nat.le_of_eq eq647.symm)
          have ne649 : idd ≠ ex := own_ne E_idd.lt (Nat.le_of_eq eq647.symm)
          have ne650 : t1 ≠ ex := own_ne V_t1.lt (Nat.le_of_eq eq647.symm)
          have g_ex : n0 ≤ ex := Nat.le_trans z643 (Nat.le_of_eq eq647.symm)
          have sf651 := Safe.ext E645 cr636.1 (Safe.new (Nat.le_of_eq eq647.symm))
          have f654 := Safe.ext E645 cr636.1 f635
          have f658 := f637.ext E645
          have f659 := E_idd.ext E645
          have f660 := C_idd.ext E645
          have f661 := F_idd.ext E645
          have f662 := V_t1.ext E645
          have od663 := od642.ext E645
          have z664 := Nat.le_trans z643 E645.1
          have cr665 := cr636.trans (CHr.ext E645 cr636.1)
          have f666 : Fld Z h644 ex "java/lang/String" "value" "[B" .null := D646 (Or.inr (hw _ (List.mem_of_getElem? (i := 53) rfl))) (ty := (.array .byte)) (by decide)
          have f667 : Fld Z h644 ex "java/lang/String" "coder" "B" (.int (0 : Int32)) := D646 (Or.inr (hw _ (List.mem_of_getElem? (i := 54) rfl))) (ty := .byte) (by decide)
          refine Go.dup K at_284 rfl (pc' := 285) rfl ?_
          refine Go.iconst K (v := 2) at_285 rfl (pc' := 286) rfl ?_
          refine Go.newP K (hw _ (List.mem_of_getElem? (i := 109) rfl)) (by decide) 2 (by decide) (by decide) (by show _ ≤ 32; omega) (by show _ ≤ 3264; omega) at_286 (pc' := 288) rfl ?_
          intro h668 bex kA_bex eq670 E669 V_bex
          have ne671 : ra ≠ bex := own_ne f658.lt (Nat.le_of_eq eq670.symm)
          have ne672 : idd ≠ bex := own_ne f659.lt (Nat.le_of_eq eq670.symm)
          have ne673 : t1 ≠ bex := own_ne f662.lt (Nat.le_of_eq eq670.symm)
          have ne674 : ex ≠ bex := own_ne E_ex.lt (Nat.le_of_eq eq670.symm)
          have g_bex : n0 ≤ bex := Nat.le_trans z664 (Nat.le_of_eq eq670.symm)
          have f677 := Safe.ext E669 cr665.1 f654
          have f682 := Safe.ext E669 cr665.1 sf651
          have f685 := f658.ext E669
          have f686 := f659.ext E669
          have f687 := f660.ext E669
          have f688 := f661.ext E669
          have f689 := f662.ext E669
          have f690 := E_ex.ext E669
          have f691 := f666.ext E669
          have f692 := f667.ext E669
          have od693 := od663.ext E669
          have z694 := Nat.le_trans z664 E669.1
          have cr695 := cr665.trans (CHr.ext E669 cr665.1)
          have V696 : Arv Z h668 bex kA_bex .char (2 : Int32) [(.int (0 : Int32)), (.int (0 : Int32))] (.int (0 : Int32)) := V_bex.pad (pad_rep [] (.int (0 : Int32)) 2)
          refine Go.dup K at_288 rfl (pc' := 289) rfl ?_
          refine Go.iconst K (v := 0) at_289 rfl (pc' := 290) rfl ?_
          refine Go.iload K at_290 rfl (pc' := 292) rfl ?_
          refine Go.castore K V696 0 rfl (Nat.le_of_ble_eq_true rfl) ⟨by decide, by decide⟩ g_bex at_292 (pc' := 293) rfl ?_
          intro h697 K698 V699
          replace V699 : Arv Z h697 bex kA_bex .char (2 : Int32) [(.int (nar .char ((p1 &&& (255 : Int32)).toUInt32.toUInt16.toUInt32.toInt32))), (.int (0 : Int32))] (.int (0 : Int32)) := V699
          have f700 := Safe.keep K698 (sfS (Safe.arv K.cz.alike V696 (by decide)) sf0) cr695.1 f677
          have f701 := Safe.keep K698 (sfS (Safe.arv K.cz.alike V696 (by decide)) sf0) cr695.1 f682
          have cr702 := cr695.trans (CHr.keep K698 (sfS (Safe.arv K.cz.alike V696 (by decide)) sf0) cr695.1)
          have f703 := f685.keep K698
          have f704 := f686.keep K698
          have f705 := f687.keep K698 (ninS ne672 nin0)
          have f706 := f688.keep K698 (ninS ne672 nin0)
          have f707 := f689.keep K698 (ninS ne673 nin0)
          have f708 := f690.keep K698
          have f709 := f691.keep K698 (ninS ne674 nin0)
          have f710 := f692.keep K698 (ninS ne674 nin0)
          have od712 := od693.keep K698 (allS g_bex all0)
          have z713 := Nat.le_trans z694 K698.1
          refine Go.dup K at_293 rfl (pc' := 294) rfl ?_
          refine Go.iconst K (v := 1) at_294 rfl (pc' := 295) rfl ?_
          refine Go.iload K at_295 rfl (pc' := 297) rfl ?_
          refine Go.castore K V699 1 rfl (Nat.le_of_ble_eq_true rfl) ⟨by decide, by decide⟩ g_bex at_297 (pc' := 298) rfl ?_
          intro h714 K715 V716
          replace V716 : Arv Z h714 bex kA_bex .char (2 : Int32) [(.int (nar .char ((p1 &&& (255 : Int32)).toUInt32.toUInt16.toUInt32.toInt32))), (.int (nar .char ((p2 &&& (255 : Int32)).toUInt32.toUInt16.toUInt32.toInt32)))] (.int (0 : Int32)) := V716
          have f717 := Safe.keep K715 (sfS (Safe.arv K.cz.alike V699 (by decide)) sf0) cr702.1 f700
          have f718 := Safe.keep K715 (sfS (Safe.arv K.cz.alike V699 (by decide)) sf0) cr702.1 f701
          have cr719 := cr702.trans (CHr.keep K715 (sfS (Safe.arv K.cz.alike V699 (by decide)) sf0) cr702.1)
          have f720 := f703.keep K715
          have f721 := f704.keep K715
          have f722 := f705.keep K715 (ninS ne672 nin0)
          have f723 := f706.keep K715 (ninS ne672 nin0)
          have f724 := f707.keep K715 (ninS ne673 nin0)
          have f725 := f708.keep K715
          have f726 := f709.keep K715 (ninS ne674 nin0)
          have f727 := f710.keep K715 (ninS ne674 nin0)
          have od729 := od712.keep K715 (allS g_bex all0)
          have z730 := Nat.le_trans z713 K715.1
          refine Go.callC K (y := (⟨"java/lang/String", "<init>", "([C)V"⟩ : MethodName)) (W := 1) (kc := 1) (nc := 2) (a := ex) rfl (mvT K.cz (hw _ (List.mem_of_getElem? (i := 110) rfl))) (mvT K.cz (hw _ (List.mem_of_getElem? (i := 111) rfl))) (mvT K.cz (hw _ (List.mem_of_getElem? (i := 112) rfl))) (by decide) (paysNew (W := 1) K.cz hws (kI := 4) (hw _ (List.mem_of_getElem? (i := 51) rfl)) (cs := ([(nar .char ((p1 &&& (255 : Int32)).toUInt32.toUInt16.toUInt32.toInt32)), (nar .char ((p2 &&& (255 : Int32)).toUInt32.toUInt16.toUInt32.toInt32))] : List Int32)) (bs := ([(nar .char ((p1 &&& (255 : Int32)).toUInt32.toUInt16.toUInt32.toInt32)), (nar .char ((p2 &&& (255 : Int32)).toUInt32.toUInt16.toUInt32.toInt32))] : List Int32).map (fun c => c.toInt8.toInt32)) (n := 2) g_ex z730 f725 f726 f727 V716 (S1.ext od729.2) P1 rfl rfl (by decide) (by decide) hp rfl (by decide) (by decide)) rfl (argsL := [(.ref bex)]) (rest := [(.ref ex)]) (lenOf pd__28_5bC_29V rfl) rfl (Nat.le_of_ble_eq_true rfl) (by show _ ≤ 32; omega) (by show _ ≤ 3264; omega) (fun v h' L q => q.2.1) (fun v h' L q => q.2.2.1.1) at_298 (pc' := 301) rfl ?_
          rintro v733 h731 Lc732 ⟨rfl, Nq, Kq_ex, E_ex, C_ex, t2, kb_ex, ht0, ht1_ex, htne, F_ex, V_t2⟩
          have ne734 : ra ≠ t2 := own_ne f720.lt ht1_ex
          have ne735 : ex ≠ t2 := own_ne f725.lt ht1_ex
          have ne736 : bex ≠ t2 := own_ne V716.lt ht1_ex
          have ne737 : idd ≠ t2 := own_ne f721.lt ht1_ex
          have ne738 : t1 ≠ t2 := own_ne f724.lt ht1_ex
          have f739 := Safe.keep Kq_ex (sfS f718 sf0) cr719.1 f717
          have f740 := Safe.keep Kq_ex (sfS f718 sf0) cr719.1 f718
          have cr741 := cr719.trans (CHr.keep Kq_ex (sfS f718 sf0) cr719.1)
          have f742 := f720.keep Kq_ex
          have f743 := f721.keep Kq_ex
          have f744 := f722.keep Kq_ex (ninS ne649 nin0)
          have f745 := f723.keep Kq_ex (ninS ne649 nin0)
          have f746 := f724.keep Kq_ex (ninS ne650 nin0)
          have f747 := f725.keep Kq_ex
          have f750 := V716.keep Kq_ex (ninS (Ne.symm ne674) nin0)
          have od751 := od729.keep Kq_ex (allS g_ex all0)
          have z752 := Nat.le_trans z730 Kq_ex.1
          show Go p l e _ _ m _ below meth c _ _ _ _ h731 _ _ (mkF m 301 #[.val (.int p0), .val (.int p1), .val (.int p2), .val (.int p3), .val (.ref ar), .val (.ref ra), .val (.int ((p1 &&& (255 : Int32)).toUInt32.toUInt16.toUInt32.toInt32)), .val (.int ((p2 &&& (255 : Int32)).toUInt32.toUInt16.toUInt32.toInt32)), .val (.int (3 : Int32)), .val (.ref idd), .unset, .unset, .unset] [(.ref ex)])
          have hc : StrChars.Road.CodA ([(nar .char ((p1 &&& (255 : Int32)).toUInt32.toUInt16.toUInt32.toInt32)), (nar .char ((p2 &&& (255 : Int32)).toUInt32.toUInt16.toUInt32.toInt32))] : List Int32) 0 (2 : Int32) ((([(nar .char ((p1 &&& (255 : Int32)).toUInt32.toUInt16.toUInt32.toInt32)), (nar .char ((p2 &&& (255 : Int32)).toUInt32.toUInt16.toUInt32.toInt32))] : List Int32).map (fun c => c.toInt8.toInt32)).map Value.int) := StrChars.Road.codOf (n := 2) rfl (fun c q => (hp c q).2)
          have hb : ∀ c ∈ ([(nar .char ((p1 &&& (255 : Int32)).toUInt32.toUInt16.toUInt32.toInt32)), (nar .char ((p2 &&& (255 : Int32)).toUInt32.toUInt16.toUInt32.toInt32))] : List Int32), ¬ c < 0 ∧ ¬ (65535 : Int32) < c := fun c q => ⟨(hp c q).1, own_65 (hp c q).2⟩
          refine Go.astore K at_301 rfl (Ls' := #[.val (.int p0), .val (.int p1), .val (.int p2), .val (.int p3), .val (.ref ar), .val (.ref ra), .val (.int ((p1 &&& (255 : Int32)).toUInt32.toUInt16.toUInt32.toInt32)), .val (.int ((p2 &&& (255 : Int32)).toUInt32.toUInt16.toUInt32.toInt32)), .val (.int (3 : Int32)), .val (.ref idd), .val (.ref ex), .unset, .unset]) rfl (pc' := 303) rfl ?_
          exact segT hw wS hEL hws hwe K hS h0 h731 n0 z752 cr741 od751 zc S1 P1 ([(nar .char ((p1 &&& (255 : Int32)).toUInt32.toUInt16.toUInt32.toInt32)), (nar .char ((p2 &&& (255 : Int32)).toUInt32.toUInt16.toUInt32.toInt32))] : List Int32) (Nat.le_of_ble_eq_true rfl) hb idd t1 _ _ _ f743 f745 f744 f746 hc ex t2 _ _ _ E_ex F_ex C_ex V_t2 hc ra f742 ar p0 p1 p2 p3 _ _ _ _ _ (by omega) (by omega)
        · replace h239 : ¬ (¬ (3 : Int32) = (2 : Int32)) := h239
          exact absurd (by decide) h239
      · replace h206 : ¬ (¬ (3 : Int32) = (1 : Int32)) := h206
        exact absurd (by decide) h206
    · replace h190 : ¬ (¬ (3 : Int32) = 0) := h190
      exact absurd (by decide) h190
theorem ef_law (m : MethodId) (p0 : Int32) (p1 : Int32) (p2 : Int32) (p3 : Int32) : entryFrame m #[(.int p0), (.int p1), (.int p2), (.int p3)] maxLocals = mkF m 0 #[.val (.int p0), .val (.int p1), .val (.int p2), .val (.int p3), .unset, .unset, .unset, .unset, .unset, .unset, .unset, .unset, .unset] [] := by first | (simp [entryFrame, mkF, argsToLocals, Value.category, maxLocals]; done) | rfl
theorem pn_com_example_eunomia_eunomia_AnswerRefusedPinLaw : plainName "com/example/eunomia/eunomia/AnswerRefusedPinLaw" = true := by first | (simp [plainName, overriddenIn]; done) | decide +kernel
set_option maxRecDepth 65536 in
set_option maxHeartbeats 40000000 in
theorem m_law (l : Launch) (Z : State) (a0 : Array Value) (hw : ∀ d ∈ tables_1, d.before a0 Z = true) (h0 : Heap) (n0 : Nat) (Z0 : n0 ≤ h0.size) (wS : ∀ a ∈ Bundle.stringAtoms, a.before a0 Z = true) (hEL : EW Z a0 [("com/example/eunomia/eunomia/Answer", 9), ("com/example/eunomia/eunomia/AnswerRefusedPinLaw", 77), ("java/lang/String", 7)]) (p0 : Int32) (p1 : Int32) (p2 : Int32) (p3 : Int32) (zc : Int32) (S1 : Sta Z Z.heap "java/lang/String" "COMPACT_STRINGS" "Z" (.int zc)) (P1 : ¬ (zc = (0 : Int32))) (od : Old Z n0 h0) (r0 r1 r2 r3 r4 r5 r6 r7 r8 r9 r10 r11 r12 r13 r14 r15 r16 r17 r18 r19 r20 r21 : Addr) (S_r0 : Sta Z Z.heap "com/example/eunomia/eunomia/Reason" "MALFORMED" "Lcom/example/eunomia/eunomia/Reason;" (.ref r0)) (S_r1 : Sta Z Z.heap "com/example/eunomia/eunomia/Reason" "UNKNOWN_USER" "Lcom/example/eunomia/eunomia/Reason;" (.ref r1)) (S_r2 : Sta Z Z.heap "com/example/eunomia/eunomia/Reason" "BAD_SIGNATURE" "Lcom/example/eunomia/eunomia/Reason;" (.ref r2)) (S_r3 : Sta Z Z.heap "com/example/eunomia/eunomia/Reason" "REPLAYED" "Lcom/example/eunomia/eunomia/Reason;" (.ref r3)) (S_r4 : Sta Z Z.heap "com/example/eunomia/eunomia/Reason" "NOT_OFFICER" "Lcom/example/eunomia/eunomia/Reason;" (.ref r4)) (S_r5 : Sta Z Z.heap "com/example/eunomia/eunomia/Reason" "NAME_TAKEN" "Lcom/example/eunomia/eunomia/Reason;" (.ref r5)) (S_r6 : Sta Z Z.heap "com/example/eunomia/eunomia/Reason" "INVALID_KEY" "Lcom/example/eunomia/eunomia/Reason;" (.ref r6)) (S_r7 : Sta Z Z.heap "com/example/eunomia/eunomia/Reason" "INVALID_GRANT" "Lcom/example/eunomia/eunomia/Reason;" (.ref r7)) (S_r8 : Sta Z Z.heap "com/example/eunomia/eunomia/Reason" "OFFICER_CANNOT_EXECUTE" "Lcom/example/eunomia/eunomia/Reason;" (.ref r8)) (S_r9 : Sta Z Z.heap "com/example/eunomia/eunomia/Reason" "SOD_CONFLICT" "Lcom/example/eunomia/eunomia/Reason;" (.ref r9)) (S_r10 : Sta Z Z.heap "com/example/eunomia/eunomia/Reason" "INVALID_DEFINITION" "Lcom/example/eunomia/eunomia/Reason;" (.ref r10)) (S_r11 : Sta Z Z.heap "com/example/eunomia/eunomia/Reason" "NOT_CERTIFIED" "Lcom/example/eunomia/eunomia/Reason;" (.ref r11)) (S_r12 : Sta Z Z.heap "com/example/eunomia/eunomia/Reason" "UNKNOWN_TP" "Lcom/example/eunomia/eunomia/Reason;" (.ref r12)) (S_r13 : Sta Z Z.heap "com/example/eunomia/eunomia/Reason" "UNCERTIFIED_TP" "Lcom/example/eunomia/eunomia/Reason;" (.ref r13)) (S_r14 : Sta Z Z.heap "com/example/eunomia/eunomia/Reason" "NO_TRIPLE" "Lcom/example/eunomia/eunomia/Reason;" (.ref r14)) (S_r15 : Sta Z Z.heap "com/example/eunomia/eunomia/Reason" "SOD_HISTORY" "Lcom/example/eunomia/eunomia/Reason;" (.ref r15)) (S_r16 : Sta Z Z.heap "com/example/eunomia/eunomia/Reason" "INVALID_INPUT" "Lcom/example/eunomia/eunomia/Reason;" (.ref r16)) (S_r17 : Sta Z Z.heap "com/example/eunomia/eunomia/Reason" "UNKNOWN_CDI" "Lcom/example/eunomia/eunomia/Reason;" (.ref r17)) (S_r18 : Sta Z Z.heap "com/example/eunomia/eunomia/Reason" "CDI_EXISTS" "Lcom/example/eunomia/eunomia/Reason;" (.ref r18)) (S_r19 : Sta Z Z.heap "com/example/eunomia/eunomia/Reason" "REQUIRES_FAILED" "Lcom/example/eunomia/eunomia/Reason;" (.ref r19)) (S_r20 : Sta Z Z.heap "com/example/eunomia/eunomia/Reason" "INVALID_RESULT" "Lcom/example/eunomia/eunomia/Reason;" (.ref r20)) (S_r21 : Sta Z Z.heap "com/example/eunomia/eunomia/Reason" "IVP_FAILED" "Lcom/example/eunomia/eunomia/Reason;" (.ref r21)) (ER : ∀ a ∈ [r0, r1, r2, r3, r4, r5, r6, r7, r8, r9, r10, r11, r12, r13, r14, r15, r16, r17, r18, r19, r20, r21], Exa Z Z.heap a "com/example/eunomia/eunomia/Reason") :
    MetW l Z tables_1 [("com/example/eunomia/eunomia/Answer", 9), ("com/example/eunomia/eunomia/AnswerRefusedPinLaw", 77), ("java/lang/String", 7)] x code maxLocals ret room_1 #[(.int p0), (.int p1), (.int p2), (.int p3)] h0 n0 (fun v _ => v = some (.int 1)) := by
  refine MetW.of (plainFor_of_name pn_com_example_eunomia_eunomia_AnswerRefusedPinLaw) ?_
  intro p e s m below meth c vm0 B hS HC K
  have CR := CHr.refl HC
  have hws : ∀ d ∈ StrChars.Road.words, d.before a0 Z = true := fun d hd => hw d ((by decide +kernel : ∀ d ∈ StrChars.Road.words, d ∈ tables_1) d hd)
  have hwe : ∀ d ∈ StrChars.Road.wordsEq, d.before a0 Z = true := fun d hd => hw d ((by decide +kernel : ∀ d ∈ StrChars.Road.wordsEq, d ∈ tables_1) d hd)
  refine Go.cast (ef_law m p0 p1 p2 p3) ?_
  refine Go.bipush K (v := 22) at_0 rfl (pc' := 2) rfl ?_
  refine Go.newR K (hw _ (List.mem_of_getElem? (i := 0) rfl)) (hw _ (List.mem_of_getElem? (i := 1) rfl)) (by decide) 22 (by decide) (by decide) (by decide) (by decide) at_2 (pc' := 5) rfl ?_
  intro h753 ar kA_ar eq755 E754 V_ar O_ar
  have g_ar : n0 ≤ ar := Nat.le_trans Z0 (Nat.le_of_eq eq755.symm)
  have od756 := od.ext E754
  have z757 := Nat.le_trans Z0 E754.1
  have cr758 := CR.trans (CHr.ext E754 CR.1)
  have V759 : Arv Z h753 ar kA_ar (.object "com/example/eunomia/eunomia/Reason") (22 : Int32) [.null, .null, .null, .null, .null, .null, .null, .null, .null, .null, .null, .null, .null, .null, .null, .null, .null, .null, .null, .null, .null, .null] .null := V_ar.pad (pad_rep [] .null 22)
  refine Go.dup K at_5 rfl (pc' := 6) rfl ?_
  refine Go.iconst K (v := 0) at_6 rfl (pc' := 7) rfl ?_
  refine Go.getS K (host := "") (Or.inl (hw _ (List.mem_of_getElem? (i := 2) rfl))) Via.refl (S_r0.ext od756.2) at_7 (pc' := 10) rfl ?_
  refine Go.aastore K V759 (Or.inr ⟨_, rfl, O_ar, (Ins.self ((ER _ (List.mem_of_getElem? (i := 0) rfl)).ext od756.2))⟩) 0 rfl (Nat.le_of_ble_eq_true rfl) ⟨by decide, by decide⟩ g_ar at_10 (pc' := 11) rfl ?_
  intro h760 K761 V762
  replace V762 : Arv Z h760 ar kA_ar (.object "com/example/eunomia/eunomia/Reason") (22 : Int32) [(.ref r0), .null, .null, .null, .null, .null, .null, .null, .null, .null, .null, .null, .null, .null, .null, .null, .null, .null, .null, .null, .null, .null] .null := V762
  have cr763 := cr758.trans (CHr.keep K761 (sfS (Safe.arv K.cz.alike V759 (by decide)) sf0) cr758.1)
  have od765 := od756.keep K761 (allS g_ar all0)
  have z766 := Nat.le_trans z757 K761.1
  refine Go.dup K at_11 rfl (pc' := 12) rfl ?_
  refine Go.iconst K (v := 1) at_12 rfl (pc' := 13) rfl ?_
  refine Go.getS K (host := "") (Or.inl (hw _ (List.mem_of_getElem? (i := 6) rfl))) Via.refl (S_r1.ext od765.2) at_13 (pc' := 16) rfl ?_
  refine Go.aastore K V762 (Or.inr ⟨_, rfl, O_ar, (Ins.self ((ER _ (List.mem_of_getElem? (i := 1) rfl)).ext od765.2))⟩) 1 rfl (Nat.le_of_ble_eq_true rfl) ⟨by decide, by decide⟩ g_ar at_16 (pc' := 17) rfl ?_
  intro h767 K768 V769
  replace V769 : Arv Z h767 ar kA_ar (.object "com/example/eunomia/eunomia/Reason") (22 : Int32) [(.ref r0), (.ref r1), .null, .null, .null, .null, .null, .null, .null, .null, .null, .null, .null, .null, .null, .null, .null, .null, .null, .null, .null, .null] .null := V769
  have cr770 := cr763.trans (CHr.keep K768 (sfS (Safe.arv K.cz.alike V762 (by decide)) sf0) cr763.1)
  have od772 := od765.keep K768 (allS g_ar all0)
  have z773 := Nat.le_trans z766 K768.1
  refine Go.dup K at_17 rfl (pc' := 18) rfl ?_
  refine Go.iconst K (v := 2) at_18 rfl (pc' := 19) rfl ?_
  refine Go.getS K (host := "") (Or.inl (hw _ (List.mem_of_getElem? (i := 8) rfl))) Via.refl (S_r2.ext od772.2) at_19 (pc' := 22) rfl ?_
  refine Go.aastore K V769 (Or.inr ⟨_, rfl, O_ar, (Ins.self ((ER _ (List.mem_of_getElem? (i := 2) rfl)).ext od772.2))⟩) 2 rfl (Nat.le_of_ble_eq_true rfl) ⟨by decide, by decide⟩ g_ar at_22 (pc' := 23) rfl ?_
  intro h774 K775 V776
  replace V776 : Arv Z h774 ar kA_ar (.object "com/example/eunomia/eunomia/Reason") (22 : Int32) [(.ref r0), (.ref r1), (.ref r2), .null, .null, .null, .null, .null, .null, .null, .null, .null, .null, .null, .null, .null, .null, .null, .null, .null, .null, .null] .null := V776
  have cr777 := cr770.trans (CHr.keep K775 (sfS (Safe.arv K.cz.alike V769 (by decide)) sf0) cr770.1)
  have od779 := od772.keep K775 (allS g_ar all0)
  have z780 := Nat.le_trans z773 K775.1
  refine Go.dup K at_23 rfl (pc' := 24) rfl ?_
  refine Go.iconst K (v := 3) at_24 rfl (pc' := 25) rfl ?_
  refine Go.getS K (host := "") (Or.inl (hw _ (List.mem_of_getElem? (i := 10) rfl))) Via.refl (S_r3.ext od779.2) at_25 (pc' := 28) rfl ?_
  refine Go.aastore K V776 (Or.inr ⟨_, rfl, O_ar, (Ins.self ((ER _ (List.mem_of_getElem? (i := 3) rfl)).ext od779.2))⟩) 3 rfl (Nat.le_of_ble_eq_true rfl) ⟨by decide, by decide⟩ g_ar at_28 (pc' := 29) rfl ?_
  intro h781 K782 V783
  replace V783 : Arv Z h781 ar kA_ar (.object "com/example/eunomia/eunomia/Reason") (22 : Int32) [(.ref r0), (.ref r1), (.ref r2), (.ref r3), .null, .null, .null, .null, .null, .null, .null, .null, .null, .null, .null, .null, .null, .null, .null, .null, .null, .null] .null := V783
  have cr784 := cr777.trans (CHr.keep K782 (sfS (Safe.arv K.cz.alike V776 (by decide)) sf0) cr777.1)
  have od786 := od779.keep K782 (allS g_ar all0)
  have z787 := Nat.le_trans z780 K782.1
  refine Go.dup K at_29 rfl (pc' := 30) rfl ?_
  refine Go.iconst K (v := 4) at_30 rfl (pc' := 31) rfl ?_
  refine Go.getS K (host := "") (Or.inl (hw _ (List.mem_of_getElem? (i := 12) rfl))) Via.refl (S_r4.ext od786.2) at_31 (pc' := 34) rfl ?_
  refine Go.aastore K V783 (Or.inr ⟨_, rfl, O_ar, (Ins.self ((ER _ (List.mem_of_getElem? (i := 4) rfl)).ext od786.2))⟩) 4 rfl (Nat.le_of_ble_eq_true rfl) ⟨by decide, by decide⟩ g_ar at_34 (pc' := 35) rfl ?_
  intro h788 K789 V790
  replace V790 : Arv Z h788 ar kA_ar (.object "com/example/eunomia/eunomia/Reason") (22 : Int32) [(.ref r0), (.ref r1), (.ref r2), (.ref r3), (.ref r4), .null, .null, .null, .null, .null, .null, .null, .null, .null, .null, .null, .null, .null, .null, .null, .null, .null] .null := V790
  have cr791 := cr784.trans (CHr.keep K789 (sfS (Safe.arv K.cz.alike V783 (by decide)) sf0) cr784.1)
  have od793 := od786.keep K789 (allS g_ar all0)
  have z794 := Nat.le_trans z787 K789.1
  refine Go.dup K at_35 rfl (pc' := 36) rfl ?_
  refine Go.iconst K (v := 5) at_36 rfl (pc' := 37) rfl ?_
  refine Go.getS K (host := "") (Or.inl (hw _ (List.mem_of_getElem? (i := 14) rfl))) Via.refl (S_r5.ext od793.2) at_37 (pc' := 40) rfl ?_
  refine Go.aastore K V790 (Or.inr ⟨_, rfl, O_ar, (Ins.self ((ER _ (List.mem_of_getElem? (i := 5) rfl)).ext od793.2))⟩) 5 rfl (Nat.le_of_ble_eq_true rfl) ⟨by decide, by decide⟩ g_ar at_40 (pc' := 41) rfl ?_
  intro h795 K796 V797
  replace V797 : Arv Z h795 ar kA_ar (.object "com/example/eunomia/eunomia/Reason") (22 : Int32) [(.ref r0), (.ref r1), (.ref r2), (.ref r3), (.ref r4), (.ref r5), .null, .null, .null, .null, .null, .null, .null, .null, .null, .null, .null, .null, .null, .null, .null, .null] .null := V797
  have cr798 := cr791.trans (CHr.keep K796 (sfS (Safe.arv K.cz.alike V790 (by decide)) sf0) cr791.1)
  have od800 := od793.keep K796 (allS g_ar all0)
  have z801 := Nat.le_trans z794 K796.1
  refine Go.dup K at_41 rfl (pc' := 42) rfl ?_
  refine Go.bipush K (v := 6) at_42 rfl (pc' := 44) rfl ?_
  refine Go.getS K (host := "") (Or.inl (hw _ (List.mem_of_getElem? (i := 16) rfl))) Via.refl (S_r6.ext od800.2) at_44 (pc' := 47) rfl ?_
  refine Go.aastore K V797 (Or.inr ⟨_, rfl, O_ar, (Ins.self ((ER _ (List.mem_of_getElem? (i := 6) rfl)).ext od800.2))⟩) 6 rfl (Nat.le_of_ble_eq_true rfl) ⟨by decide, by decide⟩ g_ar at_47 (pc' := 48) rfl ?_
  intro h802 K803 V804
  replace V804 : Arv Z h802 ar kA_ar (.object "com/example/eunomia/eunomia/Reason") (22 : Int32) [(.ref r0), (.ref r1), (.ref r2), (.ref r3), (.ref r4), (.ref r5), (.ref r6), .null, .null, .null, .null, .null, .null, .null, .null, .null, .null, .null, .null, .null, .null, .null] .null := V804
  have cr805 := cr798.trans (CHr.keep K803 (sfS (Safe.arv K.cz.alike V797 (by decide)) sf0) cr798.1)
  have od807 := od800.keep K803 (allS g_ar all0)
  have z808 := Nat.le_trans z801 K803.1
  refine Go.dup K at_48 rfl (pc' := 49) rfl ?_
  refine Go.bipush K (v := 7) at_49 rfl (pc' := 51) rfl ?_
  refine Go.getS K (host := "") (Or.inl (hw _ (List.mem_of_getElem? (i := 18) rfl))) Via.refl (S_r7.ext od807.2) at_51 (pc' := 54) rfl ?_
  refine Go.aastore K V804 (Or.inr ⟨_, rfl, O_ar, (Ins.self ((ER _ (List.mem_of_getElem? (i := 7) rfl)).ext od807.2))⟩) 7 rfl (Nat.le_of_ble_eq_true rfl) ⟨by decide, by decide⟩ g_ar at_54 (pc' := 55) rfl ?_
  intro h809 K810 V811
  replace V811 : Arv Z h809 ar kA_ar (.object "com/example/eunomia/eunomia/Reason") (22 : Int32) [(.ref r0), (.ref r1), (.ref r2), (.ref r3), (.ref r4), (.ref r5), (.ref r6), (.ref r7), .null, .null, .null, .null, .null, .null, .null, .null, .null, .null, .null, .null, .null, .null] .null := V811
  have cr812 := cr805.trans (CHr.keep K810 (sfS (Safe.arv K.cz.alike V804 (by decide)) sf0) cr805.1)
  have od814 := od807.keep K810 (allS g_ar all0)
  have z815 := Nat.le_trans z808 K810.1
  refine Go.dup K at_55 rfl (pc' := 56) rfl ?_
  refine Go.bipush K (v := 8) at_56 rfl (pc' := 58) rfl ?_
  refine Go.getS K (host := "") (Or.inl (hw _ (List.mem_of_getElem? (i := 20) rfl))) Via.refl (S_r8.ext od814.2) at_58 (pc' := 61) rfl ?_
  refine Go.aastore K V811 (Or.inr ⟨_, rfl, O_ar, (Ins.self ((ER _ (List.mem_of_getElem? (i := 8) rfl)).ext od814.2))⟩) 8 rfl (Nat.le_of_ble_eq_true rfl) ⟨by decide, by decide⟩ g_ar at_61 (pc' := 62) rfl ?_
  intro h816 K817 V818
  replace V818 : Arv Z h816 ar kA_ar (.object "com/example/eunomia/eunomia/Reason") (22 : Int32) [(.ref r0), (.ref r1), (.ref r2), (.ref r3), (.ref r4), (.ref r5), (.ref r6), (.ref r7), (.ref r8), .null, .null, .null, .null, .null, .null, .null, .null, .null, .null, .null, .null, .null] .null := V818
  have cr819 := cr812.trans (CHr.keep K817 (sfS (Safe.arv K.cz.alike V811 (by decide)) sf0) cr812.1)
  have od821 := od814.keep K817 (allS g_ar all0)
  have z822 := Nat.le_trans z815 K817.1
  refine Go.dup K at_62 rfl (pc' := 63) rfl ?_
  refine Go.bipush K (v := 9) at_63 rfl (pc' := 65) rfl ?_
  refine Go.getS K (host := "") (Or.inl (hw _ (List.mem_of_getElem? (i := 22) rfl))) Via.refl (S_r9.ext od821.2) at_65 (pc' := 68) rfl ?_
  refine Go.aastore K V818 (Or.inr ⟨_, rfl, O_ar, (Ins.self ((ER _ (List.mem_of_getElem? (i := 9) rfl)).ext od821.2))⟩) 9 rfl (Nat.le_of_ble_eq_true rfl) ⟨by decide, by decide⟩ g_ar at_68 (pc' := 69) rfl ?_
  intro h823 K824 V825
  replace V825 : Arv Z h823 ar kA_ar (.object "com/example/eunomia/eunomia/Reason") (22 : Int32) [(.ref r0), (.ref r1), (.ref r2), (.ref r3), (.ref r4), (.ref r5), (.ref r6), (.ref r7), (.ref r8), (.ref r9), .null, .null, .null, .null, .null, .null, .null, .null, .null, .null, .null, .null] .null := V825
  have cr826 := cr819.trans (CHr.keep K824 (sfS (Safe.arv K.cz.alike V818 (by decide)) sf0) cr819.1)
  have od828 := od821.keep K824 (allS g_ar all0)
  have z829 := Nat.le_trans z822 K824.1
  refine Go.dup K at_69 rfl (pc' := 70) rfl ?_
  refine Go.bipush K (v := 10) at_70 rfl (pc' := 72) rfl ?_
  refine Go.getS K (host := "") (Or.inl (hw _ (List.mem_of_getElem? (i := 24) rfl))) Via.refl (S_r10.ext od828.2) at_72 (pc' := 75) rfl ?_
  refine Go.aastore K V825 (Or.inr ⟨_, rfl, O_ar, (Ins.self ((ER _ (List.mem_of_getElem? (i := 10) rfl)).ext od828.2))⟩) 10 rfl (Nat.le_of_ble_eq_true rfl) ⟨by decide, by decide⟩ g_ar at_75 (pc' := 76) rfl ?_
  intro h830 K831 V832
  replace V832 : Arv Z h830 ar kA_ar (.object "com/example/eunomia/eunomia/Reason") (22 : Int32) [(.ref r0), (.ref r1), (.ref r2), (.ref r3), (.ref r4), (.ref r5), (.ref r6), (.ref r7), (.ref r8), (.ref r9), (.ref r10), .null, .null, .null, .null, .null, .null, .null, .null, .null, .null, .null] .null := V832
  have cr833 := cr826.trans (CHr.keep K831 (sfS (Safe.arv K.cz.alike V825 (by decide)) sf0) cr826.1)
  have od835 := od828.keep K831 (allS g_ar all0)
  have z836 := Nat.le_trans z829 K831.1
  refine Go.dup K at_76 rfl (pc' := 77) rfl ?_
  refine Go.bipush K (v := 11) at_77 rfl (pc' := 79) rfl ?_
  refine Go.getS K (host := "") (Or.inl (hw _ (List.mem_of_getElem? (i := 26) rfl))) Via.refl (S_r11.ext od835.2) at_79 (pc' := 82) rfl ?_
  refine Go.aastore K V832 (Or.inr ⟨_, rfl, O_ar, (Ins.self ((ER _ (List.mem_of_getElem? (i := 11) rfl)).ext od835.2))⟩) 11 rfl (Nat.le_of_ble_eq_true rfl) ⟨by decide, by decide⟩ g_ar at_82 (pc' := 83) rfl ?_
  intro h837 K838 V839
  replace V839 : Arv Z h837 ar kA_ar (.object "com/example/eunomia/eunomia/Reason") (22 : Int32) [(.ref r0), (.ref r1), (.ref r2), (.ref r3), (.ref r4), (.ref r5), (.ref r6), (.ref r7), (.ref r8), (.ref r9), (.ref r10), (.ref r11), .null, .null, .null, .null, .null, .null, .null, .null, .null, .null] .null := V839
  have cr840 := cr833.trans (CHr.keep K838 (sfS (Safe.arv K.cz.alike V832 (by decide)) sf0) cr833.1)
  have od842 := od835.keep K838 (allS g_ar all0)
  have z843 := Nat.le_trans z836 K838.1
  refine Go.dup K at_83 rfl (pc' := 84) rfl ?_
  refine Go.bipush K (v := 12) at_84 rfl (pc' := 86) rfl ?_
  refine Go.getS K (host := "") (Or.inl (hw _ (List.mem_of_getElem? (i := 28) rfl))) Via.refl (S_r12.ext od842.2) at_86 (pc' := 89) rfl ?_
  refine Go.aastore K V839 (Or.inr ⟨_, rfl, O_ar, (Ins.self ((ER _ (List.mem_of_getElem? (i := 12) rfl)).ext od842.2))⟩) 12 rfl (Nat.le_of_ble_eq_true rfl) ⟨by decide, by decide⟩ g_ar at_89 (pc' := 90) rfl ?_
  intro h844 K845 V846
  replace V846 : Arv Z h844 ar kA_ar (.object "com/example/eunomia/eunomia/Reason") (22 : Int32) [(.ref r0), (.ref r1), (.ref r2), (.ref r3), (.ref r4), (.ref r5), (.ref r6), (.ref r7), (.ref r8), (.ref r9), (.ref r10), (.ref r11), (.ref r12), .null, .null, .null, .null, .null, .null, .null, .null, .null] .null := V846
  have cr847 := cr840.trans (CHr.keep K845 (sfS (Safe.arv K.cz.alike V839 (by decide)) sf0) cr840.1)
  have od849 := od842.keep K845 (allS g_ar all0)
  have z850 := Nat.le_trans z843 K845.1
  refine Go.dup K at_90 rfl (pc' := 91) rfl ?_
  refine Go.bipush K (v := 13) at_91 rfl (pc' := 93) rfl ?_
  refine Go.getS K (host := "") (Or.inl (hw _ (List.mem_of_getElem? (i := 30) rfl))) Via.refl (S_r13.ext od849.2) at_93 (pc' := 96) rfl ?_
  refine Go.aastore K V846 (Or.inr ⟨_, rfl, O_ar, (Ins.self ((ER _ (List.mem_of_getElem? (i := 13) rfl)).ext od849.2))⟩) 13 rfl (Nat.le_of_ble_eq_true rfl) ⟨by decide, by decide⟩ g_ar at_96 (pc' := 97) rfl ?_
  intro h851 K852 V853
  replace V853 : Arv Z h851 ar kA_ar (.object "com/example/eunomia/eunomia/Reason") (22 : Int32) [(.ref r0), (.ref r1), (.ref r2), (.ref r3), (.ref r4), (.ref r5), (.ref r6), (.ref r7), (.ref r8), (.ref r9), (.ref r10), (.ref r11), (.ref r12), (.ref r13), .null, .null, .null, .null, .null, .null, .null, .null] .null := V853
  have cr854 := cr847.trans (CHr.keep K852 (sfS (Safe.arv K.cz.alike V846 (by decide)) sf0) cr847.1)
  have od856 := od849.keep K852 (allS g_ar all0)
  have z857 := Nat.le_trans z850 K852.1
  refine Go.dup K at_97 rfl (pc' := 98) rfl ?_
  refine Go.bipush K (v := 14) at_98 rfl (pc' := 100) rfl ?_
  refine Go.getS K (host := "") (Or.inl (hw _ (List.mem_of_getElem? (i := 32) rfl))) Via.refl (S_r14.ext od856.2) at_100 (pc' := 103) rfl ?_
  refine Go.aastore K V853 (Or.inr ⟨_, rfl, O_ar, (Ins.self ((ER _ (List.mem_of_getElem? (i := 14) rfl)).ext od856.2))⟩) 14 rfl (Nat.le_of_ble_eq_true rfl) ⟨by decide, by decide⟩ g_ar at_103 (pc' := 104) rfl ?_
  intro h858 K859 V860
  replace V860 : Arv Z h858 ar kA_ar (.object "com/example/eunomia/eunomia/Reason") (22 : Int32) [(.ref r0), (.ref r1), (.ref r2), (.ref r3), (.ref r4), (.ref r5), (.ref r6), (.ref r7), (.ref r8), (.ref r9), (.ref r10), (.ref r11), (.ref r12), (.ref r13), (.ref r14), .null, .null, .null, .null, .null, .null, .null] .null := V860
  have cr861 := cr854.trans (CHr.keep K859 (sfS (Safe.arv K.cz.alike V853 (by decide)) sf0) cr854.1)
  have od863 := od856.keep K859 (allS g_ar all0)
  have z864 := Nat.le_trans z857 K859.1
  refine Go.dup K at_104 rfl (pc' := 105) rfl ?_
  refine Go.bipush K (v := 15) at_105 rfl (pc' := 107) rfl ?_
  refine Go.getS K (host := "") (Or.inl (hw _ (List.mem_of_getElem? (i := 34) rfl))) Via.refl (S_r15.ext od863.2) at_107 (pc' := 110) rfl ?_
  refine Go.aastore K V860 (Or.inr ⟨_, rfl, O_ar, (Ins.self ((ER _ (List.mem_of_getElem? (i := 15) rfl)).ext od863.2))⟩) 15 rfl (Nat.le_of_ble_eq_true rfl) ⟨by decide, by decide⟩ g_ar at_110 (pc' := 111) rfl ?_
  intro h865 K866 V867
  replace V867 : Arv Z h865 ar kA_ar (.object "com/example/eunomia/eunomia/Reason") (22 : Int32) [(.ref r0), (.ref r1), (.ref r2), (.ref r3), (.ref r4), (.ref r5), (.ref r6), (.ref r7), (.ref r8), (.ref r9), (.ref r10), (.ref r11), (.ref r12), (.ref r13), (.ref r14), (.ref r15), .null, .null, .null, .null, .null, .null] .null := V867
  have cr868 := cr861.trans (CHr.keep K866 (sfS (Safe.arv K.cz.alike V860 (by decide)) sf0) cr861.1)
  have od870 := od863.keep K866 (allS g_ar all0)
  have z871 := Nat.le_trans z864 K866.1
  refine Go.dup K at_111 rfl (pc' := 112) rfl ?_
  refine Go.bipush K (v := 16) at_112 rfl (pc' := 114) rfl ?_
  refine Go.getS K (host := "") (Or.inl (hw _ (List.mem_of_getElem? (i := 36) rfl))) Via.refl (S_r16.ext od870.2) at_114 (pc' := 117) rfl ?_
  refine Go.aastore K V867 (Or.inr ⟨_, rfl, O_ar, (Ins.self ((ER _ (List.mem_of_getElem? (i := 16) rfl)).ext od870.2))⟩) 16 rfl (Nat.le_of_ble_eq_true rfl) ⟨by decide, by decide⟩ g_ar at_117 (pc' := 118) rfl ?_
  intro h872 K873 V874
  replace V874 : Arv Z h872 ar kA_ar (.object "com/example/eunomia/eunomia/Reason") (22 : Int32) [(.ref r0), (.ref r1), (.ref r2), (.ref r3), (.ref r4), (.ref r5), (.ref r6), (.ref r7), (.ref r8), (.ref r9), (.ref r10), (.ref r11), (.ref r12), (.ref r13), (.ref r14), (.ref r15), (.ref r16), .null, .null, .null, .null, .null] .null := V874
  have cr875 := cr868.trans (CHr.keep K873 (sfS (Safe.arv K.cz.alike V867 (by decide)) sf0) cr868.1)
  have od877 := od870.keep K873 (allS g_ar all0)
  have z878 := Nat.le_trans z871 K873.1
  refine Go.dup K at_118 rfl (pc' := 119) rfl ?_
  refine Go.bipush K (v := 17) at_119 rfl (pc' := 121) rfl ?_
  refine Go.getS K (host := "") (Or.inl (hw _ (List.mem_of_getElem? (i := 38) rfl))) Via.refl (S_r17.ext od877.2) at_121 (pc' := 124) rfl ?_
  refine Go.aastore K V874 (Or.inr ⟨_, rfl, O_ar, (Ins.self ((ER _ (List.mem_of_getElem? (i := 17) rfl)).ext od877.2))⟩) 17 rfl (Nat.le_of_ble_eq_true rfl) ⟨by decide, by decide⟩ g_ar at_124 (pc' := 125) rfl ?_
  intro h879 K880 V881
  replace V881 : Arv Z h879 ar kA_ar (.object "com/example/eunomia/eunomia/Reason") (22 : Int32) [(.ref r0), (.ref r1), (.ref r2), (.ref r3), (.ref r4), (.ref r5), (.ref r6), (.ref r7), (.ref r8), (.ref r9), (.ref r10), (.ref r11), (.ref r12), (.ref r13), (.ref r14), (.ref r15), (.ref r16), (.ref r17), .null, .null, .null, .null] .null := V881
  have cr882 := cr875.trans (CHr.keep K880 (sfS (Safe.arv K.cz.alike V874 (by decide)) sf0) cr875.1)
  have od884 := od877.keep K880 (allS g_ar all0)
  have z885 := Nat.le_trans z878 K880.1
  refine Go.dup K at_125 rfl (pc' := 126) rfl ?_
  refine Go.bipush K (v := 18) at_126 rfl (pc' := 128) rfl ?_
  refine Go.getS K (host := "") (Or.inl (hw _ (List.mem_of_getElem? (i := 40) rfl))) Via.refl (S_r18.ext od884.2) at_128 (pc' := 131) rfl ?_
  refine Go.aastore K V881 (Or.inr ⟨_, rfl, O_ar, (Ins.self ((ER _ (List.mem_of_getElem? (i := 18) rfl)).ext od884.2))⟩) 18 rfl (Nat.le_of_ble_eq_true rfl) ⟨by decide, by decide⟩ g_ar at_131 (pc' := 132) rfl ?_
  intro h886 K887 V888
  replace V888 : Arv Z h886 ar kA_ar (.object "com/example/eunomia/eunomia/Reason") (22 : Int32) [(.ref r0), (.ref r1), (.ref r2), (.ref r3), (.ref r4), (.ref r5), (.ref r6), (.ref r7), (.ref r8), (.ref r9), (.ref r10), (.ref r11), (.ref r12), (.ref r13), (.ref r14), (.ref r15), (.ref r16), (.ref r17), (.ref r18), .null, .null, .null] .null := V888
  have cr889 := cr882.trans (CHr.keep K887 (sfS (Safe.arv K.cz.alike V881 (by decide)) sf0) cr882.1)
  have od891 := od884.keep K887 (allS g_ar all0)
  have z892 := Nat.le_trans z885 K887.1
  refine Go.dup K at_132 rfl (pc' := 133) rfl ?_
  refine Go.bipush K (v := 19) at_133 rfl (pc' := 135) rfl ?_
  refine Go.getS K (host := "") (Or.inl (hw _ (List.mem_of_getElem? (i := 42) rfl))) Via.refl (S_r19.ext od891.2) at_135 (pc' := 138) rfl ?_
  refine Go.aastore K V888 (Or.inr ⟨_, rfl, O_ar, (Ins.self ((ER _ (List.mem_of_getElem? (i := 19) rfl)).ext od891.2))⟩) 19 rfl (Nat.le_of_ble_eq_true rfl) ⟨by decide, by decide⟩ g_ar at_138 (pc' := 139) rfl ?_
  intro h893 K894 V895
  replace V895 : Arv Z h893 ar kA_ar (.object "com/example/eunomia/eunomia/Reason") (22 : Int32) [(.ref r0), (.ref r1), (.ref r2), (.ref r3), (.ref r4), (.ref r5), (.ref r6), (.ref r7), (.ref r8), (.ref r9), (.ref r10), (.ref r11), (.ref r12), (.ref r13), (.ref r14), (.ref r15), (.ref r16), (.ref r17), (.ref r18), (.ref r19), .null, .null] .null := V895
  have cr896 := cr889.trans (CHr.keep K894 (sfS (Safe.arv K.cz.alike V888 (by decide)) sf0) cr889.1)
  have od898 := od891.keep K894 (allS g_ar all0)
  have z899 := Nat.le_trans z892 K894.1
  refine Go.dup K at_139 rfl (pc' := 140) rfl ?_
  refine Go.bipush K (v := 20) at_140 rfl (pc' := 142) rfl ?_
  refine Go.getS K (host := "") (Or.inl (hw _ (List.mem_of_getElem? (i := 44) rfl))) Via.refl (S_r20.ext od898.2) at_142 (pc' := 145) rfl ?_
  refine Go.aastore K V895 (Or.inr ⟨_, rfl, O_ar, (Ins.self ((ER _ (List.mem_of_getElem? (i := 20) rfl)).ext od898.2))⟩) 20 rfl (Nat.le_of_ble_eq_true rfl) ⟨by decide, by decide⟩ g_ar at_145 (pc' := 146) rfl ?_
  intro h900 K901 V902
  replace V902 : Arv Z h900 ar kA_ar (.object "com/example/eunomia/eunomia/Reason") (22 : Int32) [(.ref r0), (.ref r1), (.ref r2), (.ref r3), (.ref r4), (.ref r5), (.ref r6), (.ref r7), (.ref r8), (.ref r9), (.ref r10), (.ref r11), (.ref r12), (.ref r13), (.ref r14), (.ref r15), (.ref r16), (.ref r17), (.ref r18), (.ref r19), (.ref r20), .null] .null := V902
  have cr903 := cr896.trans (CHr.keep K901 (sfS (Safe.arv K.cz.alike V895 (by decide)) sf0) cr896.1)
  have od905 := od898.keep K901 (allS g_ar all0)
  have z906 := Nat.le_trans z899 K901.1
  refine Go.dup K at_146 rfl (pc' := 147) rfl ?_
  refine Go.bipush K (v := 21) at_147 rfl (pc' := 149) rfl ?_
  refine Go.getS K (host := "") (Or.inl (hw _ (List.mem_of_getElem? (i := 46) rfl))) Via.refl (S_r21.ext od905.2) at_149 (pc' := 152) rfl ?_
  refine Go.aastore K V902 (Or.inr ⟨_, rfl, O_ar, (Ins.self ((ER _ (List.mem_of_getElem? (i := 21) rfl)).ext od905.2))⟩) 21 rfl (Nat.le_of_ble_eq_true rfl) ⟨by decide, by decide⟩ g_ar at_152 (pc' := 153) rfl ?_
  intro h907 K908 V909
  replace V909 : Arv Z h907 ar kA_ar (.object "com/example/eunomia/eunomia/Reason") (22 : Int32) [(.ref r0), (.ref r1), (.ref r2), (.ref r3), (.ref r4), (.ref r5), (.ref r6), (.ref r7), (.ref r8), (.ref r9), (.ref r10), (.ref r11), (.ref r12), (.ref r13), (.ref r14), (.ref r15), (.ref r16), (.ref r17), (.ref r18), (.ref r19), (.ref r20), (.ref r21)] .null := V909
  have cr910 := cr903.trans (CHr.keep K908 (sfS (Safe.arv K.cz.alike V902 (by decide)) sf0) cr903.1)
  have od912 := od905.keep K908 (allS g_ar all0)
  have z913 := Nat.le_trans z906 K908.1
  refine Go.astore K at_153 rfl (Ls' := #[.val (.int p0), .val (.int p1), .val (.int p2), .val (.int p3), .val (.ref ar), .unset, .unset, .unset, .unset, .unset, .unset, .unset, .unset]) rfl (pc' := 155) rfl ?_
  refine Go.aload K at_155 rfl rfl (pc' := 157) rfl ?_
  refine Go.iloadN K at_157 rfl (pc' := 158) rfl ?_
  refine Go.ldcInt K (mvT K.cz (hw _ (List.mem_of_getElem? (i := 48) rfl))) at_158 (pc' := 160) rfl ?_
  refine Go.iand K at_160 (pc' := 161) rfl ?_
  refine Go.bipush K (v := 22) at_161 rfl (pc' := 163) rfl ?_
  refine Go.irem K at_163 (by decide) (pc' := 164) rfl ?_
  obtain ⟨ra, hra, Era⟩ := own_pick (P := fun a => Exa Z Z.heap a "com/example/eunomia/eunomia/Reason") [r0, r1, r2, r3, r4, r5, r6, r7, r8, r9, r10, r11, r12, r13, r14, r15, r16, r17, r18, r19, r20, r21] (own_nclt (n := 22) (by decide) (own_irem p3)) ER
  refine Go.aaload K (v := (.ref ra)) V909 (own_irem p3) hra at_164 (pc' := 165) rfl ?_
  refine Go.astore K at_165 rfl (Ls' := #[.val (.int p0), .val (.int p1), .val (.int p2), .val (.int p3), .val (.ref ar), .val (.ref ra), .unset, .unset, .unset, .unset, .unset, .unset, .unset]) rfl (pc' := 167) rfl ?_
  exact seg2 hw wS hEL hws hwe K hS h0 h907 n0 z913 cr910 od912 zc S1 P1 ra (Era.ext od912.2) ar p0 p1 p2 p3 _ _ (by decide) (by decide)
set_option maxRecDepth 65536 in
set_option maxHeartbeats 40000000 in
theorem comes_1 {Post : Tables → Env → Array Value → State → Outcome → State → Prop} (hpost : ∀ tb e args s v u, (limb_1_1.after args s (.returned v) u = true ∧ limb_1_2.after args s (.returned v) u = true ∧ True) → ReturnedEndW s (.returned v) u (Jvm.fieldLocs frame_1_writes args s ++ Jvm.arrayLocs frame_1_arrays args s ++ Jvm.staticLocs frame_1_statics s) 32 3264 → Post tb e args s (.returned v) u) :
    ArmFor flags0 classFile x code maxLocals ret World_1 tables_1 room_1 Calls_1 rest_1 Pre_1 Post := by
  intro l hfl _ _ p e ha hc hk s m args below hf hA hF happ hP
  obtain ⟨hcalls, hrest, hpre⟩ := hP
  obtain ⟨-, -, -, hnamed, -, -, -, hat⟩ := (Spec.applies_iff hf).mp happ
  obtain ⟨hg, hn⟩ := and_e (Cond.before_iff.mp (show (Jvm.Cond.and given_1 narrow_1).before args s = true from hpre))
  obtain ⟨q0, r0⟩ := and_e hg
  obtain ⟨q1, r1⟩ := and_e r0
  obtain ⟨q2, r2⟩ := and_e r1
  obtain ⟨q3, r3⟩ := and_e r2
  obtain ⟨w0, w1, w2, w3, rfl⟩ : ∃ w0 w1 w2 w3 : Value, args = #[w0, w1, w2, w3] := by
    have hs : args.size = 4 := by simpa [Cond.value, given_1] using q0
    obtain ⟨L⟩ := args
    match L, hs with
    | [w0, w1, w2, w3], _ => exact ⟨w0, w1, w2, w3, rfl⟩
  have hw := fun d (hd : d ∈ tables_1) => atoms_spec (ws := Jvm.Cond.code x code maxLocals ret :: tables_1) hat d (List.mem_cons_of_mem _ hd)
  obtain ⟨hsets, hown0⟩ := atoms_of _ (rest_1_c_eq ▸ (show rest_1_c.before _ s = true from hrest))
  have hr0 := Cond.before_iff.mp hown0
  have hfit : Fit s := fun {y c} hc i hi => by
    obtain ⟨ha, rfl⟩ := Array.getElem?_eq_some_iff.mp hc
    have q := List.all_eq_true.mp ((Array.all_eq_true_iff_forall_mem.mp hF) _ (Array.getElem_mem ha)) i (List.mem_range.mpr hi)
    simpa [Array.getElem?_eq_getElem hi] using q
  obtain ⟨i0, ei0⟩ := is_v q1
  obtain rfl : w0 = (.int i0) := Option.some.inj ei0
  obtain ⟨i1, ei1⟩ := is_v q2
  obtain rfl : w1 = (.int i1) := Option.some.inj ei1
  obtain ⟨i2, ei2⟩ := is_v q3
  obtain rfl : w2 = (.int i2) := Option.some.inj ei2
  obtain ⟨i3, ei3⟩ := is_v r3
  obtain rfl : w3 = (.int i3) := Option.some.inj ei3
  obtain ⟨zc, ezc⟩ := is_v (Cond.before_iff.mp (hsets _ (List.mem_of_getElem? (i := 1) rfl)))
  have S1 : Sta s s.heap "java/lang/String" "COMPACT_STRINGS" "Z" (.int zc) := Sta.start ezc (Or.inl (hsets _ (List.mem_of_getElem? (i := 0) rfl)))
  have P1 : ¬ (zc = (0 : Int32)) := gotF (Cond.eq_ints ezc (Term.int_eval (0))) (not_v (Cond.before_iff.mp (hsets _ (List.mem_of_getElem? (i := 2) rfl))))
  obtain ⟨qr0, hn0⟩ := and_e hn
  obtain ⟨r0, er0⟩ := exa_v qr0
  have S_r0 : Sta s s.heap "com/example/eunomia/eunomia/Reason" "MALFORMED" "Lcom/example/eunomia/eunomia/Reason;" (.ref r0) := Sta.start er0 (Or.inr ⟨(hw _ (List.mem_of_getElem? (i := 3) rfl)), (hw _ (List.mem_of_getElem? (i := 4) rfl))⟩)
  have E_r0 : Exa s s.heap r0 "com/example/eunomia/eunomia/Reason" := Exa.start er0 qr0
  obtain ⟨qr1, hn1⟩ := and_e hn0
  obtain ⟨r1, er1⟩ := exa_v qr1
  have S_r1 : Sta s s.heap "com/example/eunomia/eunomia/Reason" "UNKNOWN_USER" "Lcom/example/eunomia/eunomia/Reason;" (.ref r1) := Sta.start er1 (Or.inr ⟨(hw _ (List.mem_of_getElem? (i := 3) rfl)), (hw _ (List.mem_of_getElem? (i := 7) rfl))⟩)
  have E_r1 : Exa s s.heap r1 "com/example/eunomia/eunomia/Reason" := Exa.start er1 qr1
  obtain ⟨qr2, hn2⟩ := and_e hn1
  obtain ⟨r2, er2⟩ := exa_v qr2
  have S_r2 : Sta s s.heap "com/example/eunomia/eunomia/Reason" "BAD_SIGNATURE" "Lcom/example/eunomia/eunomia/Reason;" (.ref r2) := Sta.start er2 (Or.inr ⟨(hw _ (List.mem_of_getElem? (i := 3) rfl)), (hw _ (List.mem_of_getElem? (i := 9) rfl))⟩)
  have E_r2 : Exa s s.heap r2 "com/example/eunomia/eunomia/Reason" := Exa.start er2 qr2
  obtain ⟨qr3, hn3⟩ := and_e hn2
  obtain ⟨r3, er3⟩ := exa_v qr3
  have S_r3 : Sta s s.heap "com/example/eunomia/eunomia/Reason" "REPLAYED" "Lcom/example/eunomia/eunomia/Reason;" (.ref r3) := Sta.start er3 (Or.inr ⟨(hw _ (List.mem_of_getElem? (i := 3) rfl)), (hw _ (List.mem_of_getElem? (i := 11) rfl))⟩)
  have E_r3 : Exa s s.heap r3 "com/example/eunomia/eunomia/Reason" := Exa.start er3 qr3
  obtain ⟨qr4, hn4⟩ := and_e hn3
  obtain ⟨r4, er4⟩ := exa_v qr4
  have S_r4 : Sta s s.heap "com/example/eunomia/eunomia/Reason" "NOT_OFFICER" "Lcom/example/eunomia/eunomia/Reason;" (.ref r4) := Sta.start er4 (Or.inr ⟨(hw _ (List.mem_of_getElem? (i := 3) rfl)), (hw _ (List.mem_of_getElem? (i := 13) rfl))⟩)
  have E_r4 : Exa s s.heap r4 "com/example/eunomia/eunomia/Reason" := Exa.start er4 qr4
  obtain ⟨qr5, hn5⟩ := and_e hn4
  obtain ⟨r5, er5⟩ := exa_v qr5
  have S_r5 : Sta s s.heap "com/example/eunomia/eunomia/Reason" "NAME_TAKEN" "Lcom/example/eunomia/eunomia/Reason;" (.ref r5) := Sta.start er5 (Or.inr ⟨(hw _ (List.mem_of_getElem? (i := 3) rfl)), (hw _ (List.mem_of_getElem? (i := 15) rfl))⟩)
  have E_r5 : Exa s s.heap r5 "com/example/eunomia/eunomia/Reason" := Exa.start er5 qr5
  obtain ⟨qr6, hn6⟩ := and_e hn5
  obtain ⟨r6, er6⟩ := exa_v qr6
  have S_r6 : Sta s s.heap "com/example/eunomia/eunomia/Reason" "INVALID_KEY" "Lcom/example/eunomia/eunomia/Reason;" (.ref r6) := Sta.start er6 (Or.inr ⟨(hw _ (List.mem_of_getElem? (i := 3) rfl)), (hw _ (List.mem_of_getElem? (i := 17) rfl))⟩)
  have E_r6 : Exa s s.heap r6 "com/example/eunomia/eunomia/Reason" := Exa.start er6 qr6
  obtain ⟨qr7, hn7⟩ := and_e hn6
  obtain ⟨r7, er7⟩ := exa_v qr7
  have S_r7 : Sta s s.heap "com/example/eunomia/eunomia/Reason" "INVALID_GRANT" "Lcom/example/eunomia/eunomia/Reason;" (.ref r7) := Sta.start er7 (Or.inr ⟨(hw _ (List.mem_of_getElem? (i := 3) rfl)), (hw _ (List.mem_of_getElem? (i := 19) rfl))⟩)
  have E_r7 : Exa s s.heap r7 "com/example/eunomia/eunomia/Reason" := Exa.start er7 qr7
  obtain ⟨qr8, hn8⟩ := and_e hn7
  obtain ⟨r8, er8⟩ := exa_v qr8
  have S_r8 : Sta s s.heap "com/example/eunomia/eunomia/Reason" "OFFICER_CANNOT_EXECUTE" "Lcom/example/eunomia/eunomia/Reason;" (.ref r8) := Sta.start er8 (Or.inr ⟨(hw _ (List.mem_of_getElem? (i := 3) rfl)), (hw _ (List.mem_of_getElem? (i := 21) rfl))⟩)
  have E_r8 : Exa s s.heap r8 "com/example/eunomia/eunomia/Reason" := Exa.start er8 qr8
  obtain ⟨qr9, hn9⟩ := and_e hn8
  obtain ⟨r9, er9⟩ := exa_v qr9
  have S_r9 : Sta s s.heap "com/example/eunomia/eunomia/Reason" "SOD_CONFLICT" "Lcom/example/eunomia/eunomia/Reason;" (.ref r9) := Sta.start er9 (Or.inr ⟨(hw _ (List.mem_of_getElem? (i := 3) rfl)), (hw _ (List.mem_of_getElem? (i := 23) rfl))⟩)
  have E_r9 : Exa s s.heap r9 "com/example/eunomia/eunomia/Reason" := Exa.start er9 qr9
  obtain ⟨qr10, hn10⟩ := and_e hn9
  obtain ⟨r10, er10⟩ := exa_v qr10
  have S_r10 : Sta s s.heap "com/example/eunomia/eunomia/Reason" "INVALID_DEFINITION" "Lcom/example/eunomia/eunomia/Reason;" (.ref r10) := Sta.start er10 (Or.inr ⟨(hw _ (List.mem_of_getElem? (i := 3) rfl)), (hw _ (List.mem_of_getElem? (i := 25) rfl))⟩)
  have E_r10 : Exa s s.heap r10 "com/example/eunomia/eunomia/Reason" := Exa.start er10 qr10
  obtain ⟨qr11, hn11⟩ := and_e hn10
  obtain ⟨r11, er11⟩ := exa_v qr11
  have S_r11 : Sta s s.heap "com/example/eunomia/eunomia/Reason" "NOT_CERTIFIED" "Lcom/example/eunomia/eunomia/Reason;" (.ref r11) := Sta.start er11 (Or.inr ⟨(hw _ (List.mem_of_getElem? (i := 3) rfl)), (hw _ (List.mem_of_getElem? (i := 27) rfl))⟩)
  have E_r11 : Exa s s.heap r11 "com/example/eunomia/eunomia/Reason" := Exa.start er11 qr11
  obtain ⟨qr12, hn12⟩ := and_e hn11
  obtain ⟨r12, er12⟩ := exa_v qr12
  have S_r12 : Sta s s.heap "com/example/eunomia/eunomia/Reason" "UNKNOWN_TP" "Lcom/example/eunomia/eunomia/Reason;" (.ref r12) := Sta.start er12 (Or.inr ⟨(hw _ (List.mem_of_getElem? (i := 3) rfl)), (hw _ (List.mem_of_getElem? (i := 29) rfl))⟩)
  have E_r12 : Exa s s.heap r12 "com/example/eunomia/eunomia/Reason" := Exa.start er12 qr12
  obtain ⟨qr13, hn13⟩ := and_e hn12
  obtain ⟨r13, er13⟩ := exa_v qr13
  have S_r13 : Sta s s.heap "com/example/eunomia/eunomia/Reason" "UNCERTIFIED_TP" "Lcom/example/eunomia/eunomia/Reason;" (.ref r13) := Sta.start er13 (Or.inr ⟨(hw _ (List.mem_of_getElem? (i := 3) rfl)), (hw _ (List.mem_of_getElem? (i := 31) rfl))⟩)
  have E_r13 : Exa s s.heap r13 "com/example/eunomia/eunomia/Reason" := Exa.start er13 qr13
  obtain ⟨qr14, hn14⟩ := and_e hn13
  obtain ⟨r14, er14⟩ := exa_v qr14
  have S_r14 : Sta s s.heap "com/example/eunomia/eunomia/Reason" "NO_TRIPLE" "Lcom/example/eunomia/eunomia/Reason;" (.ref r14) := Sta.start er14 (Or.inr ⟨(hw _ (List.mem_of_getElem? (i := 3) rfl)), (hw _ (List.mem_of_getElem? (i := 33) rfl))⟩)
  have E_r14 : Exa s s.heap r14 "com/example/eunomia/eunomia/Reason" := Exa.start er14 qr14
  obtain ⟨qr15, hn15⟩ := and_e hn14
  obtain ⟨r15, er15⟩ := exa_v qr15
  have S_r15 : Sta s s.heap "com/example/eunomia/eunomia/Reason" "SOD_HISTORY" "Lcom/example/eunomia/eunomia/Reason;" (.ref r15) := Sta.start er15 (Or.inr ⟨(hw _ (List.mem_of_getElem? (i := 3) rfl)), (hw _ (List.mem_of_getElem? (i := 35) rfl))⟩)
  have E_r15 : Exa s s.heap r15 "com/example/eunomia/eunomia/Reason" := Exa.start er15 qr15
  obtain ⟨qr16, hn16⟩ := and_e hn15
  obtain ⟨r16, er16⟩ := exa_v qr16
  have S_r16 : Sta s s.heap "com/example/eunomia/eunomia/Reason" "INVALID_INPUT" "Lcom/example/eunomia/eunomia/Reason;" (.ref r16) := Sta.start er16 (Or.inr ⟨(hw _ (List.mem_of_getElem? (i := 3) rfl)), (hw _ (List.mem_of_getElem? (i := 37) rfl))⟩)
  have E_r16 : Exa s s.heap r16 "com/example/eunomia/eunomia/Reason" := Exa.start er16 qr16
  obtain ⟨qr17, hn17⟩ := and_e hn16
  obtain ⟨r17, er17⟩ := exa_v qr17
  have S_r17 : Sta s s.heap "com/example/eunomia/eunomia/Reason" "UNKNOWN_CDI" "Lcom/example/eunomia/eunomia/Reason;" (.ref r17) := Sta.start er17 (Or.inr ⟨(hw _ (List.mem_of_getElem? (i := 3) rfl)), (hw _ (List.mem_of_getElem? (i := 39) rfl))⟩)
  have E_r17 : Exa s s.heap r17 "com/example/eunomia/eunomia/Reason" := Exa.start er17 qr17
  obtain ⟨qr18, hn18⟩ := and_e hn17
  obtain ⟨r18, er18⟩ := exa_v qr18
  have S_r18 : Sta s s.heap "com/example/eunomia/eunomia/Reason" "CDI_EXISTS" "Lcom/example/eunomia/eunomia/Reason;" (.ref r18) := Sta.start er18 (Or.inr ⟨(hw _ (List.mem_of_getElem? (i := 3) rfl)), (hw _ (List.mem_of_getElem? (i := 41) rfl))⟩)
  have E_r18 : Exa s s.heap r18 "com/example/eunomia/eunomia/Reason" := Exa.start er18 qr18
  obtain ⟨qr19, hn19⟩ := and_e hn18
  obtain ⟨r19, er19⟩ := exa_v qr19
  have S_r19 : Sta s s.heap "com/example/eunomia/eunomia/Reason" "REQUIRES_FAILED" "Lcom/example/eunomia/eunomia/Reason;" (.ref r19) := Sta.start er19 (Or.inr ⟨(hw _ (List.mem_of_getElem? (i := 3) rfl)), (hw _ (List.mem_of_getElem? (i := 43) rfl))⟩)
  have E_r19 : Exa s s.heap r19 "com/example/eunomia/eunomia/Reason" := Exa.start er19 qr19
  obtain ⟨qr20, hn20⟩ := and_e hn19
  obtain ⟨r20, er20⟩ := exa_v qr20
  have S_r20 : Sta s s.heap "com/example/eunomia/eunomia/Reason" "INVALID_RESULT" "Lcom/example/eunomia/eunomia/Reason;" (.ref r20) := Sta.start er20 (Or.inr ⟨(hw _ (List.mem_of_getElem? (i := 3) rfl)), (hw _ (List.mem_of_getElem? (i := 45) rfl))⟩)
  have E_r20 : Exa s s.heap r20 "com/example/eunomia/eunomia/Reason" := Exa.start er20 qr20
  obtain ⟨r21, er21⟩ := exa_v hn20
  have S_r21 : Sta s s.heap "com/example/eunomia/eunomia/Reason" "IVP_FAILED" "Lcom/example/eunomia/eunomia/Reason;" (.ref r21) := Sta.start er21 (Or.inr ⟨(hw _ (List.mem_of_getElem? (i := 3) rfl)), (hw _ (List.mem_of_getElem? (i := 47) rfl))⟩)
  have E_r21 : Exa s s.heap r21 "com/example/eunomia/eunomia/Reason" := Exa.start er21 hn20
  have ER : ∀ a ∈ [r0, r1, r2, r3, r4, r5, r6, r7, r8, r9, r10, r11, r12, r13, r14, r15, r16, r17, r18, r19, r20, r21], Exa s s.heap a "com/example/eunomia/eunomia/Reason" := by
    intro a ha
    simp only [List.mem_cons, List.not_mem_nil, or_false] at ha
    rcases ha with rfl | rfl | rfl | rfl | rfl | rfl | rfl | rfl | rfl | rfl | rfl | rfl | rfl | rfl | rfl | rfl | rfl | rfl | rfl | rfl | rfl | rfl
    · exact E_r0
    · exact E_r1
    · exact E_r2
    · exact E_r3
    · exact E_r4
    · exact E_r5
    · exact E_r6
    · exact E_r7
    · exact E_r8
    · exact E_r9
    · exact E_r10
    · exact E_r11
    · exact E_r12
    · exact E_r13
    · exact E_r14
    · exact E_r15
    · exact E_r16
    · exact E_r17
    · exact E_r18
    · exact E_r19
    · exact E_r20
    · exact E_r21
  have wS : ∀ a ∈ Bundle.stringAtoms, a.before _ s = true := fun d hd => hw d ((by decide +kernel : ∀ d ∈ Bundle.stringAtoms, d ∈ tables_1) d hd)
  have hEL : EW s _ [("com/example/eunomia/eunomia/Answer", 9), ("com/example/eunomia/eunomia/AnswerRefusedPinLaw", 77), ("java/lang/String", 7)] := EW.cons (hw _ (List.mem_of_getElem? (i := 74) rfl)) (by decide) (EW.cons (hw _ (List.mem_of_getElem? (i := 49) rfl)) (by decide) (EW.cons (hw _ (List.mem_of_getElem? (i := 148) rfl)) (by decide) EW.nil))
  have HC0 : CHv s [("com/example/eunomia/eunomia/Answer", 9), ("com/example/eunomia/eunomia/AnswerRefusedPinLaw", 77), ("java/lang/String", 7)] s.vm s.heap := CHv.start hEL (fun q hq => hcalls.1 q (by simpa [consts_1] using hq)) (hsets _ (by decide +kernel)) (hw _ (List.mem_of_getElem? (i := 52) rfl)) (hw _ (List.mem_of_getElem? (i := 51) rfl))
  obtain ⟨n, o, h1, h2, h3, _, L, rfl, ⟨⟨rfl, N⟩, -⟩, -, hq⟩ := m_law l s _ hw s.heap s.heap.size (Nat.le_refl _) wS hEL i0 i1 i2 i3 zc S1 P1 (Old.start s) r0 r1 r2 r3 r4 r5 r6 r7 r8 r9 r10 r11 r12 r13 r14 r15 r16 r17 r18 r19 r20 r21 S_r0 S_r1 S_r2 S_r3 S_r4 S_r5 S_r6 S_r7 S_r8 S_r9 S_r10 S_r11 S_r12 S_r13 S_r14 S_r15 S_r16 S_r17 S_r18 S_r19 S_r20 S_r21 ER p e ha hc hk s m _ below hf ((Spec.applies_iff_loose hf).mp happ).1 ⟨rfl, State.Warmed39.refl s, rfl, HC0⟩ trivial
  refine ⟨n, _, h1, h2, h3, hpost _ _ _ _ _ _ ⟨Cond.after_iff.mpr rfl, Cond.after_iff.mpr (eq_i res_at (Term.int_eval (1)) rfl), trivial⟩ ⟨hq.1, hq.2.1, hq.2.2.1, (hq.2.2.2.sift fun y hy => Or.inr (N y hy)).mono (by decide) (by decide)⟩⟩
theorem main_1_1 : Claimed_1_1 := comes_1 fun _ _ _ _ _ _ h hF => ⟨h.1, hF⟩
theorem main_1_2 : Claimed_1_2 := comes_1 fun _ _ _ _ _ _ h hF => ⟨h.2.1, hF⟩
end Jvm.Pilot.@@N@@
namespace Jvm.Pilot.@@N@@
open Jvm Jvm.ClassFile Sem Op Lib Jvm.Free Jvm.Stand Jvm.Pilot.@@N@@.Jvm.D
/-! MADE BY PROGRAM (witnessworld.py) out of the Statement's table words and the real class files: 24 classes; the members and pool entries that the words name. The judged class is class 1, her method 1. -/
namespace start1
open Jvm.ClassFile
def u (s : String) : CpInfo := .utf8 (stringToUtf16 s)
/-- a pool by its gaps: so many unusable entries, then the entry; so many at the end -/
def gap : Nat → List CpInfo → List CpInfo
  | 0, r => r
  | n + 1, r => .unusable :: gap n r
def poolList (es : List (Nat × CpInfo)) (last : Nat) : List CpInfo := es.foldr (fun e r => gap e.1 (e.2 :: r)) (gap last [])
def pool (es : List (Nat × CpInfo)) (last : Nat) : Array CpInfo := ⟨poolList es last⟩
def fileOf (pool : Array CpInfo) (this : Nat) (attrs : Array Attribute := #[]) (ms : Array MethodInfo := #[]) (fl : Nat := 33) (sup : Nat := 0) (ifs : Array Nat := #[]) (fds : Array FieldInfo := #[]) : ClassFile where
  minorVersion := 0
  majorVersion := 65
  constantPool := pool
  accessFlags := fl
  thisClass := this
  superClass := sup
  interfaces := ifs
  fields := fds
  methods := ms
  attributes := attrs
def plain (name : String) (sup : Option ClassId) : Class where
  name := name
  kind := .ordinary
  loader := none
  accessFlags := 33
  super := sup
  interfaces := #[]
  cf := none
  fields := #[]
  methods := #[]
  instanceTypes := #[]
  staticTypes := #[]
  resolved := #[]
  callSites := []
  init := .initialized
  statics := none
  mirror := none

def pool0 : Array CpInfo := pool [(5, u "<init>"), (0, u "()V"), (1, .class_ 10), (1, u "java/lang/Object")] 113

def k0c0 : Code := { maxStack := 0, maxLocals := 1, code := object_method_1_code, exceptionTable := #[], attributes := #[] }
def k0m0 : Method := { name := "<init>", desc := "()V", sig := { parameters := [], returnType := none }, accessFlags := 1, code := some k0c0 }
/-- java/lang/Object -/
def k0 : Class := { plain "java/lang/Object" none with
  accessFlags := 33
  interfaces := #[]
  cf := some (fileOf pool0 8 #[] #[{ accessFlags := 1, nameIndex := 5, descriptorIndex := 6, attributes := #[] }] 33 0 #[] #[])
  fields := #[]
  methods := #[k0m0]
  instanceTypes := #[]
  staticTypes := #[]
  resolved := Array.replicate 124 none
  statics := none }

def pool1 : Array CpInfo := pool [(2, .class_ 4), (1, u "java/lang/Object"), (0, u "<init>"), (0, u "()V"), (0, .class_ 8), (0, u "com/example/eunomia/eunomia/Reason"), (0, .fieldref 7 10), (0, .nameAndType 11 12), (0, u "MALFORMED"), (0, u "Lcom/example/eunomia/eunomia/Reason;"), (0, .fieldref 7 14), (0, .nameAndType 15 12), (0, u "UNKNOWN_USER"), (0, .fieldref 7 17), (0, .nameAndType 18 12), (0, u "BAD_SIGNATURE"), (0, .fieldref 7 20), (0, .nameAndType 21 12), (0, u "REPLAYED"), (0, .fieldref 7 23), (0, .nameAndType 24 12), (0, u "NOT_OFFICER"), (0, .fieldref 7 26), (0, .nameAndType 27 12), (0, u "NAME_TAKEN"), (0, .fieldref 7 29), (0, .nameAndType 30 12), (0, u "INVALID_KEY"), (0, .fieldref 7 32), (0, .nameAndType 33 12), (0, u "INVALID_GRANT"), (0, .fieldref 7 35), (0, .nameAndType 36 12), (0, u "OFFICER_CANNOT_EXECUTE"), (0, .fieldref 7 38), (0, .nameAndType 39 12), (0, u "SOD_CONFLICT"), (0, .fieldref 7 41), (0, .nameAndType 42 12), (0, u "INVALID_DEFINITION"), (0, .fieldref 7 44), (0, .nameAndType 45 12), (0, u "NOT_CERTIFIED"), (0, .fieldref 7 47), (0, .nameAndType 48 12), (0, u "UNKNOWN_TP"), (0, .fieldref 7 50), (0, .nameAndType 51 12), (0, u "UNCERTIFIED_TP"), (0, .fieldref 7 53), (0, .nameAndType 54 12), (0, u "NO_TRIPLE"), (0, .fieldref 7 56), (0, .nameAndType 57 12), (0, u "SOD_HISTORY"), (0, .fieldref 7 59), (0, .nameAndType 60 12), (0, u "INVALID_INPUT"), (0, .fieldref 7 62), (0, .nameAndType 63 12), (0, u "UNKNOWN_CDI"), (0, .fieldref 7 65), (0, .nameAndType 66 12), (0, u "CDI_EXISTS"), (0, .fieldref 7 68), (0, .nameAndType 69 12), (0, u "REQUIRES_FAILED"), (0, .fieldref 7 71), (0, .nameAndType 72 12), (0, u "INVALID_RESULT"), (0, .fieldref 7 74), (0, .nameAndType 75 12), (0, u "IVP_FAILED"), (0, .integer 2147483647), (0, .string 78), (0, u "-"), (0, .class_ 80), (0, u "java/lang/String"), (0, .methodref 79 82), (0, .nameAndType 5 83), (0, u "([C)V"), (0, .methodref 79 85), (0, .nameAndType 86 87), (0, u "valueOf"), (0, u "(C)Ljava/lang/String;"), (0, .methodref 89 90), (0, .class_ 91), (0, .nameAndType 92 93), (0, u "com/example/eunomia/eunomia/Answer"), (0, u "refused"), (0, u "(Ljava/lang/String;Lcom/example/eunomia/eunomia/Reason;)Lcom/example/eunomia/eunomia/Answer;"), (0, .methodref 89 95), (0, .nameAndType 96 97), (0, u "id"), (0, u "()Ljava/lang/String;"), (0, .methodref 79 99), (0, .nameAndType 100 101), (0, u "equals"), (0, u "(Ljava/lang/Object;)Z"), (0, .methodref 89 103), (0, .nameAndType 104 105), (0, u "seq"), (0, u "()J"), (0, .methodref 89 107), (0, .nameAndType 108 109), (0, u "reason"), (0, u "()Lcom/example/eunomia/eunomia/Reason;"), (0, .methodref 89 111), (0, .nameAndType 112 113), (0, u "isAccepted"), (0, u "()Z"), (0, .class_ 115), (0, u "com/example/eunomia/eunomia/AnswerRefusedPinLaw"), (2, u "law"), (0, u "(IIII)Z")] 5

def k1m0 : Method := { name := "<init>", desc := "()V", sig := { parameters := [], returnType := none }, accessFlags := 1, code := none }
def k1c1 : Code := { maxStack := 6, maxLocals := 13, code := code, exceptionTable := #[], attributes := #[] }
def k1m1 : Method := { name := "law", desc := "(IIII)Z", sig := { parameters := [.int, .int, .int, .int], returnType := some .boolean }, accessFlags := 9, code := some k1c1 }
/-- com/example/eunomia/eunomia/AnswerRefusedPinLaw -/
def k1 : Class := { plain "com/example/eunomia/eunomia/AnswerRefusedPinLaw" (some 0) with
  accessFlags := 49
  interfaces := #[]
  cf := some (fileOf pool1 114 #[] #[{ accessFlags := 1, nameIndex := 5, descriptorIndex := 6, attributes := #[] }, { accessFlags := 9, nameIndex := 118, descriptorIndex := 119, attributes := #[] }] 49 2 #[] #[])
  fields := #[]
  methods := #[k1m0, k1m1]
  instanceTypes := #[]
  staticTypes := #[]
  resolved := Array.replicate 125 none
  statics := none }

def pool2 : Array CpInfo := pool [(1, .class_ 2), (0, u "java/lang/constant/Constable"), (0, .class_ 4), (0, u "java/lang/Object")] 6

/-- java/lang/constant/Constable -/
def k2 : Class := { plain "java/lang/constant/Constable" (some 0) with
  accessFlags := 1537
  interfaces := #[]
  cf := some (fileOf pool2 1 #[] #[] 1537 3 #[] #[])
  fields := #[]
  methods := #[]
  instanceTypes := #[]
  staticTypes := #[]
  resolved := Array.replicate 11 none
  statics := none }

def pool3 : Array CpInfo := pool [(1, .class_ 2), (0, u "java/lang/Comparable"), (0, .class_ 4), (0, u "java/lang/Object")] 7

/-- java/lang/Comparable -/
def k3 : Class := { plain "java/lang/Comparable" (some 0) with
  accessFlags := 1537
  interfaces := #[]
  cf := some (fileOf pool3 1 #[] #[] 1537 3 #[] #[])
  fields := #[]
  methods := #[]
  instanceTypes := #[]
  staticTypes := #[]
  resolved := Array.replicate 12 none
  statics := none }

def pool4 : Array CpInfo := pool [(1, .class_ 2), (0, u "java/io/Serializable"), (0, .class_ 4), (0, u "java/lang/Object")] 2

/-- java/io/Serializable -/
def k4 : Class := { plain "java/io/Serializable" (some 0) with
  accessFlags := 1537
  interfaces := #[]
  cf := some (fileOf pool4 1 #[] #[] 1537 3 #[] #[])
  fields := #[]
  methods := #[]
  instanceTypes := #[]
  staticTypes := #[]
  resolved := Array.replicate 7 none
  statics := none }

def pool5 : Array CpInfo := pool [(2, .class_ 4), (1, u "java/lang/Enum"), (0, u "name"), (0, u "Ljava/lang/String;"), (2, u "ordinal"), (0, u "I"), (1, .class_ 14), (1, u "java/lang/Object"), (4, u "hash"), (86, .class_ 108), (1, u "java/lang/Enum$EnumDesc"), (2, .class_ 112), (0, u "java/lang/constant/Constable"), (0, .class_ 114), (0, u "java/lang/Comparable"), (0, .class_ 116), (0, u "java/io/Serializable")] 87

/-- java/lang/Enum -/
def k5 : Class := { plain "java/lang/Enum" (some 0) with
  accessFlags := 1057
  interfaces := #[2, 3, 4]
  cf := some (fileOf pool5 2 #[.nestMembers #[106]] #[] 1057 12 #[111, 113, 115] #[{ accessFlags := 18, nameIndex := 5, descriptorIndex := 6, attributes := #[] }, { accessFlags := 18, nameIndex := 9, descriptorIndex := 10, attributes := #[] }, { accessFlags := 2, nameIndex := 19, descriptorIndex := 10, attributes := #[] }])
  fields := #[{ name := "name", type := (.object "java/lang/String"), accessFlags := 18, slot := 0, constantValue := 0 }, { name := "ordinal", type := .int, accessFlags := 18, slot := 1, constantValue := 0 }, { name := "hash", type := .int, accessFlags := 2, slot := 2, constantValue := 0 }]
  methods := #[]
  instanceTypes := #[(.object "java/lang/String"), .int, .int]
  staticTypes := #[]
  resolved := Array.replicate 204 none
  statics := none }

def pool6 : Array CpInfo := pool [(1, .class_ 2), (0, u "com/example/eunomia/eunomia/Reason"), (2, u "MALFORMED"), (0, u "Lcom/example/eunomia/eunomia/Reason;"), (2, u "UNKNOWN_USER"), (2, u "BAD_SIGNATURE"), (2, u "REPLAYED"), (2, u "NOT_OFFICER"), (2, u "NAME_TAKEN"), (2, u "INVALID_KEY"), (2, u "INVALID_GRANT"), (2, u "OFFICER_CANNOT_EXECUTE"), (2, u "SOD_CONFLICT"), (2, u "INVALID_DEFINITION"), (2, u "NOT_CERTIFIED"), (2, u "UNKNOWN_TP"), (2, u "UNCERTIFIED_TP"), (2, u "NO_TRIPLE"), (2, u "SOD_HISTORY"), (2, u "INVALID_INPUT"), (2, u "UNKNOWN_CDI"), (2, u "CDI_EXISTS"), (2, u "REQUIRES_FAILED"), (2, u "INVALID_RESULT"), (2, u "IVP_FAILED"), (2, u "$VALUES"), (0, u "[Lcom/example/eunomia/eunomia/Reason;"), (6, .class_ 82), (1, u "java/lang/Enum"), (8, u "word"), (0, u "Ljava/lang/String;")] 87

/-- com/example/eunomia/eunomia/Reason -/
def k6 : Class := { plain "com/example/eunomia/eunomia/Reason" (some 5) with
  accessFlags := 16433
  interfaces := #[]
  cf := some (fileOf pool6 1 #[] #[] 16433 80 #[] #[{ accessFlags := 16409, nameIndex := 5, descriptorIndex := 6, attributes := #[] }, { accessFlags := 16409, nameIndex := 9, descriptorIndex := 6, attributes := #[] }, { accessFlags := 16409, nameIndex := 12, descriptorIndex := 6, attributes := #[] }, { accessFlags := 16409, nameIndex := 15, descriptorIndex := 6, attributes := #[] }, { accessFlags := 16409, nameIndex := 18, descriptorIndex := 6, attributes := #[] }, { accessFlags := 16409, nameIndex := 21, descriptorIndex := 6, attributes := #[] }, { accessFlags := 16409, nameIndex := 24, descriptorIndex := 6, attributes := #[] }, { accessFlags := 16409, nameIndex := 27, descriptorIndex := 6, attributes := #[] }, { accessFlags := 16409, nameIndex := 30, descriptorIndex := 6, attributes := #[] }, { accessFlags := 16409, nameIndex := 33, descriptorIndex := 6, attributes := #[] }, { accessFlags := 16409, nameIndex := 36, descriptorIndex := 6, attributes := #[] }, { accessFlags := 16409, nameIndex := 39, descriptorIndex := 6, attributes := #[] }, { accessFlags := 16409, nameIndex := 42, descriptorIndex := 6, attributes := #[] }, { accessFlags := 16409, nameIndex := 45, descriptorIndex := 6, attributes := #[] }, { accessFlags := 16409, nameIndex := 48, descriptorIndex := 6, attributes := #[] }, { accessFlags := 16409, nameIndex := 51, descriptorIndex := 6, attributes := #[] }, { accessFlags := 16409, nameIndex := 54, descriptorIndex := 6, attributes := #[] }, { accessFlags := 16409, nameIndex := 57, descriptorIndex := 6, attributes := #[] }, { accessFlags := 16409, nameIndex := 60, descriptorIndex := 6, attributes := #[] }, { accessFlags := 16409, nameIndex := 63, descriptorIndex := 6, attributes := #[] }, { accessFlags := 16409, nameIndex := 66, descriptorIndex := 6, attributes := #[] }, { accessFlags := 16409, nameIndex := 69, descriptorIndex := 6, attributes := #[] }, { accessFlags := 18, nameIndex := 91, descriptorIndex := 92, attributes := #[] }, { accessFlags := 4122, nameIndex := 72, descriptorIndex := 73, attributes := #[] }])
  fields := #[{ name := "MALFORMED", type := (.object "com/example/eunomia/eunomia/Reason"), accessFlags := 16409, slot := 0, constantValue := 0 }, { name := "UNKNOWN_USER", type := (.object "com/example/eunomia/eunomia/Reason"), accessFlags := 16409, slot := 1, constantValue := 0 }, { name := "BAD_SIGNATURE", type := (.object "com/example/eunomia/eunomia/Reason"), accessFlags := 16409, slot := 2, constantValue := 0 }, { name := "REPLAYED", type := (.object "com/example/eunomia/eunomia/Reason"), accessFlags := 16409, slot := 3, constantValue := 0 }, { name := "NOT_OFFICER", type := (.object "com/example/eunomia/eunomia/Reason"), accessFlags := 16409, slot := 4, constantValue := 0 }, { name := "NAME_TAKEN", type := (.object "com/example/eunomia/eunomia/Reason"), accessFlags := 16409, slot := 5, constantValue := 0 }, { name := "INVALID_KEY", type := (.object "com/example/eunomia/eunomia/Reason"), accessFlags := 16409, slot := 6, constantValue := 0 }, { name := "INVALID_GRANT", type := (.object "com/example/eunomia/eunomia/Reason"), accessFlags := 16409, slot := 7, constantValue := 0 }, { name := "OFFICER_CANNOT_EXECUTE", type := (.object "com/example/eunomia/eunomia/Reason"), accessFlags := 16409, slot := 8, constantValue := 0 }, { name := "SOD_CONFLICT", type := (.object "com/example/eunomia/eunomia/Reason"), accessFlags := 16409, slot := 9, constantValue := 0 }, { name := "INVALID_DEFINITION", type := (.object "com/example/eunomia/eunomia/Reason"), accessFlags := 16409, slot := 10, constantValue := 0 }, { name := "NOT_CERTIFIED", type := (.object "com/example/eunomia/eunomia/Reason"), accessFlags := 16409, slot := 11, constantValue := 0 }, { name := "UNKNOWN_TP", type := (.object "com/example/eunomia/eunomia/Reason"), accessFlags := 16409, slot := 12, constantValue := 0 }, { name := "UNCERTIFIED_TP", type := (.object "com/example/eunomia/eunomia/Reason"), accessFlags := 16409, slot := 13, constantValue := 0 }, { name := "NO_TRIPLE", type := (.object "com/example/eunomia/eunomia/Reason"), accessFlags := 16409, slot := 14, constantValue := 0 }, { name := "SOD_HISTORY", type := (.object "com/example/eunomia/eunomia/Reason"), accessFlags := 16409, slot := 15, constantValue := 0 }, { name := "INVALID_INPUT", type := (.object "com/example/eunomia/eunomia/Reason"), accessFlags := 16409, slot := 16, constantValue := 0 }, { name := "UNKNOWN_CDI", type := (.object "com/example/eunomia/eunomia/Reason"), accessFlags := 16409, slot := 17, constantValue := 0 }, { name := "CDI_EXISTS", type := (.object "com/example/eunomia/eunomia/Reason"), accessFlags := 16409, slot := 18, constantValue := 0 }, { name := "REQUIRES_FAILED", type := (.object "com/example/eunomia/eunomia/Reason"), accessFlags := 16409, slot := 19, constantValue := 0 }, { name := "INVALID_RESULT", type := (.object "com/example/eunomia/eunomia/Reason"), accessFlags := 16409, slot := 20, constantValue := 0 }, { name := "IVP_FAILED", type := (.object "com/example/eunomia/eunomia/Reason"), accessFlags := 16409, slot := 21, constantValue := 0 }, { name := "word", type := (.object "java/lang/String"), accessFlags := 18, slot := 3, constantValue := 0 }, { name := "$VALUES", type := (.array (.object "com/example/eunomia/eunomia/Reason")), accessFlags := 4122, slot := 22, constantValue := 0 }]
  methods := #[]
  instanceTypes := #[(.object "java/lang/String"), .int, .int, (.object "java/lang/String")]
  staticTypes := #[(.object "com/example/eunomia/eunomia/Reason"), (.object "com/example/eunomia/eunomia/Reason"), (.object "com/example/eunomia/eunomia/Reason"), (.object "com/example/eunomia/eunomia/Reason"), (.object "com/example/eunomia/eunomia/Reason"), (.object "com/example/eunomia/eunomia/Reason"), (.object "com/example/eunomia/eunomia/Reason"), (.object "com/example/eunomia/eunomia/Reason"), (.object "com/example/eunomia/eunomia/Reason"), (.object "com/example/eunomia/eunomia/Reason"), (.object "com/example/eunomia/eunomia/Reason"), (.object "com/example/eunomia/eunomia/Reason"), (.object "com/example/eunomia/eunomia/Reason"), (.object "com/example/eunomia/eunomia/Reason"), (.object "com/example/eunomia/eunomia/Reason"), (.object "com/example/eunomia/eunomia/Reason"), (.object "com/example/eunomia/eunomia/Reason"), (.object "com/example/eunomia/eunomia/Reason"), (.object "com/example/eunomia/eunomia/Reason"), (.object "com/example/eunomia/eunomia/Reason"), (.object "com/example/eunomia/eunomia/Reason"), (.object "com/example/eunomia/eunomia/Reason"), (.array (.object "com/example/eunomia/eunomia/Reason"))]
  resolved := Array.replicate 180 none
  statics := some 0 }

def pool7 : Array CpInfo := pool [(2, .class_ 4), (1, u "java/lang/CharSequence"), (42, .class_ 48), (0, u "java/lang/CharSequence$1CodePointIterator"), (10, .class_ 60), (0, u "java/lang/CharSequence$1CharIterator"), (5, .class_ 67), (0, u "java/lang/Object")] 63

/-- java/lang/CharSequence -/
def k7 : Class := { plain "java/lang/CharSequence" (some 0) with
  accessFlags := 1537
  interfaces := #[]
  cf := some (fileOf pool7 2 #[.nestMembers #[47, 59]] #[] 1537 66 #[] #[])
  fields := #[]
  methods := #[]
  instanceTypes := #[]
  staticTypes := #[]
  resolved := Array.replicate 131 none
  statics := none }

def pool8 : Array CpInfo := pool [(1, .class_ 2), (0, u "java/lang/constant/ConstantDesc"), (0, .class_ 4), (0, u "java/lang/Object")] 32

/-- java/lang/constant/ConstantDesc -/
def k8 : Class := { plain "java/lang/constant/ConstantDesc" (some 0) with
  accessFlags := 1537
  interfaces := #[]
  cf := some (fileOf pool8 1 #[] #[] 1537 3 #[] #[])
  fields := #[]
  methods := #[]
  instanceTypes := #[]
  staticTypes := #[]
  resolved := Array.replicate 37 none
  statics := none }

def pool9 : Array CpInfo := pool [(1, .methodref 2 3), (0, .class_ 4), (0, .nameAndType 5 6), (0, u "java/lang/Object"), (0, u "<init>"), (0, u "()V"), (0, .string 8), (0, u ""), (0, .fieldref 10 11), (0, .class_ 12), (0, .nameAndType 13 14), (0, u "java/lang/String"), (0, u "value"), (0, u "[B"), (0, .fieldref 10 16), (0, .nameAndType 17 18), (0, u "coder"), (0, u "B"), (2, u "hash"), (0, u "I"), (2, u "hashIsZero"), (0, u "Z"), (0, .methodref 10 28), (0, .nameAndType 5 29), (0, u "([CIILjava/lang/Void;)V"), (8, .fieldref 10 39), (0, .nameAndType 40 26), (0, u "COMPACT_STRINGS"), (1, .class_ 44), (1, u "java/lang/StringUTF16"), (0, u "compress"), (1, .methodref 42 48), (0, .nameAndType 49 50), (0, u "coderFromArrayLen"), (0, u "([BI)B"), (2, u "toBytes"), (53, .class_ 109), (1, u "java/lang/StringLatin1"), (67, .methodref 42 178), (0, .nameAndType 45 179), (0, u "([CII)[B"), (29, .methodref 10 210), (0, .nameAndType 5 211), (0, u "([BB)V"), (157, u "(C)Z"), (171, .methodref 107 542), (0, .nameAndType 543 544), (0, u "equals"), (0, u "([B[B)Z"), (28, u "(Ljava/lang/Object;)Z"), (1, .class_ 576), (0, u "java/lang/CharSequence"), (22, u "CASE_INSENSITIVE_ORDER"), (0, u "Ljava/util/Comparator;"), (181, u "valueOf"), (0, u "(C)Ljava/lang/String;"), (226, u "([C)V"), (4, .methodref 107 1016), (0, .nameAndType 1017 369), (0, u "canEncode"), (0, .methodref 107 1019), (0, .nameAndType 53 1020), (0, u "(C)[B"), (80, u "serialPersistentFields"), (0, u "[Ljava/io/ObjectStreamField;"), (0, .class_ 1104), (0, u "java/lang/String$CaseInsensitiveComparator"), (1, .class_ 1107), (0, u "java/io/Serializable"), (0, .class_ 1109), (0, u "java/lang/Comparable"), (0, .class_ 1111), (0, u "java/lang/constant/Constable"), (0, .class_ 1113), (0, u "java/lang/constant/ConstantDesc"), (2, u "serialVersionUID"), (0, u "J"), (3, u "REPL"), (0, u "C"), (2, u "LATIN1"), (1, u "UTF16")] 323

def k9m0 : Method := { name := "<init>", desc := "()V", sig := { parameters := [], returnType := none }, accessFlags := 1, code := none }
def k9c1 : Code := { maxStack := 5, maxLocals := 2, code := jdk_42_method_3_code, exceptionTable := #[], attributes := #[] }
def k9m1 : Method := { name := "<init>", desc := "([C)V", sig := { parameters := [(.array .char)], returnType := none }, accessFlags := 1, code := some k9c1 }
def k9c2 : Code := { maxStack := 2, maxLocals := 3, code := jdk_42_method_66_code, exceptionTable := #[], attributes := #[] }
def k9m2 : Method := { name := "equals", desc := "(Ljava/lang/Object;)Z", sig := { parameters := [(.object "java/lang/Object")], returnType := some .boolean }, accessFlags := 1, code := some k9c2 }
def k9c3 : Code := { maxStack := 4, maxLocals := 1, code := jdk_42_method_139_code, exceptionTable := #[], attributes := #[] }
def k9m3 : Method := { name := "valueOf", desc := "(C)Ljava/lang/String;", sig := { parameters := [.char], returnType := some (.object "java/lang/String") }, accessFlags := 9, code := some k9c3 }
def k9c4 : Code := { maxStack := 4, maxLocals := 6, code := jdk_42_method_149_code, exceptionTable := #[], attributes := #[] }
def k9m4 : Method := { name := "<init>", desc := "([CIILjava/lang/Void;)V", sig := { parameters := [(.array .char), .int, .int, (.object "java/lang/Void")], returnType := none }, accessFlags := 2, code := some k9c4 }
def k9c5 : Code := { maxStack := 2, maxLocals := 3, code := jdk_42_method_151_code, exceptionTable := #[], attributes := #[] }
def k9m5 : Method := { name := "<init>", desc := "([BB)V", sig := { parameters := [(.array .byte), .byte], returnType := none }, accessFlags := 0, code := some k9c5 }
/-- java/lang/String -/
def k9 : Class := { plain "java/lang/String" (some 0) with
  accessFlags := 49
  interfaces := #[4, 3, 7, 2, 8]
  cf := some (fileOf pool9 10 #[.nestMembers #[1103]] #[{ accessFlags := 1, nameIndex := 5, descriptorIndex := 6, attributes := #[] }, { accessFlags := 1, nameIndex := 5, descriptorIndex := 1010, attributes := #[] }, { accessFlags := 1, nameIndex := 543, descriptorIndex := 573, attributes := #[] }, { accessFlags := 9, nameIndex := 782, descriptorIndex := 783, attributes := #[] }, { accessFlags := 2, nameIndex := 5, descriptorIndex := 29, attributes := #[] }, { accessFlags := 0, nameIndex := 5, descriptorIndex := 211, attributes := #[] }] 49 2 #[1106, 1108, 575, 1110, 1112] #[{ accessFlags := 18, nameIndex := 13, descriptorIndex := 14, attributes := #[] }, { accessFlags := 18, nameIndex := 17, descriptorIndex := 18, attributes := #[] }, { accessFlags := 2, nameIndex := 21, descriptorIndex := 22, attributes := #[] }, { accessFlags := 2, nameIndex := 25, descriptorIndex := 26, attributes := #[] }, { accessFlags := 26, nameIndex := 1116, descriptorIndex := 1117, attributes := #[] }, { accessFlags := 24, nameIndex := 40, descriptorIndex := 26, attributes := #[] }, { accessFlags := 26, nameIndex := 1101, descriptorIndex := 1102, attributes := #[] }, { accessFlags := 26, nameIndex := 1121, descriptorIndex := 1122, attributes := #[] }, { accessFlags := 25, nameIndex := 599, descriptorIndex := 600, attributes := #[] }, { accessFlags := 24, nameIndex := 1125, descriptorIndex := 18, attributes := #[] }, { accessFlags := 24, nameIndex := 1127, descriptorIndex := 18, attributes := #[] }])
  fields := #[{ name := "value", type := (.array .byte), accessFlags := 18, slot := 0, constantValue := 0 }, { name := "coder", type := .byte, accessFlags := 18, slot := 1, constantValue := 0 }, { name := "hash", type := .int, accessFlags := 2, slot := 2, constantValue := 0 }, { name := "hashIsZero", type := .boolean, accessFlags := 2, slot := 3, constantValue := 0 }, { name := "serialVersionUID", type := .long, accessFlags := 26, slot := 0, constantValue := 0 }, { name := "COMPACT_STRINGS", type := .boolean, accessFlags := 24, slot := 1, constantValue := 0 }, { name := "serialPersistentFields", type := (.array (.object "java/io/ObjectStreamField")), accessFlags := 26, slot := 2, constantValue := 0 }, { name := "REPL", type := .char, accessFlags := 26, slot := 3, constantValue := 0 }, { name := "CASE_INSENSITIVE_ORDER", type := (.object "java/util/Comparator"), accessFlags := 25, slot := 4, constantValue := 0 }, { name := "LATIN1", type := .byte, accessFlags := 24, slot := 5, constantValue := 0 }, { name := "UTF16", type := .byte, accessFlags := 24, slot := 6, constantValue := 0 }]
  methods := #[k9m0, k9m1, k9m2, k9m3, k9m4, k9m5]
  instanceTypes := #[(.array .byte), .byte, .int, .boolean]
  staticTypes := #[.long, .boolean, (.array (.object "java/io/ObjectStreamField")), .char, (.object "java/util/Comparator"), .byte, .byte]
  resolved := Array.replicate 1451 none
  statics := some 1 }

def pool10 : Array CpInfo := pool [(1, .methodref 2 3), (0, .class_ 4), (0, .nameAndType 5 6), (0, u "java/lang/Object"), (0, u "<init>"), (0, u "()V"), (0, .class_ 8), (0, u "com/example/eunomia/eunomia/Answer"), (0, .string 10), (0, u "-"), (0, .fieldref 7 12), (0, .nameAndType 13 14), (0, u "id"), (0, u "Ljava/lang/String;"), (0, .fieldref 7 16), (0, .nameAndType 17 18), (0, u "seq"), (0, u "J"), (0, .fieldref 7 20), (0, .nameAndType 21 22), (0, u "reason"), (0, u "Lcom/example/eunomia/eunomia/Reason;"), (0, .fieldref 7 24), (0, .nameAndType 25 26), (0, u "dryRun"), (0, u "Z"), (0, .methodref 28 29), (0, .class_ 30), (0, .nameAndType 31 32), (0, u "java/util/Objects"), (0, u "requireNonNull"), (0, u "(Ljava/lang/Object;)Ljava/lang/Object;"), (2, .methodref 7 36), (0, .nameAndType 5 37), (0, u "(Ljava/lang/String;JLcom/example/eunomia/eunomia/Reason;Z)V"), (0, .class_ 39), (0, u "com/example/eunomia/eunomia/Reason"), (3, u "()Ljava/lang/String;"), (11, u "NO_ID"), (7, u "refused"), (0, u "(Ljava/lang/String;Lcom/example/eunomia/eunomia/Reason;)Lcom/example/eunomia/eunomia/Answer;"), (0, u "isAccepted"), (0, u "()Z"), (0, u "()J"), (0, u "()Lcom/example/eunomia/eunomia/Reason;")] 24

def k10c0 : Code := { maxStack := 3, maxLocals := 6, code := prog_1_method_1_code, exceptionTable := #[], attributes := #[] }
def k10m0 : Method := { name := "<init>", desc := "(Ljava/lang/String;JLcom/example/eunomia/eunomia/Reason;Z)V", sig := { parameters := [(.object "java/lang/String"), .long, (.object "com/example/eunomia/eunomia/Reason"), .boolean], returnType := none }, accessFlags := 2, code := some k10c0 }
def k10c1 : Code := { maxStack := 7, maxLocals := 2, code := prog_1_method_4_code, exceptionTable := #[], attributes := #[] }
def k10m1 : Method := { name := "refused", desc := "(Ljava/lang/String;Lcom/example/eunomia/eunomia/Reason;)Lcom/example/eunomia/eunomia/Answer;", sig := { parameters := [(.object "java/lang/String"), (.object "com/example/eunomia/eunomia/Reason")], returnType := some (.object "com/example/eunomia/eunomia/Answer") }, accessFlags := 8, code := some k10c1 }
def k10c2 : Code := { maxStack := 1, maxLocals := 1, code := prog_1_method_5_code, exceptionTable := #[], attributes := #[] }
def k10m2 : Method := { name := "id", desc := "()Ljava/lang/String;", sig := { parameters := [], returnType := some (.object "java/lang/String") }, accessFlags := 1, code := some k10c2 }
def k10c3 : Code := { maxStack := 1, maxLocals := 1, code := prog_1_method_6_code, exceptionTable := #[], attributes := #[] }
def k10m3 : Method := { name := "isAccepted", desc := "()Z", sig := { parameters := [], returnType := some .boolean }, accessFlags := 1, code := some k10c3 }
def k10c4 : Code := { maxStack := 2, maxLocals := 1, code := prog_1_method_7_code, exceptionTable := #[], attributes := #[] }
def k10m4 : Method := { name := "seq", desc := "()J", sig := { parameters := [], returnType := some .long }, accessFlags := 1, code := some k10c4 }
def k10c5 : Code := { maxStack := 1, maxLocals := 1, code := prog_1_method_8_code, exceptionTable := #[], attributes := #[] }
def k10m5 : Method := { name := "reason", desc := "()Lcom/example/eunomia/eunomia/Reason;", sig := { parameters := [], returnType := some (.object "com/example/eunomia/eunomia/Reason") }, accessFlags := 1, code := some k10c5 }
/-- com/example/eunomia/eunomia/Answer -/
def k10 : Class := { plain "com/example/eunomia/eunomia/Answer" (some 0) with
  accessFlags := 33
  interfaces := #[]
  cf := some (fileOf pool10 7 #[] #[{ accessFlags := 2, nameIndex := 5, descriptorIndex := 37, attributes := #[] }, { accessFlags := 8, nameIndex := 63, descriptorIndex := 64, attributes := #[] }, { accessFlags := 1, nameIndex := 13, descriptorIndex := 43, attributes := #[] }, { accessFlags := 1, nameIndex := 65, descriptorIndex := 66, attributes := #[] }, { accessFlags := 1, nameIndex := 17, descriptorIndex := 67, attributes := #[] }, { accessFlags := 1, nameIndex := 21, descriptorIndex := 68, attributes := #[] }] 33 2 #[] #[{ accessFlags := 25, nameIndex := 55, descriptorIndex := 14, attributes := #[] }, { accessFlags := 18, nameIndex := 13, descriptorIndex := 14, attributes := #[] }, { accessFlags := 18, nameIndex := 17, descriptorIndex := 18, attributes := #[] }, { accessFlags := 18, nameIndex := 21, descriptorIndex := 22, attributes := #[] }, { accessFlags := 18, nameIndex := 25, descriptorIndex := 26, attributes := #[] }])
  fields := #[{ name := "NO_ID", type := (.object "java/lang/String"), accessFlags := 25, slot := 0, constantValue := 0 }, { name := "id", type := (.object "java/lang/String"), accessFlags := 18, slot := 0, constantValue := 0 }, { name := "seq", type := .long, accessFlags := 18, slot := 1, constantValue := 0 }, { name := "reason", type := (.object "com/example/eunomia/eunomia/Reason"), accessFlags := 18, slot := 2, constantValue := 0 }, { name := "dryRun", type := .boolean, accessFlags := 18, slot := 3, constantValue := 0 }]
  methods := #[k10m0, k10m1, k10m2, k10m3, k10m4, k10m5]
  instanceTypes := #[(.object "java/lang/String"), .long, (.object "com/example/eunomia/eunomia/Reason"), .boolean]
  staticTypes := #[(.object "java/lang/String")]
  resolved := Array.replicate 93 none
  statics := none }

def pool11 : Array CpInfo := pool [(2, .class_ 4), (1, u "java/lang/Object"), (0, u "<init>"), (0, u "()V"), (35, .class_ 44), (1, u "java/util/Objects"), (0, u "requireNonNull"), (0, u "(Ljava/lang/Object;)Ljava/lang/Object;")] 137

def k11m0 : Method := { name := "<init>", desc := "()V", sig := { parameters := [], returnType := none }, accessFlags := 2, code := none }
def k11c1 : Code := { maxStack := 2, maxLocals := 1, code := jdk_31_method_10_code, exceptionTable := #[], attributes := #[] }
def k11m1 : Method := { name := "requireNonNull", desc := "(Ljava/lang/Object;)Ljava/lang/Object;", sig := { parameters := [(.object "java/lang/Object")], returnType := some (.object "java/lang/Object") }, accessFlags := 9, code := some k11c1 }
/-- java/util/Objects -/
def k11 : Class := { plain "java/util/Objects" (some 0) with
  accessFlags := 49
  interfaces := #[]
  cf := some (fileOf pool11 42 #[] #[{ accessFlags := 2, nameIndex := 5, descriptorIndex := 6, attributes := #[] }, { accessFlags := 9, nameIndex := 45, descriptorIndex := 46, attributes := #[] }] 49 2 #[] #[])
  fields := #[]
  methods := #[k11m0, k11m1]
  instanceTypes := #[]
  staticTypes := #[]
  resolved := Array.replicate 184 none
  statics := none }

def pool12 : Array CpInfo := pool [(6, .class_ 8), (1, u "java/lang/Object"), (0, u "<init>"), (0, u "()V"), (1, .class_ 14), (1, u "java/lang/StringUTF16"), (31, u "$assertionsDisabled"), (0, u "Z"), (13, u "HI_BYTE_SHIFT"), (0, u "I"), (2, u "LO_BYTE_SHIFT"), (49, .methodref 12 116), (0, .nameAndType 117 118), (0, u "compress"), (0, u "([CI[BII)I"), (3, u "([CII)[B"), (138, u "coderFromArrayLen"), (0, u "([BI)B"), (106, .class_ 371), (1, u "java/lang/StringUTF16$LinesSpliterator"), (58, u "MAX_LENGTH"), (196, .class_ 628), (0, u "java/lang/StringUTF16$CodePointsSpliterator"), (0, .class_ 630), (0, u "java/lang/StringUTF16$CharsSpliterator")] 4

def k12m0 : Method := { name := "<init>", desc := "()V", sig := { parameters := [], returnType := none }, accessFlags := 0, code := none }
def k12c1 : Code := { maxStack := 2, maxLocals := 2, code := jdk_52_method_15_code, exceptionTable := #[], attributes := #[] }
def k12m1 : Method := { name := "coderFromArrayLen", desc := "([BI)B", sig := { parameters := [(.array .byte), .int], returnType := some .byte }, accessFlags := 8, code := some k12c1 }
def k12c2 : Code := { maxStack := 5, maxLocals := 6, code := jdk_52_method_16_code, exceptionTable := #[], attributes := #[] }
def k12m2 : Method := { name := "compress", desc := "([CII)[B", sig := { parameters := [(.array .char), .int, .int], returnType := some (.array .byte) }, accessFlags := 9, code := some k12c2 }
def k12c3 : Code := { maxStack := 3, maxLocals := 7, code := jdk_52_method_21_code, exceptionTable := #[], attributes := #[] }
def k12m3 : Method := { name := "compress", desc := "([CI[BII)I", sig := { parameters := [(.array .char), .int, (.array .byte), .int, .int], returnType := some .int }, accessFlags := 9, code := some k12c3 }
/-- java/lang/StringUTF16 -/
def k12 : Class := { plain "java/lang/StringUTF16" (some 0) with
  accessFlags := 48
  interfaces := #[]
  cf := some (fileOf pool12 12 #[.nestMembers #[627, 629, 369]] #[{ accessFlags := 0, nameIndex := 9, descriptorIndex := 10, attributes := #[] }, { accessFlags := 8, nameIndex := 261, descriptorIndex := 262, attributes := #[] }, { accessFlags := 9, nameIndex := 117, descriptorIndex := 122, attributes := #[] }, { accessFlags := 9, nameIndex := 117, descriptorIndex := 118, attributes := #[] }] 48 6 #[] #[{ accessFlags := 26, nameIndex := 61, descriptorIndex := 62, attributes := #[] }, { accessFlags := 26, nameIndex := 65, descriptorIndex := 62, attributes := #[] }, { accessFlags := 24, nameIndex := 430, descriptorIndex := 62, attributes := #[] }, { accessFlags := 4120, nameIndex := 46, descriptorIndex := 47, attributes := #[] }])
  fields := #[{ name := "HI_BYTE_SHIFT", type := .int, accessFlags := 26, slot := 0, constantValue := 0 }, { name := "LO_BYTE_SHIFT", type := .int, accessFlags := 26, slot := 1, constantValue := 0 }, { name := "MAX_LENGTH", type := .int, accessFlags := 24, slot := 2, constantValue := 0 }, { name := "$assertionsDisabled", type := .boolean, accessFlags := 4120, slot := 3, constantValue := 0 }]
  methods := #[k12m0, k12m1, k12m2, k12m3]
  instanceTypes := #[]
  staticTypes := #[.int, .int, .int, .boolean]
  resolved := Array.replicate 635 none
  statics := none }

def pool13 : Array CpInfo := pool [(4, .class_ 6), (1, u "java/lang/Object"), (0, u "<init>"), (0, u "()V"), (5, .class_ 16), (1, u "java/lang/StringLatin1"), (73, u "canEncode"), (14, u "(C)Z"), (15, u "$assertionsDisabled"), (0, u "Z"), (98, .class_ 223), (1, u "java/lang/StringLatin1$LinesSpliterator"), (57, u "equals"), (0, u "([B[B)Z"), (97, u "toBytes"), (1, u "(C)[B"), (7, .class_ 391), (0, u "java/lang/StringLatin1$CharsSpliterator")] 3

def k13m0 : Method := { name := "<init>", desc := "()V", sig := { parameters := [], returnType := none }, accessFlags := 0, code := none }
def k13c1 : Code := { maxStack := 2, maxLocals := 1, code := jdk_43_method_3_code, exceptionTable := #[], attributes := #[] }
def k13m1 : Method := { name := "canEncode", desc := "(C)Z", sig := { parameters := [.char], returnType := some .boolean }, accessFlags := 9, code := some k13c1 }
def k13c2 : Code := { maxStack := 3, maxLocals := 3, code := jdk_43_method_13_code, exceptionTable := #[], attributes := #[] }
def k13m2 : Method := { name := "equals", desc := "([B[B)Z", sig := { parameters := [(.array .byte), (.array .byte)], returnType := some .boolean }, accessFlags := 9, code := some k13c2 }
def k13c3 : Code := { maxStack := 4, maxLocals := 1, code := jdk_43_method_46_code, exceptionTable := #[], attributes := #[] }
def k13m3 : Method := { name := "toBytes", desc := "(C)[B", sig := { parameters := [.char], returnType := some (.array .byte) }, accessFlags := 9, code := some k13c3 }
/-- java/lang/StringLatin1 -/
def k13 : Class := { plain "java/lang/StringLatin1" (some 0) with
  accessFlags := 48
  interfaces := #[]
  cf := some (fileOf pool13 14 #[.nestMembers #[390, 221]] #[{ accessFlags := 0, nameIndex := 7, descriptorIndex := 8, attributes := #[] }, { accessFlags := 9, nameIndex := 90, descriptorIndex := 105, attributes := #[] }, { accessFlags := 9, nameIndex := 281, descriptorIndex := 282, attributes := #[] }, { accessFlags := 9, nameIndex := 380, descriptorIndex := 382, attributes := #[] }] 48 4 #[] #[{ accessFlags := 4120, nameIndex := 121, descriptorIndex := 122, attributes := #[] }])
  fields := #[{ name := "$assertionsDisabled", type := .boolean, accessFlags := 4120, slot := 0, constantValue := 0 }]
  methods := #[k13m0, k13m1, k13m2, k13m3]
  instanceTypes := #[]
  staticTypes := #[.boolean]
  resolved := Array.replicate 395 none
  statics := none }

def pool14 : Array CpInfo := pool [(2, .class_ 4), (1, u "java/lang/Object"), (0, u "<init>"), (0, u "()V"), (17, .class_ 26), (1, u "jdk/internal/util/Preconditions"), (28, .class_ 56), (0, u "jdk/internal/util/Preconditions$4"), (57, .class_ 115), (0, u "jdk/internal/util/Preconditions$1"), (7, u "SIOOBE_FORMATTER"), (0, u "Ljava/util/function/BiFunction;"), (0, .class_ 126), (0, u "jdk/internal/util/Preconditions$2"), (3, u "AIOOBE_FORMATTER"), (0, .class_ 132), (0, u "jdk/internal/util/Preconditions$3"), (3, u "IOOBE_FORMATTER")] 57

def k14m0 : Method := { name := "<init>", desc := "()V", sig := { parameters := [], returnType := none }, accessFlags := 1, code := none }
/-- jdk/internal/util/Preconditions -/
def k14 : Class := { plain "jdk/internal/util/Preconditions" (some 0) with
  accessFlags := 33
  interfaces := #[]
  cf := some (fileOf pool14 24 #[.nestMembers #[55, 131, 125, 114]] #[{ accessFlags := 1, nameIndex := 5, descriptorIndex := 6, attributes := #[] }] 33 2 #[] #[{ accessFlags := 25, nameIndex := 123, descriptorIndex := 124, attributes := #[] }, { accessFlags := 25, nameIndex := 130, descriptorIndex := 124, attributes := #[] }, { accessFlags := 25, nameIndex := 136, descriptorIndex := 124, attributes := #[] }])
  fields := #[{ name := "SIOOBE_FORMATTER", type := (.object "java/util/function/BiFunction"), accessFlags := 25, slot := 0, constantValue := 0 }, { name := "AIOOBE_FORMATTER", type := (.object "java/util/function/BiFunction"), accessFlags := 25, slot := 1, constantValue := 0 }, { name := "IOOBE_FORMATTER", type := (.object "java/util/function/BiFunction"), accessFlags := 25, slot := 2, constantValue := 0 }]
  methods := #[k14m0]
  instanceTypes := #[]
  staticTypes := #[(.object "java/util/function/BiFunction"), (.object "java/util/function/BiFunction"), (.object "java/util/function/BiFunction")]
  resolved := Array.replicate 194 none
  statics := some 2 }

def pool15 : Array CpInfo := pool [(9, u "<init>"), (6, .class_ 18), (1, u "java/lang/Object"), (0, u "()V"), (1, .class_ 23), (1, u "jdk/internal/util/ArraysSupport"), (0, u "LOG2_ARRAY_LONG_INDEX_SCALE"), (0, u "I"), (2, u "U"), (0, u "Ljdk/internal/misc/Unsafe;"), (8, u "BIG_ENDIAN"), (0, u "Z"), (8, u "LOG2_BYTE_BIT_SIZE"), (4, u "LOG2_ARRAY_INT_INDEX_SCALE"), (54, u "JLA"), (0, u "Ljdk/internal/access/JavaLangAccess;"), (11, u "LOG2_ARRAY_BOOLEAN_INDEX_SCALE"), (9, u "LOG2_ARRAY_BYTE_INDEX_SCALE"), (5, u "LOG2_ARRAY_CHAR_INDEX_SCALE"), (5, u "LOG2_ARRAY_SHORT_INDEX_SCALE"), (18, u "LOG2_ARRAY_FLOAT_INDEX_SCALE"), (24, u "LOG2_ARRAY_DOUBLE_INDEX_SCALE"), (89, u "T_BOOLEAN"), (2, u "T_CHAR"), (1, u "T_FLOAT"), (1, u "T_DOUBLE"), (1, u "T_BYTE"), (1, u "T_SHORT"), (1, u "T_INT"), (1, u "T_LONG"), (1, u "SOFT_MAX_ARRAY_LENGTH")] 83

def k15m0 : Method := { name := "<init>", desc := "()V", sig := { parameters := [], returnType := none }, accessFlags := 2, code := none }
/-- jdk/internal/util/ArraysSupport -/
def k15 : Class := { plain "jdk/internal/util/ArraysSupport" (some 0) with
  accessFlags := 33
  interfaces := #[]
  cf := some (fileOf pool15 21 #[] #[{ accessFlags := 2, nameIndex := 9, descriptorIndex := 19, attributes := #[] }] 33 16 #[] #[{ accessFlags := 24, nameIndex := 28, descriptorIndex := 29, attributes := #[] }, { accessFlags := 26, nameIndex := 38, descriptorIndex := 39, attributes := #[] }, { accessFlags := 25, nameIndex := 121, descriptorIndex := 25, attributes := #[] }, { accessFlags := 25, nameIndex := 131, descriptorIndex := 25, attributes := #[] }, { accessFlags := 25, nameIndex := 137, descriptorIndex := 25, attributes := #[] }, { accessFlags := 25, nameIndex := 143, descriptorIndex := 25, attributes := #[] }, { accessFlags := 25, nameIndex := 53, descriptorIndex := 25, attributes := #[] }, { accessFlags := 25, nameIndex := 24, descriptorIndex := 25, attributes := #[] }, { accessFlags := 25, nameIndex := 162, descriptorIndex := 25, attributes := #[] }, { accessFlags := 25, nameIndex := 187, descriptorIndex := 25, attributes := #[] }, { accessFlags := 26, nameIndex := 48, descriptorIndex := 25, attributes := #[] }, { accessFlags := 25, nameIndex := 277, descriptorIndex := 25, attributes := #[] }, { accessFlags := 25, nameIndex := 280, descriptorIndex := 25, attributes := #[] }, { accessFlags := 25, nameIndex := 282, descriptorIndex := 25, attributes := #[] }, { accessFlags := 25, nameIndex := 284, descriptorIndex := 25, attributes := #[] }, { accessFlags := 25, nameIndex := 286, descriptorIndex := 25, attributes := #[] }, { accessFlags := 25, nameIndex := 288, descriptorIndex := 25, attributes := #[] }, { accessFlags := 25, nameIndex := 290, descriptorIndex := 25, attributes := #[] }, { accessFlags := 25, nameIndex := 292, descriptorIndex := 25, attributes := #[] }, { accessFlags := 26, nameIndex := 108, descriptorIndex := 109, attributes := #[] }, { accessFlags := 25, nameIndex := 294, descriptorIndex := 25, attributes := #[] }])
  fields := #[{ name := "U", type := (.object "jdk/internal/misc/Unsafe"), accessFlags := 24, slot := 0, constantValue := 0 }, { name := "BIG_ENDIAN", type := .boolean, accessFlags := 26, slot := 1, constantValue := 0 }, { name := "LOG2_ARRAY_BOOLEAN_INDEX_SCALE", type := .int, accessFlags := 25, slot := 2, constantValue := 0 }, { name := "LOG2_ARRAY_BYTE_INDEX_SCALE", type := .int, accessFlags := 25, slot := 3, constantValue := 0 }, { name := "LOG2_ARRAY_CHAR_INDEX_SCALE", type := .int, accessFlags := 25, slot := 4, constantValue := 0 }, { name := "LOG2_ARRAY_SHORT_INDEX_SCALE", type := .int, accessFlags := 25, slot := 5, constantValue := 0 }, { name := "LOG2_ARRAY_INT_INDEX_SCALE", type := .int, accessFlags := 25, slot := 6, constantValue := 0 }, { name := "LOG2_ARRAY_LONG_INDEX_SCALE", type := .int, accessFlags := 25, slot := 7, constantValue := 0 }, { name := "LOG2_ARRAY_FLOAT_INDEX_SCALE", type := .int, accessFlags := 25, slot := 8, constantValue := 0 }, { name := "LOG2_ARRAY_DOUBLE_INDEX_SCALE", type := .int, accessFlags := 25, slot := 9, constantValue := 0 }, { name := "LOG2_BYTE_BIT_SIZE", type := .int, accessFlags := 26, slot := 10, constantValue := 0 }, { name := "T_BOOLEAN", type := .int, accessFlags := 25, slot := 11, constantValue := 0 }, { name := "T_CHAR", type := .int, accessFlags := 25, slot := 12, constantValue := 0 }, { name := "T_FLOAT", type := .int, accessFlags := 25, slot := 13, constantValue := 0 }, { name := "T_DOUBLE", type := .int, accessFlags := 25, slot := 14, constantValue := 0 }, { name := "T_BYTE", type := .int, accessFlags := 25, slot := 15, constantValue := 0 }, { name := "T_SHORT", type := .int, accessFlags := 25, slot := 16, constantValue := 0 }, { name := "T_INT", type := .int, accessFlags := 25, slot := 17, constantValue := 0 }, { name := "T_LONG", type := .int, accessFlags := 25, slot := 18, constantValue := 0 }, { name := "JLA", type := (.object "jdk/internal/access/JavaLangAccess"), accessFlags := 26, slot := 19, constantValue := 0 }, { name := "SOFT_MAX_ARRAY_LENGTH", type := .int, accessFlags := 25, slot := 20, constantValue := 0 }]
  methods := #[k15m0]
  instanceTypes := #[]
  staticTypes := #[(.object "jdk/internal/misc/Unsafe"), .boolean, .int, .int, .int, .int, .int, .int, .int, .int, .int, .int, .int, .int, .int, .int, .int, .int, .int, (.object "jdk/internal/access/JavaLangAccess"), .int]
  resolved := Array.replicate 378 none
  statics := none }

def pool16 : Array CpInfo := pool [(1, u "java/lang/Cloneable"), (0, .class_ 1), (0, u "java/lang/Object"), (0, .class_ 3)] 3

/-- java/lang/Cloneable -/
def k16 : Class := { plain "java/lang/Cloneable" (some 0) with
  accessFlags := 1537
  interfaces := #[]
  cf := some (fileOf pool16 2 #[] #[] 1537 4 #[] #[])
  fields := #[]
  methods := #[]
  instanceTypes := #[]
  staticTypes := #[]
  resolved := Array.replicate 8 none
  statics := none }

/-- the primitive byte -/
def k17 : Class := { plain "byte" none with kind := .primitive 'B', accessFlags := 0x411 }
/-- [B -/
def k18 : Class := { plain "[B" (some 0) with kind := .array 17 .byte, interfaces := #[16, 4], accessFlags := 1041 }

/-- the primitive char -/
def k19 : Class := { plain "char" none with kind := .primitive 'C', accessFlags := 0x411 }
/-- [C -/
def k20 : Class := { plain "[C" (some 0) with kind := .array 19 .char, interfaces := #[16, 4], accessFlags := 1041 }

/-- the primitive int -/
def k21 : Class := { plain "int" none with kind := .primitive 'I', accessFlags := 0x411 }
/-- [I -/
def k22 : Class := { plain "[I" (some 0) with kind := .array 21 .int, interfaces := #[16, 4], accessFlags := 1041 }

/-- [Lcom/example/eunomia/eunomia/Reason; -/
def k23 : Class := { plain "[Lcom/example/eunomia/eunomia/Reason;" (some 0) with kind := .array 6 (.object "com/example/eunomia/eunomia/Reason"), interfaces := #[16, 4], accessFlags := 1041 }

def heap : Heap := #[{ cls := 6, slots := #[.ref 3, .ref 3, .ref 3, .ref 3, .ref 3, .ref 3, .ref 3, .ref 3, .ref 3, .ref 3, .ref 3, .ref 3, .ref 3, .ref 3, .ref 3, .ref 3, .ref 3, .ref 3, .ref 3, .ref 3, .ref 3, .ref 3, .null], vm := .statics 6 },
  { cls := 9, slots := #[.long 0, .int 1, .null, .int 0, .null, .int 0, .int 0], vm := .statics 9 },
  { cls := 14, slots := #[.null, .null, .null], vm := .statics 14 },
  { cls := 6, slots := #[.null, .int 0, .int 0, .null], vm := .none }]
def classes : Array Class := #[k0, k1, k2, k3, k4, k5, k6, k7, k8, k9, k10, k11, k12, k13, k14, k15, k16, k17, k18, k19, k20, k21, k22, k23]
def interned : List (Array UInt16 × Addr) := []
def slotsUsed : Nat := 37
def theMethod : MethodId := ⟨1, 1⟩
def args0 : Array Value := #[.int 3, .int 66, .int 67, .int 5]
def aboutOver (below : List Frame) : State where
  vm := { classes := classes, interned := interned.toArray }
  heap := heap
  slotsUsed := slotsUsed
  threads := #[{ frames := .invoking theMethod args0 :: below }]
def below0 : List Frame := [.native { method := ⟨0, 0⟩, args := #[] }]
def about1 : State := aboutOver below0
def p0 : Program := .bare "" "" ""
def e0 : Env := launch0.env 0 0 0
theorem w_frames : about1.frames = Frame.invoking theMethod args0 :: below0 := rfl
set_option maxRecDepth 65536 in
theorem w_args : argsFit about1.vm theMethod args0 = true := by decide +kernel
set_option maxRecDepth 65536 in
theorem w_heap : heapFits about1 = true := by decide +kernel
set_option maxRecDepth 65536 in
theorem w_runnable : about1.curStatus? = some .runnable := by decide +kernel
set_option maxRecDepth 65536 in
theorem w_alone : about1.alone = true := by decide +kernel
set_option maxRecDepth 65536 in
theorem w_named : about1.methodNamed? x = some theMethod := by decide +kernel
set_option maxRecDepth 65536 in
theorem w_hears : about1.hears theMethod below0 = true := by decide +kernel
set_option maxRecDepth 65536 in
theorem w_ripe : about1.ripe theMethod args0 below0 = true := by decide +kernel
theorem w_running : about1.status = .running := rfl
set_option maxRecDepth 65536 in
theorem w_room : about1.hasRoom e0.platform room_1 = true :=
  launch0.hasRoom_least _ room_1 (by decide +kernel) (by decide +kernel) (by decide +kernel) (by decide +kernel) (by decide +kernel) (by decide +kernel)
theorem allAtoms_all (ts : List Jvm.Cond) (a : Array Jvm.Value) (st : Jvm.State) : (allAtoms ts).before a st = ts.all (fun c => c.before a st) := by
  induction ts with
  | nil => rfl
  | cons c t ih =>
    show (Jvm.Cond.and c (allAtoms t)).before a st = _
    rw [Jvm.Cond.before_and, ih, List.all_cons]
def words1 : List Jvm.Cond := Jvm.Cond.code x code maxLocals ret :: tables_1
/-- a 'code' word, met by the world's own term for the bytes: nothing is compared byte by byte -/
theorem code_word {y : MethodName} {bytes : ByteArray} {mx : Nat} {rt : Option FieldType} {a : Array Value} {s : State} {m : MethodId} {meth : Method} {c : Code} (h1 : s.methodNamed? y = some m) (h2 : s.vm.method? m = some meth) (h3 : meth.code = some c) (h4 : c.code = bytes)
    (h5 : (c.maxLocals == mx && c.exceptionTable.isEmpty && decide (c.maxStack ≤ mostOperands) && decide (meth.sig.returnType = rt) && !meth.locks && decide (parseMethodDescriptor y.desc = some meth.sig)) = true) : (Jvm.Cond.code y bytes mx rt).before a s = true := by
  simp only [Bool.and_eq_true, beq_iff_eq, Bool.not_eq_true', decide_eq_true_eq] at h5
  obtain ⟨⟨⟨⟨⟨g1, g2⟩, g3⟩, g4⟩, g5⟩, g6⟩ := h5
  simp [Cond.before, Cond.holds, Cond.value, h1, h2, h3, h4, g1, g2, g3, g4, g5, g6]
def isCode : Jvm.Cond → Bool
  | .code _ _ _ _ => true
  | _ => false
theorem all_split {L : List Jvm.Cond} {P : Jvm.Cond → Bool} (h1 : L.all (fun c => isCode c || P c) = true) (h2 : ∀ c ∈ L.filter isCode, P c = true) : L.all P = true := by
  refine List.all_eq_true.mpr fun c hc => ?_
  have h := List.all_eq_true.mp h1 c hc
  rcases Bool.eq_false_or_eq_true (isCode c) with hi | hi
  · exact h2 c (List.mem_filter.mpr ⟨hc, hi⟩)
  · simpa [hi] using h
set_option maxRecDepth 65536 in
theorem w_c0 : (Jvm.Cond.code x code maxLocals ret).before args0 about1 = true := code_word (m := ⟨1, 1⟩) (meth := k1m1) (c := k1c1) (by decide +kernel) rfl rfl rfl (by decide +kernel)
set_option maxRecDepth 65536 in
theorem w_c1 : (Jvm.Cond.code ({ cls := "com/example/eunomia/eunomia/Answer", name := "refused", desc := "(Ljava/lang/String;Lcom/example/eunomia/eunomia/Reason;)Lcom/example/eunomia/eunomia/Answer;" } : Jvm.MethodName) prog_1_method_4_code (2 : Nat) (Option.some (Jvm.ClassFile.FieldType.object "com/example/eunomia/eunomia/Answer"))).before args0 about1 = true := code_word (m := ⟨10, 1⟩) (meth := k10m1) (c := k10c1) (by decide +kernel) rfl rfl rfl (by decide +kernel)
set_option maxRecDepth 65536 in
theorem w_c2 : (Jvm.Cond.code ({ cls := "java/util/Objects", name := "requireNonNull", desc := "(Ljava/lang/Object;)Ljava/lang/Object;" } : Jvm.MethodName) jdk_31_method_10_code (1 : Nat) (Option.some (Jvm.ClassFile.FieldType.object "java/lang/Object"))).before args0 about1 = true := code_word (m := ⟨11, 1⟩) (meth := k11m1) (c := k11c1) (by decide +kernel) rfl rfl rfl (by decide +kernel)
set_option maxRecDepth 65536 in
theorem w_c3 : (Jvm.Cond.code ({ cls := "com/example/eunomia/eunomia/Answer", name := "<init>", desc := "(Ljava/lang/String;JLcom/example/eunomia/eunomia/Reason;Z)V" } : Jvm.MethodName) prog_1_method_1_code (6 : Nat) (Option.none : Option Jvm.ClassFile.FieldType)).before args0 about1 = true := code_word (m := ⟨10, 0⟩) (meth := k10m0) (c := k10c0) (by decide +kernel) rfl rfl rfl (by decide +kernel)
set_option maxRecDepth 65536 in
theorem w_c4 : (Jvm.Cond.code ({ cls := "java/lang/Object", name := "<init>", desc := "()V" } : Jvm.MethodName) object_method_1_code (1 : Nat) (Option.none : Option Jvm.ClassFile.FieldType)).before args0 about1 = true := code_word (m := ⟨0, 0⟩) (meth := k0m0) (c := k0c0) (by decide +kernel) rfl rfl rfl (by decide +kernel)
set_option maxRecDepth 65536 in
theorem w_c5 : (Jvm.Cond.code ({ cls := "com/example/eunomia/eunomia/Answer", name := "id", desc := "()Ljava/lang/String;" } : Jvm.MethodName) prog_1_method_5_code (1 : Nat) (Option.some (Jvm.ClassFile.FieldType.object "java/lang/String"))).before args0 about1 = true := code_word (m := ⟨10, 2⟩) (meth := k10m2) (c := k10c2) (by decide +kernel) rfl rfl rfl (by decide +kernel)
set_option maxRecDepth 65536 in
theorem w_c6 : (Jvm.Cond.code ({ cls := "java/lang/String", name := "equals", desc := "(Ljava/lang/Object;)Z" } : Jvm.MethodName) jdk_42_method_66_code (3 : Nat) (Option.some Jvm.ClassFile.FieldType.boolean)).before args0 about1 = true := code_word (m := ⟨9, 2⟩) (meth := k9m2) (c := k9c2) (by decide +kernel) rfl rfl rfl (by decide +kernel)
set_option maxRecDepth 65536 in
theorem w_c7 : (Jvm.Cond.code ({ cls := "com/example/eunomia/eunomia/Answer", name := "seq", desc := "()J" } : Jvm.MethodName) prog_1_method_7_code (1 : Nat) (Option.some Jvm.ClassFile.FieldType.long)).before args0 about1 = true := code_word (m := ⟨10, 4⟩) (meth := k10m4) (c := k10c4) (by decide +kernel) rfl rfl rfl (by decide +kernel)
set_option maxRecDepth 65536 in
theorem w_c8 : (Jvm.Cond.code ({ cls := "com/example/eunomia/eunomia/Answer", name := "reason", desc := "()Lcom/example/eunomia/eunomia/Reason;" } : Jvm.MethodName) prog_1_method_8_code (1 : Nat) (Option.some (Jvm.ClassFile.FieldType.object "com/example/eunomia/eunomia/Reason"))).before args0 about1 = true := code_word (m := ⟨10, 5⟩) (meth := k10m5) (c := k10c5) (by decide +kernel) rfl rfl rfl (by decide +kernel)
set_option maxRecDepth 65536 in
theorem w_c9 : (Jvm.Cond.code ({ cls := "com/example/eunomia/eunomia/Answer", name := "isAccepted", desc := "()Z" } : Jvm.MethodName) prog_1_method_6_code (1 : Nat) (Option.some Jvm.ClassFile.FieldType.boolean)).before args0 about1 = true := code_word (m := ⟨10, 3⟩) (meth := k10m3) (c := k10c3) (by decide +kernel) rfl rfl rfl (by decide +kernel)
set_option maxRecDepth 65536 in
theorem w_c10 : (Jvm.Cond.code ({ cls := "java/lang/String", name := "<init>", desc := "([C)V" } : Jvm.MethodName) jdk_42_method_3_code (2 : Nat) (Option.none : Option Jvm.ClassFile.FieldType)).before args0 about1 = true := code_word (m := ⟨9, 1⟩) (meth := k9m1) (c := k9c1) (by decide +kernel) rfl rfl rfl (by decide +kernel)
set_option maxRecDepth 65536 in
theorem w_c11 : (Jvm.Cond.code ({ cls := "java/lang/String", name := "<init>", desc := "([CIILjava/lang/Void;)V" } : Jvm.MethodName) jdk_42_method_149_code (6 : Nat) (Option.none : Option Jvm.ClassFile.FieldType)).before args0 about1 = true := code_word (m := ⟨9, 4⟩) (meth := k9m4) (c := k9c4) (by decide +kernel) rfl rfl rfl (by decide +kernel)
set_option maxRecDepth 65536 in
theorem w_c12 : (Jvm.Cond.code ({ cls := "java/lang/StringUTF16", name := "compress", desc := "([CII)[B" } : Jvm.MethodName) jdk_52_method_16_code (6 : Nat) (Option.some (Jvm.ClassFile.FieldType.array Jvm.ClassFile.FieldType.byte))).before args0 about1 = true := code_word (m := ⟨12, 2⟩) (meth := k12m2) (c := k12c2) (by decide +kernel) rfl rfl rfl (by decide +kernel)
set_option maxRecDepth 65536 in
theorem w_c13 : (Jvm.Cond.code ({ cls := "java/lang/StringUTF16", name := "compress", desc := "([CI[BII)I" } : Jvm.MethodName) jdk_52_method_21_code (7 : Nat) (Option.some Jvm.ClassFile.FieldType.int)).before args0 about1 = true := code_word (m := ⟨12, 3⟩) (meth := k12m3) (c := k12c3) (by decide +kernel) rfl rfl rfl (by decide +kernel)
set_option maxRecDepth 65536 in
theorem w_c14 : (Jvm.Cond.code ({ cls := "java/lang/StringUTF16", name := "coderFromArrayLen", desc := "([BI)B" } : Jvm.MethodName) jdk_52_method_15_code (2 : Nat) (Option.some Jvm.ClassFile.FieldType.byte)).before args0 about1 = true := code_word (m := ⟨12, 1⟩) (meth := k12m1) (c := k12c1) (by decide +kernel) rfl rfl rfl (by decide +kernel)
set_option maxRecDepth 65536 in
theorem w_c15 : (Jvm.Cond.code ({ cls := "java/lang/StringLatin1", name := "equals", desc := "([B[B)Z" } : Jvm.MethodName) jdk_43_method_13_code (3 : Nat) (Option.some Jvm.ClassFile.FieldType.boolean)).before args0 about1 = true := code_word (m := ⟨13, 2⟩) (meth := k13m2) (c := k13c2) (by decide +kernel) rfl rfl rfl (by decide +kernel)
set_option maxRecDepth 65536 in
theorem w_c16 : (Jvm.Cond.code ({ cls := "java/lang/String", name := "valueOf", desc := "(C)Ljava/lang/String;" } : Jvm.MethodName) jdk_42_method_139_code (1 : Nat) (Option.some (Jvm.ClassFile.FieldType.object "java/lang/String"))).before args0 about1 = true := code_word (m := ⟨9, 3⟩) (meth := k9m3) (c := k9c3) (by decide +kernel) rfl rfl rfl (by decide +kernel)
set_option maxRecDepth 65536 in
theorem w_c17 : (Jvm.Cond.code ({ cls := "java/lang/StringLatin1", name := "canEncode", desc := "(C)Z" } : Jvm.MethodName) jdk_43_method_3_code (1 : Nat) (Option.some Jvm.ClassFile.FieldType.boolean)).before args0 about1 = true := code_word (m := ⟨13, 1⟩) (meth := k13m1) (c := k13c1) (by decide +kernel) rfl rfl rfl (by decide +kernel)
set_option maxRecDepth 65536 in
theorem w_c18 : (Jvm.Cond.code ({ cls := "java/lang/StringLatin1", name := "toBytes", desc := "(C)[B" } : Jvm.MethodName) jdk_43_method_46_code (1 : Nat) (Option.some (Jvm.ClassFile.FieldType.array Jvm.ClassFile.FieldType.byte))).before args0 about1 = true := code_word (m := ⟨13, 3⟩) (meth := k13m3) (c := k13c3) (by decide +kernel) rfl rfl rfl (by decide +kernel)
set_option maxRecDepth 65536 in
theorem w_c19 : (Jvm.Cond.code ({ cls := "java/lang/String", name := "<init>", desc := "([BB)V" } : Jvm.MethodName) jdk_42_method_151_code (3 : Nat) (Option.none : Option Jvm.ClassFile.FieldType)).before args0 about1 = true := code_word (m := ⟨9, 5⟩) (meth := k9m5) (c := k9c5) (by decide +kernel) rfl rfl rfl (by decide +kernel)
def codes1 : List Jvm.Cond := [Jvm.Cond.code x code maxLocals ret, Jvm.Cond.code ({ cls := "com/example/eunomia/eunomia/Answer", name := "refused", desc := "(Ljava/lang/String;Lcom/example/eunomia/eunomia/Reason;)Lcom/example/eunomia/eunomia/Answer;" } : Jvm.MethodName) prog_1_method_4_code (2 : Nat) (Option.some (Jvm.ClassFile.FieldType.object "com/example/eunomia/eunomia/Answer")), Jvm.Cond.code ({ cls := "java/util/Objects", name := "requireNonNull", desc := "(Ljava/lang/Object;)Ljava/lang/Object;" } : Jvm.MethodName) jdk_31_method_10_code (1 : Nat) (Option.some (Jvm.ClassFile.FieldType.object "java/lang/Object")), Jvm.Cond.code ({ cls := "com/example/eunomia/eunomia/Answer", name := "<init>", desc := "(Ljava/lang/String;JLcom/example/eunomia/eunomia/Reason;Z)V" } : Jvm.MethodName) prog_1_method_1_code (6 : Nat) (Option.none : Option Jvm.ClassFile.FieldType), Jvm.Cond.code ({ cls := "java/lang/Object", name := "<init>", desc := "()V" } : Jvm.MethodName) object_method_1_code (1 : Nat) (Option.none : Option Jvm.ClassFile.FieldType), Jvm.Cond.code ({ cls := "com/example/eunomia/eunomia/Answer", name := "id", desc := "()Ljava/lang/String;" } : Jvm.MethodName) prog_1_method_5_code (1 : Nat) (Option.some (Jvm.ClassFile.FieldType.object "java/lang/String")), Jvm.Cond.code ({ cls := "java/lang/String", name := "equals", desc := "(Ljava/lang/Object;)Z" } : Jvm.MethodName) jdk_42_method_66_code (3 : Nat) (Option.some Jvm.ClassFile.FieldType.boolean), Jvm.Cond.code ({ cls := "com/example/eunomia/eunomia/Answer", name := "seq", desc := "()J" } : Jvm.MethodName) prog_1_method_7_code (1 : Nat) (Option.some Jvm.ClassFile.FieldType.long), Jvm.Cond.code ({ cls := "com/example/eunomia/eunomia/Answer", name := "reason", desc := "()Lcom/example/eunomia/eunomia/Reason;" } : Jvm.MethodName) prog_1_method_8_code (1 : Nat) (Option.some (Jvm.ClassFile.FieldType.object "com/example/eunomia/eunomia/Reason")), Jvm.Cond.code ({ cls := "com/example/eunomia/eunomia/Answer", name := "isAccepted", desc := "()Z" } : Jvm.MethodName) prog_1_method_6_code (1 : Nat) (Option.some Jvm.ClassFile.FieldType.boolean), Jvm.Cond.code ({ cls := "java/lang/String", name := "<init>", desc := "([C)V" } : Jvm.MethodName) jdk_42_method_3_code (2 : Nat) (Option.none : Option Jvm.ClassFile.FieldType), Jvm.Cond.code ({ cls := "java/lang/String", name := "<init>", desc := "([CIILjava/lang/Void;)V" } : Jvm.MethodName) jdk_42_method_149_code (6 : Nat) (Option.none : Option Jvm.ClassFile.FieldType), Jvm.Cond.code ({ cls := "java/lang/StringUTF16", name := "compress", desc := "([CII)[B" } : Jvm.MethodName) jdk_52_method_16_code (6 : Nat) (Option.some (Jvm.ClassFile.FieldType.array Jvm.ClassFile.FieldType.byte)), Jvm.Cond.code ({ cls := "java/lang/StringUTF16", name := "compress", desc := "([CI[BII)I" } : Jvm.MethodName) jdk_52_method_21_code (7 : Nat) (Option.some Jvm.ClassFile.FieldType.int), Jvm.Cond.code ({ cls := "java/lang/StringUTF16", name := "coderFromArrayLen", desc := "([BI)B" } : Jvm.MethodName) jdk_52_method_15_code (2 : Nat) (Option.some Jvm.ClassFile.FieldType.byte), Jvm.Cond.code ({ cls := "java/lang/StringLatin1", name := "equals", desc := "([B[B)Z" } : Jvm.MethodName) jdk_43_method_13_code (3 : Nat) (Option.some Jvm.ClassFile.FieldType.boolean), Jvm.Cond.code ({ cls := "java/lang/String", name := "valueOf", desc := "(C)Ljava/lang/String;" } : Jvm.MethodName) jdk_42_method_139_code (1 : Nat) (Option.some (Jvm.ClassFile.FieldType.object "java/lang/String")), Jvm.Cond.code ({ cls := "java/lang/StringLatin1", name := "canEncode", desc := "(C)Z" } : Jvm.MethodName) jdk_43_method_3_code (1 : Nat) (Option.some Jvm.ClassFile.FieldType.boolean), Jvm.Cond.code ({ cls := "java/lang/StringLatin1", name := "toBytes", desc := "(C)[B" } : Jvm.MethodName) jdk_43_method_46_code (1 : Nat) (Option.some (Jvm.ClassFile.FieldType.array Jvm.ClassFile.FieldType.byte)), Jvm.Cond.code ({ cls := "java/lang/String", name := "<init>", desc := "([BB)V" } : Jvm.MethodName) jdk_42_method_151_code (3 : Nat) (Option.none : Option Jvm.ClassFile.FieldType)]
set_option maxRecDepth 65536 in
theorem codes_eq : words1.filter isCode = codes1 := rfl
theorem w_codes : ∀ c ∈ words1.filter isCode, c.before args0 about1 = true := by
  rw [codes_eq]
  intro c hc
  simp only [codes1, List.mem_cons, List.not_mem_nil, or_false] at hc
  rcases hc with rfl | rfl | rfl | rfl | rfl | rfl | rfl | rfl | rfl | rfl | rfl | rfl | rfl | rfl | rfl | rfl | rfl | rfl | rfl | rfl
  · exact w_c0
  · exact w_c1
  · exact w_c2
  · exact w_c3
  · exact w_c4
  · exact w_c5
  · exact w_c6
  · exact w_c7
  · exact w_c8
  · exact w_c9
  · exact w_c10
  · exact w_c11
  · exact w_c12
  · exact w_c13
  · exact w_c14
  · exact w_c15
  · exact w_c16
  · exact w_c17
  · exact w_c18
  · exact w_c19
set_option maxRecDepth 65536 in
theorem w_t1 : (words1.take 24).all (fun c => isCode c || c.before args0 about1) = true := by decide +kernel
set_option maxRecDepth 65536 in
theorem w_t2 : ((words1.drop 24).take 24).all (fun c => isCode c || c.before args0 about1) = true := by decide +kernel
set_option maxRecDepth 65536 in
theorem w_t3 : (((words1.drop 24).drop 24).take 24).all (fun c => isCode c || c.before args0 about1) = true := by decide +kernel
set_option maxRecDepth 65536 in
theorem w_t4 : ((((words1.drop 24).drop 24).drop 24).take 24).all (fun c => isCode c || c.before args0 about1) = true := by decide +kernel
set_option maxRecDepth 65536 in
theorem w_t5 : (((((words1.drop 24).drop 24).drop 24).drop 24).take 24).all (fun c => isCode c || c.before args0 about1) = true := by decide +kernel
set_option maxRecDepth 65536 in
theorem w_t6 : ((((((words1.drop 24).drop 24).drop 24).drop 24).drop 24).take 24).all (fun c => isCode c || c.before args0 about1) = true := by decide +kernel
set_option maxRecDepth 65536 in
theorem w_t7 : ((((((words1.drop 24).drop 24).drop 24).drop 24).drop 24).drop 24).all (fun c => isCode c || c.before args0 about1) = true := by decide +kernel
theorem w_tables : (allAtoms (Jvm.Cond.code x code maxLocals ret :: tables_1)).before args0 about1 = true := by
  rw [allAtoms_all]
  show words1.all (fun c => c.before args0 about1) = true
  refine all_split ?_ w_codes
  rw [← List.take_append_drop 24 words1, List.all_append, w_t1, ← List.take_append_drop 24 (words1.drop 24), List.all_append, w_t2, ← List.take_append_drop 24 ((words1.drop 24).drop 24), List.all_append, w_t3, ← List.take_append_drop 24 (((words1.drop 24).drop 24).drop 24), List.all_append, w_t4, ← List.take_append_drop 24 ((((words1.drop 24).drop 24).drop 24).drop 24), List.all_append, w_t5, ← List.take_append_drop 24 (((((words1.drop 24).drop 24).drop 24).drop 24).drop 24), List.all_append, w_t6, w_t7]
  rfl
set_option maxRecDepth 65536 in
theorem w_rest : rest_1_c.before args0 about1 = true := by decide +kernel
set_option maxRecDepth 65536 in
theorem w_case : (Jvm.Cond.and given_1 narrow_1).before args0 about1 = true := by decide +kernel
set_option maxRecDepth 65536 in
theorem w_consts : constsHeld consts_1 about1 := Jvm.Lit.constsHeldB_iff.mp (by decide +kernel)
theorem w_applies : (headSpec (Jvm.Cond.code x code maxLocals ret :: tables_1) room_1).applies x e0.platform about1 = true :=
  (Spec.applies_iff w_frames).mpr ⟨w_running, w_runnable, w_alone, w_named, w_hears, w_ripe, w_room, w_tables⟩
theorem atStart : AtStart classFile x code maxLocals ret World_1 tables_1 room_1 Calls_1 rest_1 Pre_1 launch0 p0 e0 about1 theMethod args0 below0 :=
  ⟨lists_1, trivial, launch0.admits_env _ _ _, launch0.least_env, fairChoices_fair.cas, fairChoices_fair.clock, w_frames, w_args, w_heap, w_applies, ⟨w_consts, trivial⟩, w_rest, w_case⟩
end start1
theorem witness_1 : WitnessClaimed_1 := ⟨start1.p0, start1.e0, start1.about1, start1.theMethod, start1.args0, start1.below0, start1.atStart⟩
end Jvm.Pilot.@@N@@
