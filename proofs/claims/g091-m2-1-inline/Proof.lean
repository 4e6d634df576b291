import JvmDerived
import JvmDerived.Pilot.@@N@@Statement
import JvmDerived.Pilot.@@N@@Code
set_option linter.unusedVariables false
set_option linter.unusedSimpArgs false
namespace Jvm.RoadKit
open Sem ClassFile Op Lib Jvm.Stand Jvm.Free Jvm.LawKit
section New
variable {p : Program} {l : Launch} {e : Env} {R : Room} {s : State} {m : MethodId} {args : Array Value} {below : List Frame} {meth : Method} {c : Code} {T : State} {locs : List Loc} {cells slots : Nat}
theorem retI (X : Stand p l e R s m args below meth c T locs cells slots) (hx : p.tables.exec = Jvm.exec) {pc : Nat} {Ls : Array Slot} {z : Int32} {rest : List Value} (hret : meth.sig.returnType = some .int) (hd : decode c.code pc = .ok (.ireturn, 1)) {fs : List Frame}
    (hl : ∀ (f : JFrame) (acts : List Action), f.method = m → f.locked = none → f.entered = [] → (doReturn e (T.setTop f) acts (some (.int z))).1 = T.setFrames fs) : Steps p.tables e below (T.setTop (mkF m pc Ls (.int z :: rest))) (T.setFrames fs) := by
  have hm' : T.vm.method? m = some meth := X.method'
  have hn : narrow .int (.int z) = .int z := rfl
  show Steps p.tables e below (T.setTop { method := m, pc := pc, locals := Ls, stack := _ :: rest, locked := none }) _
  jvm_step X.here [X.here.top, hx, hd, hm', hret, hn]
  first | (intro acts; rw [hl _ acts rfl rfl rfl]) | rw [hl _ _ rfl rfl rfl]
  exact Steps.refl _
theorem retL (X : Stand p l e R s m args below meth c T locs cells slots) (hx : p.tables.exec = Jvm.exec) {pc : Nat} {Ls : Array Slot} {z : Int64} {rest : List Value} (hret : meth.sig.returnType = some .long) (hd : decode c.code pc = .ok (.lreturn, 1)) {fs : List Frame}
    (hl : ∀ (f : JFrame) (acts : List Action), f.method = m → f.locked = none → f.entered = [] → (doReturn e (T.setTop f) acts (some (.long z))).1 = T.setFrames fs) : Steps p.tables e below (T.setTop (mkF m pc Ls (.long z :: rest))) (T.setFrames fs) := by
  have hm' : T.vm.method? m = some meth := X.method'
  have hn : narrow .long (.long z) = .long z := rfl
  show Steps p.tables e below (T.setTop { method := m, pc := pc, locals := Ls, stack := _ :: rest, locked := none }) _
  jvm_step X.here [X.here.top, hx, hd, hm', hret, hn]
  first | (intro acts; rw [hl _ acts rfl rfl rfl]) | rw [hl _ _ rfl rfl rfl]
  exact Steps.refl _
theorem retR (X : Stand p l e R s m args below meth c T locs cells slots) (hx : p.tables.exec = Jvm.exec) {pc : Nat} {Ls : Array Slot} {w : Value} {t : FieldType} {rest : List Value} (hret : meth.sig.returnType = some t) (hn : narrow t w = w) (ht : t.isReference = true) (hw : w.isRef = true) (hd : decode c.code pc = .ok (.areturn, 1)) {fs : List Frame}
    (hl : ∀ (f : JFrame) (acts : List Action), f.method = m → f.locked = none → f.entered = [] → (doReturn e (T.setTop f) acts (some w)).1 = T.setFrames fs) : Steps p.tables e below (T.setTop (mkF m pc Ls (w :: rest))) (T.setFrames fs) := by
  have hm' : T.vm.method? m = some meth := X.method'
  show Steps p.tables e below (T.setTop { method := m, pc := pc, locals := Ls, stack := _ :: rest, locked := none }) _
  jvm_step X.here [X.here.top, hx, hd, hm', hret, hn, hw]
  try (refine ⟨ht, ?_⟩)
  first | (intro acts; rw [hl _ acts rfl rfl rfl]) | rw [hl _ _ rfl rfl rfl]
  exact Steps.refl _
end New
end Jvm.RoadKit
namespace Jvm.Pilot.@@N@@
open Jvm Jvm.ClassFile Sem Op Lib Jvm.Free Jvm.Stand Jvm.LawKit Jvm.RoadKit Bundle Jvm.Pilot.@@N@@.Jvm.D
/-- what a walk of one body knows of its method, and how it ends -/
def Ctx (p : Program) (s : State) (m : MethodId) (meth : Method) (c : Code) (Z : State) (own : String) (bs : ByteArray) (ml : Nat) (ret : Option FieldType) (nm : String) (R : Room) (F : Outcome → State → List Loc → Prop) (B : Nat) : Prop :=
  p.tables.exec = Jvm.exec ∧ Z.Warmed39 s.vm ∧ s.vm.findClass own = some m.cls ∧ c.code = bs ∧ c.maxLocals = ml ∧ meth.sig.returnType = ret ∧ meth.name = nm ∧ meth.locks = false ∧
    ∀ (t : State) (v : Option Value) (L : List Loc) (k n : Nat), s.WarmedH t.vm → s.sameButNew ({ t with vm := s.vm } : State) L k n → B ≤ t.heap.size → k ≤ R.cells → n ≤ R.slots → F (.returned v) t L
/-- from the frame g, in any state that stands so with the heap h, the body runs to its end and leaves Q -/
def Go (p : Program) (l : Launch) (e : Env) (R : Room) (s : State) (m : MethodId) (args : Array Value) (below : List Frame) (meth : Method) (c : Code) (n0 : Nat) (Q : Option Value → Vm → Heap → Prop) (F : Outcome → State → List Loc → Prop) (B : Nat) (h : Heap) (k n : Nat) (g : JFrame) : Prop :=
  ∀ (T : State) (locs : List Loc), Stand p l e R s m args below meth c T locs k n → T.heap = h → Fr n0 locs → B ≤ h.size →
    ∃ s₂ o, Steps p.tables e below (T.setTop g) s₂ ∧ s₂.status = .running ∧ Ended s₂ below o ∧ ∃ v L, o = .returned v ∧ (Q v s₂.vm s₂.heap ∧ Fr n0 L) ∧ F o s₂ L
/-- who pays a call: what it asks and what it leaves -/
def Pays (l : Launch) (R : Room) (p : Program) (e : Env) (below : List Frame) (s : State) (args : Array Value) (y : MethodName) (len W : Nat) (as' : Array Value) (h : Heap) (kc nc : Nat) (Qc : Option Value → Heap → List Loc → Prop) : Prop :=
  Back l R p e below s args y len W (fun A a => a = as' ∧ A.U.heap = h ∧ A.cells + kc ≤ R.cells ∧ A.slots + nc ≤ R.slots)
    (fun A _ v B => ∃ L, Qc v B.U.heap L ∧ B.locs = A.locs ++ L ∧ B.cells = A.cells + kc ∧ B.slots = A.slots + nc)
/-- the same of a callee that may load String constants -/
def PaysW (l : Launch) (R : Room) (p : Program) (e : Env) (below : List Frame) (s : State) (vm0 : Vm) (args : Array Value) (y : MethodName) (len W : Nat) (as' : Array Value) (h : Heap) (kc nc : Nat) (Z : State) (EL : List (String × Nat)) (Qc : Option Value → Heap → List Loc → Prop) : Prop :=
  BackS l R p e below (s.setVm vm0) args y len W (fun A a => a = as' ∧ A.U.heap = h ∧ A.cells + kc ≤ R.cells ∧ A.slots + nc ≤ R.slots)
    (fun A _ v B => ∃ L, Qc v B.U.heap L ∧ B.locs = A.locs ++ L ∧ B.cells = A.cells + kc ∧ B.slots = A.slots + nc ∧ CHr Z EL vm0 h B.U.vm B.U.heap)
/-- a method's contract: at the heap h0, with these arguments, it returns and leaves Q; nothing below n0 is written -/
def Met (l : Launch) (Z : State) (ws : List Jvm.Cond) (y : MethodName) (bs : ByteArray) (ml : Nat) (ret : Option FieldType) (rm : Room) (as' : Array Value) (h0 : Heap) (n0 : Nat) (Q : Option Value → Heap → Prop) : Prop :=
  MetFree l y (head1 (Jvm.Cond.code y bs ml ret :: ws) rm) (fun a U => a = as' ∧ Z.Warmed39 U.vm ∧ U.heap = h0) (fun _ _ _ _ _ => True) (fun _ U o U' => ∃ v L, o = .returned v ∧ ((Q v U'.heap ∧ Fr n0 L) ∧ h0.size ≤ U'.heap.size) ∧ FrameEnd U o U' L rm.cells rm.slots)
/-- the same, where a stack trace is filled in beneath it -/
def MetK (l : Launch) (Z : State) (ws : List Jvm.Cond) (y : MethodName) (bs : ByteArray) (ml : Nat) (ret : Option FieldType) (rm : Room) (as' : Array Value) (h0 : Heap) (n0 : Nat) (Q : Option Value → Heap → Prop) : Prop :=
  MetFree l y (head1 (Jvm.Cond.code y bs ml ret :: ws) rm) (fun a U => a = as' ∧ Z.Warmed39 U.vm ∧ U.heap = h0) (fun _ _ bl s _ => s.vm.MethodsKnown ∧ s.vm.FramesKnown bl) (fun _ U o U' => ∃ v L, o = .returned v ∧ ((Q v U'.heap ∧ Fr n0 L) ∧ h0.size ≤ U'.heap.size) ∧ FrameEnd U o U' L rm.cells rm.slots)
/-- the same, where String constants may be loaded; EL: the constants that are read -/
def MetW (l : Launch) (Z : State) (ws : List Jvm.Cond) (EL : List (String × Nat)) (y : MethodName) (bs : ByteArray) (ml : Nat) (ret : Option FieldType) (rm : Room) (as' : Array Value) (h0 : Heap) (n0 : Nat) (Q : Option Value → Heap → Prop) : Prop :=
  MetFree l y (head1 (Jvm.Cond.code y bs ml ret :: ws) rm) (fun a U => a = as' ∧ Z.Warmed39 U.vm ∧ U.heap = h0 ∧ CHv Z EL U.vm h0) (fun _ _ _ _ _ => True) (fun _ U o U' => ∃ v L, o = .returned v ∧ ((Q v U'.heap ∧ Fr n0 L) ∧ h0.size ≤ U'.heap.size) ∧ CHr Z EL U.vm U.heap U'.vm U'.heap ∧ ReturnedEndW U o U' L rm.cells rm.slots)
/-- both -/
def MetWK (l : Launch) (Z : State) (ws : List Jvm.Cond) (EL : List (String × Nat)) (y : MethodName) (bs : ByteArray) (ml : Nat) (ret : Option FieldType) (rm : Room) (as' : Array Value) (h0 : Heap) (n0 : Nat) (Q : Option Value → Heap → Prop) : Prop :=
  MetFree l y (head1 (Jvm.Cond.code y bs ml ret :: ws) rm) (fun a U => a = as' ∧ Z.Warmed39 U.vm ∧ U.heap = h0 ∧ CHv Z EL U.vm h0) (fun _ _ bl s _ => s.vm.MethodsKnown ∧ s.vm.FramesKnown bl) (fun _ U o U' => ∃ v L, o = .returned v ∧ ((Q v U'.heap ∧ Fr n0 L) ∧ h0.size ≤ U'.heap.size) ∧ CHr Z EL U.vm U.heap U'.vm U'.heap ∧ ReturnedEndW U o U' L rm.cells rm.slots)
section GoKit
variable {p : Program} {l : Launch} {e : Env} {R : Room} {s : State} {m : MethodId} {args : Array Value} {below : List Frame} {meth : Method} {c : Code} {n0 : Nat} {Q : Option Value → Vm → Heap → Prop} {F : Outcome → State → List Loc → Prop} {B : Nat} {h : Heap} {k n : Nat}
variable {Z : State} {own : String} {bs : ByteArray} {ml : Nat} {ret : Option FieldType} {nm : String} {a0 : Array Value}
variable {pc pc' : Nat} {Ls Ls' : Array Slot} {st rest : List Value}
theorem Ctx.cx (K : Ctx p s m meth c Z own bs ml ret nm R F B) : p.tables.exec = Jvm.exec := K.1
theorem Ctx.cz (K : Ctx p s m meth c Z own bs ml ret nm R F B) : Z.Warmed39 s.vm := K.2.1
theorem Ctx.co (K : Ctx p s m meth c Z own bs ml ret nm R F B) : s.vm.findClass own = some m.cls := K.2.2.1
theorem Ctx.cb (K : Ctx p s m meth c Z own bs ml ret nm R F B) : c.code = bs := K.2.2.2.1
theorem Ctx.cl (K : Ctx p s m meth c Z own bs ml ret nm R F B) : c.maxLocals = ml := K.2.2.2.2.1
theorem Ctx.cr (K : Ctx p s m meth c Z own bs ml ret nm R F B) : meth.sig.returnType = ret := K.2.2.2.2.2.1
theorem Ctx.cn (K : Ctx p s m meth c Z own bs ml ret nm R F B) : meth.name = nm := K.2.2.2.2.2.2.1
theorem Ctx.ck (K : Ctx p s m meth c Z own bs ml ret nm R F B) : meth.locks = false := K.2.2.2.2.2.2.2.1
theorem Ctx.ce (K : Ctx p s m meth c Z own bs ml ret nm R F B) : ∀ (t : State) (v : Option Value) (L : List Loc) (k n : Nat), s.WarmedH t.vm → s.sameButNew ({ t with vm := s.vm } : State) L k n → B ≤ t.heap.size → k ≤ R.cells → n ≤ R.slots → F (.returned v) t L := K.2.2.2.2.2.2.2.2
/-- a step that leaves heap and counts alone -/
theorem Go.by {g g' : JFrame} (H : Go p l e R s m args below meth c n0 Q F B h k n g')
    (q : ∀ (T : State) (locs : List Loc), Stand p l e R s m args below meth c T locs k n → T.heap = h → ∀ t, Steps p.tables e below (T.setTop g') t → Steps p.tables e below (T.setTop g) t) : Go p l e R s m args below meth c n0 Q F B h k n g :=
  fun T locs X eT N hB => by
    obtain ⟨s₂, o, a, b⟩ := H T locs X eT N hB
    exact ⟨s₂, o, q T locs X eT _ a, b⟩
theorem Go.iload (K : Ctx p s m meth c Z own bs ml ret nm R F B) {j : Nat} {v : Int32} (hd : decode bs pc = .ok (.iload j, 2)) (hl : Ls[j]? = some (.val (.int v))) (hp : pc + 2 = pc') (H : Go p l e R s m args below meth c n0 Q F B h k n (mkF m pc' Ls (.int v :: st))) : Go p l e R s m args below meth c n0 Q F B h k n (mkF m pc Ls st) := by
  subst hp
  exact H.by fun T _ X _ t q => XS.iload X.here K.cx rfl (hb K.cb hd) hl q
theorem Go.iloadN (K : Ctx p s m meth c Z own bs ml ret nm R F B) {j : Fin 4} {v : Int32} (hd : decode bs pc = .ok (.iload_n j, 1)) (hl : Ls[j.val]? = some (.val (.int v))) (hp : pc + 1 = pc') (H : Go p l e R s m args below meth c n0 Q F B h k n (mkF m pc' Ls (.int v :: st))) : Go p l e R s m args below meth c n0 Q F B h k n (mkF m pc Ls st) := by
  subst hp
  exact H.by fun T _ X _ t q => XS.iloadN X.here K.cx rfl (hb K.cb hd) hl q
theorem Go.lload (K : Ctx p s m meth c Z own bs ml ret nm R F B) {j : Nat} {v : Int64} (hd : decode bs pc = .ok (.lload j, 2)) (hl : Ls[j]? = some (.val (.long v))) (hp : pc + 2 = pc') (H : Go p l e R s m args below meth c n0 Q F B h k n (mkF m pc' Ls (.long v :: st))) : Go p l e R s m args below meth c n0 Q F B h k n (mkF m pc Ls st) := by
  subst hp
  exact H.by fun T _ X _ t q => XS.lload X.here K.cx rfl (hb K.cb hd) hl q
theorem Go.lloadN (K : Ctx p s m meth c Z own bs ml ret nm R F B) {j : Fin 4} {v : Int64} (hd : decode bs pc = .ok (.lload_n j, 1)) (hl : Ls[j.val]? = some (.val (.long v))) (hp : pc + 1 = pc') (H : Go p l e R s m args below meth c n0 Q F B h k n (mkF m pc' Ls (.long v :: st))) : Go p l e R s m args below meth c n0 Q F B h k n (mkF m pc Ls st) := by
  subst hp
  exact H.by fun T _ X _ t q => XS.lloadN X.here K.cx rfl (hb K.cb hd) hl q
theorem Go.aload (K : Ctx p s m meth c Z own bs ml ret nm R F B) {j : Nat} {v : Value} (hd : decode bs pc = .ok (.aload j, 2)) (hl : Ls[j]? = some (.val v)) (hv : v.isRef = true) (hp : pc + 2 = pc') (H : Go p l e R s m args below meth c n0 Q F B h k n (mkF m pc' Ls (v :: st))) : Go p l e R s m args below meth c n0 Q F B h k n (mkF m pc Ls st) := by
  subst hp
  exact H.by fun T _ X _ t q => XS.aload X.here K.cx rfl (hb K.cb hd) hl hv q
theorem Go.aloadN (K : Ctx p s m meth c Z own bs ml ret nm R F B) {j : Fin 4} {v : Value} (hd : decode bs pc = .ok (.aload_n j, 1)) (hl : Ls[j.val]? = some (.val v)) (hv : v.isRef = true) (hp : pc + 1 = pc') (H : Go p l e R s m args below meth c n0 Q F B h k n (mkF m pc' Ls (v :: st))) : Go p l e R s m args below meth c n0 Q F B h k n (mkF m pc Ls st) := by
  subst hp
  exact H.by fun T _ X _ t q => XS.aloadN X.here K.cx rfl (hb K.cb hd) hl hv q
theorem Go.istore (K : Ctx p s m meth c Z own bs ml ret nm R F B) {j : Nat} {v : Int32} (hd : decode bs pc = .ok (.istore j, 2)) (hl : storeLocals Ls j (.int v) = some Ls') (hp : pc + 2 = pc') (H : Go p l e R s m args below meth c n0 Q F B h k n (mkF m pc' Ls' st)) : Go p l e R s m args below meth c n0 Q F B h k n (mkF m pc Ls (.int v :: st)) := by
  subst hp
  exact H.by fun T _ X _ t q => XS.istore X.here K.cx rfl (hb K.cb hd) rfl hl q
theorem Go.istoreN (K : Ctx p s m meth c Z own bs ml ret nm R F B) {j : Fin 4} {v : Int32} (hd : decode bs pc = .ok (.istore_n j, 1)) (hl : storeLocals Ls j.val (.int v) = some Ls') (hp : pc + 1 = pc') (H : Go p l e R s m args below meth c n0 Q F B h k n (mkF m pc' Ls' st)) : Go p l e R s m args below meth c n0 Q F B h k n (mkF m pc Ls (.int v :: st)) := by
  subst hp
  exact H.by fun T _ X _ t q => XS.istoreN X.here K.cx rfl (hb K.cb hd) rfl hl q
theorem Go.astore (K : Ctx p s m meth c Z own bs ml ret nm R F B) {j : Nat} {v : Value} (hd : decode bs pc = .ok (.astore j, 2)) (hv : v.isRef = true) (hl : storeLocals Ls j v = some Ls') (hp : pc + 2 = pc') (H : Go p l e R s m args below meth c n0 Q F B h k n (mkF m pc' Ls' st)) : Go p l e R s m args below meth c n0 Q F B h k n (mkF m pc Ls (v :: st)) := by
  subst hp
  exact H.by fun T _ X _ t q => XS.astore X.here K.cx rfl (hb K.cb hd) rfl hv hl q
theorem Go.astoreN (K : Ctx p s m meth c Z own bs ml ret nm R F B) {j : Fin 4} {v : Value} (hd : decode bs pc = .ok (.astore_n j, 1)) (hv : v.isRef = true) (hl : storeLocals Ls j.val v = some Ls') (hp : pc + 1 = pc') (H : Go p l e R s m args below meth c n0 Q F B h k n (mkF m pc' Ls' st)) : Go p l e R s m args below meth c n0 Q F B h k n (mkF m pc Ls (v :: st)) := by
  subst hp
  exact H.by fun T _ X _ t q => XS.astoreN X.here K.cx rfl (hb K.cb hd) rfl hv hl q
theorem Go.iconst (K : Ctx p s m meth c Z own bs ml ret nm R F B) {i : Int} {v : Int32} (hd : decode bs pc = .ok (.iconst i, 1)) (hv : Int32.ofInt i = v) (hp : pc + 1 = pc') (H : Go p l e R s m args below meth c n0 Q F B h k n (mkF m pc' Ls (.int v :: st))) : Go p l e R s m args below meth c n0 Q F B h k n (mkF m pc Ls st) := by
  subst hp hv
  exact H.by fun T _ X _ t q => XS.iconst X.here K.cx rfl (hb K.cb hd) q
theorem Go.bipush (K : Ctx p s m meth c Z own bs ml ret nm R F B) {i : Int} {v : Int32} (hd : decode bs pc = .ok (.bipush i, 2)) (hv : (Int8.ofInt i).toInt32 = v) (hp : pc + 2 = pc') (H : Go p l e R s m args below meth c n0 Q F B h k n (mkF m pc' Ls (.int v :: st))) : Go p l e R s m args below meth c n0 Q F B h k n (mkF m pc Ls st) := by
  subst hp hv
  exact H.by fun T _ X _ t q => XS.bipush X.here K.cx rfl (hb K.cb hd) q
theorem Go.sipush (K : Ctx p s m meth c Z own bs ml ret nm R F B) {i : Int} {v : Int32} (hd : decode bs pc = .ok (.sipush i, 3)) (hv : (Int16.ofInt i).toInt32 = v) (hp : pc + 3 = pc') (H : Go p l e R s m args below meth c n0 Q F B h k n (mkF m pc' Ls (.int v :: st))) : Go p l e R s m args below meth c n0 Q F B h k n (mkF m pc Ls st) := by
  subst hp hv
  exact H.by fun T _ X _ t q => XS.sipush X.here K.cx rfl (hb K.cb hd) q
theorem Go.aconstNull (K : Ctx p s m meth c Z own bs ml ret nm R F B) (hd : decode bs pc = .ok (.aconst_null, 1)) (hp : pc + 1 = pc') (H : Go p l e R s m args below meth c n0 Q F B h k n (mkF m pc' Ls (.null :: st))) : Go p l e R s m args below meth c n0 Q F B h k n (mkF m pc Ls st) := by
  subst hp
  exact H.by fun T _ X _ t q => XS.aconstNull X.here K.cx rfl (hb K.cb hd) q
theorem Go.lconst (K : Ctx p s m meth c Z own bs ml ret nm R F B) {j : Fin 2} {v : Int64} (hd : decode bs pc = .ok (.lconst j, 1)) (hv : Int64.ofNat j = v) (hp : pc + 1 = pc') (H : Go p l e R s m args below meth c n0 Q F B h k n (mkF m pc' Ls (.long v :: st))) : Go p l e R s m args below meth c n0 Q F B h k n (mkF m pc Ls st) := by
  subst hp hv
  exact H.by fun T _ X _ t q => XS.lconst X.here K.cx rfl (hb K.cb hd) q
theorem Go.ldcInt (K : Ctx p s m meth c Z own bs ml ret nm R F B) {j : Nat} {v : Int32} (w : (Jvm.Cond.constant own j v).before args s = true) (hd : decode bs pc = .ok (.ldc j, 2)) (hp : pc + 2 = pc') (H : Go p l e R s m args below meth c n0 Q F B h k n (mkF m pc' Ls (.int v :: st))) : Go p l e R s m args below meth c n0 Q F B h k n (mkF m pc Ls st) := by
  subst hp
  exact H.by fun T _ X _ t q => X.ldcInt K.cx K.co w (g := mkF m pc Ls st) rfl (hb K.cb hd) t q
theorem Go.ldcLong (K : Ctx p s m meth c Z own bs ml ret nm R F B) {j : Nat} {v : Int64} (w : (Jvm.Cond.constantLong own j v).before args s = true) (hd : decode bs pc = .ok (.ldc2_w j, 3)) (hp : pc + 3 = pc') (H : Go p l e R s m args below meth c n0 Q F B h k n (mkF m pc' Ls (.long v :: st))) : Go p l e R s m args below meth c n0 Q F B h k n (mkF m pc Ls st) := by
  subst hp
  exact H.by fun T _ X _ t q => X.ldc2Long K.cx K.co w (g := mkF m pc Ls st) rfl (hb K.cb hd) t q
theorem Go.ldcR (K : Ctx p s m meth c Z own bs ml ret nm R F B) {j : Nat} {a : Addr} {text : String} (w : (Jvm.Cond.stringRef own j text).before a0 Z = true) (L : Lit Z own j a) (hd : decode bs pc = .ok (.ldc j, 2)) (hp : pc + 2 = pc') (H : Go p l e R s m args below meth c n0 Q F B h k n (mkF m pc' Ls (.ref a :: st))) : Go p l e R s m args below meth c n0 Q F B h k n (mkF m pc Ls st) := by
  subst hp
  exact H.by fun T _ X _ t q => Jvm.RoadKit.ldcR X K.cx K.cz K.co w L (g := mkF m pc Ls st) rfl (hb K.cb hd) t q
theorem Go.iadd (K : Ctx p s m meth c Z own bs ml ret nm R F B) {x y : Int32} (hd : decode bs pc = .ok (.iadd, 1)) (hp : pc + 1 = pc') (H : Go p l e R s m args below meth c n0 Q F B h k n (mkF m pc' Ls (.int (x + y) :: st))) : Go p l e R s m args below meth c n0 Q F B h k n (mkF m pc Ls (.int y :: .int x :: st)) := by
  subst hp
  exact H.by fun T _ X _ t q => XS.iadd X.here K.cx rfl (hb K.cb hd) rfl q
theorem Go.isub (K : Ctx p s m meth c Z own bs ml ret nm R F B) {x y : Int32} (hd : decode bs pc = .ok (.isub, 1)) (hp : pc + 1 = pc') (H : Go p l e R s m args below meth c n0 Q F B h k n (mkF m pc' Ls (.int (x - y) :: st))) : Go p l e R s m args below meth c n0 Q F B h k n (mkF m pc Ls (.int y :: .int x :: st)) := by
  subst hp
  exact H.by fun T _ X _ t q => XS.isub X.here K.cx rfl (hb K.cb hd) rfl q
theorem Go.imul (K : Ctx p s m meth c Z own bs ml ret nm R F B) {x y : Int32} (hd : decode bs pc = .ok (.imul, 1)) (hp : pc + 1 = pc') (H : Go p l e R s m args below meth c n0 Q F B h k n (mkF m pc' Ls (.int (x * y) :: st))) : Go p l e R s m args below meth c n0 Q F B h k n (mkF m pc Ls (.int y :: .int x :: st)) := by
  subst hp
  exact H.by fun T _ X _ t q => XS.imul X.here K.cx rfl (hb K.cb hd) rfl q
theorem Go.iand (K : Ctx p s m meth c Z own bs ml ret nm R F B) {x y : Int32} (hd : decode bs pc = .ok (.iand, 1)) (hp : pc + 1 = pc') (H : Go p l e R s m args below meth c n0 Q F B h k n (mkF m pc' Ls (.int (x &&& y) :: st))) : Go p l e R s m args below meth c n0 Q F B h k n (mkF m pc Ls (.int y :: .int x :: st)) := by
  subst hp
  exact H.by fun T _ X _ t q => XS.iand X.here K.cx rfl (hb K.cb hd) rfl q
theorem Go.ior (K : Ctx p s m meth c Z own bs ml ret nm R F B) {x y : Int32} (hd : decode bs pc = .ok (.ior, 1)) (hp : pc + 1 = pc') (H : Go p l e R s m args below meth c n0 Q F B h k n (mkF m pc' Ls (.int (x ||| y) :: st))) : Go p l e R s m args below meth c n0 Q F B h k n (mkF m pc Ls (.int y :: .int x :: st)) := by
  subst hp
  exact H.by fun T _ X _ t q => XS.ior X.here K.cx rfl (hb K.cb hd) rfl q
theorem Go.ixor (K : Ctx p s m meth c Z own bs ml ret nm R F B) {x y : Int32} (hd : decode bs pc = .ok (.ixor, 1)) (hp : pc + 1 = pc') (H : Go p l e R s m args below meth c n0 Q F B h k n (mkF m pc' Ls (.int (x ^^^ y) :: st))) : Go p l e R s m args below meth c n0 Q F B h k n (mkF m pc Ls (.int y :: .int x :: st)) := by
  subst hp
  exact H.by fun T _ X _ t q => XS.ixor X.here K.cx rfl (hb K.cb hd) rfl q
theorem Go.ishl (K : Ctx p s m meth c Z own bs ml ret nm R F B) {x y : Int32} (hd : decode bs pc = .ok (.ishl, 1)) (hp : pc + 1 = pc') (H : Go p l e R s m args below meth c n0 Q F B h k n (mkF m pc' Ls (.int (x <<< (y &&& 31)) :: st))) : Go p l e R s m args below meth c n0 Q F B h k n (mkF m pc Ls (.int y :: .int x :: st)) := by
  subst hp
  exact H.by fun T _ X _ t q => XS.ishl X.here K.cx rfl (hb K.cb hd) rfl q
theorem Go.ishr (K : Ctx p s m meth c Z own bs ml ret nm R F B) {x y : Int32} (hd : decode bs pc = .ok (.ishr, 1)) (hp : pc + 1 = pc') (H : Go p l e R s m args below meth c n0 Q F B h k n (mkF m pc' Ls (.int (x >>> (y &&& 31)) :: st))) : Go p l e R s m args below meth c n0 Q F B h k n (mkF m pc Ls (.int y :: .int x :: st)) := by
  subst hp
  exact H.by fun T _ X _ t q => XS.ishr X.here K.cx rfl (hb K.cb hd) rfl q
theorem Go.iushr (K : Ctx p s m meth c Z own bs ml ret nm R F B) {x y : Int32} (hd : decode bs pc = .ok (.iushr, 1)) (hp : pc + 1 = pc') (H : Go p l e R s m args below meth c n0 Q F B h k n (mkF m pc' Ls (.int ((x.toUInt32 >>> (y &&& 31).toUInt32).toInt32) :: st))) : Go p l e R s m args below meth c n0 Q F B h k n (mkF m pc Ls (.int y :: .int x :: st)) := by
  subst hp
  exact H.by fun T _ X _ t q => XS.iushr X.here K.cx rfl (hb K.cb hd) rfl q
theorem Go.idiv (K : Ctx p s m meth c Z own bs ml ret nm R F B) {x y : Int32} (hd : decode bs pc = .ok (.idiv, 1)) (hy : y ≠ 0) (hp : pc + 1 = pc') (H : Go p l e R s m args below meth c n0 Q F B h k n (mkF m pc' Ls (.int (x / y) :: st))) : Go p l e R s m args below meth c n0 Q F B h k n (mkF m pc Ls (.int y :: .int x :: st)) := by
  subst hp
  exact H.by fun T _ X _ t q => XS.idiv X.here K.cx rfl (hb K.cb hd) rfl hy q
theorem Go.irem (K : Ctx p s m meth c Z own bs ml ret nm R F B) {x y : Int32} (hd : decode bs pc = .ok (.irem, 1)) (hy : y ≠ 0) (hp : pc + 1 = pc') (H : Go p l e R s m args below meth c n0 Q F B h k n (mkF m pc' Ls (.int (x % y) :: st))) : Go p l e R s m args below meth c n0 Q F B h k n (mkF m pc Ls (.int y :: .int x :: st)) := by
  subst hp
  exact H.by fun T _ X _ t q => iremM X K.cx rfl (hb K.cb hd) rfl hy q
theorem Go.ladd (K : Ctx p s m meth c Z own bs ml ret nm R F B) {x y : Int64} (hd : decode bs pc = .ok (.ladd, 1)) (hp : pc + 1 = pc') (H : Go p l e R s m args below meth c n0 Q F B h k n (mkF m pc' Ls (.long (x + y) :: st))) : Go p l e R s m args below meth c n0 Q F B h k n (mkF m pc Ls (.long y :: .long x :: st)) := by
  subst hp
  exact H.by fun T _ X _ t q => XS.ladd X.here K.cx rfl (hb K.cb hd) rfl q
theorem Go.lsub (K : Ctx p s m meth c Z own bs ml ret nm R F B) {x y : Int64} (hd : decode bs pc = .ok (.lsub, 1)) (hp : pc + 1 = pc') (H : Go p l e R s m args below meth c n0 Q F B h k n (mkF m pc' Ls (.long (x - y) :: st))) : Go p l e R s m args below meth c n0 Q F B h k n (mkF m pc Ls (.long y :: .long x :: st)) := by
  subst hp
  exact H.by fun T _ X _ t q => XS.lsub X.here K.cx rfl (hb K.cb hd) rfl q
theorem Go.land (K : Ctx p s m meth c Z own bs ml ret nm R F B) {x y : Int64} (hd : decode bs pc = .ok (.land, 1)) (hp : pc + 1 = pc') (H : Go p l e R s m args below meth c n0 Q F B h k n (mkF m pc' Ls (.long (x &&& y) :: st))) : Go p l e R s m args below meth c n0 Q F B h k n (mkF m pc Ls (.long y :: .long x :: st)) := by
  subst hp
  exact H.by fun T _ X _ t q => XS.land X.here K.cx rfl (hb K.cb hd) rfl q
theorem Go.lor (K : Ctx p s m meth c Z own bs ml ret nm R F B) {x y : Int64} (hd : decode bs pc = .ok (.lor, 1)) (hp : pc + 1 = pc') (H : Go p l e R s m args below meth c n0 Q F B h k n (mkF m pc' Ls (.long (x ||| y) :: st))) : Go p l e R s m args below meth c n0 Q F B h k n (mkF m pc Ls (.long y :: .long x :: st)) := by
  subst hp
  exact H.by fun T _ X _ t q => XS.lor X.here K.cx rfl (hb K.cb hd) rfl q
theorem Go.lcmp (K : Ctx p s m meth c Z own bs ml ret nm R F B) {x y : Int64} (hd : decode bs pc = .ok (.lcmp, 1)) (hp : pc + 1 = pc') (H : Go p l e R s m args below meth c n0 Q F B h k n (mkF m pc' Ls (.int (lcmpW x y) :: st))) : Go p l e R s m args below meth c n0 Q F B h k n (mkF m pc Ls (.long y :: .long x :: st)) := by
  subst hp
  exact H.by fun T _ X _ t q => XS.lcmp X.here K.cx rfl (hb K.cb hd) rfl q
theorem Go.i2c (K : Ctx p s m meth c Z own bs ml ret nm R F B) {x : Int32} (hd : decode bs pc = .ok (.i2c, 1)) (hp : pc + 1 = pc') (H : Go p l e R s m args below meth c n0 Q F B h k n (mkF m pc' Ls (.int (x.toUInt32.toUInt16.toUInt32.toInt32) :: st))) : Go p l e R s m args below meth c n0 Q F B h k n (mkF m pc Ls (.int x :: st)) := by
  subst hp
  exact H.by fun T _ X _ t q => XS.i2c X.here K.cx rfl (hb K.cb hd) rfl q
theorem Go.i2b (K : Ctx p s m meth c Z own bs ml ret nm R F B) {x : Int32} (hd : decode bs pc = .ok (.i2b, 1)) (hp : pc + 1 = pc') (H : Go p l e R s m args below meth c n0 Q F B h k n (mkF m pc' Ls (.int (x.toInt8.toInt32) :: st))) : Go p l e R s m args below meth c n0 Q F B h k n (mkF m pc Ls (.int x :: st)) := by
  subst hp
  exact H.by fun T _ X _ t q => XS.i2b X.here K.cx rfl (hb K.cb hd) rfl q
theorem Go.i2l (K : Ctx p s m meth c Z own bs ml ret nm R F B) {x : Int32} (hd : decode bs pc = .ok (.i2l, 1)) (hp : pc + 1 = pc') (H : Go p l e R s m args below meth c n0 Q F B h k n (mkF m pc' Ls (.long (x.toInt64) :: st))) : Go p l e R s m args below meth c n0 Q F B h k n (mkF m pc Ls (.int x :: st)) := by
  subst hp
  exact H.by fun T _ X _ t q => XS.i2l X.here K.cx rfl (hb K.cb hd) rfl q
theorem Go.ineg (K : Ctx p s m meth c Z own bs ml ret nm R F B) {x : Int32} (hd : decode bs pc = .ok (.ineg, 1)) (hp : pc + 1 = pc') (H : Go p l e R s m args below meth c n0 Q F B h k n (mkF m pc' Ls (.int (-x) :: st))) : Go p l e R s m args below meth c n0 Q F B h k n (mkF m pc Ls (.int x :: st)) := by
  subst hp
  exact H.by fun T _ X _ t q => XS.ineg X.here K.cx rfl (hb K.cb hd) rfl q
theorem Go.dup (K : Ctx p s m meth c Z own bs ml ret nm R F B) {v : Value} (hd : decode bs pc = .ok (.dup, 1)) (hc : v.category = 1) (hp : pc + 1 = pc') (H : Go p l e R s m args below meth c n0 Q F B h k n (mkF m pc' Ls (v :: v :: st))) : Go p l e R s m args below meth c n0 Q F B h k n (mkF m pc Ls (v :: st)) := by
  subst hp
  exact H.by fun T _ X _ t q => XS.dup X.here K.cx rfl (hb K.cb hd) rfl hc q
theorem Go.pop (K : Ctx p s m meth c Z own bs ml ret nm R F B) {v : Value} (hd : decode bs pc = .ok (.pop, 1)) (hc : v.category = 1) (hp : pc + 1 = pc') (H : Go p l e R s m args below meth c n0 Q F B h k n (mkF m pc' Ls st)) : Go p l e R s m args below meth c n0 Q F B h k n (mkF m pc Ls (v :: st)) := by
  subst hp
  exact H.by fun T _ X _ t q => XS.pop X.here K.cx rfl (hb K.cb hd) rfl hc q
theorem Go.iinc (K : Ctx p s m meth c Z own bs ml ret nm R F B) {j : Nat} {cst : Int} {x : Int32} (hd : decode bs pc = .ok (.iinc j cst, 3)) (hl : Ls[j]? = some (.val (.int x))) (hl' : storeLocals Ls j (.int (x + Int32.ofInt cst)) = some Ls') (hp : pc + 3 = pc') (H : Go p l e R s m args below meth c n0 Q F B h k n (mkF m pc' Ls' st)) : Go p l e R s m args below meth c n0 Q F B h k n (mkF m pc Ls st) := by
  subst hp
  exact H.by fun T _ X _ t q => XS.iinc X.here K.cx rfl (hb K.cb hd) hl hl' q
theorem Go.goto (K : Ctx p s m meth c Z own bs ml ret nm R F B) {o : Int} (hd : decode bs pc = .ok (.goto o, 3)) (ho : 0 ≤ (pc : Int) + o) (hp : ((pc : Int) + o).toNat = pc') (H : Go p l e R s m args below meth c n0 Q F B h k n (mkF m pc' Ls st)) : Go p l e R s m args below meth c n0 Q F B h k n (mkF m pc Ls st) :=
  H.by fun T _ X _ t q => XS.goto X.here K.cx rfl rfl (hb K.cb hd) ho hp q
/-- a comparison as a proposition -/
def CmpP : ClassFile.Cond → Int32 → Int32 → Prop
  | .eq, x, y => x = y
  | .ne, x, y => ¬ x = y
  | .lt, x, y => x < y
  | .ge, x, y => ¬ x < y
  | .gt, x, y => y < x
  | .le, x, y => ¬ y < x
theorem cmp_holds (cd : ClassFile.Cond) (x y : Int32) : (if_icmp.holds cd x y = true → CmpP cd x y) ∧ (if_icmp.holds cd x y = false → ¬ CmpP cd x y) := by
  cases cd <;> simp only [CmpP]
  · by_cases h : x = y
    · exact ⟨fun _ => h, fun q => (by rw [(teq h).1] at q; cases q)⟩
    · exact ⟨fun q => (by rw [(feq h).1] at q; cases q), fun _ => h⟩
  · by_cases h : x = y
    · exact ⟨fun q => (by rw [(teq h).2] at q; cases q), fun _ q => q h⟩
    · exact ⟨fun _ => h, fun q => (by rw [(feq h).2] at q; cases q)⟩
  · by_cases h : x < y
    · exact ⟨fun _ => h, fun q => (by rw [(tlt h).1] at q; cases q)⟩
    · exact ⟨fun q => (by rw [(flt h).1] at q; cases q), fun _ => h⟩
  · by_cases h : x < y
    · exact ⟨fun q => (by rw [(tlt h).2.1] at q; cases q), fun _ q => q h⟩
    · exact ⟨fun _ => h, fun q => (by rw [(flt h).2.1] at q; cases q)⟩
  · by_cases h : y < x
    · exact ⟨fun _ => h, fun q => (by rw [(tlt h).2.2.1] at q; cases q)⟩
    · exact ⟨fun q => (by rw [(flt h).2.2.1] at q; cases q), fun _ => h⟩
  · by_cases h : y < x
    · exact ⟨fun q => (by rw [(tlt h).2.2.2] at q; cases q), fun _ q => q h⟩
    · exact ⟨fun _ => h, fun q => (by rw [(flt h).2.2.2] at q; cases q)⟩
theorem Go.icmp (K : Ctx p s m meth c Z own bs ml ret nm R F B) {cd : ClassFile.Cond} {x y : Int32} {o : Int} {pcT pcF : Nat} (hd : decode bs pc = .ok (.if_icmp cd o, 3)) (ho : 0 ≤ (pc : Int) + o) (hT : ((pc : Int) + o).toNat = pcT) (hF : pc + 3 = pcF)
    (HT : CmpP cd x y → Go p l e R s m args below meth c n0 Q F B h k n (mkF m pcT Ls st)) (HF : ¬ CmpP cd x y → Go p l e R s m args below meth c n0 Q F B h k n (mkF m pcF Ls st)) : Go p l e R s m args below meth c n0 Q F B h k n (mkF m pc Ls (.int y :: .int x :: st)) := by
  subst hF
  cases q : if_icmp.holds cd x y with
  | true => exact (HT ((cmp_holds cd x y).1 q)).by fun T _ X _ t r => XS.icmpYes X.here K.cx rfl rfl (hb K.cb hd) rfl q ho hT r
  | false => exact (HF ((cmp_holds cd x y).2 q)).by fun T _ X _ t r => XS.icmpNo X.here K.cx rfl (hb K.cb hd) rfl q r
theorem Go.ifc (K : Ctx p s m meth c Z own bs ml ret nm R F B) {cd : ClassFile.Cond} {x : Int32} {o : Int} {pcT pcF : Nat} (hd : decode bs pc = .ok (.ifCond cd o, 3)) (ho : 0 ≤ (pc : Int) + o) (hT : ((pc : Int) + o).toNat = pcT) (hF : pc + 3 = pcF)
    (HT : CmpP cd x 0 → Go p l e R s m args below meth c n0 Q F B h k n (mkF m pcT Ls st)) (HF : ¬ CmpP cd x 0 → Go p l e R s m args below meth c n0 Q F B h k n (mkF m pcF Ls st)) : Go p l e R s m args below meth c n0 Q F B h k n (mkF m pc Ls (.int x :: st)) := by
  subst hF
  cases q : if_icmp.holds cd x 0 with
  | true => exact (HT ((cmp_holds cd x 0).1 q)).by fun T _ X _ t r => XS.ifYes X.here K.cx rfl rfl (hb K.cb hd) rfl ((if0 _ _).trans q) ho hT r
  | false => exact (HF ((cmp_holds cd x 0).2 q)).by fun T _ X _ t r => XS.ifNo X.here K.cx rfl (hb K.cb hd) rfl ((if0 _ _).trans q) r
theorem Go.ifnullN (K : Ctx p s m meth c Z own bs ml ret nm R F B) {o : Int} (hd : decode bs pc = .ok (.ifnull o, 3)) (ho : 0 ≤ (pc : Int) + o) (hT : ((pc : Int) + o).toNat = pc') (H : Go p l e R s m args below meth c n0 Q F B h k n (mkF m pc' Ls st)) : Go p l e R s m args below meth c n0 Q F B h k n (mkF m pc Ls (.null :: st)) :=
  H.by fun T _ X _ t r => XS.ifnullYes X.here K.cx rfl rfl (hb K.cb hd) rfl ho hT r
theorem Go.ifnullR (K : Ctx p s m meth c Z own bs ml ret nm R F B) {o : Int} {a : Addr} (hd : decode bs pc = .ok (.ifnull o, 3)) (hp : pc + 3 = pc') (H : Go p l e R s m args below meth c n0 Q F B h k n (mkF m pc' Ls st)) : Go p l e R s m args below meth c n0 Q F B h k n (mkF m pc Ls (.ref a :: st)) := by
  subst hp
  exact H.by fun T _ X _ t r => XS.ifnullNo X.here K.cx rfl (hb K.cb hd) rfl r
theorem Go.ifnonnullR (K : Ctx p s m meth c Z own bs ml ret nm R F B) {o : Int} {a : Addr} (hd : decode bs pc = .ok (.ifnonnull o, 3)) (ho : 0 ≤ (pc : Int) + o) (hT : ((pc : Int) + o).toNat = pc') (H : Go p l e R s m args below meth c n0 Q F B h k n (mkF m pc' Ls st)) : Go p l e R s m args below meth c n0 Q F B h k n (mkF m pc Ls (.ref a :: st)) :=
  H.by fun T _ X _ t r => XS.ifnonnullYes X.here K.cx rfl rfl (hb K.cb hd) rfl ho hT r
theorem Go.ifnonnullN (K : Ctx p s m meth c Z own bs ml ret nm R F B) {o : Int} (hd : decode bs pc = .ok (.ifnonnull o, 3)) (hp : pc + 3 = pc') (H : Go p l e R s m args below meth c n0 Q F B h k n (mkF m pc' Ls st)) : Go p l e R s m args below meth c n0 Q F B h k n (mkF m pc Ls (.null :: st)) := by
  subst hp
  exact H.by fun T _ X _ t r => XS.ifnonnullNo X.here K.cx rfl (hb K.cb hd) rfl r
/-- if_acmp whose answer is known -/
theorem Go.acmp (K : Ctx p s m meth c Z own bs ml ret nm R F B) {cd : ACond} {x y : Value} {o : Int} {same : Bool} (hd : decode bs pc = .ok (.if_acmp cd o, 3)) (h1 : x.isRef = true) (h2 : y.isRef = true) (hq : decide (x = y) = same) (ho : 0 ≤ (pc : Int) + o) (hp : pc' = if acV cd same = true then ((pc : Int) + o).toNat else pc + 3)
    (H : Go p l e R s m args below meth c n0 Q F B h k n (mkF m pc' Ls st)) : Go p l e R s m args below meth c n0 Q F B h k n (mkF m pc Ls (y :: x :: st)) :=
  H.by fun T _ X _ t r => Jvm.RoadKit.acmp (g := mkF m pc Ls (y :: x :: st)) X K.cx rfl h1 h2 rfl (hb K.cb hd) rfl hq ho hp r
theorem Go.cast {g g' : JFrame} (q : g = g') (H : Go p l e R s m args below meth c n0 Q F B h k n g') : Go p l e R s m args below meth c n0 Q F B h k n g := q ▸ H
/-! the heap -/
theorem Go.getF (K : Ctx p s m meth c Z own bs ml ret nm R F B) {R0 O f d host : String} {j : Nat} {a : Addr} {v : Value} (w : (Jvm.Cond.fieldLink own j R0 f d).before a0 Z = true ∨ (Jvm.Cond.fieldLinkNest own j R0 f d host).before a0 Z = true) (via : Via Z R0 O f d) (Fa : Fld Z h a O f d v) (hd : decode bs pc = .ok (.getfield j, 3)) (hp : pc + 3 = pc')
    (H : Go p l e R s m args below meth c n0 Q F B h k n (mkF m pc' Ls (v :: st))) : Go p l e R s m args below meth c n0 Q F B h k n (mkF m pc Ls (.ref a :: st)) := by
  subst hp
  intro T locs X eT N hB
  obtain ⟨T', X', e', q⟩ := Jvm.RoadKit.getF X K.cx K.cz K.co w via eT Fa (g := mkF m pc Ls (.ref a :: st)) rfl rfl (hb K.cb hd)
  obtain ⟨s₂, o, r1, r2⟩ := H T' locs X' e' N hB
  exact ⟨s₂, o, q _ r1, r2⟩
theorem Go.getS (K : Ctx p s m meth c Z own bs ml ret nm R F B) {R0 O f d host : String} {j : Nat} {v : Value} (w : (Jvm.Cond.fieldLink own j R0 f d).before a0 Z = true ∨ (Jvm.Cond.fieldLinkNest own j R0 f d host).before a0 Z = true) (via : Via Z R0 O f d) (Fa : Sta Z h O f d v) (hd : decode bs pc = .ok (.getstatic j, 3)) (hp : pc + 3 = pc')
    (H : Go p l e R s m args below meth c n0 Q F B h k n (mkF m pc' Ls (v :: st))) : Go p l e R s m args below meth c n0 Q F B h k n (mkF m pc Ls st) := by
  subst hp
  intro T locs X eT N hB
  obtain ⟨T', X', e', q⟩ := Jvm.RoadKit.getS2 X K.cx K.cz K.co w via eT Fa (g := mkF m pc Ls st) rfl (hb K.cb hd)
  obtain ⟨s₂, o, r1, r2⟩ := H T' locs X' e' N hB
  exact ⟨s₂, o, q _ r1, r2⟩
theorem Go.putF (K : Ctx p s m meth c Z own bs ml ret nm R F B) {R0 O f d host C : String} {j kk : Nat} {ty : FieldType} {a : Addr} {v old : Value} (w : (Jvm.Cond.fieldLink own j R0 f d).before a0 Z = true ∨ (Jvm.Cond.fieldLinkNest own j R0 f d host).before a0 Z = true) (via : Via Z R0 O f d) (Fa : Fld Z h a O f d old) (E : Exa Z h a C)
    (L : (Jvm.Cond.lays C O f d).before a0 Z = true ∨ ((Jvm.Cond.laysFinal C O f d).before a0 Z = true ∧ own = O ∧ nm = "<init>")) (wi : (Jvm.Cond.instantiable C kk).before a0 Z = true) (hty : parseFieldDescriptor d = some ty) (hn : narrow ty v = v) (hf : fits ty v = true) (ha : n0 ≤ a) (hd : decode bs pc = .ok (.putfield j, 3)) (hp : pc + 3 = pc')
    (H : ∀ h', Wr h h' a (Jvm.RoadKit.slotOf Z O f d) v → Fld Z h' a O f d v → Go p l e R s m args below meth c n0 Q F B h' k n (mkF m pc' Ls st)) : Go p l e R s m args below meth c n0 Q F B h k n (mkF m pc Ls (v :: .ref a :: st)) := by
  subst hp
  intro T locs X eT N hB
  obtain ⟨T', h', X', e', W, q⟩ := Jvm.RoadKit.putF X K.cx K.cz K.co w via eT Fa E (L.imp id fun r => ⟨r.1, r.2.1, K.cn.trans r.2.2⟩) wi hty hn hf (g := mkF m pc Ls (v :: .ref a :: st)) rfl rfl (hb K.cb hd)
  obtain ⟨s₂, o, r1, r2⟩ := H h' W (Fa.same W) T' _ X' e' (Fr.snoc X' N ha) (Nat.le_trans hB (Keep.of_wr W).1)
  exact ⟨s₂, o, q _ r1, r2⟩
theorem Go.putFN (K : Ctx p s m meth c Z own bs ml ret nm R F B) {R0 O f d C : String} {j kk : Nat} {ty : FieldType} {a : Addr} {v v' old : Value} (w : (Jvm.Cond.fieldLink own j R0 f d).before a0 Z = true) (via : Via Z R0 O f d) (Fa : Fld Z h a O f d old) (E : Exa Z h a C)
    (L : (Jvm.Cond.lays C O f d).before a0 Z = true ∨ ((Jvm.Cond.laysFinal C O f d).before a0 Z = true ∧ own = O ∧ nm = "<init>")) (wi : (Jvm.Cond.instantiable C kk).before a0 Z = true) (hty : parseFieldDescriptor d = some ty) (hn : narrow ty v = v') (hf : fits ty v' = true) (ha : n0 ≤ a) (hd : decode bs pc = .ok (.putfield j, 3)) (hp : pc + 3 = pc')
    (H : ∀ h', Wr h h' a (Jvm.RoadKit.slotOf Z O f d) v' → Fld Z h' a O f d v' → Go p l e R s m args below meth c n0 Q F B h' k n (mkF m pc' Ls st)) : Go p l e R s m args below meth c n0 Q F B h k n (mkF m pc Ls (v :: .ref a :: st)) := by
  subst hp
  intro T locs X eT N hB
  obtain ⟨T', h', X', e', W, q⟩ := Jvm.RoadKit.putFN X K.cx K.cz K.co w via eT Fa E (L.imp id fun r => ⟨r.1, r.2.1, K.cn.trans r.2.2⟩) wi hty hn hf (g := mkF m pc Ls (v :: .ref a :: st)) rfl rfl (hb K.cb hd)
  obtain ⟨s₂, o, r1, r2⟩ := H h' W (Fa.same W) T' _ X' e' (Fr.snoc X' N ha) (Nat.le_trans hB (Keep.of_wr W).1)
  exact ⟨s₂, o, q _ r1, r2⟩
theorem Go.newO (K : Ctx p s m meth c Z own bs ml ret nm R F B) {C : String} {j i : Nat} (w : (Jvm.Cond.classLink own j C).before a0 Z = true) (wi : (Jvm.Cond.instantiable C i).before a0 Z = true) (wz : (Jvm.Cond.initialized C).before a0 Z = true) (hc : k + 1 ≤ R.cells) (hl : n + i ≤ R.slots) (hd : decode bs pc = .ok (.new j, 3)) (hp : pc + 3 = pc')
    (H : ∀ h' a, a = h.size → Ext h h' → Exa Z h' a C → (∀ {O f d : String} {ty : FieldType}, Laid Z a0 C O f d → parseFieldDescriptor d = some ty → Fld Z h' a O f d (defaultValue ty)) → Go p l e R s m args below meth c n0 Q F B h' (k + 1) (n + i) (mkF m pc' Ls (.ref a :: st))) : Go p l e R s m args below meth c n0 Q F B h k n (mkF m pc Ls st) := by
  subst hp
  intro T locs X eT N hB
  obtain ⟨T', h', X', e', E, A, D, -, q⟩ := Jvm.RoadKit.newO X K.cx K.cz K.co w wi wz eT (g := mkF m pc Ls st) rfl (hb K.cb hd) hc hl
  obtain ⟨s₂, o, r1, r2⟩ := H h' h.size rfl E A D T' locs X' e' N (Nat.le_trans hB E.1)
  exact ⟨s₂, o, q _ r1, r2⟩
theorem Go.newP (K : Ctx p s m meth c Z own bs ml ret nm R F B) {aty : ArrayType} {z : Int32} (w : (Jvm.Cond.arrayClass (newarray.typeOf aty)).before a0 Z = true) (hz : ¬ z < 0) (cap : Nat) (hcap : z.toNatClampNeg ≤ cap) (hb8 : cap * 8 ≤ 536870912) (hc : k + 1 ≤ R.cells) (hl : n + cap ≤ R.slots) (hd : decode bs pc = .ok (.newarray aty, 2)) (hp : pc + 2 = pc')
    (H : ∀ h' a kA, a = h.size → Ext h h' → Arv Z h' a kA (newarray.typeOf aty) z [] (defaultValue (newarray.typeOf aty)) → Go p l e R s m args below meth c n0 Q F B h' (k + 1) (n + cap) (mkF m pc' Ls (.ref a :: st))) : Go p l e R s m args below meth c n0 Q F B h k n (mkF m pc Ls (.int z :: st)) := by
  subst hp
  intro T locs X eT N hB
  obtain ⟨T', h', kA, X', e', E, A, q⟩ := Jvm.RoadKit.newP X K.cx K.cz w eT (g := mkF m pc Ls (.int z :: st)) rfl (hb K.cb hd) rfl hz hcap hb8 hc hl
  obtain ⟨s₂, o, r1, r2⟩ := H h' h.size kA rfl E (Arv.new A hz) T' locs X' e' N (Nat.le_trans hB E.1)
  exact ⟨s₂, o, q _ r1, r2⟩
theorem Go.newR (K : Ctx p s m meth c Z own bs ml ret nm R F B) {C : String} {j : Nat} {z : Int32} (w : (Jvm.Cond.classLink own j C).before a0 Z = true) (w2 : (Jvm.Cond.arrayOver (.object C)).before a0 Z = true) (hz : ¬ z < 0) (cap : Nat) (hcap : z.toNatClampNeg ≤ cap) (hb8 : cap * 8 ≤ 536870912) (hc : k + 1 ≤ R.cells) (hl : n + cap ≤ R.slots) (hd : decode bs pc = .ok (.anewarray j, 3)) (hp : pc + 3 = pc')
    (H : ∀ h' a kA, a = h.size → Ext h h' → Arv Z h' a kA (.object C) z [] .null → Ovr Z kA C → Go p l e R s m args below meth c n0 Q F B h' (k + 1) (n + cap) (mkF m pc' Ls (.ref a :: st))) : Go p l e R s m args below meth c n0 Q F B h k n (mkF m pc Ls (.int z :: st)) := by
  subst hp
  intro T locs X eT N hB
  obtain ⟨T', h', kA, X', e', E, A, O, q⟩ := Jvm.RoadKit.newR X K.cx K.cz K.co w w2 eT (g := mkF m pc Ls (.int z :: st)) rfl (hb K.cb hd) rfl hz hcap hb8 hc hl
  obtain ⟨s₂, o, r1, r2⟩ := H h' h.size kA rfl E (Arv.new A hz) O T' locs X' e' N (Nat.le_trans hB E.1)
  exact ⟨s₂, o, q _ r1, r2⟩
/-- castore at the known place i of an array whose first places are said -/
theorem Go.castore (K : Ctx p s m meth c Z own bs ml ret nm R F B) {a : Addr} {kA : ClassId} {z j x : Int32} {vs : List Value} {dv : Value} (V : Arv Z h a kA .char z vs dv) (i : Nat) (hj : j.toNatClampNeg = i) (hi : i < vs.length) (hin : ¬ j < 0 ∧ j < z) (ha : n0 ≤ a) (hd : decode bs pc = .ok (.castore, 1)) (hp : pc + 1 = pc')
    (H : ∀ h', Keep h h' [a] → Arv Z h' a kA .char z (vs.set i (.int (nar .char x))) dv → Go p l e R s m args below meth c n0 Q F B h' k n (mkF m pc' Ls st)) : Go p l e R s m args below meth c n0 Q F B h k n (mkF m pc Ls (.int x :: .int j :: .ref a :: st)) := by
  subst hp
  intro T locs X eT N hB
  obtain ⟨cl, A, q1, S, q3, Hs, G⟩ := V
  obtain ⟨T', h', X', e', W, q⟩ := stC X K.cx K.cz eT A (j := j) (inb_of S hin) (g := mkF m pc Ls (.int x :: .int j :: .ref a :: st)) rfl rfl (hb K.cb hd)
  obtain ⟨s₂, o, r1, r2⟩ := H h' (Keep.of_wr W) (Arv.set A q1 S q3 Hs G (fits_nar_char _) W i hj hi) T' _ X' e' (Fr.snoc X' N ha) (Nat.le_trans hB (Keep.of_wr W).1)
  exact ⟨s₂, o, q _ r1, r2⟩
theorem Go.iastore (K : Ctx p s m meth c Z own bs ml ret nm R F B) {a : Addr} {kA : ClassId} {z j x : Int32} {vs : List Value} {dv : Value} (V : Arv Z h a kA .int z vs dv) (i : Nat) (hj : j.toNatClampNeg = i) (hi : i < vs.length) (hin : ¬ j < 0 ∧ j < z) (ha : n0 ≤ a) (hd : decode bs pc = .ok (.iastore, 1)) (hp : pc + 1 = pc')
    (H : ∀ h', Keep h h' [a] → Arv Z h' a kA .int z (vs.set i (.int x)) dv → Go p l e R s m args below meth c n0 Q F B h' k n (mkF m pc' Ls st)) : Go p l e R s m args below meth c n0 Q F B h k n (mkF m pc Ls (.int x :: .int j :: .ref a :: st)) := by
  subst hp
  intro T locs X eT N hB
  obtain ⟨cl, A, q1, S, q3, Hs, G⟩ := V
  obtain ⟨T', h', X', e', W, q⟩ := stI X K.cx K.cz eT A (j := j) (inb_of S hin) (g := mkF m pc Ls (.int x :: .int j :: .ref a :: st)) rfl rfl (hb K.cb hd)
  obtain ⟨s₂, o, r1, r2⟩ := H h' (Keep.of_wr W) (Arv.set A q1 S q3 Hs G rfl W i hj hi) T' _ X' e' (Fr.snoc X' N ha) (Nat.le_trans hB (Keep.of_wr W).1)
  exact ⟨s₂, o, q _ r1, r2⟩
theorem Go.bastore (K : Ctx p s m meth c Z own bs ml ret nm R F B) {a : Addr} {kA : ClassId} {z j x : Int32} {vs : List Value} {dv : Value} (V : Arv Z h a kA .byte z vs dv) (i : Nat) (hj : j.toNatClampNeg = i) (hi : i < vs.length) (hin : ¬ j < 0 ∧ j < z) (ha : n0 ≤ a) (hd : decode bs pc = .ok (.bastore, 1)) (hp : pc + 1 = pc')
    (H : ∀ h', Keep h h' [a] → Arv Z h' a kA .byte z (vs.set i (.int (nar .byte x))) dv → Go p l e R s m args below meth c n0 Q F B h' k n (mkF m pc' Ls st)) : Go p l e R s m args below meth c n0 Q F B h k n (mkF m pc Ls (.int x :: .int j :: .ref a :: st)) := by
  subst hp
  intro T locs X eT N hB
  obtain ⟨cl, A, q1, S, q3, Hs, G⟩ := V
  obtain ⟨T', h', X', e', W, q⟩ := stB X K.cx K.cz eT A (j := j) (inb_of S hin) (g := mkF m pc Ls (.int x :: .int j :: .ref a :: st)) rfl rfl (hb K.cb hd)
  obtain ⟨s₂, o, r1, r2⟩ := H h' (Keep.of_wr W) (Arv.set A q1 S q3 Hs G (fits_nar_byte _) W i hj hi) T' _ X' e' (Fr.snoc X' N ha) (Nat.le_trans hB (Keep.of_wr W).1)
  exact ⟨s₂, o, q _ r1, r2⟩
theorem Go.bzstore (K : Ctx p s m meth c Z own bs ml ret nm R F B) {a : Addr} {kA : ClassId} {z j x : Int32} {vs : List Value} {dv : Value} (V : Arv Z h a kA .boolean z vs dv) (i : Nat) (hj : j.toNatClampNeg = i) (hi : i < vs.length) (hin : ¬ j < 0 ∧ j < z) (ha : n0 ≤ a) (hd : decode bs pc = .ok (.bastore, 1)) (hp : pc + 1 = pc')
    (H : ∀ h', Keep h h' [a] → Arv Z h' a kA .boolean z (vs.set i (.int (nar .boolean x))) dv → Go p l e R s m args below meth c n0 Q F B h' k n (mkF m pc' Ls st)) : Go p l e R s m args below meth c n0 Q F B h k n (mkF m pc Ls (.int x :: .int j :: .ref a :: st)) := by
  subst hp
  intro T locs X eT N hB
  obtain ⟨cl, A, q1, S, q3, Hs, G⟩ := V
  obtain ⟨T', h', X', e', W, q⟩ := stZ X K.cx K.cz eT A (j := j) (inb_of S hin) (g := mkF m pc Ls (.int x :: .int j :: .ref a :: st)) rfl rfl (hb K.cb hd)
  obtain ⟨s₂, o, r1, r2⟩ := H h' (Keep.of_wr W) (Arv.set A q1 S q3 Hs G (fits_nar_bool _) W i hj hi) T' _ X' e' (Fr.snoc X' N ha) (Nat.le_trans hB (Keep.of_wr W).1)
  exact ⟨s₂, o, q _ r1, r2⟩
theorem Go.aastore (K : Ctx p s m meth c Z own bs ml ret nm R F B) {a : Addr} {kA : ClassId} {C : String} {z j : Int32} {v : Value} {vs : List Value} {dv : Value} (V : Arv Z h a kA (.object C) z vs dv) (S0 : v = .null ∨ ∃ y, v = .ref y ∧ Ovr Z kA C ∧ Ins Z h y C true) (i : Nat) (hj : j.toNatClampNeg = i) (hi : i < vs.length) (hin : ¬ j < 0 ∧ j < z) (ha : n0 ≤ a) (hd : decode bs pc = .ok (.aastore, 1)) (hp : pc + 1 = pc')
    (H : ∀ h', Keep h h' [a] → Arv Z h' a kA (.object C) z (vs.set i v) dv → Go p l e R s m args below meth c n0 Q F B h' k n (mkF m pc' Ls st)) : Go p l e R s m args below meth c n0 Q F B h k n (mkF m pc Ls (v :: .int j :: .ref a :: st)) := by
  subst hp
  intro T locs X eT N hB
  obtain ⟨cl, A, q1, S, q3, Hs, G⟩ := V
  have Fs : Sto Z h a v := by
    rcases S0 with rfl | ⟨y, rfl, O, I⟩
    · exact Or.inl rfl
    · exact Sto.ofV A q1 O I
  have hf : fits (.object C) v = true := by
    rcases S0 with rfl | ⟨y, rfl, O, I⟩ <;> rfl
  obtain ⟨T', h', X', e', W, q⟩ := stR X K.cx K.cz eT A (j := j) (inb_of S hin) rfl Fs (g := mkF m pc Ls (v :: .int j :: .ref a :: st)) rfl rfl (hb K.cb hd)
  obtain ⟨s₂, o, r1, r2⟩ := H h' (Keep.of_wr W) (Arv.set A q1 S q3 Hs G hf W i hj hi) T' _ X' e' (Fr.snoc X' N ha) (Nat.le_trans hB (Keep.of_wr W).1)
  exact ⟨s₂, o, q _ r1, r2⟩
theorem Go.arraylength (K : Ctx p s m meth c Z own bs ml ret nm R F B) {a : Addr} {kA : ClassId} {ty : FieldType} {z : Int32} {vs : List Value} {dv : Value} (V : Arv Z h a kA ty z vs dv) (hd : decode bs pc = .ok (.arraylength, 1)) (hp : pc + 1 = pc')
    (H : Go p l e R s m args below meth c n0 Q F B h k n (mkF m pc' Ls (.int z :: st))) : Go p l e R s m args below meth c n0 Q F B h k n (mkF m pc Ls (.ref a :: st)) := by
  subst hp
  obtain ⟨cl, A, q1, S, q3, Hs, G⟩ := V
  refine H.by fun T _ X eT t q => X.arraylength K.cx (by rw [eT]; exact A.1) (State.isArrayOf_alike K.cz.alike A.2.1) (g := mkF m pc Ls (.ref a :: st)) rfl rfl (hb K.cb hd) t ?_
  rw [len_of S q3]
  exact q
theorem Go.caload (K : Ctx p s m meth c Z own bs ml ret nm R F B) {a : Addr} {kA : ClassId} {z j : Int32} {vs : List Value} {dv v : Value} (V : Arv Z h a kA .char z vs dv) (hin : ¬ j < 0 ∧ j < z) (hv : vs.getD j.toNatClampNeg dv = v) (hd : decode bs pc = .ok (.caload, 1)) (hp : pc + 1 = pc')
    (H : Go p l e R s m args below meth c n0 Q F B h k n (mkF m pc' Ls (v :: st))) : Go p l e R s m args below meth c n0 Q F B h k n (mkF m pc Ls (.int j :: .ref a :: st)) := by
  subst hp
  obtain ⟨cl, A, q1, S, q3, Hs, G⟩ := V
  exact H.by fun T _ X eT t q => X.caload K.cx (by rw [eT]; exact A.1) (State.isArrayOf_alike K.cz.alike A.2.1) A.2.2 (inb_of S hin) (Hs.at (inb_of S hin) hv) (g := mkF m pc Ls (.int j :: .ref a :: st)) rfl rfl (hb K.cb hd) t q
theorem Go.iaload (K : Ctx p s m meth c Z own bs ml ret nm R F B) {a : Addr} {kA : ClassId} {z j : Int32} {vs : List Value} {dv v : Value} (V : Arv Z h a kA .int z vs dv) (hin : ¬ j < 0 ∧ j < z) (hv : vs.getD j.toNatClampNeg dv = v) (hd : decode bs pc = .ok (.iaload, 1)) (hp : pc + 1 = pc')
    (H : Go p l e R s m args below meth c n0 Q F B h k n (mkF m pc' Ls (v :: st))) : Go p l e R s m args below meth c n0 Q F B h k n (mkF m pc Ls (.int j :: .ref a :: st)) := by
  subst hp
  obtain ⟨cl, A, q1, S, q3, Hs, G⟩ := V
  exact H.by fun T _ X eT t q => X.iaload K.cx (by rw [eT]; exact A.1) (State.isArrayOf_alike K.cz.alike A.2.1) A.2.2 (inb_of S hin) (Hs.at (inb_of S hin) hv) (g := mkF m pc Ls (.int j :: .ref a :: st)) rfl rfl (hb K.cb hd) t q
theorem Go.baload (K : Ctx p s m meth c Z own bs ml ret nm R F B) {a : Addr} {kA : ClassId} {z j : Int32} {vs : List Value} {dv v : Value} (V : Arv Z h a kA .byte z vs dv) (hin : ¬ j < 0 ∧ j < z) (hv : vs.getD j.toNatClampNeg dv = v) (hd : decode bs pc = .ok (.baload, 1)) (hp : pc + 1 = pc')
    (H : Go p l e R s m args below meth c n0 Q F B h k n (mkF m pc' Ls (v :: st))) : Go p l e R s m args below meth c n0 Q F B h k n (mkF m pc Ls (.int j :: .ref a :: st)) := by
  subst hp
  obtain ⟨cl, A, q1, S, q3, Hs, G⟩ := V
  exact H.by fun T _ X eT t q => X.baloadBytes K.cx (by rw [eT]; exact A.1) (State.isArrayOf_alike K.cz.alike A.2.1) A.2.2 (inb_of S hin) (Hs.at (inb_of S hin) hv) (g := mkF m pc Ls (.int j :: .ref a :: st)) rfl rfl (hb K.cb hd) t q
theorem Go.aaload (K : Ctx p s m meth c Z own bs ml ret nm R F B) {a : Addr} {kA : ClassId} {C : String} {z j : Int32} {vs : List Value} {dv v : Value} (V : Arv Z h a kA (.object C) z vs dv) (hin : ¬ j < 0 ∧ j < z) (hv : vs.getD j.toNatClampNeg dv = v) (hd : decode bs pc = .ok (.aaload, 1)) (hp : pc + 1 = pc')
    (H : Go p l e R s m args below meth c n0 Q F B h k n (mkF m pc' Ls (v :: st))) : Go p l e R s m args below meth c n0 Q F B h k n (mkF m pc Ls (.int j :: .ref a :: st)) := by
  subst hp
  obtain ⟨cl, A, q1, S, q3, Hs, G⟩ := V
  exact H.by fun T _ X eT t q => X.aaload K.cx (by rw [eT]; exact A.1) (State.isArrayOf_alike K.cz.alike A.2.1) rfl A.2.2 (inb_of S hin) (Hs.at (inb_of S hin) hv) (g := mkF m pc Ls (.int j :: .ref a :: st)) rfl rfl (hb K.cb hd) t q
theorem Go.castY (K : Ctx p s m meth c Z own bs ml ret nm R F B) {C : String} {j : Nat} {a : Addr} (w : (Jvm.Cond.classLink own j C).before a0 Z = true) (Fa : Ins Z h a C true) (hd : decode bs pc = .ok (.checkcast j, 3)) (hp : pc + 3 = pc')
    (H : Go p l e R s m args below meth c n0 Q F B h k n (mkF m pc' Ls (.ref a :: st))) : Go p l e R s m args below meth c n0 Q F B h k n (mkF m pc Ls (.ref a :: st)) := by
  subst hp
  intro T locs X eT N hB
  obtain ⟨T', X', e', q⟩ := Jvm.RoadKit.castY X K.cx K.cz K.co w eT Fa (g := mkF m pc Ls (.ref a :: st)) rfl rfl (hb K.cb hd)
  obtain ⟨s₂, o, r1, r2⟩ := H T' locs X' e' N hB
  exact ⟨s₂, o, q _ r1, r2⟩
theorem Go.instY (K : Ctx p s m meth c Z own bs ml ret nm R F B) {C : String} {j : Nat} {a : Addr} (w : (Jvm.Cond.classLink own j C).before a0 Z = true) (Fa : Ins Z h a C true) (hd : decode bs pc = .ok (.instanceof j, 3)) (hp : pc + 3 = pc')
    (H : Go p l e R s m args below meth c n0 Q F B h k n (mkF m pc' Ls (.int 1 :: st))) : Go p l e R s m args below meth c n0 Q F B h k n (mkF m pc Ls (.ref a :: st)) := by
  subst hp
  intro T locs X eT N hB
  obtain ⟨T', X', e', q⟩ := Jvm.RoadKit.instY X K.cx K.cz K.co w eT Fa (g := mkF m pc Ls (.ref a :: st)) rfl rfl (hb K.cb hd)
  obtain ⟨s₂, o, r1, r2⟩ := H T' locs X' e' N hB
  exact ⟨s₂, o, q _ r1, r2⟩
theorem Go.initO (K : Ctx p s m meth c Z own bs ml ret nm R F B) {j : Nat} {a : Addr} (w1 : (Jvm.Cond.methodLink own j Lib.objectInit).before a0 Z = true) (w2 : (Jvm.Cond.instanceMethod Lib.objectInit).before a0 Z = true) (w3 : (Jvm.Cond.code Lib.objectInit ⟨#[0xb1]⟩ 1 none).before a0 Z = true) (hml : Ls.size = ml) (hf : 1 ≤ R.frames) (W : Nat) (hW : (st.map fun v => v.category).sum ≤ W) (hl : W + 12 ≤ R.locals) (hd : decode bs pc = .ok (.invokespecial j, 3)) (hp : pc + 3 = pc')
    (H : Go p l e R s m args below meth c n0 Q F B h k n (mkF m pc' Ls st)) : Go p l e R s m args below meth c n0 Q F B h k n (mkF m pc Ls (.ref a :: st)) := by
  subst hp
  intro T locs X eT N hB
  obtain ⟨T', X', e', q⟩ := Jvm.RoadKit.initO X K.cx K.cz K.co w1 w2 w3 eT (g := mkF m pc Ls (.ref a :: st)) rfl (hml.trans K.cl.symm) rfl (hb K.cb hd) hf (W := W) (by show 2 * 0 + _ ≤ _; omega) hl
  obtain ⟨s₂, o, r1, r2⟩ := H T' locs X' e' N hB
  exact ⟨s₂, o, q _ r1, r2⟩
/-! calls -/
theorem Go.callS (K : Ctx p s m meth c Z own bs ml ret nm R F B) {j : Nat} {y : MethodName} {bytes : ByteArray} {maxL : Nat} {rt : Option FieldType} {W kc nc : Nat} {Qc : Option Value → Heap → List Loc → Prop} {argsL : List Value}
    (w1 : (Jvm.Cond.methodLink own j y).before args s = true) (w2 : (Jvm.Cond.static y).before args s = true) (w3 : (Jvm.Cond.initialized y.cls).before args s = true) (w4 : (Jvm.Cond.code y bytes maxL rt).before args s = true) (hy : y.cls ≠ "java/lang/invoke/MethodHandle" ∧ y.cls ≠ "java/lang/invoke/VarHandle")
    (hK : Pays l R p e below s args y 3 W argsL.toArray h kc nc Qc) (hml : Ls.size = ml) (hlen : ∀ sig, parseMethodDescriptor y.desc = some sig → argsL.length = sig.parameters.length) (hst : st = argsL.reverse ++ rest) (hW : (rest.map fun v => v.category).sum ≤ W) (hc : k + kc ≤ R.cells) (hs : n + nc ≤ R.slots) (hfr : ∀ v h' L, Qc v h' L → Fr n0 L) (hgr : ∀ v h' L, Qc v h' L → h.size ≤ h'.size) (hd : decode bs pc = .ok (.invokestatic j, 3)) (hp : pc + 3 = pc')
    (H : ∀ v h' L, Qc v h' L → Go p l e R s m args below meth c n0 Q F B h' (k + kc) (n + nc) (mkF m pc' Ls (v.toList ++ rest))) : Go p l e R s m args below meth c n0 Q F B h k n (mkF m pc Ls st) := by
  subst hp hst
  intro T locs X eT N hB
  obtain ⟨v, vm₁, ⟨T', L', k', n'⟩, -, X', ⟨L, hq, l1, y1, z1⟩, q⟩ := Jvm.LawKit.callS X K.cx (y := y) (bytes := bytes) (maxL := maxL) (ret := rt) K.co w1 w2 w3 w4 hy hK (g := mkF m pc Ls (argsL.reverse ++ rest)) rfl (hml.trans K.cl.symm) (argsL := argsL) (rest := rest) hlen rfl (by show 2 * 0 + _ ≤ _; omega) (hb K.cb hd) (fun _ _ => ⟨rfl, eT, hc, hs⟩)
  dsimp only [Pt.U, Pt.locs, Pt.cells, Pt.slots] at X' l1 y1 z1 q hq
  subst l1 y1 z1
  obtain ⟨s₂, o, r1, r2⟩ := H v _ L hq T' _ X' rfl (N.app (hfr _ _ _ hq)) (Nat.le_trans hB (hgr _ _ _ hq))
  exact ⟨s₂, o, q _ r1, r2⟩
theorem Go.callC (K : Ctx p s m meth c Z own bs ml ret nm R F B) {j : Nat} {y : MethodName} {bytes : ByteArray} {maxL : Nat} {W kc nc : Nat} {a : Addr} {Qc : Option Value → Heap → List Loc → Prop} {argsL : List Value} (hy1 : y.name = "<init>")
    (w1 : (Jvm.Cond.methodLink own j y).before args s = true) (w2 : (Jvm.Cond.instanceMethod y).before args s = true) (w4 : (Jvm.Cond.code y bytes maxL none).before args s = true) (hy : y.cls ≠ "java/lang/invoke/MethodHandle" ∧ y.cls ≠ "java/lang/invoke/VarHandle")
    (hK : Pays l R p e below s args y 3 W (.ref a :: argsL).toArray h kc nc Qc) (hml : Ls.size = ml) (hlen : ∀ sig, parseMethodDescriptor y.desc = some sig → argsL.length = sig.parameters.length) (hst : st = argsL.reverse ++ .ref a :: rest) (hW : (rest.map fun v => v.category).sum ≤ W) (hc : k + kc ≤ R.cells) (hs : n + nc ≤ R.slots) (hfr : ∀ v h' L, Qc v h' L → Fr n0 L) (hgr : ∀ v h' L, Qc v h' L → h.size ≤ h'.size) (hd : decode bs pc = .ok (.invokespecial j, 3)) (hp : pc + 3 = pc')
    (H : ∀ v h' L, Qc v h' L → Go p l e R s m args below meth c n0 Q F B h' (k + kc) (n + nc) (mkF m pc' Ls (v.toList ++ rest))) : Go p l e R s m args below meth c n0 Q F B h k n (mkF m pc Ls st) := by
  subst hp hst
  intro T locs X eT N hB
  obtain ⟨v, vm₁, ⟨T', L', k', n'⟩, -, X', ⟨L, hq, l1, y1, z1⟩, q⟩ := X.specialBack K.cx (y := y) (bytes := bytes) (maxL := maxL) hy1 K.co w1 w2 w4 hy hK (g := mkF m pc Ls (argsL.reverse ++ .ref a :: rest)) rfl (hml.trans K.cl.symm) (Steps.refl _) (a := a) (argsL := argsL) (rest := rest) hlen rfl (by show 2 * 0 + _ ≤ _; omega) (hb K.cb hd) (fun _ _ => ⟨rfl, eT, hc, hs⟩)
  dsimp only [Pt.U, Pt.locs, Pt.cells, Pt.slots] at X' l1 y1 z1 q hq
  subst l1 y1 z1
  obtain ⟨s₂, o, r1, r2⟩ := H v _ L hq T' _ X' rfl (N.app (hfr _ _ _ hq)) (Nat.le_trans hB (hgr _ _ _ hq))
  exact ⟨s₂, o, q.trans r1, r2⟩
theorem Go.callV (K : Ctx p s m meth c Z own bs ml ret nm R F B) {j : Nat} {C : String} {y z : MethodName} {W kc nc : Nat} {a : Addr} {Qc : Option Value → Heap → List Loc → Prop} {argsL : List Value}
    (w1 : (Jvm.Cond.methodLink own j y).before args s = true) (w2 : (Jvm.Cond.declares y).before args s = true) (hnf : NotFace s y) (w3 : (Jvm.Cond.selects C y z).before args s = true) (w4 : (Jvm.Cond.instanceMethod z).before args s = true) (hy : y.cls ≠ "java/lang/invoke/MethodHandle" ∧ y.cls ≠ "java/lang/invoke/VarHandle") (E : Exa Z h a C)
    (hK : Pays l R p e below s args z 3 W (.ref a :: argsL).toArray h kc nc Qc) (hml : Ls.size = ml) (hlen : ∀ sig, parseMethodDescriptor y.desc = some sig → argsL.length = sig.parameters.length) (hst : st = argsL.reverse ++ .ref a :: rest) (hW : (rest.map fun v => v.category).sum ≤ W) (hc : k + kc ≤ R.cells) (hs : n + nc ≤ R.slots) (hfr : ∀ v h' L, Qc v h' L → Fr n0 L) (hgr : ∀ v h' L, Qc v h' L → h.size ≤ h'.size) (hd : decode bs pc = .ok (.invokevirtual j, 3)) (hp : pc + 3 = pc')
    (H : ∀ v h' L, Qc v h' L → Go p l e R s m args below meth c n0 Q F B h' (k + kc) (n + nc) (mkF m pc' Ls (v.toList ++ rest))) : Go p l e R s m args below meth c n0 Q F B h k n (mkF m pc Ls st) := by
  subst hp hst
  intro T locs X eT N hB
  obtain ⟨cq, kq, qa, qb, qc⟩ := isOf K.cz eT E
  obtain ⟨v, vm₁, ⟨T', L', k', n'⟩, -, X', ⟨L, hq, l1, y1, z1⟩, q⟩ := X.virtualBack K.cx (y := y) (z := z) K.co w1 w2 hnf w3 w4 hy hK qa qc (g := mkF m pc Ls (argsL.reverse ++ .ref a :: rest)) rfl (hml.trans K.cl.symm) (Steps.refl _) (argsL := argsL) (rest := rest) hlen rfl (by show 2 * 0 + _ ≤ _; omega) (hb K.cb hd) (fun _ _ => ⟨rfl, eT, hc, hs⟩)
  dsimp only [Pt.U, Pt.locs, Pt.cells, Pt.slots] at X' l1 y1 z1 q hq
  subst l1 y1 z1
  obtain ⟨s₂, o, r1, r2⟩ := H v _ L hq T' _ X' rfl (N.app (hfr _ _ _ hq)) (Nat.le_trans hB (hgr _ _ _ hq))
  exact ⟨s₂, o, q.trans r1, r2⟩
theorem nar_ref {C : String} {v : Value} (h : v.isRef = true) : narrow (.object C) v = v := by cases v <;> first | rfl | simp [Value.isRef] at h
theorem fit_ref {C : String} {v : Value} (h : v.isRef = true) : fits (.object C) v = true := by cases v <;> first | rfl | simp [Value.isRef] at h
/-! the ends -/
theorem Go.retN {t : FieldType} (K : Ctx p s m meth c Z own bs ml (some t) nm R F B) {x : Int32} (ht : t = .boolean ∨ t = .byte ∨ t = .char ∨ t = .short) (hk : k ≤ R.cells) (hn : n ≤ R.slots) (hd : decode bs pc = .ok (.ireturn, 1)) (q : ∀ (T : State) (locs : List Loc), Stand p l e R s m args below meth c T locs k n → T.heap = h → Q (some (.int (nar t x))) T.vm h) : Go p l e R s m args below meth c n0 Q F B h k n (mkF m pc Ls (.int x :: st)) := by
  intro T locs X eT N hB
  obtain ⟨fs, hr, hrun, hended, hW, hsame⟩ := X.leave (v := some (.int (nar t x))) (fun h => by rw [K.cr] at h; cases h) K.ck
  exact ⟨_, _, Jvm.RoadKit.retN X K.cx K.cr ht (hb K.cb hd) hr, hrun, hended, _, _, rfl, ⟨(show Q _ T.vm T.heap by rw [eT]; exact q T locs X eT), N⟩, K.ce _ _ _ _ _ hW hsame (by show B ≤ T.heap.size; rw [eT]; exact hB) hk hn⟩
theorem Go.retI (K : Ctx p s m meth c Z own bs ml (some .int) nm R F B) {x : Int32} (hk : k ≤ R.cells) (hn : n ≤ R.slots) (hd : decode bs pc = .ok (.ireturn, 1)) (q : ∀ (T : State) (locs : List Loc), Stand p l e R s m args below meth c T locs k n → T.heap = h → Q (some (.int x)) T.vm h) : Go p l e R s m args below meth c n0 Q F B h k n (mkF m pc Ls (.int x :: st)) := by
  intro T locs X eT N hB
  obtain ⟨fs, hr, hrun, hended, hW, hsame⟩ := X.leave (v := some (.int x)) (fun h => by rw [K.cr] at h; cases h) K.ck
  exact ⟨_, _, Jvm.RoadKit.retI X K.cx K.cr (hb K.cb hd) hr, hrun, hended, _, _, rfl, ⟨(show Q _ T.vm T.heap by rw [eT]; exact q T locs X eT), N⟩, K.ce _ _ _ _ _ hW hsame (by show B ≤ T.heap.size; rw [eT]; exact hB) hk hn⟩
theorem Go.retA {t : FieldType} (K : Ctx p s m meth c Z own bs ml (some t) nm R F B) {v : Value} (hnn : narrow t v = v) (ht : t.isReference = true) (hv : v.isRef = true) (hk : k ≤ R.cells) (hn : n ≤ R.slots) (hd : decode bs pc = .ok (.areturn, 1)) (q : ∀ (T : State) (locs : List Loc), Stand p l e R s m args below meth c T locs k n → T.heap = h → Q (some v) T.vm h) : Go p l e R s m args below meth c n0 Q F B h k n (mkF m pc Ls (v :: st)) := by
  intro T locs X eT N hB
  obtain ⟨fs, hr, hrun, hended, hW, hsame⟩ := X.leave (v := some v) (fun h => by rw [K.cr] at h; cases h) K.ck
  exact ⟨_, _, Jvm.RoadKit.retR X K.cx K.cr hnn ht hv (hb K.cb hd) hr, hrun, hended, _, _, rfl, ⟨(show Q _ T.vm T.heap by rw [eT]; exact q T locs X eT), N⟩, K.ce _ _ _ _ _ hW hsame (by show B ≤ T.heap.size; rw [eT]; exact hB) hk hn⟩
theorem Go.retJ (K : Ctx p s m meth c Z own bs ml (some .long) nm R F B) {x : Int64} (hk : k ≤ R.cells) (hn : n ≤ R.slots) (hd : decode bs pc = .ok (.lreturn, 1)) (q : ∀ (T : State) (locs : List Loc), Stand p l e R s m args below meth c T locs k n → T.heap = h → Q (some (.long x)) T.vm h) : Go p l e R s m args below meth c n0 Q F B h k n (mkF m pc Ls (.long x :: st)) := by
  intro T locs X eT N hB
  obtain ⟨fs, hr, hrun, hended, hW, hsame⟩ := X.leave (v := some (.long x)) (fun h => by rw [K.cr] at h; cases h) K.ck
  exact ⟨_, _, Jvm.RoadKit.retL X K.cx K.cr (hb K.cb hd) hr, hrun, hended, _, _, rfl, ⟨(show Q _ T.vm T.heap by rw [eT]; exact q T locs X eT), N⟩, K.ce _ _ _ _ _ hW hsame (by show B ≤ T.heap.size; rw [eT]; exact hB) hk hn⟩
theorem Go.retV (K : Ctx p s m meth c Z own bs ml none nm R F B) (hk : k ≤ R.cells) (hn : n ≤ R.slots) (hd : decode bs pc = .ok (.return_, 1)) (q : ∀ (T : State) (locs : List Loc), Stand p l e R s m args below meth c T locs k n → T.heap = h → Q none T.vm h) : Go p l e R s m args below meth c n0 Q F B h k n (mkF m pc Ls []) := by
  intro T locs X eT N hB
  obtain ⟨fs, hr, hrun, hended, hW, hsame⟩ := X.leave (v := none) (fun _ => rfl) K.ck
  exact ⟨_, _, X.returnOut K.cx K.cr (hb K.cb hd) hr, hrun, hended, _, _, rfl, ⟨(show Q _ T.vm T.heap by rw [eT]; exact q T locs X eT), N⟩, K.ce _ _ _ _ _ hW hsame (by show B ≤ T.heap.size; rw [eT]; exact hB) hk hn⟩
/-- a contract out of a walk -/
theorem Met.of {ws : List Jvm.Cond} {y : MethodName} {rm : Room} {as' : Array Value} {h0 : Heap} {Qm : Option Value → Heap → Prop} (hpl : plainFor y = true)
    (H : ∀ (p : Program) (e : Env) (s : State) (m : MethodId) (below : List Frame) (meth : Method) (c : Code) (F : Outcome → State → List Loc → Prop), Ctx p s m meth c Z y.cls bs ml ret y.name rm F 0 → Go p l e rm s m as' below meth c n0 (fun v _ h => Qm v h) F 0 h0 0 0 (entryFrame m as' ml)) : Met l Z ws y bs ml ret rm as' h0 n0 Qm := by
  refine MetFree.of_bodySF hpl hisR ?_
  intro p e s m args below meth c s₁ Bd hml0 hP hK
  obtain ⟨rfl, hZ, hh⟩ := hP
  have X0 : Stand p l e rm s m args below meth c s₁ [] 0 0 := Stand.of_body Bd
  have e0 : s₁.heap = h0 := by rw [← hh, Bd.state]; rfl
  obtain ⟨s₂, o, r1, r2, r3, v, L, rfl, ⟨q1, q2⟩, q3⟩ := H p e s m below meth c (fun o t L => FrameEnd s o t L rm.cells rm.slots) ⟨Bd.exec, hZ, findClass_of_methodNamed Bd.named, Bd.bytes, hml0, Bd.returns, (name_of_methodNamed Bd.named Bd.method).1, Bd.notSynchronized, fun t v L k n hW hs _ hk hn => ⟨⟨v, rfl⟩, hW, hs.mono hk hn⟩⟩ s₁ [] X0 e0 (Fr.nil n0) (Nat.zero_le _)
  exact ⟨s₂, _, r1, r2, r3, v, L, rfl, ⟨⟨q1, q2⟩, by have := q3.2.2.2.1; rw [← hh]; exact this⟩, q3⟩
theorem MetK.of {ws : List Jvm.Cond} {y : MethodName} {rm : Room} {as' : Array Value} {h0 : Heap} {Qm : Option Value → Heap → Prop} (hpl : plainFor y = true)
    (H : ∀ (p : Program) (e : Env) (s : State) (m : MethodId) (below : List Frame) (meth : Method) (c : Code) (F : Outcome → State → List Loc → Prop), s.heap = h0 → s.vm.MethodsKnown → s.vm.FramesKnown below → Ctx p s m meth c Z y.cls bs ml ret y.name rm F 0 → Go p l e rm s m as' below meth c n0 (fun v _ h => Qm v h) F 0 h0 0 0 (entryFrame m as' ml)) : MetK l Z ws y bs ml ret rm as' h0 n0 Qm := by
  refine MetFree.of_bodySF hpl hisR ?_
  intro p e s m args below meth c s₁ Bd hml0 hP hK
  obtain ⟨rfl, hZ, hh⟩ := hP
  have X0 : Stand p l e rm s m args below meth c s₁ [] 0 0 := Stand.of_body Bd
  have e0 : s₁.heap = h0 := by rw [← hh, Bd.state]; rfl
  obtain ⟨s₂, o, r1, r2, r3, v, L, rfl, ⟨q1, q2⟩, q3⟩ := H p e s m below meth c (fun o t L => FrameEnd s o t L rm.cells rm.slots) hh hK.1 hK.2 ⟨Bd.exec, hZ, findClass_of_methodNamed Bd.named, Bd.bytes, hml0, Bd.returns, (name_of_methodNamed Bd.named Bd.method).1, Bd.notSynchronized, fun t v L k n hW hs _ hk hn => ⟨⟨v, rfl⟩, hW, hs.mono hk hn⟩⟩ s₁ [] X0 e0 (Fr.nil n0) (Nat.zero_le _)
  exact ⟨s₂, _, r1, r2, r3, v, L, rfl, ⟨⟨q1, q2⟩, by have := q3.2.2.2.1; rw [← hh]; exact this⟩, q3⟩
theorem Met.pays {y : MethodName} {rm : Room} {as' : Array Value} {h0 : Heap} {len W : Nat} {Qm : Option Value → Heap → Prop} (M : Met l Z [] y bs ml ret rm as' h0 n0 Qm) (hZ : Z.Warmed39 s.vm) (wc : (Jvm.Cond.code y bs ml ret).before a0 Z = true) (wz : (Jvm.Cond.initialized y.cls).before a0 Z = true) (hf : rm.frames + 1 ≤ R.frames) (hl : W + (ml + 11) + rm.locals ≤ R.locals) :
    Pays l R p e below s args y len W as' h0 rm.cells rm.slots (fun v h L => (Qm v h ∧ Fr n0 L) ∧ h0.size ≤ h.size) :=
  backOf (Q := fun v h L => (Qm v h ∧ Fr n0 L) ∧ h0.size ≤ h.size) M hZ wc wz hf hl
theorem MetK.pays {y : MethodName} {rm : Room} {as' : Array Value} {h0 : Heap} {len W : Nat} {Qm : Option Value → Heap → Prop} (M : MetK l Z [] y bs ml ret rm as' h0 n0 Qm) (hZ : Z.Warmed39 s.vm) (wc : (Jvm.Cond.code y bs ml ret).before a0 Z = true) (wz : (Jvm.Cond.initialized y.cls).before a0 Z = true) (hf : rm.frames + 1 ≤ R.frames) (hl : W + (ml + 11) + rm.locals ≤ R.locals) (hTK : s.vm.MethodsKnown) (hBelow : s.vm.FramesKnown below) :
    Pays l R p e below s args y len W as' h0 rm.cells rm.slots (fun v h L => (Qm v h ∧ Fr n0 L) ∧ h0.size ≤ h.size) :=
  backOfKL (Q := fun v h L => (Qm v h ∧ Fr n0 L) ∧ h0.size ≤ h.size) M hZ wc wz hf hl hTK hBelow
theorem frOf {n0 N : Nat} {Q : Option Value → Heap → Prop} : ∀ (v : Option Value) (h' : Heap) (L : List Loc), ((Q v h' ∧ Fr n0 L) ∧ N ≤ h'.size) → Fr n0 L := fun _ _ _ q => q.1.2
theorem grOf {n0 N : Nat} {Q : Option Value → Heap → Prop} : ∀ (v : Option Value) (h' : Heap) (L : List Loc), ((Q v h' ∧ Fr n0 L) ∧ N ≤ h'.size) → N ≤ h'.size := fun _ _ _ q => q.2
/-! String constants, and callees that load them -/
section Wide
variable {vm0 : Vm} {EL : List (String × Nat)}
abbrev FW (s : State) (R : Room) : Outcome → State → List Loc → Prop := fun o t L => ReturnedEndW s o t L R.cells R.slots
theorem Ctx.wide {B1 : Nat} {vm1 : Vm} (hS : s.Since vm1 B1) (hx : p.tables.exec = Jvm.exec) (hZ : Z.Warmed39 vm1) (ho : vm1.findClass own = some m.cls) (hby : c.code = bs) (hml : c.maxLocals = ml) (hr : meth.sig.returnType = ret) (hn : meth.name = nm) (hk : meth.locks = false) : Ctx p (s.setVm vm1) m meth c Z own bs ml ret nm R (FW s R) B1 :=
  ⟨hx, hZ, ho, hby, hml, hr, hn, hk, fun t v L k n hW hs hB h1 h2 => by
    obtain ⟨a, b, c'⟩ := hS.ended (U := t) hW hB hs
    exact ⟨⟨v, rfl⟩, a, b, c'.mono h1 h2⟩⟩
/-- ldc of a String constant of which nothing is asked -/
theorem Go.ldcO (K : Ctx p (s.setVm vm0) m meth c Z own bs ml ret nm R (FW s R) B) (hS : s.Since vm0 B) {text : String} {j i : Nat} (w : (Jvm.Cond.stringLink own j text).before a0 Z = true) (wS : ∀ a ∈ Bundle.stringAtoms, a.before a0 Z = true) (hEL : EW Z a0 EL) (HC : CHv Z EL vm0 h) (hi : 4 * text.toList.length ≤ i) (hbig : i ≤ 536870912) (hc : k + 2 ≤ R.cells) (hl : n + (i + 4) ≤ R.slots) (hd : decode bs pc = .ok (.ldc j, 2)) (hp : pc + 2 = pc')
    (H : ∀ a vm1 h' B1, Ext h h' → CHr Z EL vm0 h vm1 h' → s.Since vm1 B1 → Ctx p (s.setVm vm1) m meth c Z own bs ml ret nm R (FW s R) B1 → Go p l e R (s.setVm vm1) m args below meth c n0 Q (FW s R) B1 h' (k + 2) (n + (i + 4)) (mkF m pc' Ls (.ref a :: st))) : Go p l e R (s.setVm vm0) m args below meth c n0 Q (FW s R) B h k n (mkF m pc Ls st) := by
  subst hp
  intro T locs X eT N hB
  obtain ⟨a, T', h', k1, X', e', E, hS', hk', hZ', ho', hr', -, q⟩ := ldcOH X K.cx K.cz K.co w wS eT hS hB hEL HC (g := mkF m pc Ls st) rfl (hb K.cb hd) hi hbig hc hl
  obtain ⟨s₂, o, r1, r2⟩ := H a T'.vm h' k1 E hr' hS' (Ctx.wide hS' K.cx hZ' ho' K.cb K.cl K.cr K.cn K.ck) T' locs X' e' N hk'
  exact ⟨s₂, o, q _ r1, r2⟩
/-- ldc of a String constant that is read -/
theorem Go.ldcV (K : Ctx p (s.setVm vm0) m meth c Z own bs ml ret nm R (FW s R) B) (hS : s.Since vm0 B) {text : String} {j i : Nat} (w : (Jvm.Cond.stringLink own j text).before a0 Z = true) (wS : ∀ a ∈ Bundle.stringAtoms, a.before a0 Z = true) (hEL : EW Z a0 EL) (hmem : (own, j) ∈ EL) (HC : CHv Z EL vm0 h)
    {vs : List Value} {z : Int32} (ht : (∀ c ∈ text.toList, c.toNat < 256) ∧ text.toList.map (fun c => Value.int (Jvm.Lit.byteI c.toNat.toUInt16)) = vs) (hz : ¬ z < 0) (hlz : z.toNatClampNeg = vs.length)
    (hi : 4 * text.toList.length ≤ i) (hbig : i ≤ 536870912) (hc : k + 2 ≤ R.cells) (hl : n + (i + 4) ≤ R.slots) (hd : decode bs pc = .ok (.ldc j, 2)) (hp : pc + 2 = pc')
    (H : ∀ a b kb vm1 h' B1, Ext h h' → CHr Z EL vm0 h vm1 h' → s.Since vm1 B1 → Exa Z h' a "java/lang/String" → Fld Z h' a "java/lang/String" "coder" "B" (.int 0) → Fld Z h' a "java/lang/String" "value" "[B" (.ref b) → Arv Z h' b kb .byte z vs (.int 0) → (∀ x, Safe Z EL vm1 h' x → x ≠ a ∧ x ≠ b) → Ctx p (s.setVm vm1) m meth c Z own bs ml ret nm R (FW s R) B1 →
      Go p l e R (s.setVm vm1) m args below meth c n0 Q (FW s R) B1 h' (k + 2) (n + (i + 4)) (mkF m pc' Ls (.ref a :: st))) : Go p l e R (s.setVm vm0) m args below meth c n0 Q (FW s R) B h k n (mkF m pc Ls st) := by
  subst hp
  intro T locs X eT N hB
  obtain ⟨a, T', h', k1, b, kb, X', e', E, hS', hk', hZ', ho', x1, x2, x3, x4, -, -, hr', -, hsf, q⟩ := ldcCH X K.cx K.cz K.co w wS eT hS hB hEL hmem HC ht hz hlz (g := mkF m pc Ls st) rfl (hb K.cb hd) hi hbig hc hl
  obtain ⟨s₂, o, r1, r2⟩ := H a b kb T'.vm h' k1 E hr' hS' x1 x2 x3 x4 hsf (Ctx.wide hS' K.cx hZ' ho' K.cb K.cl K.cr K.cn K.ck) T' locs X' e' N hk'
  exact ⟨s₂, o, q _ r1, r2⟩
theorem Go.callSW (K : Ctx p (s.setVm vm0) m meth c Z own bs ml ret nm R (FW s R) B) (hS : s.Since vm0 B) {j : Nat} {y : MethodName} {bytes : ByteArray} {maxL : Nat} {rt : Option FieldType} {W kc nc : Nat} {Qc : Option Value → Heap → List Loc → Prop} {argsL : List Value}
    (w1 : (Jvm.Cond.methodLink own j y).before args (s.setVm vm0) = true) (w2 : (Jvm.Cond.static y).before args (s.setVm vm0) = true) (w3 : (Jvm.Cond.initialized y.cls).before args (s.setVm vm0) = true) (w4 : (Jvm.Cond.code y bytes maxL rt).before args (s.setVm vm0) = true) (hy : y.cls ≠ "java/lang/invoke/MethodHandle" ∧ y.cls ≠ "java/lang/invoke/VarHandle")
    (hK : PaysW l R p e below s vm0 args y 3 W argsL.toArray h kc nc Z EL Qc) (hml : Ls.size = ml) (hlen : ∀ sig, parseMethodDescriptor y.desc = some sig → argsL.length = sig.parameters.length) (hst : st = argsL.reverse ++ rest) (hW : (rest.map fun v => v.category).sum ≤ W) (hc : k + kc ≤ R.cells) (hs : n + nc ≤ R.slots) (hfr : ∀ v h' L, Qc v h' L → Fr n0 L) (hd : decode bs pc = .ok (.invokestatic j, 3)) (hp : pc + 3 = pc')
    (H : ∀ v h' L vm1 B1, Qc v h' L → CHr Z EL vm0 h vm1 h' → s.Since vm1 B1 → Ctx p (s.setVm vm1) m meth c Z own bs ml ret nm R (FW s R) B1 → Go p l e R (s.setVm vm1) m args below meth c n0 Q (FW s R) B1 h' (k + kc) (n + nc) (mkF m pc' Ls (v.toList ++ rest))) : Go p l e R (s.setVm vm0) m args below meth c n0 Q (FW s R) B h k n (mkF m pc Ls st) := by
  subst hp hst
  intro T locs X eT N hB
  obtain ⟨v, vm₁, ⟨T', L', k', n'⟩, -, X', hs2, hg, ⟨L, hq, l1, y1, z1, hr⟩, q⟩ := callSS X K.cx (y := y) (bytes := bytes) (maxL := maxL) (ret := rt) K.co w1 w2 w3 w4 hy hK (g := mkF m pc Ls (argsL.reverse ++ rest)) rfl (hml.trans K.cl.symm) (argsL := argsL) (rest := rest) hlen rfl (by show 2 * 0 + _ ≤ _; omega) (hb K.cb hd) (fun _ _ => ⟨rfl, eT, hc, hs⟩)
  dsimp only [Pt.U, Pt.locs, Pt.cells, Pt.slots] at X' l1 y1 z1 q hq hr hs2 hg
  subst l1 y1 z1
  obtain ⟨X2, hS2, hZ2, ho2⟩ := rebS hS (Nat.le_trans hB (Nat.le_of_eq (congrArg Array.size eT.symm))) X' hs2 hg K.cz K.co
  obtain ⟨s₂, o, r1, r2⟩ := H v _ L _ _ hq hr hS2 (Ctx.wide hS2 K.cx hZ2 ho2 K.cb K.cl K.cr K.cn K.ck) T' _ X2 rfl (N.app (hfr _ _ _ hq)) (Nat.le_refl _)
  exact ⟨s₂, o, q.trans r1, r2⟩
theorem Go.callCW (K : Ctx p (s.setVm vm0) m meth c Z own bs ml ret nm R (FW s R) B) (hS : s.Since vm0 B) {j : Nat} {y : MethodName} {bytes : ByteArray} {maxL : Nat} {W kc nc : Nat} {a : Addr} {Qc : Option Value → Heap → List Loc → Prop} {argsL : List Value} (hy1 : y.name = "<init>")
    (w1 : (Jvm.Cond.methodLink own j y).before args (s.setVm vm0) = true) (w2 : (Jvm.Cond.instanceMethod y).before args (s.setVm vm0) = true) (w4 : (Jvm.Cond.code y bytes maxL none).before args (s.setVm vm0) = true) (hy : y.cls ≠ "java/lang/invoke/MethodHandle" ∧ y.cls ≠ "java/lang/invoke/VarHandle")
    (hK : PaysW l R p e below s vm0 args y 3 W (.ref a :: argsL).toArray h kc nc Z EL Qc) (hml : Ls.size = ml) (hlen : ∀ sig, parseMethodDescriptor y.desc = some sig → argsL.length = sig.parameters.length) (hst : st = argsL.reverse ++ .ref a :: rest) (hW : (rest.map fun v => v.category).sum ≤ W) (hc : k + kc ≤ R.cells) (hs : n + nc ≤ R.slots) (hfr : ∀ v h' L, Qc v h' L → Fr n0 L) (hd : decode bs pc = .ok (.invokespecial j, 3)) (hp : pc + 3 = pc')
    (H : ∀ v h' L vm1 B1, Qc v h' L → CHr Z EL vm0 h vm1 h' → s.Since vm1 B1 → Ctx p (s.setVm vm1) m meth c Z own bs ml ret nm R (FW s R) B1 → Go p l e R (s.setVm vm1) m args below meth c n0 Q (FW s R) B1 h' (k + kc) (n + nc) (mkF m pc' Ls (v.toList ++ rest))) : Go p l e R (s.setVm vm0) m args below meth c n0 Q (FW s R) B h k n (mkF m pc Ls st) := by
  subst hp hst
  intro T locs X eT N hB
  obtain ⟨v, vm₁, ⟨T', L', k', n'⟩, -, X', hs2, hg, ⟨L, hq, l1, y1, z1, hr⟩, q⟩ := X.specialBackS K.cx (y := y) (bytes := bytes) (maxL := maxL) hy1 K.co w1 w2 w4 hy hK (g := mkF m pc Ls (argsL.reverse ++ .ref a :: rest)) rfl (hml.trans K.cl.symm) (Steps.refl _) (a := a) (argsL := argsL) (rest := rest) hlen rfl (by show 2 * 0 + _ ≤ _; omega) (hb K.cb hd) (fun _ _ => ⟨rfl, eT, hc, hs⟩)
  dsimp only [Pt.U, Pt.locs, Pt.cells, Pt.slots] at X' l1 y1 z1 q hq hr hs2 hg
  subst l1 y1 z1
  obtain ⟨X2, hS2, hZ2, ho2⟩ := rebS hS (Nat.le_trans hB (Nat.le_of_eq (congrArg Array.size eT.symm))) X' hs2 hg K.cz K.co
  obtain ⟨s₂, o, r1, r2⟩ := H v _ L _ _ hq hr hS2 (Ctx.wide hS2 K.cx hZ2 ho2 K.cb K.cl K.cr K.cn K.ck) T' _ X2 rfl (N.app (hfr _ _ _ hq)) (Nat.le_refl _)
  exact ⟨s₂, o, q.trans r1, r2⟩
theorem Go.callVW (K : Ctx p (s.setVm vm0) m meth c Z own bs ml ret nm R (FW s R) B) (hS : s.Since vm0 B) {j : Nat} {C : String} {y z : MethodName} {W kc nc : Nat} {a : Addr} {Qc : Option Value → Heap → List Loc → Prop} {argsL : List Value}
    (w1 : (Jvm.Cond.methodLink own j y).before args (s.setVm vm0) = true) (w2 : (Jvm.Cond.declares y).before args (s.setVm vm0) = true) (hnf : NotFace (s.setVm vm0) y) (w3 : (Jvm.Cond.selects C y z).before args (s.setVm vm0) = true) (w4 : (Jvm.Cond.instanceMethod z).before args (s.setVm vm0) = true) (hy : y.cls ≠ "java/lang/invoke/MethodHandle" ∧ y.cls ≠ "java/lang/invoke/VarHandle") (E : Exa Z h a C)
    (hK : PaysW l R p e below s vm0 args z 3 W (.ref a :: argsL).toArray h kc nc Z EL Qc) (hml : Ls.size = ml) (hlen : ∀ sig, parseMethodDescriptor y.desc = some sig → argsL.length = sig.parameters.length) (hst : st = argsL.reverse ++ .ref a :: rest) (hW : (rest.map fun v => v.category).sum ≤ W) (hc : k + kc ≤ R.cells) (hs : n + nc ≤ R.slots) (hfr : ∀ v h' L, Qc v h' L → Fr n0 L) (hd : decode bs pc = .ok (.invokevirtual j, 3)) (hp : pc + 3 = pc')
    (H : ∀ v h' L vm1 B1, Qc v h' L → CHr Z EL vm0 h vm1 h' → s.Since vm1 B1 → Ctx p (s.setVm vm1) m meth c Z own bs ml ret nm R (FW s R) B1 → Go p l e R (s.setVm vm1) m args below meth c n0 Q (FW s R) B1 h' (k + kc) (n + nc) (mkF m pc' Ls (v.toList ++ rest))) : Go p l e R (s.setVm vm0) m args below meth c n0 Q (FW s R) B h k n (mkF m pc Ls st) := by
  subst hp hst
  intro T locs X eT N hB
  obtain ⟨cq, kq, qa, qb, qc⟩ := isOf K.cz eT E
  obtain ⟨v, vm₁, ⟨T', L', k', n'⟩, -, X', hs2, hg, ⟨L, hq, l1, y1, z1, hr⟩, q⟩ := X.virtualBackS K.cx (y := y) (z := z) K.co w1 w2 hnf w3 w4 hy hK qa qc (g := mkF m pc Ls (argsL.reverse ++ .ref a :: rest)) rfl (hml.trans K.cl.symm) (Steps.refl _) (argsL := argsL) (rest := rest) hlen rfl (by show 2 * 0 + _ ≤ _; omega) (hb K.cb hd) (fun _ _ => ⟨rfl, eT, hc, hs⟩)
  dsimp only [Pt.U, Pt.locs, Pt.cells, Pt.slots] at X' l1 y1 z1 q hq hr hs2 hg
  subst l1 y1 z1
  obtain ⟨X2, hS2, hZ2, ho2⟩ := rebS hS (Nat.le_trans hB (Nat.le_of_eq (congrArg Array.size eT.symm))) X' hs2 hg K.cz K.co
  obtain ⟨s₂, o, r1, r2⟩ := H v _ L _ _ hq hr hS2 (Ctx.wide hS2 K.cx hZ2 ho2 K.cb K.cl K.cr K.cn K.ck) T' _ X2 rfl (N.app (hfr _ _ _ hq)) (Nat.le_refl _)
  exact ⟨s₂, o, q.trans r1, r2⟩
theorem MetW.of {ws : List Jvm.Cond} {y : MethodName} {rm : Room} {as' : Array Value} {h0 : Heap} {Qm : Option Value → Heap → Prop} (hpl : plainFor y = true)
    (H : ∀ (p : Program) (e : Env) (s : State) (m : MethodId) (below : List Frame) (meth : Method) (c : Code) (vm0 : Vm) (B : Nat), s.Since vm0 B → CHv Z EL vm0 h0 → Ctx p (s.setVm vm0) m meth c Z y.cls bs ml ret y.name rm (FW s rm) B → Go p l e rm (s.setVm vm0) m as' below meth c n0 (fun v vm h => Qm v h ∧ CHr Z EL vm0 h0 vm h) (FW s rm) B h0 0 0 (entryFrame m as' ml)) : MetW l Z ws EL y bs ml ret rm as' h0 n0 Qm := by
  refine MetFree.of_bodySF hpl hisR ?_
  intro p e s m args below meth c s₁ Bd hml0 hP hK
  obtain ⟨rfl, hZ, hh, hC⟩ := hP
  have X0 : Stand p l e rm (s.setVm s.vm) m args below meth c s₁ [] 0 0 := Stand.of_body Bd
  have e0 : s₁.heap = h0 := by rw [← hh, Bd.state]; rfl
  have hS : s.Since s.vm 0 := (State.WarmedH.refl s).since 0
  obtain ⟨s₂, o, r1, r2, r3, v, L, rfl, ⟨⟨q1, q1'⟩, q2⟩, q3⟩ := H p e s m below meth c s.vm 0 hS hC (Ctx.wide hS Bd.exec hZ (findClass_of_methodNamed Bd.named) Bd.bytes hml0 Bd.returns (name_of_methodNamed Bd.named Bd.method).1 Bd.notSynchronized) s₁ [] X0 e0 (Fr.nil n0) (Nat.zero_le _)
  exact ⟨s₂, _, r1, r2, r3, v, L, rfl, ⟨⟨q1, q2⟩, q1'.2.1⟩, by rw [hh]; exact q1', q3⟩
theorem MetWK.of {ws : List Jvm.Cond} {y : MethodName} {rm : Room} {as' : Array Value} {h0 : Heap} {Qm : Option Value → Heap → Prop} (hpl : plainFor y = true)
    (H : ∀ (p : Program) (e : Env) (s : State) (m : MethodId) (below : List Frame) (meth : Method) (c : Code) (vm0 : Vm) (B : Nat), s.heap = h0 → s.vm.MethodsKnown → s.vm.FramesKnown below → s.Since vm0 B → CHv Z EL vm0 h0 → Ctx p (s.setVm vm0) m meth c Z y.cls bs ml ret y.name rm (FW s rm) B → Go p l e rm (s.setVm vm0) m as' below meth c n0 (fun v vm h => Qm v h ∧ CHr Z EL vm0 h0 vm h) (FW s rm) B h0 0 0 (entryFrame m as' ml)) : MetWK l Z ws EL y bs ml ret rm as' h0 n0 Qm := by
  refine MetFree.of_bodySF hpl hisR ?_
  intro p e s m args below meth c s₁ Bd hml0 hP hK
  obtain ⟨rfl, hZ, hh, hC⟩ := hP
  have X0 : Stand p l e rm (s.setVm s.vm) m args below meth c s₁ [] 0 0 := Stand.of_body Bd
  have e0 : s₁.heap = h0 := by rw [← hh, Bd.state]; rfl
  have hS : s.Since s.vm 0 := (State.WarmedH.refl s).since 0
  obtain ⟨s₂, o, r1, r2, r3, v, L, rfl, ⟨⟨q1, q1'⟩, q2⟩, q3⟩ := H p e s m below meth c s.vm 0 hh hK.1 hK.2 hS hC (Ctx.wide hS Bd.exec hZ (findClass_of_methodNamed Bd.named) Bd.bytes hml0 Bd.returns (name_of_methodNamed Bd.named Bd.method).1 Bd.notSynchronized) s₁ [] X0 e0 (Fr.nil n0) (Nat.zero_le _)
  exact ⟨s₂, _, r1, r2, r3, v, L, rfl, ⟨⟨q1, q2⟩, q1'.2.1⟩, by rw [hh]; exact q1', q3⟩
theorem MetW.pays {y : MethodName} {rm : Room} {as' : Array Value} {h0 : Heap} {len W : Nat} {Qm : Option Value → Heap → Prop} (M : MetW l Z [] EL y bs ml ret rm as' h0 n0 Qm) (hZ : Z.Warmed39 vm0) (wc : (Jvm.Cond.code y bs ml ret).before a0 Z = true) (wz : (Jvm.Cond.initialized y.cls).before a0 Z = true) (hf : rm.frames + 1 ≤ R.frames) (hl : W + (ml + 11) + rm.locals ≤ R.locals) (hEL : EW Z a0 EL) (HC : CHv Z EL vm0 h0) :
    PaysW l R p e below s vm0 args y len W as' h0 rm.cells rm.slots Z EL (fun v h L => (Qm v h ∧ Fr n0 L) ∧ h0.size ≤ h.size) :=
  backOfSH (Q := fun v h L => (Qm v h ∧ Fr n0 L) ∧ h0.size ≤ h.size) M hZ wc wz hf hl hEL HC
theorem MetWK.pays {y : MethodName} {rm : Room} {as' : Array Value} {h0 : Heap} {len W : Nat} {Qm : Option Value → Heap → Prop} (M : MetWK l Z [] EL y bs ml ret rm as' h0 n0 Qm) (hZ : Z.Warmed39 vm0) (wc : (Jvm.Cond.code y bs ml ret).before a0 Z = true) (wz : (Jvm.Cond.initialized y.cls).before a0 Z = true) (hf : rm.frames + 1 ≤ R.frames) (hl : W + (ml + 11) + rm.locals ≤ R.locals) (hEL : EW Z a0 EL) (HC : CHv Z EL vm0 h0) (hTK : vm0.MethodsKnown) (hBelow : vm0.FramesKnown below) :
    PaysW l R p e below s vm0 args y len W as' h0 rm.cells rm.slots Z EL (fun v h L => (Qm v h ∧ Fr n0 L) ∧ h0.size ≤ h.size) :=
  backOfSKH (Q := fun v h L => (Qm v h ∧ Fr n0 L) ∧ h0.size ≤ h.size) M hZ wc wz hf hl hEL HC hTK hBelow
/-- what a wide walk says at its return -/
theorem own_end {Z : State} {EL : List (String × Nat)} {vmS vm0 : Vm} {hS h : Heap} {P : Prop} (hEL : EW Z a0 EL) (hZ : Z.Warmed39 vm0) (CR : CHr Z EL vmS hS vm0 h) (q : P) : ∀ (T : State) (locs : List Loc), Stand p l e R (s.setVm vm0) m args below meth c T locs k n → T.heap = h → P ∧ CHr Z EL vmS hS T.vm h :=
  fun T locs X eT => ⟨q, CR.trans (CHv.at X hZ hEL CR.1)⟩
end Wide
theorem own_ne {a b : Nat} {h : Heap} (h1 : a < h.size) (h2 : h.size ≤ b) : a ≠ b := Nat.ne_of_lt (Nat.lt_of_lt_of_le h1 h2)
end GoKit
end Jvm.Pilot.@@N@@
namespace Jvm.Pilot.@@N@@
open Jvm Jvm.ClassFile Sem Op Lib Jvm.Free Jvm.Stand Jvm.LawKit Jvm.RoadKit Bundle Jvm.Pilot.@@N@@.Jvm.D
section ExcKit
variable {p : Program} {l : Launch} {e : Env} {R : Room} {s : State} {m : MethodId} {args : Array Value} {below : List Frame} {meth : Method} {c : Code} {n0 : Nat} {Q : Option Value → Vm → Heap → Prop} {F : Outcome → State → List Loc → Prop} {B : Nat} {h : Heap} {k n : Nat}
variable {Z : State} {own : String} {bs : ByteArray} {ml : Nat} {ret : Option FieldType} {nm : String} {a0 : Array Value}
variable {pc pc' : Nat} {Ls Ls' : Array Slot} {st rest : List Value}
theorem Go.newU (K : Ctx p s m meth c Z own bs ml ret nm R F B) {C : String} {j i : Nat} (w : (Jvm.Cond.classLink own j C).before a0 Z = true) (wi : (Jvm.Cond.instantiable C i).before a0 Z = true) (wz : (Jvm.Cond.initialized C).before a0 Z = true) (hc : k + 1 ≤ R.cells) (hl : n + i ≤ R.slots) (hd : decode bs pc = .ok (.new j, 3)) (hp : pc + 3 = pc')
    (H : ∀ h' a, a = h.size → Ext h h' → Exa Z h' a C → (∀ {O f d : String} {ty : FieldType}, Laid Z a0 C O f d → parseFieldDescriptor d = some ty → Fld Z h' a O f d (defaultValue ty)) → Unt h' a → Go p l e R s m args below meth c n0 Q F B h' (k + 1) (n + i) (mkF m pc' Ls (.ref a :: st))) : Go p l e R s m args below meth c n0 Q F B h k n (mkF m pc Ls st) := by
  subst hp
  intro T locs X eT N hB
  obtain ⟨T', h', X', e', E, A, D, U, q⟩ := Jvm.RoadKit.newO X K.cx K.cz K.co w wi wz eT (g := mkF m pc Ls st) rfl (hb K.cb hd) hc hl
  obtain ⟨s₂, o, r1, r2⟩ := H h' h.size rfl E A D U T' locs X' e' N (Nat.le_trans hB E.1)
  exact ⟨s₂, o, q _ r1, r2⟩
theorem Go.exc1 (K : Ctx p s m meth c Z own bs ml ret nm R F B) (hl : l.stackTraces = true) {rc : String} {links : List Jvm.Free.Exc.Link} {ic i : Nat} {a : Addr} {msg : Value} (hok : Jvm.Free.Exc.linksOk 1 links = true)
    (w1 : (Jvm.Cond.methodLink own ic (Jvm.Free.Exc.ctor 1 (Jvm.Free.Exc.headName links))).before a0 Z = true) (w2 : (Jvm.Cond.instanceMethod (Jvm.Free.Exc.ctor 1 (Jvm.Free.Exc.headName links))).before a0 Z = true) (wT : (Jvm.Free.Exc.chainTab 1 rc links).before a0 Z = true) (wi : (Jvm.Cond.instantiable rc i).before a0 Z = true) (r : ∀ d ∈ twoRefs, d.before a0 Z = true)
    (hT0 : ThS Z s.heap) (hT : ThS Z h) (hTK : s.vm.MethodsKnown) (hBl : s.vm.FramesKnown below) (E : Exa Z h a rc) (N0 : Unt h a) (B1 : Fld Z h a "java/lang/Throwable" "backtrace" "Ljava/lang/Object;" .null) (B2 : Fld Z h a "java/lang/Throwable" "detailMessage" "Ljava/lang/String;" .null) (hmsg : msg.isRef = true) (ha : n0 ≤ a)
    (hml : Ls.size = ml) (hf : 4 + links.length ≤ R.frames) (W : Nat) (hW : (st.map fun v => v.category).sum ≤ W) (hlo : W + (56 + 14 * links.length) ≤ R.locals) (hc : k + 1 ≤ R.cells) (hsl : n + 2752 ≤ R.slots) (hd : decode bs pc = .ok (.invokespecial ic, 3)) (hp : pc + 3 = pc')
    (H : ∀ h', Kp Z h h' a → Exa Z h' a rc → Unt h' a → Fld Z h' a "java/lang/Throwable" "detailMessage" "Ljava/lang/String;" msg → ThS Z h' → Go p l e R s m args below meth c n0 Q F B h' (k + 1) (n + 2752) (mkF m pc' Ls st)) : Go p l e R s m args below meth c n0 Q F B h k n (mkF m pc Ls (msg :: .ref a :: st)) := by
  subst hp
  intro T locs X eT N hB
  obtain ⟨T', h', X', e', Kq, E', U', D', -, hT', q⟩ := excL1 X K.cx hl K.cz K.co (links := links) (rc := rc) (ic := ic) (n := i) hok w1 w2 wT wi r hT0 hT hTK hBl eT E N0 B1 B2 hmsg (g := mkF m pc Ls (msg :: .ref a :: st)) rfl (hml.trans K.cl.symm) (rest := st) rfl (hb K.cb hd) hf (by show 2 * 0 + _ + _ ≤ _; omega) hc hsl
  obtain ⟨s₂, o, r1, r2⟩ := H h' Kq E' U' D' hT' T' _ X' e' (Fr.six N ha) (Nat.le_trans hB Kq.1)
  exact ⟨s₂, o, q _ r1, r2⟩
theorem Go.exc2 (K : Ctx p s m meth c Z own bs ml ret nm R F B) (hl : l.stackTraces = true) {rc : String} {links : List Jvm.Free.Exc.Link} {ic i : Nat} {a : Addr} {msg cz : Value} (hok : Jvm.Free.Exc.linksOk 2 links = true)
    (w1 : (Jvm.Cond.methodLink own ic (Jvm.Free.Exc.ctor 2 (Jvm.Free.Exc.headName links))).before a0 Z = true) (w2 : (Jvm.Cond.instanceMethod (Jvm.Free.Exc.ctor 2 (Jvm.Free.Exc.headName links))).before a0 Z = true) (wT : (Jvm.Free.Exc.chainTab 2 rc links).before a0 Z = true) (wi : (Jvm.Cond.instantiable rc i).before a0 Z = true) (r : ∀ d ∈ twoRefs, d.before a0 Z = true)
    (hT0 : ThS Z s.heap) (hT : ThS Z h) (hTK : s.vm.MethodsKnown) (hBl : s.vm.FramesKnown below) (E : Exa Z h a rc) (N0 : Unt h a) (B1 : Fld Z h a "java/lang/Throwable" "backtrace" "Ljava/lang/Object;" .null) (B2 : Fld Z h a "java/lang/Throwable" "detailMessage" "Ljava/lang/String;" .null) (hmsg : msg.isRef = true) (hcz : cz.isRef = true) (ha : n0 ≤ a)
    (hml : Ls.size = ml) (hf : 4 + links.length ≤ R.frames) (W : Nat) (hW : (st.map fun v => v.category).sum ≤ W) (hlo : W + (56 + 14 * links.length) ≤ R.locals) (hc : k + 1 ≤ R.cells) (hsl : n + 2752 ≤ R.slots) (hd : decode bs pc = .ok (.invokespecial ic, 3)) (hp : pc + 3 = pc')
    (H : ∀ h', Kp Z h h' a → Exa Z h' a rc → Unt h' a → Fld Z h' a "java/lang/Throwable" "detailMessage" "Ljava/lang/String;" msg → ThS Z h' → Go p l e R s m args below meth c n0 Q F B h' (k + 1) (n + 2752) (mkF m pc' Ls st)) : Go p l e R s m args below meth c n0 Q F B h k n (mkF m pc Ls (cz :: msg :: .ref a :: st)) := by
  subst hp
  intro T locs X eT N hB
  obtain ⟨T', h', X', e', Kq, E', U', D', -, hT', q⟩ := excL2 X K.cx hl K.cz K.co (links := links) (rc := rc) (ic := ic) (n := i) hok w1 w2 wT wi r hT0 hT hTK hBl eT E N0 B1 B2 hmsg hcz (g := mkF m pc Ls (cz :: msg :: .ref a :: st)) rfl (hml.trans K.cl.symm) (rest := st) rfl (hb K.cb hd) hf (by show 2 * 0 + _ + _ ≤ _; omega) hc hsl
  obtain ⟨s₂, o, r1, r2⟩ := H h' Kq E' U' D' hT' T' _ X' e' (Fr.six N ha) (Nat.le_trans hB Kq.1)
  exact ⟨s₂, o, q _ r1, r2⟩
theorem own_known {s : State} {m : MethodId} {args : Array Value} {below : List Frame} (hf : s.frames = .invoking m args :: below) (h1 : framesKnown s = true) (h2 : tablesKnown s = true) : s.vm.MethodsKnown ∧ s.vm.FramesKnown below := by
  constructor
  · intro m' x hx
    cases hk : s.vm.classes[m'.cls]? with
    | none => simp [Vm.method?, hk] at hx
    | some kk =>
      refine ⟨kk, hk, fun cf hcf => ?_⟩
      have hx' : kk.methods[m'.idx]? = some x := by simpa [Vm.method?, hk] using hx
      have q := (Array.all_eq_true_iff_forall_mem.mp h2) kk (by obtain ⟨hi, rfl⟩ := Array.getElem?_eq_some_iff.mp hk; exact Array.getElem_mem hi)
      rw [hcf] at q
      have e : kk.methods.size = cf.methods.size := by simpa using q
      have hi := (Array.getElem?_eq_some_iff.mp hx').1
      rw [Array.getElem?_eq_getElem (by omega)]
      rfl
  · intro y hy m' hm'
    have q := List.all_eq_true.mp h1 y (by rw [hf]; exact List.mem_cons_of_mem _ hy)
    have hkn : methodKnown s.vm m' = true := by
      cases y <;> simp [frameMethod?] at hm' <;> (try (subst hm'; simpa using q))
    unfold methodKnown at hkn
    cases hk : s.vm.classes[m'.cls]? with
    | none => rw [hk] at hkn; cases hkn
    | some kk =>
      rw [hk] at hkn
      refine ⟨kk, hk, fun cf hcf => ?_⟩
      simpa [hcf] using hkn
end ExcKit
end Jvm.Pilot.@@N@@
namespace Jvm.Pilot.@@N@@
open Jvm Jvm.ClassFile Sem Op Lib Jvm.Free Jvm.Stand Jvm.LawKit Jvm.RoadKit Bundle Jvm.Pilot.@@N@@.Jvm.D
section FillKit
open Jvm.Free.Exc (obD msgD thD)
/-- the words that Throwable.fillInStackTrace() asks of a receiver of the class rc: the places are asked of rc alone -/
def fillW (rc : String) : List Jvm.Cond := [.initialized tN, .superclass tN "java/lang/Object", .instanceMethod tFill, .codeSync tFill LibCode.Throwable.Fill.code 1 (some (.object tN)), .instanceMethod tFill0, .native tFill0, .instanceMethod oInit, .code oInit object_method_1_code 1 none,
  .methodLink tN 1 oInit, .methodLink tN 27 tFill, .methodLink tN 202 tFill0, .fieldLink tN 7 tN "cause" thD, .lays rc tN "cause" thD, .fieldLink tN 17 tN "stackTrace" steD, .lays rc tN "stackTrace" steD, .fieldLink tN 24 tN "suppressedExceptions" listD, .lays rc tN "suppressedExceptions" listD,
  .fieldLink tN 13 tN "UNASSIGNED_STACK" steD, .laysStatic tN "UNASSIGNED_STACK" steD, .fieldLink tN 20 tN "SUPPRESSED_SENTINEL" listD, .laysStatic tN "SUPPRESSED_SENTINEL" listD, .lays rc tN "detailMessage" msgD,
  .declares tFill, .selects rc tFill0 tFill0, .selects rc tFill tFill, .fieldLink tN 198 tN "backtrace" obD, .lays rc tN "backtrace" obD, .arrayOver (.object "java/lang/Object"), .soleField tN "backtrace", .soleField tN "depth", .lays rc tN "depth" "I"]
theorem fillW_ok {rc : String} : (fillW rc).all xOk = true := rfl
/-- what the library's law of fillInStackTrace asks of the tables -/
theorem own_links {args : Array Value} {s : State} {pl : Platform} {rc : String} (ho : pl.frameOwnsMonitors = true) (hf : pl.finalization = false) (hpl : pl.magicAccessors = ({} : Platform).magicAccessors) (H : ∀ d ∈ fillW rc, d.before args s = true) :
    ∃ T : ThrowableC, T.Links pl s ∧ s.vm.findClass tN = some T.cT ∧ s.methodNamed? tFill = some T.fill ∧ s.methodNamed? tFill0 = some T.fill0 ∧ s.fieldFound? tN "stackTrace" steD = some (T.cT, T.kT, T.i17, T.fStack) ∧ s.fieldFound? tN "UNASSIGNED_STACK" steD = some (T.cT, T.kT, T.i13, T.fUnassigned) ∧ T.fStack.type = .array (.object "java/lang/StackTraceElement") := by
  have w : ∀ (i : Nat) (d : Jvm.Cond), (fillW rc)[i]? = some d → d.holds args s none s [] = true := fun i d q => H d (List.mem_of_getElem? q)
  obtain ⟨c, hc⟩ : ∃ c, s.vm.findClass tN = some c := by
    obtain ⟨q0, _, q, -⟩ := Cond.native_spec (w 5 _ rfl)
    exact ⟨q0.cls, findClass_of_methodNamed q⟩
  obtain ⟨k, hk, hname⟩ := Vm.findClass_spec hc
  obtain ⟨_, k1, _, _, hk1, _, _, -, _, hni⟩ := Cond.superclass_spec hc (w 1 _ rfl)
  cases Option.some.inj (hk.symm.trans hk1)
  -- the two methods and the constructor of Object
  obtain ⟨iF, mF, nF, gF, aF, sF, bF, -, -⟩ := Cond.ownMethod (x := tFill) hc hk (w 2 _ rfl)
  obtain ⟨mF', cF, gF', kF, yF, lF, rF, oF, -, pF⟩ := Cond.codeSync_spec nF (w 3 _ rfl)
  cases Option.some.inj (gF.symm.trans gF')
  obtain ⟨i0, m0, n0, g0, a0, s0, b0, d0, e0⟩ := Cond.ownMethod (x := tFill0) hc hk (w 4 _ rfl)
  obtain ⟨m0i, m0', n0', g0', t0, k0, o0, p0⟩ := Cond.native_spec (w 5 _ rfl)
  cases Option.some.inj (n0.symm.trans n0')
  cases Option.some.inj (g0.symm.trans g0')
  obtain ⟨mO, xO, nO, gO, sO, bO⟩ := Cond.instanceMethod_spec (w 6 _ rfl)
  obtain ⟨xO', cO, gO', kO, yO, lO, -, oO, -, pO⟩ := Cond.code_spec nO (w 7 _ rfl)
  cases Option.some.inj (gO.symm.trans gO')
  obtain ⟨kOb, hkO, hnO⟩ := Vm.findClass_spec (findClass_of_methodNamed nO)
  obtain ⟨uO, vO⟩ := name_of_methodNamed nO gO
  -- the links
  obtain ⟨ci1, n1, cf, l1, r1, hcf, q1⟩ := Cond.linkedMethod hc hk nO (w 8 _ rfl) pl hpl
  obtain ⟨ci27, n27, cf2, l27, r27, hcf2, q27⟩ := Cond.linkedMethod hc hk nF (w 9 _ rfl) pl hpl
  cases Option.some.inj (hcf.symm.trans hcf2)
  obtain ⟨ci202, n202, cf3, l202, r202, hcf3, q202⟩ := Cond.linkedMethod hc hk n0 (w 10 _ rfl) pl hpl
  cases Option.some.inj (hcf.symm.trans hcf3)
  -- the fields: their places are asked of rc
  obtain ⟨ci7, i7, f7, l7, r7, a7, s7, z7, -, -, -⟩ := Cond.ownField (t := .object tN) hc hk (by decide +kernel) (w 11 _ rfl) (w 12 _ rfl) pl hpl
  obtain ⟨ci17, i17, f17, l17, r17, a17, s17, z17, x17, t17, y17⟩ := Cond.ownField (t := .array (.object "java/lang/StackTraceElement")) hc hk (by decide +kernel) (w 13 _ rfl) (w 14 _ rfl) pl hpl
  obtain ⟨ci24, i24, f24, l24, r24, a24, s24, z24, x24, -, y24⟩ := Cond.ownField (t := .object "java/util/List") hc hk (by decide +kernel) (w 15 _ rfl) (w 16 _ rfl) pl hpl
  obtain ⟨ci13, i13, f13, aS, cS, l13, r13, a13, s13, -, -, hsta, -, -, -, -, y13⟩ := Cond.ownStatic (t := .array (.object "java/lang/StackTraceElement")) hc hk (by decide +kernel) (w 17 _ rfl) (w 18 _ rfl) pl hpl
  obtain ⟨ci20, i20, f20, _, _, l20, r20, a20, s20, -⟩ := Cond.ownStatic (t := .object "java/util/List") hc hk (by decide +kernel) (w 19 _ rfl) (w 20 _ rfl) pl hpl
  obtain ⟨cR, kR, cM, kM, iM, fM, hcR, hkR, -, sM, zM, -⟩ := Cond.lays_spec (w 21 _ rfl)
  obtain ⟨-, d17, u17, v17⟩ := Cond.laysAt hcR hkR y17 (w 14 _ rfl)
  obtain ⟨-, d24, u24, v24⟩ := Cond.laysAt hcR hkR y24 (w 16 _ rfl)
  have ap : f17.slot ≠ f24.slot := Cond.laysApart u17 u24 v17 v24 (by rw [x17, x24]; decide)
  have hsig : ∀ {d : String} {L : List FieldType} {sg : MethodDescriptor}, (parseMethodDescriptor d).map (·.parameters) = some L → parseMethodDescriptor d = some sg → sg.parameters = L := fun q1 q2 => by rw [q2] at q1; simpa using q1
  refine ⟨{ cT := c, kT := k, cO := c, aS := aS, fillIdx := iF, fill0Idx := i0, initSIdx := iF, obj := mO, kObj := kOb, methFill := mF, methFill0 := m0, methInitS := mF, methObj := xO, codeFill := cF, codeInitS := cF, codeObj := cO, fBack := f7, fDepth := f7, fStack := f17, fCause := f7, fSupp := f24, fMsg := fM, fUnassigned := f13, fSentinel := f20, cfT := cf, ci1 := ci1, n1 := n1, ci27 := ci27, n27 := n27, ci202 := ci202, n202 := n202, ci7 := ci7, i7 := i7, ci13 := ci13, i13 := i13, ci17 := ci17, i17 := i17, ci20 := ci20, i20 := i20, ci24 := ci24, i24 := i24 }, ?_, hc, nF, n0, y17, y13, t17⟩
  constructor
  case owns => exact ho
  case noFinalization => exact hf
  case cls => exact hk
  case name => exact hname
  case boot => exact Vm.findClass_boot hc hk
  case notInterface => exact hni
  case initialized => exact Cond.initialized_spec hc hk (w 0 _ rfl)
  case objFound => show lookupSpecial _ _ _ xO.desc = _; rw [vO]; exact lookupSpecial_of_named nO gO sO
  case objParams => show xO.sig.parameters.length = 0; rw [hsig (L := []) (by decide +kernel) pO]; rfl
  case objBytes => exact yO
  case fillParams => exact hsig (by decide +kernel) pF
  case fill0Params => exact hsig (by decide +kernel) p0
  all_goals assumption
variable {p : Program} {l : Launch} {e : Env} {R : Room} {s : State} {m : MethodId} {args : Array Value} {below : List Frame} {meth : Method} {c : Code} {n0 : Nat} {Q : Option Value → Vm → Heap → Prop} {F : Outcome → State → List Loc → Prop} {B : Nat} {h : Heap} {k n : Nat}
variable {Z : State} {own : String} {bs : ByteArray} {ml : Nat} {ret : Option FieldType} {nm : String} {a0 : Array Value}
variable {pc pc' : Nat} {Ls Ls' : Array Slot} {st rest : List Value}
theorem own_ths {h0 : Heap} (O : Old Z n0 h0) : ThS Z h0 := fun _ _ _ _ _ _ _ q _ => O.2.2 _ _ q
set_option maxHeartbeats 4000000 in
/-- the call of fillInStackTrace() in Throwable's own constructors -/
theorem Go.fill (K : Ctx p s m meth c Z tN bs ml ret nm R F B) (hl : l.stackTraces = true) {rc : String} {i : Nat} {a u : Addr} (Wf : ∀ d ∈ fillW rc, d.before a0 Z = true) (wi : (Jvm.Cond.instantiable rc i).before a0 Z = true)
    (hT0 : ThS Z s.heap) (O : Old Z n0 h) (hTK : s.vm.MethodsKnown) (hBl : s.vm.FramesKnown below) (E : Exa Z h a rc) (N0 : Unt h a) (B1 : Fld Z h a tN "backtrace" obD .null) (B2 : Fld Z h a tN "stackTrace" steD (.ref u)) (SU : Sta Z Z.heap tN "UNASSIGNED_STACK" steD (.ref u)) (ha : n0 ≤ a)
    (hml : Ls.size = ml) (hfr : 2 < R.frames) (W : Nat) (hW : (st.map fun v => v.category).sum ≤ W) (hlo : W + 42 ≤ R.locals) (hc : k + 1 ≤ R.cells) (hsl : n + 2752 ≤ R.slots) (hd : decode bs pc = .ok (.invokevirtual 27, 3)) (hp : pc + 3 = pc')
    (H : ∀ h1 h2 h3 h' x y, Ext h h1 → Wr h1 h2 a (Jvm.RoadKit.slotOf Z tN "backtrace" obD) (.ref x) → Wr h2 h3 a (Jvm.RoadKit.slotOf Z tN "depth" "I") (.int y) → Wr h3 h' a (Jvm.RoadKit.slotOf Z tN "stackTrace" steD) (.ref u) → Go p l e R s m args below meth c n0 Q F B h' (k + 1) (n + 2752) (mkF m pc' Ls (.ref a :: st))) : Go p l e R s m args below meth c n0 Q F B h k n (mkF m pc Ls (.ref a :: st)) := by
  subst hp
  intro T0 locs X eT N hB
  have htr : e.platform.stackTraces = true := by rw [X.admits.platform]; exact hl
  have ho : e.platform.frameOwnsMonitors = true := by rw [X.admits.platform]
  have hfi : e.platform.finalization = false := by rw [X.admits.platform]
  have hpl : e.platform.magicAccessors = ({} : Platform).magicAccessors := by rw [X.admits.platform]
  have V : ∀ d ∈ fillW rc, d.before args s = true := fun d hd => mvX hT0 K.cz (List.all_eq_true.mp fillW_ok d hd) (Wf d hd)
  have w : ∀ (i : Nat) (d : Jvm.Cond), (fillW rc)[i]? = some d → d.before args s = true := fun i d q => V d (List.mem_of_getElem? q)
  have v : ∀ (i : Nat) (d : Jvm.Cond), (fillW rc)[i]? = some d → d.holds args s none s [] = true := fun i d q => w i d q
  obtain ⟨T, L, fT, nF, n00, yS, yU, tS⟩ := own_links (rc := rc) ho hfi hpl V
  have hal := K.cz.alike
  -- the receiver's cell
  obtain ⟨cell, kc, e1, e2, e3, e4, e5⟩ := id E
  obtain ⟨c2, u1, u2, u3⟩ := id N0
  cases e1.symm.trans u1
  obtain ⟨c3, cB, kB, iB, fB, b1, b2, -, -, -, -, b7⟩ := id B1
  cases e1.symm.trans b1
  obtain ⟨c4, cS, kS, iS, fS, d1, d2, -, -, -, -, d7⟩ := id B2
  cases e1.symm.trans d1
  obtain ⟨c5, k5, g1, g2, g3, -⟩ := Cond.instantiable_spec wi
  cases e2.symm.trans g1
  cases e3.symm.trans g2
  obtain ⟨kX, q1, q2⟩ := hal.2.2 _ _ e3
  have hfound : s.vm.findClass rc = some cell.cls := by rw [hal.findClass]; exact e2
  have hord : kX.kind = .ordinary := by rw [q2]; exact g3
  have hsz : cell.slots.size = kX.instanceTypes.size := by rw [q2]; exact e5 g3
  have tk : ∀ {f : Field} {v : Value}, kX.instanceTypes[f.slot]? = some f.type → fits f.type v = true → Jvm.Takes s cell f v := fun {f v} h1 h2 => by
    obtain ⟨r1, r2⟩ := Takes.of_laid (v := v) q1 hord h1 h2
    exact ⟨by rw [hsz]; simpa using r1, by rw [u2]; exact r2⟩
  -- its fields
  obtain ⟨k6, z6, -⟩ := State.fieldFound?_setVm (s := Z) hal d2
  have eS := Option.some.inj ((show s.fieldFound? tN "stackTrace" steD = _ from z6).symm.trans yS)
  simp only [Prod.mk.injEq] at eS
  obtain rfl : fS = T.fStack := eS.2.2.2
  obtain ⟨ci198, i198, fB', l198, r198, a198, sB, -, xB, tB, yB⟩ := Cond.ownField (t := .object "java/lang/Object") fT L.cls (by decide +kernel) (v 25 _ rfl) (v 26 _ rfl) e.platform hpl
  obtain ⟨k7, z7, -⟩ := State.fieldFound?_setVm (s := Z) hal b2
  have eB := Option.some.inj ((show s.fieldFound? tN "backtrace" obD = _ from z7).symm.trans yB)
  simp only [Prod.mk.injEq] at eB
  obtain rfl : fB = fB' := eB.2.2.2
  obtain ⟨_, _, cD, kD, iD, fD, -, -, yD, sD, -⟩ := Cond.lays_spec (v 30 _ rfl)
  cases Option.some.inj ((Cond.lays_declared (v 30 _ rfl) yD).symm.trans fT)
  obtain ⟨hkD, aD⟩ := State.fieldFound?_spec yD
  cases Option.some.inj (hkD.symm.trans L.cls)
  obtain ⟨xD, tD⟩ := State.fieldFound?_type yD (t := .int) (by decide +kernel)
  obtain ⟨_, _, _, zD⟩ := Jvm.Free.BdW.found_ride (U := s) (U' := Z) hal.symm ⟨_, _, _, yD⟩
  have hfb := Cond.soleField_find fT L.cls (v 28 _ rfl) a198 xB sB
  have hfd := Cond.soleField_find fT L.cls (v 29 _ rfl) aD xD sD
  obtain ⟨comp, cO, kO, -, -, hkO, hkindO, hO⟩ := Cond.arrayOver_spec (w 27 _ rfl)
  obtain ⟨pS, -⟩ := Cond.laysAt hfound q1 yS (v 14 _ rfl)
  obtain ⟨pB, -⟩ := Cond.laysAt hfound q1 yB (v 26 _ rfl)
  obtain ⟨pD, -⟩ := Cond.laysAt hfound q1 yD (v 30 _ rfl)
  have hsel0 : selectMethod e.platform s.vm cell.cls T.fill0 = .method T.fill0 := by
    obtain ⟨c2, r2, m2, q1, q2, q3, q4, -⟩ := Cond.selects_spec (v 23 _ rfl)
    cases Option.some.inj (q1.symm.trans hfound)
    cases Option.some.inj (q2.symm.trans (State.methodFound?_of_named n00 (by decide)))
    cases Option.some.inj (q3.symm.trans n00)
    rw [Launch.admits_selectMethod X.admits]; exact q4
  -- the static
  obtain ⟨cU, iU, kU, fU, aU, cellU, v1, -, -, v4, v5, v6, v7⟩ := SU
  obtain ⟨k8, z8, hk8⟩ := State.fieldFound?_setVm (s := Z) hal v1
  have eU := Option.some.inj ((show s.fieldFound? tN "UNASSIGNED_STACK" steD = _ from z8).symm.trans yU)
  simp only [Prod.mk.injEq] at eU
  have st8 : k8.statics = some aU := by rw [hk8]; exact v4
  have eA : T.aS = aU := Option.some.inj (L.statics.symm.trans (eU.2.1 ▸ st8))
  rw [eU.2.2.2] at v7
  have hU : h[T.aS]? = some cellU := by rw [eA]; exact O.2.2 _ _ v5
  have hneS : T.aS ≠ a := fun q => by
    rw [q] at hU
    cases e1.symm.trans hU
    rw [u2] at v6
    cases v6
  have hSE := w 24 _ rfl
  obtain ⟨vr, vm6, ⟨T6, L6, c6, n6⟩, -, X6, ⟨hv6, vm', lines, hli, -, hU6, hL6, hc6, hn6⟩, come⟩ := X.virtualBack K.cx (own := tN) (C := rc) (index := 27) (y := tFill) (z := tFill) K.co (w 9 _ rfl) (w 22 _ rfl) (notFace_of_selects hSE) hSE (w 2 _ rfl) (by decide)
    (Jvm.Free.Str.fillPays (l := l) (W := W) K.cx htr T L nF (u0 := ⟨.ref u, rfl⟩) (fun q => nomatch q) (self := a) (cell := cell) (cellS := cellU) (fun _ => by rw [u2]; simp) (by rw [u2]; simp) (by rw [u3]) (by rw [u3]) d7 hsel0 hneS (fun q => by rw [q] at v6; cases v6) v7 (tk pS (by rw [tS]; rfl))
      ⟨{ ci198 := ci198, i198 := i198, fBack := fB }, ⟨l198, r198, a198, sB⟩, b7⟩ hTK hBl fT hO hkO hkindO hfb hfd (fun x => tk pB (by rw [tB]; rfl)) (fun x => tk pD (by rw [tD]; rfl)) hfr hlo)
    (b := a) (cB := cell.cls) hfound ⟨cell, by rw [eT]; exact e1, rfl, by rw [u2]; rfl⟩ (g := mkF m pc Ls (.ref a :: st)) rfl (hml.trans K.cl.symm) (Steps.refl _) (argsL := []) (rest := st)
    (fun sig q => by rw [show parseMethodDescriptor tFill.desc = some ⟨[], some (.object tN)⟩ from by decide +kernel] at q; rw [← Option.some.inj q]; rfl) rfl (by show 2 * 0 + _ ≤ _; omega) (hb K.cb hd)
    (fun vmx _ => ⟨rfl, hc, hsl, by show T0.heap[a]? = _; rw [eT]; exact e1, by show T0.heap[T.aS]? = _; rw [eT]; exact hU⟩)
  dsimp only [Pt.U, Pt.locs, Pt.cells, Pt.slots] at X6 hU6 hL6 hc6 hn6 come
  subst hv6 hL6 hc6 hn6
  -- the heap, write by write
  have hlt : a < h.size := (Array.getElem?_eq_some_iff.mp e1).1
  have lB : fB.slot < cell.slots.size := (Array.getElem?_eq_some_iff.mp b7).1
  have lS : T.fStack.slot < cell.slots.size := (Array.getElem?_eq_some_iff.mp d7).1
  have lD : fD.slot < cell.slots.size := (tk (v := .int 0) pD (by rw [tD]; rfl)).1
  have es : cell.vm.isStatics = false := e4
  generalize hx : (T0.setVm vm6).heap.size = x at hU6
  generalize lines.length.toInt32 = y at hU6
  generalize hh1 : h.push (traceHolder cO lines) = h1
  have h1a : h1[a]? = some cell := by rw [← hh1, Array.getElem?_push_lt hlt]; exact (Array.getElem?_eq_getElem hlt).symm.trans e1
  have hlt1 : a < h1.size := (Array.getElem?_eq_some_iff.mp h1a).1
  have E1 : Ext h h1 := ⟨by rw [← hh1, Array.size_push]; exact Nat.le_succ _, fun b cb q => by
    have hb := (Array.getElem?_eq_some_iff.mp q).1
    rw [← hh1, Array.getElem?_push_lt hb]; exact (Array.getElem?_eq_getElem hb).symm.trans q⟩
  have W1 : Wr h1 (h1.setIfInBounds a (cell.setSlot fB.slot (.ref x))) a fB.slot (.ref x) := ⟨cell, h1a, es, lB, rfl⟩
  have W2 : Wr (h1.setIfInBounds a (cell.setSlot fB.slot (.ref x))) (h1.setIfInBounds a ((cell.setSlot fB.slot (.ref x)).setSlot fD.slot (.int y))) a fD.slot (.int y) :=
    ⟨cell.setSlot fB.slot (.ref x), Array.getElem?_setIfInBounds_self_of_lt hlt1, es, by rw [sz_set]; exact lD, (Array.setIfInBounds_setIfInBounds ..).symm⟩
  have W3 : Wr (h1.setIfInBounds a ((cell.setSlot fB.slot (.ref x)).setSlot fD.slot (.int y))) T6.heap a T.fStack.slot (.ref u) :=
    ⟨(cell.setSlot fB.slot (.ref x)).setSlot fD.slot (.int y), Array.getElem?_setIfInBounds_self_of_lt hlt1, es, by rw [sz_set, sz_set]; exact lS, by
      rw [hU6, Array.setIfInBounds_setIfInBounds]
      show ((T0.heap.push _).setIfInBounds _ _) = _
      rw [eT, hh1]⟩
  have sl1 : Jvm.RoadKit.slotOf Z tN "backtrace" obD = fB.slot := by simp [Jvm.RoadKit.slotOf, b2]
  have sl2 : Jvm.RoadKit.slotOf Z tN "depth" "I" = fD.slot := by simp [Jvm.RoadKit.slotOf, zD]
  have sl3 : Jvm.RoadKit.slotOf Z tN "stackTrace" steD = T.fStack.slot := by simp [Jvm.RoadKit.slotOf, d2]
  obtain ⟨s₂, o, r1, r2⟩ := H h1 (h1.setIfInBounds a (cell.setSlot fB.slot (.ref x))) (h1.setIfInBounds a ((cell.setSlot fB.slot (.ref x)).setSlot fD.slot (.int y))) T6.heap x y E1 (by rw [sl1]; exact W1) (by rw [sl2]; exact W2) (by rw [sl3]; exact W3) T6 _ (X6.more (Nat.le_refl _) (Nat.add_le_add_left (traceHolder_size_le cO hli) _)) rfl
    (N.app fun z hz => by simp only [List.mem_cons, List.not_mem_nil, or_false] at hz; rcases hz with rfl | rfl | rfl <;> exact ha) (Nat.le_trans hB (by rw [W3.size, W2.size, W1.size]; exact E1.1))
  exact ⟨s₂, o, come.trans r1, r2⟩
end FillKit
end Jvm.Pilot.@@N@@
/- laws to paste: Road.backV, Road.eqW, Road.codOf (cut by pick.py; bodies as the Statement names them) -/
namespace Jvm.Pilot.@@N@@
namespace StrChars
open Jvm Sem ClassFile Op Lib Jvm.Stand Jvm.Free.XT Jvm.Free.ALB Jvm.Free.JM Jvm.Free
open Jvm.Lib.Cold (StaticIs)
/-- a char array whose places are chars -/
def Ch (a : Addr) (A : Cell) (U : State) : Prop := Arr .char a A U ∧ Typed .char A
theorem Ch.mv {a : Addr} {A : Cell} {U U' : State} (h : Ch a A U) (hal : U.vm.Alike U'.vm) (hh : U'.heap = U.heap) : Ch a A U' := ⟨h.1.mv hal hh, h.2⟩
theorem Ch.keep {a : Addr} {A : Cell} {U U' : State} (h : Ch a A U) (hal : U.vm.Alike U'.vm) (hk : U'.heap[a]? = some A) : Ch a A U' := ⟨h.1.keep hal hk, h.2⟩
/-- what place i of a char[]'s cell holds -/
def cv (A : Cell) (i : Nat) : Int32 := match A.slots[i]? with | some (.int x) => x | _ => 0
theorem Ch.get {a : Addr} {A : Cell} {U : State} (h : Ch a A U) {i : Nat} (hi : i < A.slots.size) : A.slots[i]? = some (.int (cv A i)) := by
  have e := Array.getElem?_eq_getElem hi
  have f := h.2 i _ e
  unfold cv; rw [e]
  generalize A.slots[i] = v at f
  cases v <;> simp [fits] at f ⊢
/-- the byte that i2b leaves of a char -/
def lo8 (x : Int32) : Int32 := x.toInt8.toInt32
theorem fits_lo8 (y : Int32) : fits .byte (.int (lo8 y)) = true := by
  have h1 := y.toInt8.le_toInt
  have h2 := y.toInt8.toInt_lt
  simp only [lo8, fits, Bool.and_eq_true, decide_eq_true_eq, Int32.le_iff_toInt_le, Int8.toInt_toInt32, show (-128 : Int32).toInt = -128 from by decide, show (127 : Int32).toInt = 127 from by decide]
  omega
/-- A' is A but that each place j of lo .. hi - 1 holds f j -/
def Laid (A A' : Cell) (lo hi : Nat) (f : Nat → Value) : Prop := A'.cls = A.cls ∧ A'.vm = A.vm ∧ A'.slots.size = A.slots.size ∧ ∀ i, A'.slots[i]? = if lo ≤ i ∧ i < hi then some (f i) else A.slots[i]?
theorem Laid.zero (A : Cell) (lo : Nat) (f : Nat → Value) : Laid A A lo (lo + 0) f := ⟨rfl, rfl, rfl, fun i => by rw [if_neg (by omega)]⟩
theorem Laid.step {A Ak : Cell} {lo k : Nat} {f : Nat → Value} {v : Value} (h : Laid A Ak lo k f) (hlo : lo ≤ k) (hk : k < Ak.slots.size) (hv : v = f k) : Laid A (Ak.setSlot k v) lo (k + 1) f := by
  refine ⟨h.1, h.2.1, by simpa [Cell.setSlot] using h.2.2.1, fun i => ?_⟩
  by_cases e : k = i
  · subst e; rw [Cell.slots_setSlot_self v hk, if_pos (by omega), hv]
  · rw [Cell.slots_setSlot_ne v e, h.2.2.2 i]
    by_cases q : lo ≤ i ∧ i < k
    · rw [if_pos q, if_pos (by omega)]
    · rw [if_neg q, if_neg (by omega)]
def U16 : String := "java/lang/StringUTF16"
namespace Cmp5
def yN : MethodName := ⟨"java/lang/StringUTF16", "compress", "([CI[BII)I"⟩
abbrev yB : ByteArray := jdk_52_method_21_code
theorem d0 : decode yB 0 = .ok (.iconst 0, 1) := by decide +kernel
theorem d1 : decode yB 1 = .ok (.istore 5, 2) := by decide +kernel
theorem d3 : decode yB 3 = .ok (.iload 5, 2) := by decide +kernel
theorem d5 : decode yB 5 = .ok (.iload 4, 2) := by decide +kernel
theorem d7 : decode yB 7 = .ok (.if_icmp (.ge) 37, 3) := by decide +kernel
theorem d10 : decode yB 10 = .ok (.aload_n 0, 1) := by decide +kernel
theorem d11 : decode yB 11 = .ok (.iload_n 1, 1) := by decide +kernel
theorem d12 : decode yB 12 = .ok (.caload, 1) := by decide +kernel
theorem d13 : decode yB 13 = .ok (.istore 6, 2) := by decide +kernel
theorem d15 : decode yB 15 = .ok (.iload 6, 2) := by decide +kernel
theorem d17 : decode yB 17 = .ok (.sipush 255, 3) := by decide +kernel
theorem d20 : decode yB 20 = .ok (.if_icmp (.le) 6, 3) := by decide +kernel
theorem d26 : decode yB 26 = .ok (.aload_n 2, 1) := by decide +kernel
theorem d27 : decode yB 27 = .ok (.iload_n 3, 1) := by decide +kernel
theorem d28 : decode yB 28 = .ok (.iload 6, 2) := by decide +kernel
theorem d30 : decode yB 30 = .ok (.i2b, 1) := by decide +kernel
theorem d31 : decode yB 31 = .ok (.bastore, 1) := by decide +kernel
theorem d32 : decode yB 32 = .ok (.iinc 1 1, 3) := by decide +kernel
theorem d35 : decode yB 35 = .ok (.iinc 3 1, 3) := by decide +kernel
theorem d38 : decode yB 38 = .ok (.iinc 5 1, 3) := by decide +kernel
theorem d41 : decode yB 41 = .ok (.goto (-38), 3) := by decide +kernel
theorem d44 : decode yB 44 = .ok (.iload 4, 2) := by decide +kernel
theorem d46 : decode yB 46 = .ok (.ireturn, 1) := by decide +kernel
def site : List Cond := []
def tab : Cond := tabOf yN yB 7 (some .int) site
def P (b : Addr) (A : Cell) (d : Addr) (B : Cell) (o q len : Nat) (args : Array Value) (s : State) : Prop := args = #[.ref b, .int (Int32.ofNat o), .ref d, .int (Int32.ofNat q), .int (Int32.ofNat len)] ∧ Ch b A s ∧ Arr .byte d B s ∧ b ≠ d ∧ o + len ≤ A.slots.size ∧ q + len ≤ B.slots.size ∧ ∀ i, i < len → ¬ 255 < cv A (o + i)
def E (b : Addr) (A : Cell) (d : Addr) (B : Cell) (o q len : Nat) (r : Option Value) (s u : State) : Prop := r = some (.int (Int32.ofNat len)) ∧ ∃ B', Put d B' s u ∧ Laid B B' q (q + len) (fun j => Value.int (lo8 (cv A (o + (j - q)))))
/-- no char of the range above 255: len; the places written hold each char's low byte -/
theorem law (l : Launch) (b : Addr) (A : Cell) (d : Addr) (B : Cell) (o q len : Nat) : Law l yN 5 5 0 0 yB 7 (some .int) site (P b A d B o q len) (E b A d B o q len) (copyLocs d q len) 0 0 := by
  refine Law.of_walk (plainFor_of_name (by decide +kernel)) (by decide +kernel) (by decide +kernel) (by decide) (fun _ _ h => by rw [h.1]; rfl) (fun _ U U' hal hh h => ⟨h.1, h.2.1.mv hal hh, h.2.2.1.mv hal hh, h.2.2.2⟩) (fun r U U' V V' h1 hal h2 h => ⟨h.1, h.2.elim fun B' q => ⟨B', q.1.mv h1 h2, q.2⟩⟩) ?_
  intro p e s m args below meth c s₁ X0 hexec hbytes hml hret hlk hnm hown hh0 W hP
  obtain ⟨rfl, hA, hB, hne, l1, l2, hp⟩ := hP
  have c1 : Steps p.tables e below (s₁.setTop (entryFrame m #[.ref b, .int (Int32.ofNat o), .ref d, .int (Int32.ofNat q), .int (Int32.ofNat len)] 7)) (s₁.setTop (mkF m 0 #[.val (.ref b), .val (.int (Int32.ofNat o)), .val (.ref d), .val (.int (Int32.ofNat q)), .val (.int (Int32.ofNat len)), .unset, .unset] [])) := entry rfl
  have hA0 := hA.1.mv X0.warmed.alike hh0
  have hB0 := hB.mv X0.warmed.alike hh0
  have a31 := hA.1.2.2.2
  have c2 : Steps p.tables e below (s₁.setTop (entryFrame m #[.ref b, .int (Int32.ofNat o), .ref d, .int (Int32.ofNat q), .int (Int32.ofNat len)] 7)) (s₁.setTop (mkF m 3 #[.val (.ref b), .val (.int (Int32.ofNat o)), .val (.ref d), .val (.int (Int32.ofNat q)), .val (.int (Int32.ofNat len)), .val (.int 0), .unset] [])) := c1.trans (by
    refine iconstV X0.here hexec rfl 0 (hb hbytes d0) (by decide) ?_
    refine XS.istore X0.here hexec rfl (hb hbytes d1) rfl rfl ?_
    exact Steps.refl _)
  have loop : ∀ (r i : Nat), i + r = len → ∀ (z : Slot), (z = .unset ∨ ∃ w, z = .val w ∧ w.category = 1) → ∀ (Tl : State) (Bk : Cell), Stand p l e { frames := 0, locals := 0, cells := 0, slots := 0 } s m #[.ref b, .int (Int32.ofNat o), .ref d, .int (Int32.ofNat q), .int (Int32.ofNat len)] below meth c Tl ([] ++ copyLocs d q i) 0 0 → Put d Bk s₁ Tl → Laid B Bk q (q + i) (fun j => Value.int (lo8 (cv A (o + (j - q))))) →
      Steps p.tables e below (s₁.setTop (entryFrame m #[.ref b, .int (Int32.ofNat o), .ref d, .int (Int32.ofNat q), .int (Int32.ofNat len)] 7)) (Tl.setTop (mkF m 3 #[.val (.ref b), .val (.int (Int32.ofNat (o + i))), .val (.ref d), .val (.int (Int32.ofNat (q + i))), .val (.int (Int32.ofNat len)), .val (.int (Int32.ofNat i)), z] [])) → ∃ (T' : State) (B' : Cell) (z' : Slot), Stand p l e { frames := 0, locals := 0, cells := 0, slots := 0 } s m #[.ref b, .int (Int32.ofNat o), .ref d, .int (Int32.ofNat q), .int (Int32.ofNat len)] below meth c T' ([] ++ copyLocs d q len) 0 0 ∧ Put d B' s₁ T' ∧ Laid B B' q (q + len) (fun j => Value.int (lo8 (cv A (o + (j - q))))) ∧
      Steps p.tables e below (s₁.setTop (entryFrame m #[.ref b, .int (Int32.ofNat o), .ref d, .int (Int32.ofNat q), .int (Int32.ofNat len)] 7)) (T'.setTop (mkF m 3 #[.val (.ref b), .val (.int (Int32.ofNat (o + len))), .val (.ref d), .val (.int (Int32.ofNat (q + len))), .val (.int (Int32.ofNat len)), .val (.int (Int32.ofNat len)), z'] [])) := by
    intro r
    induction r with
    | zero =>
      intro i hi z hz Tl Bk Xl pl fl cl
      have hil : i = len := by omega
      rw [hil] at Xl fl cl
      exact ⟨Tl, Bk, z, Xl, pl, fl, cl⟩
    | succ r ih =>
      intro i hi z hz Tl Bk Xl pl fl cl
      have all := X0.warmed.alike.symm.trans Xl.warmed.alike
      have hAl := hA0.keep all (pl.other hne hA0.1)
      have hBk := hB0.like all pl.1 fl.1 fl.2.1 fl.2.2.1
      have hlt : q + i < Bk.slots.size := by rw [fl.2.2.1]; omega
      have c3 : Steps p.tables e below (s₁.setTop (entryFrame m #[.ref b, .int (Int32.ofNat o), .ref d, .int (Int32.ofNat q), .int (Int32.ofNat len)] 7)) (Tl.setTop (mkF m 12 #[.val (.ref b), .val (.int (Int32.ofNat (o + i))), .val (.ref d), .val (.int (Int32.ofNat (q + i))), .val (.int (Int32.ofNat len)), .val (.int (Int32.ofNat i)), z] [.int (Int32.ofNat (o + i)), .ref b])) := cl.trans (by
        refine XS.iload Xl.here hexec rfl (hb hbytes d3) rfl ?_
        refine XS.iload Xl.here hexec rfl (hb hbytes d5) rfl ?_
        refine XS.icmpNo Xl.here hexec rfl (hb hbytes d7) rfl (ii_ge_f (lt32 (by omega) (by omega))) ?_
        refine XS.aloadN Xl.here hexec rfl (hb hbytes d10) rfl rfl ?_
        refine XS.iloadN Xl.here hexec rfl (hb hbytes d11) rfl ?_
        exact Steps.refl _)
      have c4 : Steps p.tables e below (s₁.setTop (entryFrame m #[.ref b, .int (Int32.ofNat o), .ref d, .int (Int32.ofNat q), .int (Int32.ofNat len)] 7)) (Tl.setTop (mkF m 13 #[.val (.ref b), .val (.int (Int32.ofNat (o + i))), .val (.ref d), .val (.int (Int32.ofNat (q + i))), .val (.int (Int32.ofNat len)), .val (.int (Int32.ofNat i)), z] [.int (cv A (o + i))])) := c3.trans (by
        refine Xl.aget hexec hAl rfl (hA.get (i := o + i) (by omega)) rfl rfl (hb hbytes d12) ?_
        exact Steps.refl _)
      have c5 : Steps p.tables e below (s₁.setTop (entryFrame m #[.ref b, .int (Int32.ofNat o), .ref d, .int (Int32.ofNat q), .int (Int32.ofNat len)] 7)) (Tl.setTop (mkF m 15 #[.val (.ref b), .val (.int (Int32.ofNat (o + i))), .val (.ref d), .val (.int (Int32.ofNat (q + i))), .val (.int (Int32.ofNat len)), .val (.int (Int32.ofNat i)), .val (.int (cv A (o + i)))] [])) := c4.trans (by
        refine XS.istoreS Xl.here hexec rfl (hb hbytes d13) rfl rfl hz ?_
        exact Steps.refl _)
      have c6 : Steps p.tables e below (s₁.setTop (entryFrame m #[.ref b, .int (Int32.ofNat o), .ref d, .int (Int32.ofNat q), .int (Int32.ofNat len)] 7)) (Tl.setTop (mkF m 31 #[.val (.ref b), .val (.int (Int32.ofNat (o + i))), .val (.ref d), .val (.int (Int32.ofNat (q + i))), .val (.int (Int32.ofNat len)), .val (.int (Int32.ofNat i)), .val (.int (cv A (o + i)))] [.int (lo8 (cv A (o + i))), .int (Int32.ofNat (q + i)), .ref d])) := c5.trans (by
        refine XS.iload Xl.here hexec rfl (hb hbytes d15) rfl ?_
        refine sipushV Xl.here hexec rfl 255 (hb hbytes d17) (by decide) ?_
        refine XS.icmpYes Xl.here hexec rfl (pc0 := 20) rfl (hb hbytes d20) rfl (ii_le_t (hp i (by omega))) (by decide) rfl ?_
        refine XS.aloadN Xl.here hexec rfl (hb hbytes d26) rfl rfl ?_
        refine XS.iloadN Xl.here hexec rfl (hb hbytes d27) rfl ?_
        refine XS.iload Xl.here hexec rfl (hb hbytes d28) rfl ?_
        refine i2b Xl.here hexec rfl (hb hbytes d30) rfl ?_
        exact Steps.refl _)
      obtain ⟨T7, X7, p7, st7⟩ := Xl.aput hexec hBk rfl hlt rfl (fits_lo8 (cv A (o + i))) (g := (mkF m 31 #[.val (.ref b), .val (.int (Int32.ofNat (o + i))), .val (.ref d), .val (.int (Int32.ofNat (q + i))), .val (.int (Int32.ofNat len)), .val (.int (Int32.ofNat i)), .val (.int (cv A (o + i)))] [.int (lo8 (cv A (o + i))), .int (Int32.ofNat (q + i)), .ref d])) rfl (rest := []) rfl (hb hbytes d31)
      have c8 : Steps p.tables e below (s₁.setTop (entryFrame m #[.ref b, .int (Int32.ofNat o), .ref d, .int (Int32.ofNat q), .int (Int32.ofNat len)] 7)) (T7.setTop (mkF m 32 #[.val (.ref b), .val (.int (Int32.ofNat (o + i))), .val (.ref d), .val (.int (Int32.ofNat (q + i))), .val (.int (Int32.ofNat len)), .val (.int (Int32.ofNat i)), .val (.int (cv A (o + i)))] [])) := c6.trans (st7 _ (Steps.refl _))
      have c9 : Steps p.tables e below (s₁.setTop (entryFrame m #[.ref b, .int (Int32.ofNat o), .ref d, .int (Int32.ofNat q), .int (Int32.ofNat len)] 7)) (T7.setTop (mkF m 3 #[.val (.ref b), .val (.int (Int32.ofNat (o + i) + 1)), .val (.ref d), .val (.int (Int32.ofNat (q + i) + 1)), .val (.int (Int32.ofNat len)), .val (.int (Int32.ofNat i + 1)), .val (.int (cv A (o + i)))] [])) := c8.trans (by
        refine iincV X7.here hexec rfl 1 (hb hbytes d32) (by decide) rfl rfl ?_
        refine iincV X7.here hexec rfl 1 (hb hbytes d35) (by decide) rfl rfl ?_
        refine iincV X7.here hexec rfl 1 (hb hbytes d38) (by decide) rfl rfl ?_
        refine XS.goto X7.here hexec rfl (pc0 := 41) rfl (hb hbytes d41) (by decide) rfl ?_
        exact Steps.refl _)
      have c10 : Steps p.tables e below (s₁.setTop (entryFrame m #[.ref b, .int (Int32.ofNat o), .ref d, .int (Int32.ofNat q), .int (Int32.ofNat len)] 7)) (T7.setTop (mkF m 3 #[.val (.ref b), .val (.int (Int32.ofNat (o + (i + 1)))), .val (.ref d), .val (.int (Int32.ofNat (q + (i + 1)))), .val (.int (Int32.ofNat len)), .val (.int (Int32.ofNat (i + 1))), .val (.int (cv A (o + i)))] [])) := by
        have := c9
        rw [succ32, succ32, succ32] at this
        exact this
      exact ih (i + 1) (by omega) _ (Or.inr ⟨_, rfl, rfl⟩) T7 _ (by rw [copyLocs_step, ← List.append_assoc]; exact X7) (pl.trans p7) (fl.step (by omega) hlt (by simp)) c10
  obtain ⟨T9, B9, z9, X9, p9, f9, g9⟩ := loop len 0 (by omega) .unset (Or.inl rfl) s₁ B (by simpa [copyLocs] using X0) ⟨hB0.1, fun _ _ => rfl, rfl⟩ (Laid.zero _ _ _) c2
  have c11 : Steps p.tables e below (s₁.setTop (entryFrame m #[.ref b, .int (Int32.ofNat o), .ref d, .int (Int32.ofNat q), .int (Int32.ofNat len)] 7)) (T9.setTop (mkF m 46 #[.val (.ref b), .val (.int (Int32.ofNat (o + len))), .val (.ref d), .val (.int (Int32.ofNat (q + len))), .val (.int (Int32.ofNat len)), .val (.int (Int32.ofNat len)), z9] [.int (Int32.ofNat len)])) := g9.trans (by
    refine XS.iload X9.here hexec rfl (hb hbytes d3) rfl ?_
    refine XS.iload X9.here hexec rfl (hb hbytes d5) rfl ?_
    refine XS.icmpYes X9.here hexec rfl (pc0 := 7) rfl (hb hbytes d7) rfl (ii_ge_t (nlt32 (by omega) (Nat.le_refl _))) (by decide) rfl ?_
    refine XS.iload X9.here hexec rfl (hb hbytes d44) rfl ?_
    exact Steps.refl _)
  exact ⟨T9, some (.int (Int32.ofNat len)), _, _, _, X9, by simp, rfl, rfl, (fun h => by cases h), ⟨rfl, B9, p9.from hh0, f9⟩, fun fs hl => c11.trans (X9.ireturnOut hexec hret rfl (Or.inl rfl) (hb hbytes d46) hl)⟩
end Cmp5
namespace Cmp3
def yN : MethodName := ⟨"java/lang/StringUTF16", "compress", "([CII)[B"⟩
abbrev yB : ByteArray := jdk_52_method_16_code
theorem d0 : decode yB 0 = .ok (.iload_n 2, 1) := by decide +kernel
theorem d1 : decode yB 1 = .ok (.newarray .byte, 2) := by decide +kernel
theorem d3 : decode yB 3 = .ok (.astore_n 3, 1) := by decide +kernel
theorem d4 : decode yB 4 = .ok (.aload_n 0, 1) := by decide +kernel
theorem d5 : decode yB 5 = .ok (.iload_n 1, 1) := by decide +kernel
theorem d6 : decode yB 6 = .ok (.aload_n 3, 1) := by decide +kernel
theorem d7 : decode yB 7 = .ok (.iconst 0, 1) := by decide +kernel
theorem d8 : decode yB 8 = .ok (.iload_n 2, 1) := by decide +kernel
theorem d9 : decode yB 9 = .ok (.invokestatic 115, 3) := by decide +kernel
theorem d12 : decode yB 12 = .ok (.istore 4, 2) := by decide +kernel
theorem d14 : decode yB 14 = .ok (.iload 4, 2) := by decide +kernel
theorem d16 : decode yB 16 = .ok (.iload_n 2, 1) := by decide +kernel
theorem d17 : decode yB 17 = .ok (.if_icmp (.eq) 40, 3) := by decide +kernel
theorem d57 : decode yB 57 = .ok (.aload_n 3, 1) := by decide +kernel
theorem d58 : decode yB 58 = .ok (.areturn, 1) := by decide +kernel
def site : List Cond := [.arrayClass .byte, Cmp5.tab] ++ staticW U16 115 Cmp5.yN
def tab : Cond := tabOf yN yB 6 (some (.array .byte)) site
def P (b : Addr) (A : Cell) (o len : Nat) (args : Array Value) (s : State) : Prop := args = #[.ref b, .int (Int32.ofNat o), .int (Int32.ofNat len)] ∧ Ch b A s ∧ o + len ≤ A.slots.size ∧ len ≤ 536870912 ∧ ∀ i, i < len → ¬ 255 < cv A (o + i)
def E (b : Addr) (A : Cell) (o len : Nat) (r : Option Value) (s u : State) : Prop := NewArr .byte "[B" len (fun j => .int (lo8 (cv A (o + j)))) r s u ∧ u.heap.size = s.heap.size + 1
/-- no char of the range above 255: a new byte[] of their low bytes -/
theorem law (l : Launch) (b : Addr) (A : Cell) (o len : Nat) : Law l yN 3 3 1 18 yB 6 (some (.array .byte)) site (P b A o len) (E b A o len) [] 1 len := by
  refine Law.of_walk (plainFor_of_name (by decide +kernel)) (by decide +kernel) (by decide +kernel) (by decide) (fun _ _ h => by rw [h.1]; rfl) (fun _ U U' hal hh h => ⟨h.1, h.2.1.mv hal hh, h.2.2⟩) (fun r U U' V V' h1 hal h2 h => ⟨NewArr.mv r U U' V V' h1 hal h2 h.1, by rw [h1, h2]; exact h.2⟩) ?_
  intro p e s m args below meth c s₁ X0 hexec hbytes hml hret hlk hnm hown hh0 W hP
  obtain ⟨rfl, hA, l1, l2, hp⟩ := hP
  have a31 := hA.1.2.2.2
  have c1 : Steps p.tables e below (s₁.setTop (entryFrame m #[.ref b, .int (Int32.ofNat o), .int (Int32.ofNat len)] 6)) (s₁.setTop (mkF m 0 #[.val (.ref b), .val (.int (Int32.ofNat o)), .val (.int (Int32.ofNat len)), .unset, .unset, .unset] [])) := entry rfl
  have c2 : Steps p.tables e below (s₁.setTop (entryFrame m #[.ref b, .int (Int32.ofNat o), .int (Int32.ofNat len)] 6)) (s₁.setTop (mkF m 1 #[.val (.ref b), .val (.int (Int32.ofNat o)), .val (.int (Int32.ofNat len)), .unset, .unset, .unset] [.int (Int32.ofNat len)])) := c1.trans (by
    refine XS.iloadN X0.here hexec rfl (hb hbytes d0) rfl ?_
    exact Steps.refl _)
  obtain ⟨T3, B3, X3, ba3, bs3, bv3, bh3, bf3, st3⟩ := X0.anew hexec (atype := .byte) (wk W (.arrayClass .byte)) rfl (by show len * 1 ≤ _; omega) (by omega) (g := (mkF m 1 #[.val (.ref b), .val (.int (Int32.ofNat o)), .val (.int (Int32.ofNat len)), .unset, .unset, .unset] [.int (Int32.ofNat len)])) rfl (hb hbytes d1) (rest := []) rfl (Nat.le_refl _) (by show 0 + len ≤ len; omega)
  rw [hh0] at ba3 st3
  have kp3 : XT.Kept s T3 := (XT.Kept.of_eq hh0).push bh3
  have hA3 := hA.keep X3.warmed.alike (kp3 _ _ hA.1.1)
  have hne : b ≠ s.heap.size := hA.1.ne
  have c4 : Steps p.tables e below (s₁.setTop (entryFrame m #[.ref b, .int (Int32.ofNat o), .int (Int32.ofNat len)] 6)) (T3.setTop (mkF m 3 #[.val (.ref b), .val (.int (Int32.ofNat o)), .val (.int (Int32.ofNat len)), .unset, .unset, .unset] [.ref s.heap.size])) := c2.trans (st3 _ (Steps.refl _))
  have c5 : Steps p.tables e below (s₁.setTop (entryFrame m #[.ref b, .int (Int32.ofNat o), .int (Int32.ofNat len)] 6)) (T3.setTop (mkF m 9 #[.val (.ref b), .val (.int (Int32.ofNat o)), .val (.int (Int32.ofNat len)), .val (.ref s.heap.size), .unset, .unset] [.int (Int32.ofNat len), .int 0, .ref s.heap.size, .int (Int32.ofNat o), .ref b])) := c4.trans (by
    refine XS.astoreN X3.here hexec rfl (hb hbytes d3) rfl rfl rfl ?_
    refine XS.aloadN X3.here hexec rfl (hb hbytes d4) rfl rfl ?_
    refine XS.iloadN X3.here hexec rfl (hb hbytes d5) rfl ?_
    refine XS.aloadN X3.here hexec rfl (hb hbytes d6) rfl rfl ?_
    refine iconstV X3.here hexec rfl 0 (hb hbytes d7) (by decide) ?_
    refine XS.iloadN X3.here hexec rfl (hb hbytes d8) rfl ?_
    exact Steps.refl _)
  obtain ⟨v6, T6, X6, E6, g6⟩ := X3.callS hexec (Cmp5.law l b A s.heap.size B3 o 0 len) hown (wks W (staticW U16 115 Cmp5.yN)) (wk W Cmp5.tab) (W := 0) (Nat.le_of_ble_eq_true rfl) (Nat.le_of_ble_eq_true rfl) (Nat.le_refl _) (by show 0 + len + 0 ≤ len; omega) (g := (mkF m 9 #[.val (.ref b), .val (.int (Int32.ofNat o)), .val (.int (Int32.ofNat len)), .val (.ref s.heap.size), .unset, .unset] [.int (Int32.ofNat len), .int (Int32.ofNat 0), .ref s.heap.size, .int (Int32.ofNat o), .ref b])) rfl (by rw [hml]; rfl) c5 (argsL := [.ref b, .int (Int32.ofNat o), .ref s.heap.size, .int (Int32.ofNat 0), .int (Int32.ofNat len)]) (rest := []) rfl rfl (by show 2 * 0 + 0 ≤ _; decide) (hb hbytes d9) (⟨rfl, hA3, ba3, hne, l1, by rw [bs3]; simp, hp⟩)
  obtain ⟨rfl, B6, p6, f6⟩ := E6
  have c7 : Steps p.tables e below (s₁.setTop (entryFrame m #[.ref b, .int (Int32.ofNat o), .int (Int32.ofNat len)] 6)) (T6.setTop (mkF m 12 #[.val (.ref b), .val (.int (Int32.ofNat o)), .val (.int (Int32.ofNat len)), .val (.ref s.heap.size), .unset, .unset] [.int (Int32.ofNat len)])) := g6
  have c8 : Steps p.tables e below (s₁.setTop (entryFrame m #[.ref b, .int (Int32.ofNat o), .int (Int32.ofNat len)] 6)) (T6.setTop (mkF m 58 #[.val (.ref b), .val (.int (Int32.ofNat o)), .val (.int (Int32.ofNat len)), .val (.ref s.heap.size), .val (.int (Int32.ofNat len)), .unset] [.ref s.heap.size])) := c7.trans (by
    refine XS.istore X6.here hexec rfl (hb hbytes d12) rfl rfl ?_
    refine XS.iload X6.here hexec rfl (hb hbytes d14) rfl ?_
    refine XS.iloadN X6.here hexec rfl (hb hbytes d16) rfl ?_
    refine XS.icmpYes X6.here hexec rfl (pc0 := 17) rfl (hb hbytes d17) rfl (ii_eq_t rfl) (by decide) rfl ?_
    refine XS.aloadN X6.here hexec rfl (hb hbytes d57) rfl rfl ?_
    exact Steps.refl _)
  have X8 := X6.wide (L' := []) (cells' := 1) (slots' := len) (fun x hx hlt => by
    simp only [List.nil_append, copyLocs, List.mem_map, List.mem_range] at hx
    obtain ⟨i, -, rfl⟩ := hx
    exact absurd hlt (Nat.lt_irrefl _)) (Nat.le_refl _) (by omega)
  exact ⟨T6, some (.ref s.heap.size), _, _, _, X8, rfl, rfl, rfl, (fun h => by cases h), ⟨⟨rfl, B6, ba3.like (X3.warmed.alike.symm.trans X6.warmed.alike) p6.1 f6.1 f6.2.1 f6.2.2.1, f6.2.1.trans bv3, by rw [X6.warmed.alike.findClass, f6.1]; exact bf3, by rw [f6.2.2.1, bs3]; simp, fun j hj => by rw [f6.2.2.2 j, if_pos (by omega)]; rfl, kp3.put p6 (Nat.le_refl _)⟩, by rw [p6.2.2, bh3, hh0]; simp⟩, fun fs hl => c8.trans (X8.areturnOut hexec rfl hret rfl (hb hbytes d58) hl)⟩
end Cmp3
namespace CodL
def yN : MethodName := ⟨"java/lang/StringUTF16", "coderFromArrayLen", "([BI)B"⟩
abbrev yB : ByteArray := jdk_52_method_15_code
theorem d0 : decode yB 0 = .ok (.iload_n 1, 1) := by decide +kernel
theorem d1 : decode yB 1 = .ok (.aload_n 0, 1) := by decide +kernel
theorem d2 : decode yB 2 = .ok (.arraylength, 1) := by decide +kernel
theorem d3 : decode yB 3 = .ok (.isub, 1) := by decide +kernel
theorem d4 : decode yB 4 = .ok (.bipush 31, 2) := by decide +kernel
theorem d6 : decode yB 6 = .ok (.iushr, 1) := by decide +kernel
theorem d7 : decode yB 7 = .ok (.i2b, 1) := by decide +kernel
theorem d8 : decode yB 8 = .ok (.ireturn, 1) := by decide +kernel
def site : List Cond := []
def tab : Cond := tabOf yN yB 2 (some .byte) site
def P (d : Addr) (B : Cell) (args : Array Value) (s : State) : Prop := args = #[.ref d, .int (Int32.ofNat B.slots.size)] ∧ Arr .byte d B s
def E (r : Option Value) (s u : State) : Prop := XT.PureE (some (.int 0)) r s u
/-- an array as long as the number of chars: LATIN1 -/
theorem law (l : Launch) (d : Addr) (B : Cell) : Law l yN 2 2 0 0 yB 2 (some .byte) site (P d B) E [] 0 0 := by
  refine Law.of_walk (plainFor_of_name (by decide +kernel)) (by decide +kernel) (by decide +kernel) (by decide) (fun _ _ h => by rw [h.1]; rfl) (fun _ U U' hal hh h => ⟨h.1, h.2.mv hal hh⟩) (fun r U U' V V' h1 hal h2 h => XT.PureE.mv r U U' V V' h1 hal h2 h) ?_
  intro p e s m args below meth c s₁ X0 hexec hbytes hml hret hlk hnm hown hh0 W hP
  obtain ⟨rfl, hB⟩ := hP
  have hB0 := hB.mv X0.warmed.alike hh0
  have c1 : Steps p.tables e below (s₁.setTop (entryFrame m #[.ref d, .int (Int32.ofNat B.slots.size)] 2)) (s₁.setTop (mkF m 0 #[.val (.ref d), .val (.int (Int32.ofNat B.slots.size))] [])) := entry rfl
  have c2 : Steps p.tables e below (s₁.setTop (entryFrame m #[.ref d, .int (Int32.ofNat B.slots.size)] 2)) (s₁.setTop (mkF m 2 #[.val (.ref d), .val (.int (Int32.ofNat B.slots.size))] [.ref d, .int (Int32.ofNat B.slots.size)])) := c1.trans (by
    refine XS.iloadN X0.here hexec rfl (hb hbytes d0) rfl ?_
    refine XS.aloadN X0.here hexec rfl (hb hbytes d1) rfl rfl ?_
    exact Steps.refl _)
  have c3 : Steps p.tables e below (s₁.setTop (entryFrame m #[.ref d, .int (Int32.ofNat B.slots.size)] 2)) (s₁.setTop (mkF m 8 #[.val (.ref d), .val (.int (Int32.ofNat B.slots.size))] [.int (lo8 (ushr (Int32.ofNat B.slots.size - Int32.ofNat B.slots.size) 31))])) := c2.trans (by
    refine X0.alen hexec hB0 rfl rfl (hb hbytes d2) ?_
    refine XS.isub X0.here hexec rfl (hb hbytes d3) rfl ?_
    refine bipushV X0.here hexec rfl 31 (hb hbytes d4) (by decide) ?_
    refine iushr X0.here hexec rfl (hb hbytes d6) rfl ?_
    refine i2b X0.here hexec rfl (hb hbytes d7) rfl ?_
    exact Steps.refl _)
  have e0 : lo8 (ushr (Int32.ofNat B.slots.size - Int32.ofNat B.slots.size) 31) = 0 := by rw [Int32.sub_self]; decide
  rw [e0] at c3
  exact ⟨s₁, some (.int 0), _, _, _, X0, rfl, rfl, rfl, (fun h => by cases h), ⟨rfl, hh0⟩, fun fs hl => c3.trans (X0.ireturnOut hexec hret rfl (Or.inr (Or.inr (Or.inl rfl))) (hb hbytes d8) hl)⟩
end CodL
/-- the String at a is Latin-1 over a new byte[] (the heap's one new cell): the low bytes of the len chars of A from o on; every cell but a is kept -/
def Got (a : Addr) (D : Cell) (fV fC : Field) (A : Cell) (o len : Nat) (r : Option Value) (s u : State) : Prop := r = none ∧ ∃ D' V : Cell, Blank "java/lang/String" a D' u ∧ Same D D' [fV.slot, fC.slot] ∧ D'.slots[fV.slot]? = some (.ref s.heap.size) ∧ D'.slots[fC.slot]? = some (.int 0) ∧ Arr .byte s.heap.size V u ∧ V.vm = .none ∧ u.vm.findClass "[B" = some V.cls ∧ V.slots.size = len ∧ (∀ j, j < len → V.slots[j]? = some (.int (lo8 (cv A (o + j))))) ∧ (∀ (y : Addr) (c : Cell), y ≠ a → s.heap[y]? = some c → u.heap[y]? = some c) ∧ u.heap.size = s.heap.size + 1
theorem Got.mv {a : Addr} {D A : Cell} {fV fC : Field} {o len : Nat} : ∀ r (U U' V V' : State), U'.heap = U.heap → V.vm.Alike V'.vm → V'.heap = V.heap → Got a D fV fC A o len r U V → Got a D fV fC A o len r U' V' :=
  fun r U U' V V' h1 hal h2 ⟨e0, D', X, a1, a2, a3, a4, a5, a6, a7, a8, a9, a10, a11⟩ => ⟨e0, D', X, a1.mv hal h2, a2, by rw [h1]; exact a3, a4, by rw [h1]; exact a5.mv hal h2, a6, by rw [hal.findClass]; exact a7, a8, a9, by rw [h1, h2]; exact a10, by rw [h1, h2]; exact a11⟩
namespace New4
def yN : MethodName := ⟨"java/lang/String", "<init>", "([CIILjava/lang/Void;)V"⟩
abbrev yB : ByteArray := jdk_42_method_149_code
theorem d0 : decode yB 0 = .ok (.aload_n 0, 1) := by decide +kernel
theorem d1 : decode yB 1 = .ok (.invokespecial 1, 3) := by decide +kernel
theorem d4 : decode yB 4 = .ok (.iload_n 3, 1) := by decide +kernel
theorem d5 : decode yB 5 = .ok (.ifCond (.ne) 22, 3) := by decide +kernel
theorem d27 : decode yB 27 = .ok (.getstatic 38, 3) := by decide +kernel
theorem d30 : decode yB 30 = .ok (.ifCond (.eq) 28, 3) := by decide +kernel
theorem d33 : decode yB 33 = .ok (.aload_n 1, 1) := by decide +kernel
theorem d34 : decode yB 34 = .ok (.iload_n 2, 1) := by decide +kernel
theorem d35 : decode yB 35 = .ok (.iload_n 3, 1) := by decide +kernel
theorem d36 : decode yB 36 = .ok (.invokestatic 177, 3) := by decide +kernel
theorem d39 : decode yB 39 = .ok (.astore 5, 2) := by decide +kernel
theorem d41 : decode yB 41 = .ok (.aload_n 0, 1) := by decide +kernel
theorem d42 : decode yB 42 = .ok (.aload 5, 2) := by decide +kernel
theorem d44 : decode yB 44 = .ok (.iload_n 3, 1) := by decide +kernel
theorem d45 : decode yB 45 = .ok (.invokestatic 47, 3) := by decide +kernel
theorem d48 : decode yB 48 = .ok (.putfield 15, 3) := by decide +kernel
theorem d51 : decode yB 51 = .ok (.aload_n 0, 1) := by decide +kernel
theorem d52 : decode yB 52 = .ok (.aload 5, 2) := by decide +kernel
theorem d54 : decode yB 54 = .ok (.putfield 9, 3) := by decide +kernel
theorem d57 : decode yB 57 = .ok (.return_, 1) := by decide +kernel
def site : List Cond := [.fieldLink "java/lang/String" 38 "java/lang/String" "COMPACT_STRINGS" "Z", Cmp3.tab, CodL.tab, .laysFinal "java/lang/String" "java/lang/String" "value" "[B", .fieldLink "java/lang/String" 9 "java/lang/String" "value" "[B", .laysFinal "java/lang/String" "java/lang/String" "coder" "B", .fieldLink "java/lang/String" 15 "java/lang/String" "coder" "B"] ++ objW "java/lang/String" 1 ++ staticW "java/lang/String" 177 Cmp3.yN ++ staticW "java/lang/String" 47 CodL.yN
def tab : Cond := tabOf yN yB 6 none site
def P (a : Addr) (D : Cell) (fV fC : Field) (b : Addr) (A : Cell) (z : Int32) (o len : Nat) (args : Array Value) (s : State) : Prop := args = #[.ref a, .ref b, .int (Int32.ofNat o), .int (Int32.ofNat len), .null] ∧ Blank "java/lang/String" a D s ∧ Found "java/lang/String" "value" "[B" fV s ∧ Found "java/lang/String" "coder" "B" fC s ∧ Ch b A s ∧ StaticIs s "java/lang/String" "COMPACT_STRINGS" "Z" (.int z) ∧ ¬ z = 0 ∧ 0 < len ∧ o + len ≤ A.slots.size ∧ len ≤ 536870912 ∧ ∀ i, i < len → ¬ 255 < cv A (o + i)
def E (a : Addr) (D : Cell) (fV fC : Field) (A : Cell) (o len : Nat) (r : Option Value) (s u : State) : Prop := Got a D fV fC A o len r s u
/-- len > 0, no char of the range above 255: a Latin-1 String of their low bytes -/
theorem law (l : Launch) (a : Addr) (D : Cell) (fV fC : Field) (b : Addr) (A : Cell) (z : Int32) (o len : Nat) : Law l yN 5 4 2 35 yB 6 none site (P a D fV fC b A z o len) (E a D fV fC A o len) [⟨a, fC.slot⟩, ⟨a, fV.slot⟩] 1 len := by
  refine Law.of_walk (plainFor_of_name (by decide +kernel)) (by decide +kernel) (by decide +kernel) (by decide) (fun _ _ h => by rw [h.1]; rfl) (fun _ U U' hal hh h => ⟨h.1, h.2.1.mv hal hh, h.2.2.1.al hal, h.2.2.2.1.al hal, h.2.2.2.2.1.mv hal hh, h.2.2.2.2.2.1.there hal hh, h.2.2.2.2.2.2⟩) (fun r U U' V V' h1 hal h2 h => Got.mv r U U' V V' h1 hal h2 h) ?_
  intro p e s m args below meth c s₁ X0 hexec hbytes hml hret hlk hnm hown hh0 W hP
  obtain ⟨rfl, hB, f1, f2, hA, s1, hz, l0, l1, l2, hp⟩ := hP
  have a31 := hA.1.2.2.2
  have c1 : Steps p.tables e below (s₁.setTop (entryFrame m #[.ref a, .ref b, .int (Int32.ofNat o), .int (Int32.ofNat len), .null] 6)) (s₁.setTop (mkF m 0 #[.val (.ref a), .val (.ref b), .val (.int (Int32.ofNat o)), .val (.int (Int32.ofNat len)), .val .null, .unset] [])) := entry rfl
  have c2 : Steps p.tables e below (s₁.setTop (entryFrame m #[.ref a, .ref b, .int (Int32.ofNat o), .int (Int32.ofNat len), .null] 6)) (s₁.setTop (mkF m 1 #[.val (.ref a), .val (.ref b), .val (.int (Int32.ofNat o)), .val (.int (Int32.ofNat len)), .val .null, .unset] [.ref a])) := c1.trans (by
    refine XS.aloadN X0.here hexec rfl (hb hbytes d0) rfl rfl ?_
    exact Steps.refl _)
  obtain ⟨T3, X3, q3, st3⟩ := X0.oinit hexec hown (wks W (objW "java/lang/String" 1)) (g := (mkF m 1 #[.val (.ref a), .val (.ref b), .val (.int (Int32.ofNat o)), .val (.int (Int32.ofNat len)), .val .null, .unset] [.ref a])) rfl (by rw [hml]; rfl) (rest := []) rfl (hb hbytes d1) (W := 0) (by show 2 * 0 + 0 ≤ _; decide) (Nat.le_of_ble_eq_true rfl) (Nat.le_of_ble_eq_true rfl)
  have hh3 := q3.trans hh0
  have c4 : Steps p.tables e below (s₁.setTop (entryFrame m #[.ref a, .ref b, .int (Int32.ofNat o), .int (Int32.ofNat len), .null] 6)) (T3.setTop (mkF m 27 #[.val (.ref a), .val (.ref b), .val (.int (Int32.ofNat o)), .val (.int (Int32.ofNat len)), .val .null, .unset] [])) := (c2.trans (st3 _ (Steps.refl _))).trans (by
    refine XS.iloadN X3.here hexec rfl (hb hbytes d4) rfl ?_
    refine XS.ifYes X3.here hexec rfl (pc0 := 5) rfl (hb hbytes d5) rfl (i0_ne_t (nz32 (by omega) l0)) (by decide) rfl ?_
    exact Steps.refl _)
  obtain ⟨T5, X5, q5, st5⟩ := X3.sget hexec hown (wk W (.fieldLink "java/lang/String" 38 "java/lang/String" "COMPACT_STRINGS" "Z")) s1 (fun _ _ h => by rw [hh3]; exact h) (g := (mkF m 27 #[.val (.ref a), .val (.ref b), .val (.int (Int32.ofNat o)), .val (.int (Int32.ofNat len)), .val .null, .unset] [])) rfl (hb hbytes d27)
  have hh5 := q5.trans hh3
  have c6 : Steps p.tables e below (s₁.setTop (entryFrame m #[.ref a, .ref b, .int (Int32.ofNat o), .int (Int32.ofNat len), .null] 6)) (T5.setTop (mkF m 30 #[.val (.ref a), .val (.ref b), .val (.int (Int32.ofNat o)), .val (.int (Int32.ofNat len)), .val .null, .unset] [.int z])) := c4.trans (st5 _ (Steps.refl _))
  have c7 : Steps p.tables e below (s₁.setTop (entryFrame m #[.ref a, .ref b, .int (Int32.ofNat o), .int (Int32.ofNat len), .null] 6)) (T5.setTop (mkF m 36 #[.val (.ref a), .val (.ref b), .val (.int (Int32.ofNat o)), .val (.int (Int32.ofNat len)), .val .null, .unset] [.int (Int32.ofNat len), .int (Int32.ofNat o), .ref b])) := c6.trans (by
    refine XS.ifNo X5.here hexec rfl (hb hbytes d30) rfl (i0_eq_f hz) ?_
    refine XS.aloadN X5.here hexec rfl (hb hbytes d33) rfl rfl ?_
    refine XS.iloadN X5.here hexec rfl (hb hbytes d34) rfl ?_
    refine XS.iloadN X5.here hexec rfl (hb hbytes d35) rfl ?_
    exact Steps.refl _)
  obtain ⟨v8, T8, X8, E8, g8⟩ := X5.callS hexec (Cmp3.law l b A o len) hown (wks W (staticW "java/lang/String" 177 Cmp3.yN)) (wk W Cmp3.tab) (W := 0) (Nat.le_of_ble_eq_true rfl) (Nat.le_of_ble_eq_true rfl) (Nat.le_refl _) (by show 0 + len ≤ len; omega) (g := (mkF m 36 #[.val (.ref a), .val (.ref b), .val (.int (Int32.ofNat o)), .val (.int (Int32.ofNat len)), .val .null, .unset] [.int (Int32.ofNat len), .int (Int32.ofNat o), .ref b])) rfl (by rw [hml]; rfl) c7 (argsL := [.ref b, .int (Int32.ofNat o), .int (Int32.ofNat len)]) (rest := []) rfl rfl (by show 2 * 0 + 0 ≤ _; decide) (hb hbytes d36) (⟨rfl, hA.mv X5.warmed.alike hh5, l1, l2, hp⟩)
  obtain ⟨e8, z8⟩ := E8
  obtain ⟨rfl, N, n1, n2, n3, n4, n5, n6⟩ := NewArr.mv _ T5 s _ _ hh5.symm (Vm.Alike.refl _) rfl e8
  rw [hh5] at z8
  have hB1 := hB.keep X8.warmed.alike (n6 _ _ hB.1)
  have hne : s.heap.size ≠ a := (Nat.ne_of_lt (Array.getElem?_eq_some_iff.mp hB.1).1).symm
  have c9 : Steps p.tables e below (s₁.setTop (entryFrame m #[.ref a, .ref b, .int (Int32.ofNat o), .int (Int32.ofNat len), .null] 6)) (T8.setTop (mkF m 39 #[.val (.ref a), .val (.ref b), .val (.int (Int32.ofNat o)), .val (.int (Int32.ofNat len)), .val .null, .unset] [.ref s.heap.size])) := g8
  have c10 : Steps p.tables e below (s₁.setTop (entryFrame m #[.ref a, .ref b, .int (Int32.ofNat o), .int (Int32.ofNat len), .null] 6)) (T8.setTop (mkF m 45 #[.val (.ref a), .val (.ref b), .val (.int (Int32.ofNat o)), .val (.int (Int32.ofNat len)), .val .null, .val (.ref s.heap.size)] [.int (Int32.ofNat N.slots.size), .ref s.heap.size, .ref a])) := by
    have hc : Steps p.tables e below (s₁.setTop (entryFrame m #[.ref a, .ref b, .int (Int32.ofNat o), .int (Int32.ofNat len), .null] 6)) (T8.setTop (mkF m 45 #[.val (.ref a), .val (.ref b), .val (.int (Int32.ofNat o)), .val (.int (Int32.ofNat len)), .val .null, .val (.ref s.heap.size)] [.int (Int32.ofNat len), .ref s.heap.size, .ref a])) := c9.trans (by
      refine XS.astore X8.here hexec rfl (hb hbytes d39) rfl rfl rfl ?_
      refine XS.aloadN X8.here hexec rfl (hb hbytes d41) rfl rfl ?_
      refine XS.aload X8.here hexec rfl (hb hbytes d42) rfl rfl ?_
      refine XS.iloadN X8.here hexec rfl (hb hbytes d44) rfl ?_
      exact Steps.refl _)
    rw [n4]; exact hc
  obtain ⟨v11, T11, X11, E11, g11⟩ := X8.callS hexec (CodL.law l s.heap.size N) hown (wks W (staticW "java/lang/String" 47 CodL.yN)) (wk W CodL.tab) (W := 1) (Nat.le_of_ble_eq_true rfl) (Nat.le_of_ble_eq_true rfl) (Nat.le_refl _) (by show 0 + len + 0 ≤ len; omega) (g := (mkF m 45 #[.val (.ref a), .val (.ref b), .val (.int (Int32.ofNat o)), .val (.int (Int32.ofNat len)), .val .null, .val (.ref s.heap.size)] [.int (Int32.ofNat N.slots.size), .ref s.heap.size, .ref a])) rfl (by rw [hml]; rfl) c10 (argsL := [.ref s.heap.size, .int (Int32.ofNat N.slots.size)]) (rest := [.ref a]) rfl rfl (by show 2 * 0 + (1 + 0) ≤ _; decide) (hb hbytes d45) (⟨rfl, n1⟩)
  obtain ⟨rfl, q11⟩ := E11
  have hB11 := hB1.mv (X8.warmed.alike.symm.trans X11.warmed.alike) q11
  have c12 : Steps p.tables e below (s₁.setTop (entryFrame m #[.ref a, .ref b, .int (Int32.ofNat o), .int (Int32.ofNat len), .null] 6)) (T11.setTop (mkF m 48 #[.val (.ref a), .val (.ref b), .val (.int (Int32.ofNat o)), .val (.int (Int32.ofNat len)), .val .null, .val (.ref s.heap.size)] [.int 0, .ref a])) := g11
  obtain ⟨T13, X13, p13, bl13, sl13, st13⟩ := X11.finit hexec hown (wk W (.fieldLink "java/lang/String" 15 "java/lang/String" "coder" "B")) (Or.inr ⟨_, (wk W (.laysFinal "java/lang/String" "java/lang/String" "coder" "B"))⟩) (Or.inl ⟨rfl, hnm⟩) f2 (Or.inl rfl) hB11 (t := .byte) (by decide +kernel) rfl (g := (mkF m 48 #[.val (.ref a), .val (.ref b), .val (.int (Int32.ofNat o)), .val (.int (Int32.ofNat len)), .val .null, .val (.ref s.heap.size)] [.int 0, .ref a])) rfl (rest := []) rfl (hb hbytes d48)
  have c14 : Steps p.tables e below (s₁.setTop (entryFrame m #[.ref a, .ref b, .int (Int32.ofNat o), .int (Int32.ofNat len), .null] 6)) (T13.setTop (mkF m 54 #[.val (.ref a), .val (.ref b), .val (.int (Int32.ofNat o)), .val (.int (Int32.ofNat len)), .val .null, .val (.ref s.heap.size)] [.ref s.heap.size, .ref a])) := (c12.trans (st13 _ (Steps.refl _))).trans (by
    refine XS.aloadN X13.here hexec rfl (hb hbytes d51) rfl rfl ?_
    refine XS.aload X13.here hexec rfl (hb hbytes d52) rfl rfl ?_
    exact Steps.refl _)
  obtain ⟨T15, X15, p15, bl15, sl15, st15⟩ := X13.finit hexec hown (wk W (.fieldLink "java/lang/String" 9 "java/lang/String" "value" "[B")) (Or.inr ⟨_, (wk W (.laysFinal "java/lang/String" "java/lang/String" "value" "[B"))⟩) (Or.inl ⟨rfl, hnm⟩) f1 (Or.inl rfl) bl13 (t := (.array .byte)) (by decide +kernel) rfl (g := (mkF m 54 #[.val (.ref a), .val (.ref b), .val (.int (Int32.ofNat o)), .val (.int (Int32.ofNat len)), .val .null, .val (.ref s.heap.size)] [.ref s.heap.size, .ref a])) rfl (rest := []) rfl (hb hbytes d54)
  have c16 : Steps p.tables e below (s₁.setTop (entryFrame m #[.ref a, .ref b, .int (Int32.ofNat o), .int (Int32.ofNat len), .null] 6)) (T15.setTop (mkF m 57 #[.val (.ref a), .val (.ref b), .val (.int (Int32.ofNat o)), .val (.int (Int32.ofNat len)), .val .null, .val (.ref s.heap.size)] [])) := c14.trans (st15 _ (Steps.refl _))
  have ap := apart (Or.inr ⟨_, (wk W (.laysFinal "java/lang/String" "java/lang/String" "value" "[B"))⟩) (Or.inr ⟨_, (wk W (.laysFinal "java/lang/String" "java/lang/String" "coder" "B"))⟩) f1 f2 (t₁ := .array .byte) (t₂ := .byte) (by decide +kernel) (by decide +kernel) (by decide)
  have al := X8.warmed.alike.symm.trans X15.warmed.alike
  have n7 : T11.heap[s.heap.size]? = some N := by rw [q11]; exact n1.1
  exact ⟨T15, none, _, _, _, X15, by simp, rfl, by omega, (fun _ => rfl), ⟨rfl, _, N, bl15, ((Same.refl D _).set _ (by simp)).set _ (by simp), sl15, (Cell.slots_setSlot_ne _ ap).trans sl13, n1.keep al (p15.other hne (p13.other hne n7)), n2, by rw [al.findClass]; exact n3, n4, n5, fun y c h1 h2 => p15.other h1 (p13.other h1 (by rw [q11]; exact n6 y c h2)), by rw [p15.2.2, p13.2.2, q11]; exact z8⟩, fun fs hl => c16.trans (X15.returnOut hexec hret (hb hbytes d57) hl)⟩
end New4
namespace New1
def yN : MethodName := ⟨"java/lang/String", "<init>", "([C)V"⟩
abbrev yB : ByteArray := jdk_42_method_3_code
theorem d0 : decode yB 0 = .ok (.aload_n 0, 1) := by decide +kernel
theorem d1 : decode yB 1 = .ok (.aload_n 1, 1) := by decide +kernel
theorem d2 : decode yB 2 = .ok (.iconst 0, 1) := by decide +kernel
theorem d3 : decode yB 3 = .ok (.aload_n 1, 1) := by decide +kernel
theorem d4 : decode yB 4 = .ok (.arraylength, 1) := by decide +kernel
theorem d5 : decode yB 5 = .ok (.aconst_null, 1) := by decide +kernel
theorem d6 : decode yB 6 = .ok (.invokespecial 27, 3) := by decide +kernel
theorem d9 : decode yB 9 = .ok (.return_, 1) := by decide +kernel
def site : List Cond := [New4.tab] ++ initW "java/lang/String" 27 New4.yN
def tab : Cond := tabOf yN yB 2 none site
def P (a : Addr) (D : Cell) (fV fC : Field) (b : Addr) (A : Cell) (z : Int32) (args : Array Value) (s : State) : Prop := args = #[.ref a, .ref b] ∧ Blank "java/lang/String" a D s ∧ Found "java/lang/String" "value" "[B" fV s ∧ Found "java/lang/String" "coder" "B" fC s ∧ Ch b A s ∧ StaticIs s "java/lang/String" "COMPACT_STRINGS" "Z" (.int z) ∧ ¬ z = 0 ∧ 0 < A.slots.size ∧ A.slots.size ≤ 536870912 ∧ ∀ i, i < A.slots.size → ¬ 255 < cv A i
def E (a : Addr) (D : Cell) (fV fC : Field) (A : Cell) (r : Option Value) (s u : State) : Prop := Got a D fV fC A 0 A.slots.size r s u
/-- new String(chars), not empty, no char above 255: a Latin-1 String of their low bytes -/
theorem law (l : Launch) (a : Addr) (D : Cell) (fV fC : Field) (b : Addr) (A : Cell) (z : Int32) : Law l yN 2 1 3 52 yB 2 none site (P a D fV fC b A z) (E a D fV fC A) [⟨a, fC.slot⟩, ⟨a, fV.slot⟩] 1 A.slots.size := by
  refine Law.of_walk (plainFor_of_name (by decide +kernel)) (by decide +kernel) (by decide +kernel) (by decide) (fun _ _ h => by rw [h.1]; rfl) (fun _ U U' hal hh h => ⟨h.1, h.2.1.mv hal hh, h.2.2.1.al hal, h.2.2.2.1.al hal, h.2.2.2.2.1.mv hal hh, h.2.2.2.2.2.1.there hal hh, h.2.2.2.2.2.2⟩) (fun r U U' V V' h1 hal h2 h => Got.mv r U U' V V' h1 hal h2 h) ?_
  intro p e s m args below meth c s₁ X0 hexec hbytes hml hret hlk hnm hown hh0 W hP
  obtain ⟨rfl, hB, f1, f2, hA, s1, hz, l0, l2, hp⟩ := hP
  have c1 : Steps p.tables e below (s₁.setTop (entryFrame m #[.ref a, .ref b] 2)) (s₁.setTop (mkF m 0 #[.val (.ref a), .val (.ref b)] [])) := entry rfl
  have c2 : Steps p.tables e below (s₁.setTop (entryFrame m #[.ref a, .ref b] 2)) (s₁.setTop (mkF m 6 #[.val (.ref a), .val (.ref b)] [.null, .int (Int32.ofNat A.slots.size), .int 0, .ref b, .ref a])) := c1.trans (by
    refine XS.aloadN X0.here hexec rfl (hb hbytes d0) rfl rfl ?_
    refine XS.aloadN X0.here hexec rfl (hb hbytes d1) rfl rfl ?_
    refine iconstV X0.here hexec rfl 0 (hb hbytes d2) (by decide) ?_
    refine XS.aloadN X0.here hexec rfl (hb hbytes d3) rfl rfl ?_
    refine X0.alen hexec (hA.1.mv X0.warmed.alike hh0) rfl rfl (hb hbytes d4) ?_
    refine XS.aconstNull X0.here hexec rfl (hb hbytes d5) ?_
    exact Steps.refl _)
  obtain ⟨v3, T3, X3, E3, g3⟩ := X0.callN hexec (New4.law l a D fV fC b A z 0 A.slots.size) rfl hown (wks W (initW "java/lang/String" 27 New4.yN)) (W New4.tab (by simp only [site, List.mem_cons, List.mem_append, true_or, or_true])) (W := 0) (Nat.le_of_ble_eq_true rfl) (Nat.le_of_ble_eq_true rfl) (Nat.le_refl _) (by show 0 + A.slots.size ≤ A.slots.size; omega) (g := (mkF m 6 #[.val (.ref a), .val (.ref b)] [.null, .int (Int32.ofNat A.slots.size), .int (Int32.ofNat 0), .ref b, .ref a])) rfl (by rw [hml]; rfl) c2 (argsL := [.ref b, .int (Int32.ofNat 0), .int (Int32.ofNat A.slots.size), .null]) (rest := []) rfl rfl (by show 2 * 0 + 0 ≤ _; decide) (hb hbytes d6) (⟨rfl, hB.mv X0.warmed.alike hh0, f1.al X0.warmed.alike, f2.al X0.warmed.alike, hA.mv X0.warmed.alike hh0, s1.there X0.warmed.alike hh0, hz, l0, by omega, l2, fun i hi => by rw [Nat.zero_add]; exact hp i hi⟩)
  have e0 := Got.mv _ s₁ s _ _ hh0.symm (Vm.Alike.refl _) rfl E3
  obtain rfl := e0.1
  have c4 : Steps p.tables e below (s₁.setTop (entryFrame m #[.ref a, .ref b] 2)) (T3.setTop (mkF m 9 #[.val (.ref a), .val (.ref b)] [])) := g3
  exact ⟨T3, none, _, _, _, X3, by simp, rfl, by omega, (fun _ => rfl), e0, fun fs hl => c4.trans (X3.returnOut hexec hret (hb hbytes d9) hl)⟩
theorem pays {l : Launch} {R : Room} {p : Program} {e : Env} {below : List Frame} {s : State} {sargs : Array Value} {len W : Nat} (a : Addr) (D : Cell) (fV fC : Field) (b : Addr) (A : Cell) (z : Int32) (htab : tab.before sargs s = true) (hfr : 4 ≤ R.frames) (hlo : W + 65 ≤ R.locals) :
    Back l R p e below s sargs yN len W (fun A₁ a₁ => A₁.cells + 1 ≤ R.cells ∧ A₁.slots + A.slots.size ≤ R.slots ∧ P a D fV fC b A z a₁ A₁.U) (fun A₁ _ v₁ B₁ => E a D fV fC A v₁ A₁.U B₁.U ∧ B₁.locs = A₁.locs ++ [⟨a, fC.slot⟩, ⟨a, fV.slot⟩] ∧ B₁.cells = A₁.cells + 1 ∧ B₁.slots = A₁.slots + A.slots.size) :=
  (law l a D fV fC b A z).pays htab hfr (by omega)
end New1
/-- the byte, read back as charAt reads it, is the char -/
theorem lo8_mask {x : Int32} (h0 : ¬ x < 0) (h1 : ¬ 255 < x) : lo8 x &&& 255 = x := by
  have t : ∀ k : Fin 256, lo8 (Int32.ofNat k.val) &&& 255 = Int32.ofNat k.val := by decide +kernel
  rw [Int32.lt_iff_toInt_lt] at h0 h1
  have e0 : (0 : Int32).toInt = 0 := rfl
  have e1 : (255 : Int32).toInt = 255 := rfl
  obtain ⟨k, hk⟩ : ∃ k : Nat, x.toInt = k := ⟨x.toInt.toNat, by omega⟩
  have hx : x = Int32.ofNat k := Int32.toInt_inj.mp (by rw [hk, Int32.toInt_ofNat_small (by omega)])
  rw [hx]
  exact t ⟨k, by omega⟩
end StrChars
namespace StrChars.Road
open Jvm Sem ClassFile Op Lib Jvm.Stand Jvm.Free Jvm.Free.XT
open Jvm.Lib.Cold (StaticIs)
abbrev ST : String := "java/lang/String"
/-- every table word that New1's law asks, flat -/
abbrev words : List Jvm.Cond := [.code New1.yN New1.yB 2 none, .initialized ST, .methodLink ST 27 New4.yN, .instanceMethod New4.yN,
  .code New4.yN New4.yB 6 none, .fieldLink ST 38 ST "COMPACT_STRINGS" "Z", .laysFinal ST ST "value" "[B", .fieldLink ST 9 ST "value" "[B", .laysFinal ST ST "coder" "B", .fieldLink ST 15 ST "coder" "B",
  .methodLink ST 1 Lib.objectInit, .instanceMethod Lib.objectInit, .code Lib.objectInit ⟨#[0xb1]⟩ 1 none, .methodLink ST 177 Cmp3.yN, .static Cmp3.yN, .methodLink ST 47 CodL.yN, .static CodL.yN,
  .code Cmp3.yN Cmp3.yB 6 (some (.array .byte)), .initialized U16, .arrayClass .byte, .methodLink U16 115 Cmp5.yN, .static Cmp5.yN, .code Cmp5.yN Cmp5.yB 7 (some .int), .code CodL.yN CodL.yB 2 (some .byte)]
theorem tab_of {a : Array Value} {s : State} (h : ∀ w ∈ words, w.before a s = true) : New1.tab.before a s = true := by
  have h5 : Cmp5.tab.before a s = true := unparts (wk h (.code Cmp5.yN Cmp5.yB 7 (some .int))) (wks h (.initialized Cmp5.yN.cls :: Cmp5.site))
  have hc : CodL.tab.before a s = true := unparts (wk h (.code CodL.yN CodL.yB 2 (some .byte))) (wks h (.initialized CodL.yN.cls :: CodL.site))
  have q5 : ∀ w ∈ Cmp5.tab :: words, w.before a s = true := fun w hw => (List.mem_cons.mp hw).elim (fun e => e ▸ h5) (h w)
  have h3 : Cmp3.tab.before a s = true := unparts (wk q5 (.code Cmp3.yN Cmp3.yB 6 (some (.array .byte)))) (wks q5 (.initialized Cmp3.yN.cls :: Cmp3.site))
  have q3 : ∀ w ∈ Cmp3.tab :: CodL.tab :: words, w.before a s = true := fun w hw => (List.mem_cons.mp hw).elim (fun e => e ▸ h3) fun hw => (List.mem_cons.mp hw).elim (fun e => e ▸ hc) (h w)
  have h4 : New4.tab.before a s = true := unparts (wk q3 (.code New4.yN New4.yB 6 none)) (wks q3 (.initialized New4.yN.cls :: New4.site))
  have q4 : ∀ w ∈ New4.tab :: words, w.before a s = true := fun w hw => (List.mem_cons.mp hw).elim (fun e => e ▸ h4) (h w)
  exact unparts (wk q4 (.code New1.yN New1.yB 2 none)) (wks q4 (.initialized New1.yN.cls :: New1.site))
/-- the words ride from the start Z to the walk's own state -/
theorem moved {Z s : State} {a0 args : Array Value} (hZ : Z.Warmed39 s.vm) (hw : ∀ d ∈ words, d.before a0 Z = true) : ∀ d ∈ words, d.before args s = true := fun d hd => by
  have q := hw d hd
  have t : ∀ d ∈ words, d = .arrayClass .byte ∨ (d.onTables && d.keepsFace) = true := by decide +kernel
  rcases t d hd with rfl | t
  · exact RoadKit.mvA hZ q
  · exact RoadKit.mv hZ q t
/-- WHAT COMES BACK, over the tables of the start Z: h the heap at the call, h' behind it -/
def Q (Z : State) (x : Addr) (A : Cell) (h : Heap) (v : Option Value) (h' : Heap) (L : List Loc) : Prop := v = none ∧ (∀ y ∈ L, y.base = x) ∧ RoadKit.Keep h h' [x] ∧ h'.size = h.size + 1 ∧ RoadKit.Exa Z h' x ST ∧ RoadKit.Fld Z h' x ST "value" "[B" (.ref h.size) ∧ RoadKit.Fld Z h' x ST "coder" "B" (.int 0) ∧
  (∃ V : Cell, RoadKit.Arr Z h' h.size V .byte ∧ V.vm = .none ∧ Z.vm.findClass "[B" = some V.cls ∧ V.slots.size = A.slots.size ∧ ∀ j, j < A.slots.size → V.slots[j]? = some (.int (lo8 (cv A j)))) ∧
  ∀ (O n d : String) (w : Value), RoadKit.Fld Z h x O n d w → RoadKit.slotOf Z O n d ≠ RoadKit.slotOf Z ST "value" "[B" → RoadKit.slotOf Z O n d ≠ RoadKit.slotOf Z ST "coder" "B" → RoadKit.Fld Z h' x O n d w
/-- **new String(chars) AT A CALL, IN THE ROAD'S FORM**: for specialBack behind newO: x the fresh String, b the char[] with the cell A -/
theorem back {p : Program} {l : Launch} {e : Env} {R : Room} {s : State} {args : Array Value} {below : List Frame} {len W : Nat} {Z : State} {a0 : Array Value} {h : Heap} (hZ : Z.Warmed39 s.vm) (hw : ∀ d ∈ words, d.before a0 Z = true) {kI : Nat} (wi : (Jvm.Cond.instantiable ST kI).before a0 Z = true)
    {x b : Addr} {A : Cell} {z : Int32} {v0 c0 : Value} (E : RoadKit.Exa Z h x ST) (V : RoadKit.Fld Z h x ST "value" "[B" v0) (C : RoadKit.Fld Z h x ST "coder" "B" c0) (K : RoadKit.Arr Z h b A .char) (hty : Typed .char A) (S : RoadKit.Sta Z h ST "COMPACT_STRINGS" "Z" (.int z)) (hz : ¬ z = 0)
    (l0 : 0 < A.slots.size) (l2 : A.slots.size ≤ 536870912) (hp : ∀ i, i < A.slots.size → ¬ 255 < cv A i) (hfr : 4 ≤ R.frames) (hlo : W + 65 ≤ R.locals) :
    Back l R p e below s args New1.yN len W (fun P a => a = #[.ref x, .ref b] ∧ P.U.heap = h ∧ P.cells + 1 ≤ R.cells ∧ P.slots + A.slots.size ≤ R.slots)
      (fun P _ v B => ∃ L, Q Z x A h v B.U.heap L ∧ B.locs = P.locs ++ L ∧ B.cells = P.cells + 1 ∧ B.slots = P.slots + A.slots.size) := by
  intro m meth c P g ig mk a X hg hsize hdg hW hn hp'
  obtain ⟨rfl, rfl, r1, r2⟩ := hp'
  have al : Z.vm.Alike P.U.vm := hZ.alike.trans X.warmed.alike
  obtain ⟨D, cfV, kV, iV, fV, hD, gV, stV, knV, obV, asV, slV⟩ := id V
  obtain ⟨D', cfC, kC, iC, fC, hD', gC, stC, -, -, asC, slC⟩ := id C
  cases hD.symm.trans hD'
  obtain ⟨D2, kD, e1, e2, e3, e4, e5⟩ := id E
  cases hD.symm.trans e1
  obtain ⟨c2, k2, i1, i2, i3, -⟩ := Cond.instantiable_spec wi
  cases e2.symm.trans i1
  cases e3.symm.trans i2
  obtain ⟨kU, u1, u2⟩ := al.2.2 _ _ e3
  have hB : Blank ST x D P.U := ⟨hD, ⟨knV, fun q hq => by rw [hq] at obV; cases obV⟩, by rw [al.findClass]; exact e2, kU, u1, by rw [u2]; exact i3, by rw [u2]; exact e5 i3⟩
  have F1 : Found ST "value" "[B" fV P.U := ⟨SBG.found_only al ⟨cfV, kV, iV, gV⟩, stV⟩
  have F2 : Found ST "coder" "B" fC P.U := ⟨SBG.found_only al ⟨cfC, kC, iC, gC⟩, stC⟩
  have hA : Ch b A P.U := ⟨⟨K.1, State.isArrayOf_alike al K.2.1, K.2.2, by omega⟩, hty⟩
  have hS : StaticIs P.U ST "COMPACT_STRINGS" "Z" (.int z) := by
    obtain ⟨cfS, iS, kS, fS, st, cS, t1, t2, t3, t4, t5, t6, t7⟩ := S
    exact StaticIs.there (s := { Z with heap := P.U.heap }) ⟨cfS, iS, kS, fS, st, cS, t1, t2, t3, t4, t5, (fun q => by rw [q] at t6; cases t6), t7⟩ al rfl
  obtain ⟨v, B, X', ⟨⟨hv, E', V', q1, q2, q3, q4, q5, q6, q7, q8, q9, q10, q11⟩, hl, hc, hs⟩, st⟩ := New1.pays x D fV fC b A z (tab_of (moved hZ hw)) hfr hlo m meth c P g ig mk _ X hg hsize hdg hW hn ⟨r1, r2, rfl, hB, F1, F2, hA, hS, hz, l0, l2, hp⟩
  have al' : Z.vm.Alike B.U.vm := hZ.alike.trans X'.warmed.alike
  have hsz : E'.slots.size = D.slots.size := by
    obtain ⟨-, -, -, kB, w1, w2, w3⟩ := q1
    obtain ⟨kB', y1, y2⟩ := al'.2.2 _ _ e3
    rw [q2.2.1] at w1
    cases w1.symm.trans y1
    rw [w3, e5 i3, y2]
  refine ⟨v, B, X', ⟨_, ⟨hv, ?_, ⟨by omega, fun y cy hy hn' => q10 y cy (by simpa using hn') hy, fun y cy hy => ?_⟩, q11, ⟨E', _, q1.1, by rw [q2.2.1]; exact e2, by rw [q2.2.1]; exact e3, by rw [q2.1]; exact obV, fun _ => by rw [hsz]; exact e5 i3⟩,
    ⟨E', cfV, kV, iV, fV, q1.1, gV, stV, by rw [q2.1]; exact knV, by rw [q2.1]; exact obV, by rw [q2.2.1]; exact asV, q3⟩, ⟨E', cfC, kC, iC, fC, q1.1, gC, stC, by rw [q2.1]; exact knV, by rw [q2.1]; exact obV, by rw [q2.2.1]; exact asC, q4⟩,
    ⟨V', ⟨q5.1, State.isArrayOf_alike al'.symm q5.2.1, q5.2.2.1⟩, q6, by rw [← al'.findClass]; exact q7, q8, fun j hj => by have := q9 j hj; rwa [Nat.zero_add] at this⟩, fun O n d w F n1 n2 => ?_⟩, hl, hc, hs⟩, st⟩
  · intro y hy
    simp only [List.mem_cons, List.not_mem_nil, or_false] at hy
    rcases hy with rfl | rfl <;> rfl
  · by_cases q : y = x
    · subst q
      cases hD.symm.trans hy
      exact ⟨E', q1.1, q2.2.1, q2.1, hsz⟩
    · exact ⟨cy, q10 y cy q hy, rfl, rfl, rfl⟩
  · obtain ⟨D3, cf, k, i, f, g1, g2, g3, g4, g5, g6, g7⟩ := F
    cases hD.symm.trans g1
    simp only [RoadKit.slotOf, g2, gV, gC, Option.map_some, Option.getD_some] at n1 n2
    exact ⟨E', cf, k, i, f, q1.1, g2, g3, by rw [q2.1]; exact g4, by rw [q2.1]; exact g5, by rw [q2.2.1]; exact g6, by rw [q2.2.2 f.slot (by simp [n1, n2])]; exact g7⟩
end StrChars.Road
namespace StrChars.Road
open Jvm Sem ClassFile Op Lib Jvm.Stand Jvm.Free Jvm.Free.XT
/-- WHAT COMES BACK, the byte[] as a list of values -/
def QA (Z : State) (x : Addr) (zn : Int32) (cs : List Int32) (h : Heap) (v : Option Value) (h' : Heap) (L : List Loc) : Prop := v = none ∧ (∀ y ∈ L, y.base = x) ∧ RoadKit.Keep h h' [x] ∧ h'.size = h.size + 1 ∧ RoadKit.Exa Z h' x ST ∧ RoadKit.Fld Z h' x ST "value" "[B" (.ref h.size) ∧ RoadKit.Fld Z h' x ST "coder" "B" (.int 0) ∧
  (∃ kb, Z.vm.findClass "[B" = some kb ∧ RoadKit.Arv Z h' h.size kb .byte zn (cs.map fun c => .int (lo8 c)) (.int 0)) ∧
  ∀ (O n d : String) (w : Value), RoadKit.Fld Z h x O n d w → RoadKit.slotOf Z O n d ≠ RoadKit.slotOf Z ST "value" "[B" → RoadKit.slotOf Z O n d ≠ RoadKit.slotOf Z ST "coder" "B" → RoadKit.Fld Z h' x O n d w
/-- **new String(chars) AT A CALL, THE ARRAYS AS LISTS**: the char[] at b holds cs, not empty, no char above 255 -/
theorem backArv {p : Program} {l : Launch} {e : Env} {R : Room} {s : State} {args : Array Value} {below : List Frame} {len W : Nat} {Z : State} {a0 : Array Value} {h : Heap} (hZ : Z.Warmed39 s.vm) (hw : ∀ d ∈ words, d.before a0 Z = true) {kI : Nat} (wi : (Jvm.Cond.instantiable ST kI).before a0 Z = true)
    {x b : Addr} {k : ClassId} {zn z : Int32} {cs : List Int32} {dv v0 c0 : Value} (E : RoadKit.Exa Z h x ST) (V : RoadKit.Fld Z h x ST "value" "[B" v0) (C : RoadKit.Fld Z h x ST "coder" "B" c0) (K : RoadKit.Arv Z h b k .char zn (cs.map Value.int) dv) (S : RoadKit.Sta Z h ST "COMPACT_STRINGS" "Z" (.int z)) (hz : ¬ z = 0)
    (hlen : zn.toNatClampNeg = cs.length) (h0 : 0 < cs.length) (hbig : cs.length ≤ 536870912) (hall : ∀ c ∈ cs, ¬ 255 < c) (hfr : 4 ≤ R.frames) (hlo : W + 65 ≤ R.locals) :
    Back l R p e below s args New1.yN len W (fun P a => a = #[.ref x, .ref b] ∧ P.U.heap = h ∧ P.cells + 1 ≤ R.cells ∧ P.slots + cs.length ≤ R.slots)
      (fun P _ v B => ∃ L, QA Z x zn cs h v B.U.heap L ∧ B.locs = P.locs ++ L ∧ B.cells = P.cells + 1 ∧ B.slots = P.slots + cs.length) := by
  obtain ⟨A, K1, K2, K3, K4, K5, K6⟩ := K
  have e : A.slots.size = cs.length := K3.trans hlen
  have hat : ∀ (i : Nat) (hi : i < cs.length), A.slots[i]? = some (.int cs[i]) := fun i hi => by rw [K5 i (by omega)]; simp [List.getD_eq_getElem?_getD, hi]
  have hcv : ∀ (i : Nat) (hi : i < cs.length), cv A i = cs[i] := fun i hi => by unfold cv; rw [hat i hi]
  have hty : Typed .char A := fun i v hv => by
    have hi : i < A.slots.size := (Array.getElem?_eq_some_iff.mp hv).1
    have q := K5 i hi
    rw [hv] at q
    rw [Option.some.inj q]
    exact K6 i hi
  refine Back.mono (back hZ hw wi E V C K1 hty S hz (by omega) (by omega) (fun i hi => by rw [hcv i (by omega)]; exact hall _ (List.getElem_mem _)) hfr hlo) (fun P a hp => ⟨hp.1, hp.2.1, hp.2.2.1, by rw [e]; exact hp.2.2.2⟩) (fun P a v B hp hq => ?_)
  obtain ⟨L, ⟨q1, q2, q3, q4, q5, q6, q7, ⟨V', v1, v2, v3, v4, v5⟩, q9⟩, hl, hc, hs⟩ := hq
  refine ⟨L, ⟨q1, q2, q3, q4, q5, q6, q7, ⟨V'.cls, v3, V', v1, rfl, by rw [v4, e, hlen], K4, fun i hi => ?_, fun i hi => ?_⟩, q9⟩, hl, hc, by rw [hs, e]⟩
  · have hi' : i < cs.length := by omega
    rw [v5 i (by omega), hcv i hi']; simp [List.getD_eq_getElem?_getD, hi']
  · have hi' : i < cs.length := by omega
    simp only [List.getD_eq_getElem?_getD, List.getElem?_map, List.getElem?_eq_getElem hi', Option.map_some, Option.getD_some]
    exact fits_lo8 _
end StrChars.Road
namespace StrChars.Road
open Jvm Sem ClassFile Op Lib Jvm.Stand Jvm.Free Jvm.Free.XT
/-- WHAT COMES BACK, in the writer's own shape -/
def QV (Z : State) (x : Addr) (N : Int32) (bs : List Int32) (h : Heap) (n0 : Nat) (v : Option Value) (h' : Heap) (L : List Loc) : Prop := v = none ∧ RoadKit.Fr n0 L ∧ RoadKit.Keep h h' [x] ∧ RoadKit.Exa Z h' x ST ∧ RoadKit.Fld Z h' x ST "coder" "B" (.int 0) ∧
  ∃ (t : Addr) (kb : ClassId), n0 ≤ t ∧ h.size ≤ t ∧ ¬ t = x ∧ RoadKit.Fld Z h' x ST "value" "[B" (.ref t) ∧ RoadKit.Arv Z h' t kb .byte N (bs.map Value.int) (.int 0)
/-- **new String(chars) AT A CALL, FOR THE WRITER**: a char[] of n known ints, each 0 to 255 -/
theorem backV {p : Program} {l : Launch} {e : Env} {R : Room} {s : State} {args : Array Value} {below : List Frame} {len W : Nat} {Z : State} {a0 : Array Value} {h : Heap} (hZ : Z.Warmed39 s.vm) (hw : ∀ d ∈ words, d.before a0 Z = true) {kI : Nat} (wi : (Jvm.Cond.instantiable ST kI).before a0 Z = true)
    {x b : Addr} {kC : ClassId} {cs bs : List Int32} {d v0 c0 : Value} {z N : Int32} {n n0 : Nat} (hx0 : n0 ≤ x) (hh0 : n0 ≤ h.size) (E : RoadKit.Exa Z h x ST) (V : RoadKit.Fld Z h x ST "value" "[B" v0) (C : RoadKit.Fld Z h x ST "coder" "B" c0) (K : RoadKit.Arv Z h b kC .char N (cs.map Value.int) d) (S : RoadKit.Sta Z h ST "COMPACT_STRINGS" "Z" (.int z)) (hz : ¬ z = 0)
    (hn : cs.length = n) (hN : N = Int32.ofNat n) (l0 : 0 < n) (l2 : n ≤ 4000) (hp : ∀ c ∈ cs, ¬ c < 0 ∧ ¬ (255 : Int32) < c) (hb : bs = cs.map (fun c => c.toInt8.toInt32)) (hfr : 4 ≤ R.frames) (hlo : W + 65 ≤ R.locals) :
    Back l R p e below s args (⟨"java/lang/String", "<init>", "([C)V"⟩ : MethodName) len W (fun P a => a = #[.ref x, .ref b] ∧ P.U.heap = h ∧ P.cells + 1 ≤ R.cells ∧ P.slots + n ≤ R.slots)
      (fun P _ v B => ∃ L, QV Z x N bs h n0 v B.U.heap L ∧ B.locs = P.locs ++ L ∧ B.cells = P.cells + 1 ∧ B.slots = P.slots + n) := by
  subst hn hN hb
  refine Back.mono (backArv hZ hw wi E V C K S hz (n32 (by omega)) l0 (by omega) (fun c hc => (hp c hc).2) hfr hlo) (fun P a hp => hp) (fun P a v B hp hq => ?_)
  obtain ⟨L, ⟨q1, q2, q3, q4, q5, q6, q7, ⟨kb, v1, v2⟩, q9⟩, hl, hc, hs⟩ := hq
  exact ⟨L, ⟨q1, fun y hy => by rw [q2 y hy]; exact hx0, q3, q5, q7, h.size, kb, hh0, Nat.le_refl _, Nat.ne_of_gt E.lt, q6, by rw [List.map_map]; exact v2⟩, hl, hc, hs⟩
end StrChars.Road
namespace StrChars
open Jvm Sem ClassFile Op Lib Jvm.Stand Jvm.Free.XT Jvm.Free.ALB Jvm.Free.JM Jvm.Free
open Jvm.Lib.Cold (StaticIs)
def hi8 (x : Int32) : Int32 := lo8 (x >>> ((8 : Int32) &&& 31))
/-- what StringUTF16.getChar makes of two bytes -/
def pairCh (u v : Int32) : Int32 := (((u &&& 255) <<< ((0 : Int32) &&& 31)) ||| ((v &&& 255) <<< ((8 : Int32) &&& 31))).toUInt32.toUInt16.toUInt32.toInt32
theorem lo8_and (x : Int32) : (lo8 x &&& 255).toBitVec.toNat = x.toBitVec.toNat % 256 := by
  have h : (lo8 x).toBitVec = (x.toBitVec.signExtend 8).signExtend 32 := by rw [lo8, Int8.toBitVec_toInt32, Int32.toBitVec_toInt8]
  rw [Int32.toBitVec_and, BitVec.toNat_and, h]
  have e : ((x.toBitVec.signExtend 8).signExtend 32).toNat % 256 = x.toBitVec.toNat % 256 := by
    rw [BitVec.toNat_signExtend]
    have hlt := x.toBitVec.isLt
    simp only [BitVec.toNat_setWidth, BitVec.toNat_signExtend]
    split <;> split <;> omega
  rw [← e]
  exact Nat.and_two_pow_sub_one_eq_mod _ 8
theorem pair_says {c : Int32} (h0 : ¬ c < 0) (h1 : ¬ 65535 < c) : pairCh (lo8 c) (hi8 c) = c := by
  rw [Int32.lt_iff_toInt_lt] at h0 h1
  have e0 : (0 : Int32).toInt = 0 := rfl
  have e1 : (65535 : Int32).toInt = 65535 := rfl
  have hc : c.toInt = c.toBitVec.toNat := by
    have := c.toBitVec.isLt
    have e : c.toInt = c.toBitVec.toInt := rfl
    rw [e] at h0 h1
    rw [e]
    rw [BitVec.toInt_eq_toNat_cond] at h0 h1 ⊢
    split at h0 <;> split <;> omega
  have hn : c.toBitVec.toNat < 65536 := by omega
  have a1 := lo8_and c
  have a2 : (hi8 c &&& 255).toBitVec.toNat = c.toBitVec.toNat / 256 := by
    rw [hi8, lo8_and]
    have e : ((8 : Int32) &&& 31) = 8 := by decide
    rw [e, Int32.toBitVec_shiftRight]
    have e2 : ((8 : Int32).toBitVec.smod 32) = 8#32 := by decide
    rw [e2, BitVec.sshiftRight_eq', BitVec.toNat_sshiftRight_of_msb_false (by rw [BitVec.msb_eq_false_iff_two_mul_lt]; omega)]
    show c.toBitVec.toNat >>> 8 % 256 = _
    rw [Nat.shiftRight_eq_div_pow]
    omega
  unfold pairCh
  apply Int32.toBitVec_inj.mp
  apply BitVec.eq_of_toNat_eq
  have f0 : ((0 : Int32) &&& 31) = 0 := by decide
  have f8 : ((8 : Int32) &&& 31) = 8 := by decide
  rw [f0, f8]
  have g : (((lo8 c &&& 255) <<< (0 : Int32)) ||| ((hi8 c &&& 255) <<< (8 : Int32))).toBitVec.toNat = c.toBitVec.toNat := by
    rw [Int32.toBitVec_or, Int32.toBitVec_shiftLeft, Int32.toBitVec_shiftLeft]
    have s0 : ((0 : Int32).toBitVec.smod 32) = 0#32 := by decide
    have s8 : ((8 : Int32).toBitVec.smod 32) = 8#32 := by decide
    rw [s0, s8, BitVec.toNat_or]
    simp only [BitVec.shiftLeft_eq', BitVec.toNat_shiftLeft, a1, a2]
    show (c.toBitVec.toNat % 256) <<< 0 % 2 ^ 32 ||| (c.toBitVec.toNat / 256) <<< 8 % 2 ^ 32 = _
    rw [Nat.shiftLeft_zero, Nat.mod_eq_of_lt (show c.toBitVec.toNat % 256 < 2 ^ 32 by omega), Nat.mod_eq_of_lt (show (c.toBitVec.toNat / 256) <<< 8 < 2 ^ 32 by rw [Nat.shiftLeft_eq]; omega), Nat.or_comm, ← Nat.shiftLeft_add_eq_or_of_lt (by omega), Nat.shiftLeft_eq]
    omega
  show BitVec.toNat (((((lo8 c &&& 255) <<< (0 : Int32)) ||| ((hi8 c &&& 255) <<< (8 : Int32))).toBitVec.setWidth 16).setWidth 32) = _
  rw [BitVec.toNat_setWidth, BitVec.toNat_setWidth, g]
  omega
end StrChars
namespace StrChars
open Jvm Sem ClassFile Op Lib Jvm.Stand Jvm.Free.XT Jvm.Free.ALB Jvm.Free.JM Jvm.Free
open Jvm.Lib.Cold (StaticIs)
/-- the array's cell V codes the n chars f 0 .. f (n - 1) by the coder cd, as the JDK does: coder 1 just where some char is above 255 -/
def Cod (cd : Int32) (n : Nat) (f : Nat → Int32) (V : Cell) : Prop := (cd = 0 ∧ V.slots.size = n ∧ ∀ j, j < n → V.slots[j]? = some (.int (lo8 (f j))) ∧ ¬ 255 < f j) ∨ (cd = 1 ∧ V.slots.size = 2 * n ∧ (∀ j, j < n → V.slots[2 * j]? = some (.int (lo8 (f j))) ∧ V.slots[2 * j + 1]? = some (.int (hi8 (f j)))) ∧ ∃ j, j < n ∧ 255 < f j)
/-- **x is a String of the n chars f 0 .. f (n - 1)**, Latin-1 or UTF-16; its array at t has the cell V -/
def Txt (x t : Addr) (V : Cell) (cd : Int32) (n : Nat) (f : Nat → Int32) (U : State) : Prop := Exact "java/lang/String" x U ∧ Has x "java/lang/String" "value" "[B" (.ref t) U ∧ Has x "java/lang/String" "coder" "B" (.int cd) U ∧ XT.Arr .byte t V U ∧ Cod cd n f V ∧ ∀ j, j < n → ¬ f j < 0 ∧ ¬ 65535 < f j
theorem Txt.mv {x t : Addr} {V : Cell} {cd : Int32} {n : Nat} {f : Nat → Int32} {U U' : State} (h : Txt x t V cd n f U) (hal : U.vm.Alike U'.vm) (hh : U'.heap = U.heap) : Txt x t V cd n f U' := ⟨h.1.mv hal hh, h.2.1.mv hal hh, h.2.2.1.mv hal hh, h.2.2.2.1.mv hal hh, h.2.2.2.2⟩
end StrChars
namespace StrChars.Road
open Jvm Sem ClassFile Op Lib Jvm.Stand Jvm.Free Jvm.Free.XT
open Jvm.Lib.Cold (StaticIs)
theorem consq {a : Array Value} {s : State} {c : Jvm.Cond} {L : List Jvm.Cond} (h0 : c.before a s = true) (h : ∀ w ∈ L, w.before a s = true) : ∀ w ∈ c :: L, w.before a s = true := fun w hw => (List.mem_cons.mp hw).elim (fun e => e ▸ h0) (h w)
/-- the bytes of the chars cs, low before high -/
def wideBytes : List Int32 → List Value
  | [] => []
  | c :: cs => .int (lo8 c) :: .int (hi8 c) :: wideBytes cs
theorem wide_lo (d : Value) : ∀ (cs : List Int32) (j : Nat), j < cs.length → (wideBytes cs).getD (2 * j) d = .int (lo8 (cs.getD j 0))
  | [], j, h => absurd h (Nat.not_lt_zero j)
  | c :: cs, 0, _ => rfl
  | c :: cs, j + 1, h => by
    have q := wide_lo d cs j (by simpa using h)
    rw [show 2 * (j + 1) = 2 * j + 1 + 1 from by omega]
    simpa [wideBytes] using q
theorem wide_hi (d : Value) : ∀ (cs : List Int32) (j : Nat), j < cs.length → (wideBytes cs).getD (2 * j + 1) d = .int (hi8 (cs.getD j 0))
  | [], j, h => absurd h (Nat.not_lt_zero j)
  | c :: cs, 0, _ => rfl
  | c :: cs, j + 1, h => by
    have q := wide_hi d cs j (by simpa using h)
    rw [show 2 * (j + 1) + 1 = 2 * j + 1 + 1 + 1 from by omega]
    simpa [wideBytes] using q
theorem low_at (d : Value) (cs : List Int32) (j : Nat) (h : j < cs.length) : (cs.map fun c => Value.int (lo8 c)).getD j d = .int (lo8 (cs.getD j 0)) := by
  simp [List.getD_eq_getElem?_getD, h]
/-- an array of N2 bytes vs codes the chars cs by the coder cd -/
def CodA (cs : List Int32) (cd N2 : Int32) (vs : List Value) : Prop := (cd = 0 ∧ N2 = Int32.ofNat cs.length ∧ vs = (cs.map fun c => Value.int (lo8 c)) ∧ ∀ c ∈ cs, ¬ 255 < c) ∨ (cd = 1 ∧ N2 = Int32.ofNat (2 * cs.length) ∧ vs = wideBytes cs ∧ ∃ c ∈ cs, 255 < c)
theorem CodA.cod {cs : List Int32} {cd N2 : Int32} {vs : List Value} {V : Cell} (h : CodA cs cd N2 vs) (hn : 2 * cs.length < 2 ^ 31) (hs : V.slots.size = N2.toNatClampNeg) (hv : RoadKit.Has V vs (.int 0)) : Cod cd cs.length (fun j => cs.getD j 0) V := by
  rcases h with ⟨rfl, rfl, rfl, h⟩ | ⟨rfl, rfl, rfl, c, hc, hw⟩
  · rw [n32 (by omega)] at hs
    exact Or.inl ⟨rfl, hs, fun j hj => ⟨by rw [hv j (by omega), low_at _ _ _ hj], by
      have e : cs.getD j 0 = cs[j] := by simp [List.getD_eq_getElem?_getD, hj]
      show ¬ 255 < cs.getD j 0
      rw [e]; exact h _ (List.getElem_mem _)⟩⟩
  · rw [n32 (by omega)] at hs
    obtain ⟨j, hj, rfl⟩ := List.getElem_of_mem hc
    exact Or.inr ⟨rfl, hs, fun j hj => ⟨by rw [hv _ (by omega), wide_lo _ _ _ hj], by rw [hv _ (by omega), wide_hi _ _ _ hj]⟩, j, hj, by
      have e : cs.getD j 0 = cs[j] := by simp [List.getD_eq_getElem?_getD, hj]
      show 255 < cs.getD j 0
      rw [e]; exact hw⟩
/-- an object of exactly java/lang/String, its two fields found: as the laws ask it -/
theorem strObj {Z U : State} {a0 : Array Value} {kI : Nat} (wi : (Jvm.Cond.instantiable ST kI).before a0 Z = true) (al : Z.vm.Alike U.vm) {x : Addr} {v0 c0 : Value} (E : RoadKit.Exa Z U.heap x ST) (V : RoadKit.Fld Z U.heap x ST "value" "[B" v0) (C : RoadKit.Fld Z U.heap x ST "coder" "B" c0) :
    ∃ (D : Cell) (fV fC : Field), Blank ST x D U ∧ Found ST "value" "[B" fV U ∧ Found ST "coder" "B" fC U ∧ D.slots[fV.slot]? = some v0 ∧ D.slots[fC.slot]? = some c0 ∧ RoadKit.slotOf Z ST "value" "[B" = fV.slot ∧ RoadKit.slotOf Z ST "coder" "B" = fC.slot := by
  obtain ⟨D, cfV, kV, iV, fV, hD, gV, stV, knV, obV, asV, slV⟩ := V
  obtain ⟨D', cfC, kC, iC, fC, hD', gC, stC, -, -, asC, slC⟩ := C
  cases hD.symm.trans hD'
  obtain ⟨D2, kD, e1, e2, e3, e4, e5⟩ := E
  cases hD.symm.trans e1
  obtain ⟨c2, k2, i1, i2, i3, -⟩ := Cond.instantiable_spec wi
  cases e2.symm.trans i1
  cases e3.symm.trans i2
  obtain ⟨kU, u1, u2⟩ := al.2.2 _ _ e3
  exact ⟨D, fV, fC, ⟨hD, ⟨knV, fun q hq => by rw [hq] at obV; cases obV⟩, by rw [al.findClass]; exact e2, kU, u1, by rw [u2]; exact i3, by rw [u2]; exact e5 i3⟩, ⟨SBG.found_only al ⟨cfV, kV, iV, gV⟩, stV⟩, ⟨SBG.found_only al ⟨cfC, kC, iC, gC⟩, stC⟩, slV, slC, by simp [RoadKit.slotOf, gV], by simp [RoadKit.slotOf, gC]⟩
theorem sta_is {Z U : State} (al : Z.vm.Alike U.vm) {C n d : String} {v : Value} (S : RoadKit.Sta Z U.heap C n d v) : StaticIs U C n d v := by
  obtain ⟨cfS, iS, kS, fS, st, cS, t1, t2, t3, t4, t5, t6, t7⟩ := S
  exact StaticIs.there (s := { Z with heap := U.heap }) ⟨cfS, iS, kS, fS, st, cS, t1, t2, t3, t4, t5, (fun q => by rw [q] at t6; cases t6), t7⟩ al rfl
end StrChars.Road
namespace StrChars
open Jvm Sem ClassFile Op Lib Jvm.Stand Jvm.Free.XT Jvm.Free.ALB Jvm.Free.JM Jvm.Free
open Jvm.Lib.Cold (StaticIs)
/-- what place i of a byte[]'s cell holds -/
def yv (A : Cell) (i : Nat) : Int32 := match A.slots[i]? with | some (.int x) => x | _ => 0
theorem yv_get {a : Addr} {A : Cell} {U : State} (h : XT.Arr .byte a A U) (ht : Typed .byte A) {i : Nat} (hi : i < A.slots.size) : A.slots[i]? = some (.int (yv A i)) := by
  have e := Array.getElem?_eq_getElem hi
  have f := ht i _ e
  unfold yv; rw [e]
  generalize A.slots[i] = v at f
  cases v <;> simp [fits] at f ⊢
/-- the two arrays are equal, place for place -/
def EqC (A B : Cell) : Prop := A.slots.size = B.slots.size ∧ ∀ i, i < A.slots.size → yv A i = yv B i
/-- a boolean that says whether p -/
def Says01 (q : Prop) (r : Option Value) (s u : State) : Prop := ∃ v : Int32, r = some (.int v) ∧ u.heap = s.heap ∧ ((v = 1 ∧ q) ∨ (v = 0 ∧ ¬ q))
theorem Says01.mv {q : Prop} : ∀ r (U U' V V' : State), U'.heap = U.heap → V.vm.Alike V'.vm → V'.heap = V.heap → Says01 q r U V → Says01 q r U' V' :=
  fun r U U' V V' h1 _ h2 ⟨v, a, b, c⟩ => ⟨v, a, by rw [h1, h2]; exact b, c⟩
namespace LEq
def yN : MethodName := ⟨"java/lang/StringLatin1", "equals", "([B[B)Z"⟩
abbrev yB : ByteArray := jdk_43_method_13_code
theorem d0 : decode yB 0 = .ok (.aload_n 0, 1) := by decide +kernel
theorem d1 : decode yB 1 = .ok (.arraylength, 1) := by decide +kernel
theorem d2 : decode yB 2 = .ok (.aload_n 1, 1) := by decide +kernel
theorem d3 : decode yB 3 = .ok (.arraylength, 1) := by decide +kernel
theorem d4 : decode yB 4 = .ok (.if_icmp (.ne) 30, 3) := by decide +kernel
theorem d7 : decode yB 7 = .ok (.iconst 0, 1) := by decide +kernel
theorem d8 : decode yB 8 = .ok (.istore_n 2, 1) := by decide +kernel
theorem d9 : decode yB 9 = .ok (.iload_n 2, 1) := by decide +kernel
theorem d10 : decode yB 10 = .ok (.aload_n 0, 1) := by decide +kernel
theorem d11 : decode yB 11 = .ok (.arraylength, 1) := by decide +kernel
theorem d12 : decode yB 12 = .ok (.if_icmp (.ge) 20, 3) := by decide +kernel
theorem d15 : decode yB 15 = .ok (.aload_n 0, 1) := by decide +kernel
theorem d16 : decode yB 16 = .ok (.iload_n 2, 1) := by decide +kernel
theorem d17 : decode yB 17 = .ok (.baload, 1) := by decide +kernel
theorem d18 : decode yB 18 = .ok (.aload_n 1, 1) := by decide +kernel
theorem d19 : decode yB 19 = .ok (.iload_n 2, 1) := by decide +kernel
theorem d20 : decode yB 20 = .ok (.baload, 1) := by decide +kernel
theorem d21 : decode yB 21 = .ok (.if_icmp (.eq) 5, 3) := by decide +kernel
theorem d24 : decode yB 24 = .ok (.iconst 0, 1) := by decide +kernel
theorem d25 : decode yB 25 = .ok (.ireturn, 1) := by decide +kernel
theorem d26 : decode yB 26 = .ok (.iinc 2 1, 3) := by decide +kernel
theorem d29 : decode yB 29 = .ok (.goto (-20), 3) := by decide +kernel
theorem d32 : decode yB 32 = .ok (.iconst 1, 1) := by decide +kernel
theorem d33 : decode yB 33 = .ok (.ireturn, 1) := by decide +kernel
theorem d34 : decode yB 34 = .ok (.iconst 0, 1) := by decide +kernel
theorem d35 : decode yB 35 = .ok (.ireturn, 1) := by decide +kernel
def site : List Cond := []
def tab : Cond := tabOf yN yB 3 (some .boolean) site
def P (a : Addr) (A : Cell) (b : Addr) (B : Cell) (args : Array Value) (s : State) : Prop := args = #[.ref a, .ref b] ∧ XT.Arr .byte a A s ∧ Typed .byte A ∧ XT.Arr .byte b B s ∧ Typed .byte B
/-- whether two byte[] are equal, place for place -/
theorem law (l : Launch) (a : Addr) (A : Cell) (b : Addr) (B : Cell) : Law l yN 2 2 0 0 yB 3 (some .boolean) site (P a A b B) (Says01 (EqC A B)) [] 0 0 := by
  refine Law.of_walk (plainFor_of_name (by decide +kernel)) (by decide +kernel) (by decide +kernel) (by decide) (fun _ _ h => by rw [h.1]; rfl) (fun _ U U' hal hh h => ⟨h.1, h.2.1.mv hal hh, h.2.2.1, h.2.2.2.1.mv hal hh, h.2.2.2.2⟩) (fun r U U' V V' h1 hal h2 h => Says01.mv r U U' V V' h1 hal h2 h) ?_
  intro p e s m args below meth c s₁ X0 hexec hbytes hml hret hlk hnm hown hh0 W hP
  obtain ⟨rfl, hA, tA, hB, tB⟩ := hP
  have a31 := hA.2.2.2
  have b31 := hB.2.2.2
  have hA0 := hA.mv X0.warmed.alike hh0
  have hB0 := hB.mv X0.warmed.alike hh0
  have c1 : Steps p.tables e below (s₁.setTop (entryFrame m #[.ref a, .ref b] 3)) (s₁.setTop (mkF m 0 #[.val (.ref a), .val (.ref b), .unset] [])) := entry rfl
  have c2 : Steps p.tables e below (s₁.setTop (entryFrame m #[.ref a, .ref b] 3)) (s₁.setTop (mkF m 4 #[.val (.ref a), .val (.ref b), .unset] [.int (Int32.ofNat B.slots.size), .int (Int32.ofNat A.slots.size)])) := c1.trans (by
    refine XS.aloadN X0.here hexec rfl (hb hbytes d0) rfl rfl ?_
    refine X0.alen hexec hA0 rfl rfl (hb hbytes d1) ?_
    refine XS.aloadN X0.here hexec rfl (hb hbytes d2) rfl rfl ?_
    refine X0.alen hexec hB0 rfl rfl (hb hbytes d3) ?_
    exact Steps.refl _)
  by_cases hs : A.slots.size = B.slots.size
  · have c3 : Steps p.tables e below (s₁.setTop (entryFrame m #[.ref a, .ref b] 3)) (s₁.setTop (mkF m 9 #[.val (.ref a), .val (.ref b), .val (.int 0)] [])) := c2.trans (by
      refine XS.icmpNo X0.here hexec rfl (hb hbytes d4) rfl (ii_ne_f (by rw [hs])) ?_
      refine iconstV X0.here hexec rfl 0 (hb hbytes d7) (by decide) ?_
      refine XS.istoreN X0.here hexec rfl (hb hbytes d8) rfl rfl ?_
      exact Steps.refl _)
    have loop : ∀ (r i : Nat), i + r = A.slots.size → (∀ j, j < i → yv A j = yv B j) → Steps p.tables e below (s₁.setTop (entryFrame m #[.ref a, .ref b] 3)) (s₁.setTop (mkF m 9 #[.val (.ref a), .val (.ref b), .val (.int (Int32.ofNat i))] [])) → ∃ (pc : Nat) (Ls : Array Slot) (v : Int32), (pc = 25 ∨ pc = 33) ∧ ((v = 1 ∧ EqC A B) ∨ (v = 0 ∧ ¬ EqC A B)) ∧ Steps p.tables e below (s₁.setTop (entryFrame m #[.ref a, .ref b] 3)) (s₁.setTop (mkF m pc Ls [.int v])) := by
      intro r
      induction r with
      | zero =>
        intro i hi he cl
        exact ⟨33, _, 1, Or.inr rfl, Or.inl ⟨rfl, hs, fun j hj => he j (by omega)⟩, cl.trans (by
          refine XS.iloadN X0.here hexec rfl (hb hbytes d9) rfl ?_
          refine XS.aloadN X0.here hexec rfl (hb hbytes d10) rfl rfl ?_
          refine X0.alen hexec hA0 rfl rfl (hb hbytes d11) ?_
          refine XS.icmpYes X0.here hexec rfl (pc0 := 12) rfl (hb hbytes d12) rfl (ii_ge_t (nlt32 (by omega) (by omega))) (by decide) rfl ?_
          refine iconstV X0.here hexec rfl 1 (hb hbytes d32) (by decide) ?_
          exact Steps.refl _)⟩
      | succ r ih =>
        intro i hi he cl
        have c4 : Steps p.tables e below (s₁.setTop (entryFrame m #[.ref a, .ref b] 3)) (s₁.setTop (mkF m 21 #[.val (.ref a), .val (.ref b), .val (.int (Int32.ofNat i))] [.int (yv B i), .int (yv A i)])) := cl.trans (by
          refine XS.iloadN X0.here hexec rfl (hb hbytes d9) rfl ?_
          refine XS.aloadN X0.here hexec rfl (hb hbytes d10) rfl rfl ?_
          refine X0.alen hexec hA0 rfl rfl (hb hbytes d11) ?_
          refine XS.icmpNo X0.here hexec rfl (hb hbytes d12) rfl (ii_ge_f (lt32 (by omega) (by omega))) ?_
          refine XS.aloadN X0.here hexec rfl (hb hbytes d15) rfl rfl ?_
          refine XS.iloadN X0.here hexec rfl (hb hbytes d16) rfl ?_
          refine X0.aget hexec hA0 rfl (yv_get hA tA (i := i) (by omega)) rfl rfl (hb hbytes d17) ?_
          refine XS.aloadN X0.here hexec rfl (hb hbytes d18) rfl rfl ?_
          refine XS.iloadN X0.here hexec rfl (hb hbytes d19) rfl ?_
          refine X0.aget hexec hB0 rfl (yv_get hB tB (i := i) (by omega)) rfl rfl (hb hbytes d20) ?_
          exact Steps.refl _)
        by_cases hv : yv A i = yv B i
        · have c5 : Steps p.tables e below (s₁.setTop (entryFrame m #[.ref a, .ref b] 3)) (s₁.setTop (mkF m 9 #[.val (.ref a), .val (.ref b), .val (.int (Int32.ofNat i + 1))] [])) := c4.trans (by
            refine XS.icmpYes X0.here hexec rfl (pc0 := 21) rfl (hb hbytes d21) rfl (ii_eq_t hv) (by decide) rfl ?_
            refine iincV X0.here hexec rfl 1 (hb hbytes d26) (by decide) rfl rfl ?_
            refine XS.goto X0.here hexec rfl (pc0 := 29) rfl (hb hbytes d29) (by decide) rfl ?_
            exact Steps.refl _)
          rw [succ32] at c5
          exact ih (i + 1) (by omega) (fun j hj => by
            by_cases e : j = i
            · rw [e]; exact hv
            · exact he j (by omega)) c5
        · exact ⟨25, _, 0, Or.inl rfl, Or.inr ⟨rfl, fun q => hv (q.2 i (by omega))⟩, c4.trans (by
            refine XS.icmpNo X0.here hexec rfl (hb hbytes d21) rfl (ii_eq_f hv) ?_
            refine iconstV X0.here hexec rfl 0 (hb hbytes d24) (by decide) ?_
            exact Steps.refl _)⟩
    obtain ⟨pc, Ls, v, hpc, hv, cz⟩ := loop A.slots.size 0 (by omega) (fun j hj => absurd hj (Nat.not_lt_zero j)) c3
    have nv : narrow .boolean (.int v) = .int v := by rcases hv with ⟨rfl, -⟩ | ⟨rfl, -⟩ <;> rfl
    rcases hpc with rfl | rfl
    · exact ⟨s₁, some (.int v), _, _, _, X0, rfl, rfl, rfl, (fun h => by cases h), ⟨v, rfl, hh0, hv⟩, fun fs hl => cz.trans (X0.ireturnOut hexec hret nv (Or.inr (Or.inl rfl)) (hb hbytes d25) hl)⟩
    · exact ⟨s₁, some (.int v), _, _, _, X0, rfl, rfl, rfl, (fun h => by cases h), ⟨v, rfl, hh0, hv⟩, fun fs hl => cz.trans (X0.ireturnOut hexec hret nv (Or.inr (Or.inl rfl)) (hb hbytes d33) hl)⟩
  · have c3 : Steps p.tables e below (s₁.setTop (entryFrame m #[.ref a, .ref b] 3)) (s₁.setTop (mkF m 35 #[.val (.ref a), .val (.ref b), .unset] [.int 0])) := c2.trans (by
      refine XS.icmpYes X0.here hexec rfl (pc0 := 4) rfl (hb hbytes d4) rfl (ii_ne_t (ne32 a31 b31 hs)) (by decide) rfl ?_
      refine iconstV X0.here hexec rfl 0 (hb hbytes d34) (by decide) ?_
      exact Steps.refl _)
    exact ⟨s₁, some (.int 0), _, _, _, X0, rfl, rfl, rfl, (fun h => by cases h), ⟨0, rfl, hh0, Or.inr ⟨rfl, fun q => hs q.1⟩⟩, fun fs hl => c3.trans (X0.ireturnOut hexec hret rfl (Or.inr (Or.inl rfl)) (hb hbytes d35) hl)⟩
end LEq
theorem Cod.ty {cd : Int32} {n : Nat} {f : Nat → Int32} {V : Cell} (h : Cod cd n f V) : Typed .byte V := fun i v hv => by
  have hi : i < V.slots.size := (Array.getElem?_eq_some_iff.mp hv).1
  rcases h with ⟨-, k1, k2⟩ | ⟨-, k1, k2, -⟩
  · rw [(k2 i (by omega)).1] at hv; cases hv; exact fits_lo8 _
  · rcases Nat.mod_two_eq_zero_or_one i with e | e
    · obtain ⟨j, rfl⟩ : ∃ j, i = 2 * j := ⟨i / 2, by omega⟩
      rw [(k2 j (by omega)).1] at hv; cases hv; exact fits_lo8 _
    · obtain ⟨j, rfl⟩ : ∃ j, i = 2 * j + 1 := ⟨i / 2, by omega⟩
      rw [(k2 j (by omega)).2] at hv; cases hv; exact fits_lo8 _
/-- the same text -/
def SameT (n : Nat) (f : Nat → Int32) (k : Nat) (g : Nat → Int32) : Prop := n = k ∧ ∀ j, j < n → f j = g j
theorem lo8_inj {x y : Int32} (h0 : ¬ x < 0) (h1 : ¬ 255 < x) (k0 : ¬ y < 0) (k1 : ¬ 255 < y) (h : lo8 x = lo8 y) : x = y := by
  rw [← lo8_mask h0 h1, ← lo8_mask k0 k1, h]
/-- arrays coded by one coder are equal just where the texts are -/
theorem Cod.eqv {cd : Int32} {n k : Nat} {f g : Nat → Int32} {V V' : Cell} (h : Cod cd n f V) (h' : Cod cd k g V') (hf : ∀ j, j < n → ¬ f j < 0 ∧ ¬ 65535 < f j) (hg : ∀ j, j < k → ¬ g j < 0 ∧ ¬ 65535 < g j) : EqC V V' ↔ SameT n f k g := by
  have yvv : ∀ {W : Cell} {i : Nat} {x : Int32}, W.slots[i]? = some (.int x) → yv W i = x := fun q => by unfold yv; rw [q]
  rcases h with ⟨rfl, k1, k2⟩ | ⟨rfl, k1, k2, -⟩
  · rcases h' with ⟨-, m1, m2⟩ | ⟨e, -⟩
    · constructor
      · rintro ⟨e1, e2⟩
        refine ⟨by omega, fun j hj => ?_⟩
        have q := e2 j (by omega)
        rw [yvv (k2 j hj).1, yvv (m2 j (by omega)).1] at q
        exact lo8_inj (hf j hj).1 (k2 j hj).2 (hg j (by omega)).1 (m2 j (by omega)).2 q
      · rintro ⟨rfl, e2⟩
        refine ⟨by omega, fun j hj => ?_⟩
        rw [yvv (k2 j (by omega)).1, yvv (m2 j (by omega)).1, e2 j (by omega)]
    · exact absurd e (by decide)
  · rcases h' with ⟨e, -⟩ | ⟨-, m1, m2, -⟩
    · exact absurd e (by decide)
    · constructor
      · rintro ⟨e1, e2⟩
        refine ⟨by omega, fun j hj => ?_⟩
        have q1 := e2 (2 * j) (by omega)
        have q2 := e2 (2 * j + 1) (by omega)
        rw [yvv (k2 j hj).1, yvv (m2 j (by omega)).1] at q1
        rw [yvv (k2 j hj).2, yvv (m2 j (by omega)).2] at q2
        rw [← pair_says (hf j hj).1 (hf j hj).2, ← pair_says (hg j (by omega)).1 (hg j (by omega)).2, q1, q2]
      · rintro ⟨rfl, e2⟩
        refine ⟨by omega, fun i hi => ?_⟩
        rcases Nat.mod_two_eq_zero_or_one i with e | e
        · obtain ⟨j, rfl⟩ : ∃ j, i = 2 * j := ⟨i / 2, by omega⟩
          rw [yvv (k2 j (by omega)).1, yvv (m2 j (by omega)).1, e2 j (by omega)]
        · obtain ⟨j, rfl⟩ : ∃ j, i = 2 * j + 1 := ⟨i / 2, by omega⟩
          rw [yvv (k2 j (by omega)).2, yvv (m2 j (by omega)).2, e2 j (by omega)]
/-- two codings differ: so do the texts -/
theorem Cod.dif {cd cd' : Int32} {n k : Nat} {f g : Nat → Int32} {V V' : Cell} (h : Cod cd n f V) (h' : Cod cd' k g V') (hne : ¬ cd = cd') : ¬ SameT n f k g := by
  rintro ⟨rfl, e⟩
  rcases h with ⟨rfl, -, k2⟩ | ⟨rfl, -, -, j, hj, hw⟩
  · rcases h' with ⟨rfl, -⟩ | ⟨-, -, -, j, hj, hw⟩
    · exact hne rfl
    · exact (k2 j hj).2 (by rw [e j hj]; exact hw)
  · rcases h' with ⟨-, -, m2⟩ | ⟨rfl, -⟩
    · exact (m2 j hj).2 (by rw [← e j hj]; exact hw)
    · exact hne rfl
/-- an object of exactly C is an instance of C -/
theorem cinst {p : Program} {l : Launch} {e : Env} {R : Room} {s : State} {m : MethodId} {args : Array Value} {below : List Frame} {meth : Method} {c : Code} {T : State} {locs : List Loc} {cells slots : Nat} (X : Stand p l e R s m args below meth c T locs cells slots) (hexec : p.tables.exec = Jvm.exec) {own C : String} {index : Nat} (hown : s.vm.findClass own = some m.cls) (hlink : (Cond.classLink own index C).before args s = true) {a : Addr} (hE : Exact C a T)
    {g : JFrame} (hg : g.method = m) {rest : List Value} (hstack : g.stack = .ref a :: rest) (hdg : decode c.code g.pc = .ok (.instanceof index, 3)) :
    ∃ T', Stand p l e R s m args below meth c T' locs cells slots ∧ T'.heap = T.heap ∧ ∀ target, Steps p.tables e below (T'.setTop { g with pc := g.pc + 3, stack := .int 1 :: rest }) target → Steps p.tables e below (T.setTop g) target := by
  obtain ⟨cB, h1, D, h2, h3, h4⟩ := hE
  have h1' : s.vm.findClass C = some cB := by rw [← X.warmed.alike.findClass]; exact h1
  obtain ⟨vm', X', st⟩ := X.instanceofYes hexec hown hlink h2 h4 h1' (by rw [h3]; exact Jvm.Free.SB.assignable_self _ _) hg hstack hdg
  exact ⟨_, X', rfl, st⟩
theorem cself {p : Program} {l : Launch} {e : Env} {R : Room} {s : State} {m : MethodId} {args : Array Value} {below : List Frame} {meth : Method} {c : Code} {T : State} {locs : List Loc} {cells slots : Nat} (X : Stand p l e R s m args below meth c T locs cells slots) (hexec : p.tables.exec = Jvm.exec) {own C : String} {index : Nat} (hown : s.vm.findClass own = some m.cls) (hlink : (Cond.classLink own index C).before args s = true) {a : Addr} (hE : Exact C a T)
    {g : JFrame} (hg : g.method = m) {rest : List Value} (hstack : g.stack = .ref a :: rest) (hdg : decode c.code g.pc = .ok (.checkcast index, 3)) :
    ∃ T', Stand p l e R s m args below meth c T' locs cells slots ∧ T'.heap = T.heap ∧ ∀ target, Steps p.tables e below (T'.setTop { g with pc := g.pc + 3, stack := .ref a :: rest }) target → Steps p.tables e below (T.setTop g) target := by
  obtain ⟨cB, h1, D, h2, h3, h4⟩ := hE
  have h1' : s.vm.findClass C = some cB := by rw [← X.warmed.alike.findClass]; exact h1
  obtain ⟨vm', X', st⟩ := X.checkcastYes hexec hown hlink h2 h4 h1' (by rw [h3]; exact Jvm.Free.SB.assignable_self _ _) hg hstack hdg
  exact ⟨_, X', rfl, fun t h => st t (by rw [← hstack] at h; exact h)⟩
namespace SEq
def yN : MethodName := ⟨"java/lang/String", "equals", "(Ljava/lang/Object;)Z"⟩
abbrev yB : ByteArray := jdk_42_method_66_code
theorem d0 : decode yB 0 = .ok (.aload_n 0, 1) := by decide +kernel
theorem d1 : decode yB 1 = .ok (.aload_n 1, 1) := by decide +kernel
theorem d2 : decode yB 2 = .ok (.if_acmp (.ne) 5, 3) := by decide +kernel
theorem d5 : decode yB 5 = .ok (.iconst 1, 1) := by decide +kernel
theorem d6 : decode yB 6 = .ok (.ireturn, 1) := by decide +kernel
theorem d7 : decode yB 7 = .ok (.aload_n 1, 1) := by decide +kernel
theorem d8 : decode yB 8 = .ok (.instanceof 10, 3) := by decide +kernel
theorem d11 : decode yB 11 = .ok (.ifCond (.eq) 43, 3) := by decide +kernel
theorem d14 : decode yB 14 = .ok (.aload_n 1, 1) := by decide +kernel
theorem d15 : decode yB 15 = .ok (.checkcast 10, 3) := by decide +kernel
theorem d18 : decode yB 18 = .ok (.astore_n 2, 1) := by decide +kernel
theorem d19 : decode yB 19 = .ok (.getstatic 38, 3) := by decide +kernel
theorem d22 : decode yB 22 = .ok (.ifCond (.eq) 14, 3) := by decide +kernel
theorem d25 : decode yB 25 = .ok (.aload_n 0, 1) := by decide +kernel
theorem d26 : decode yB 26 = .ok (.getfield 15, 3) := by decide +kernel
theorem d29 : decode yB 29 = .ok (.aload_n 2, 1) := by decide +kernel
theorem d30 : decode yB 30 = .ok (.getfield 15, 3) := by decide +kernel
theorem d33 : decode yB 33 = .ok (.if_icmp (.ne) 21, 3) := by decide +kernel
theorem d36 : decode yB 36 = .ok (.aload_n 0, 1) := by decide +kernel
theorem d37 : decode yB 37 = .ok (.getfield 9, 3) := by decide +kernel
theorem d40 : decode yB 40 = .ok (.aload_n 2, 1) := by decide +kernel
theorem d41 : decode yB 41 = .ok (.getfield 9, 3) := by decide +kernel
theorem d44 : decode yB 44 = .ok (.invokestatic 541, 3) := by decide +kernel
theorem d47 : decode yB 47 = .ok (.ifCond (.eq) 7, 3) := by decide +kernel
theorem d50 : decode yB 50 = .ok (.iconst 1, 1) := by decide +kernel
theorem d51 : decode yB 51 = .ok (.goto 4, 3) := by decide +kernel
theorem d54 : decode yB 54 = .ok (.iconst 0, 1) := by decide +kernel
theorem d55 : decode yB 55 = .ok (.ireturn, 1) := by decide +kernel
def site : List Cond := [.classLink "java/lang/String" 10 "java/lang/String", .fieldLink "java/lang/String" 38 "java/lang/String" "COMPACT_STRINGS" "Z", .fieldLink "java/lang/String" 15 "java/lang/String" "coder" "B", .fieldLink "java/lang/String" 9 "java/lang/String" "value" "[B", LEq.tab] ++ staticW "java/lang/String" 541 LEq.yN
def tab : Cond := tabOf yN yB 3 (some .boolean) site
def P (x t : Addr) (V : Cell) (cd : Int32) (n : Nat) (f : Nat → Int32) (y t' : Addr) (V' : Cell) (cd' : Int32) (k : Nat) (g : Nat → Int32) (z : Int32) (args : Array Value) (s : State) : Prop := args = #[.ref x, .ref y] ∧ Txt x t V cd n f s ∧ Txt y t' V' cd' k g s ∧ StaticIs s "java/lang/String" "COMPACT_STRINGS" "Z" (.int z) ∧ ¬ z = 0
/-- equals(Object) of two Strings: whether the texts are the same -/
theorem law (l : Launch) (x t : Addr) (V : Cell) (cd : Int32) (n : Nat) (f : Nat → Int32) (y t' : Addr) (V' : Cell) (cd' : Int32) (k : Nat) (g : Nat → Int32) (z : Int32) : Law l yN 2 1 1 14 yB 3 (some .boolean) site (P x t V cd n f y t' V' cd' k g z) (Says01 (SameT n f k g)) [] 0 0 := by
  refine Law.of_walk (plainFor_of_name (by decide +kernel)) (by decide +kernel) (by decide +kernel) (by decide) (fun _ _ h => by rw [h.1]; rfl) (fun _ U U' hal hh h => ⟨h.1, h.2.1.mv hal hh, h.2.2.1.mv hal hh, h.2.2.2.1.there hal hh, h.2.2.2.2⟩) (fun r U U' V V' h1 hal h2 h => Says01.mv r U U' V V' h1 hal h2 h) ?_
  intro p e s m args below meth c s₁ X0 hexec hbytes hml hret hlk hnm hown hh0 W hP
  obtain ⟨rfl, hx, hy, s1, hz⟩ := hP
  have c1 : Steps p.tables e below (s₁.setTop (entryFrame m #[.ref x, .ref y] 3)) (s₁.setTop (mkF m 2 #[.val (.ref x), .val (.ref y), .unset] [.ref y, .ref x])) := Steps.trans (entry rfl) (by
    show Steps p.tables e below (s₁.setTop (mkF m 0 #[.val (.ref x), .val (.ref y), .unset] [])) _
    refine XS.aloadN X0.here hexec rfl (hb hbytes d0) rfl rfl ?_
    refine XS.aloadN X0.here hexec rfl (hb hbytes d1) rfl rfl ?_
    exact Steps.refl _)
  by_cases hxy : x = y
  · have c2 : Steps p.tables e below (s₁.setTop (entryFrame m #[.ref x, .ref y] 3)) (s₁.setTop (mkF m 6 #[.val (.ref x), .val (.ref y), .unset] [.int 1])) := c1.trans (by
      refine acmpNo X0.here hexec rfl (hb hbytes d2) rfl rfl rfl (by simp [acmp, hxy]) ?_
      refine iconstV X0.here hexec rfl 1 (hb hbytes d5) (by decide) ?_
      exact Steps.refl _)
    subst hxy
    have ec : cd = cd' := by
      obtain ⟨D, fd, a1, a2, a3⟩ := hx.2.2.1
      obtain ⟨D', fd', b1, b2, b3⟩ := hy.2.2.1
      cases a1.symm.trans b1
      obtain ⟨q1, q2, q3, q4⟩ := a2.1
      obtain ⟨r1, r2, r3, r4⟩ := b2.1
      cases q4.symm.trans r4
      cases a3.symm.trans b3; rfl
    have et : t = t' := by
      obtain ⟨D, fd, a1, a2, a3⟩ := hx.2.1
      obtain ⟨D', fd', b1, b2, b3⟩ := hy.2.1
      cases a1.symm.trans b1
      obtain ⟨q1, q2, q3, q4⟩ := a2.1
      obtain ⟨r1, r2, r3, r4⟩ := b2.1
      cases q4.symm.trans r4
      cases a3.symm.trans b3; rfl
    subst ec et
    have ev : V = V' := by cases hx.2.2.2.1.1.symm.trans hy.2.2.2.1.1; rfl
    subst ev
    have hs : SameT n f k g := (Cod.eqv hx.2.2.2.2.1 hy.2.2.2.2.1 hx.2.2.2.2.2 hy.2.2.2.2.2).mp ⟨rfl, fun _ _ => rfl⟩
    exact ⟨s₁, some (.int 1), _, _, _, X0, rfl, rfl, rfl, (fun h => by cases h), ⟨1, rfl, hh0, Or.inl ⟨rfl, hs⟩⟩, fun fs hl => c2.trans (X0.ireturnOut hexec hret rfl (Or.inr (Or.inl rfl)) (hb hbytes d6) hl)⟩
  · have c2 : Steps p.tables e below (s₁.setTop (entryFrame m #[.ref x, .ref y] 3)) (s₁.setTop (mkF m 8 #[.val (.ref x), .val (.ref y), .unset] [.ref y])) := c1.trans (by
      refine acmpYes X0.here hexec rfl (pc0 := 2) rfl (hb hbytes d2) rfl rfl rfl (by simp [acmp, hxy]) (by decide) rfl ?_
      refine XS.aloadN X0.here hexec rfl (hb hbytes d7) rfl rfl ?_
      exact Steps.refl _)
    obtain ⟨T3, X3, q3, st3⟩ := cinst X0 hexec hown (wk W (.classLink "java/lang/String" 10 "java/lang/String")) (hy.mv X0.warmed.alike hh0).1 (g := (mkF m 8 #[.val (.ref x), .val (.ref y), .unset] [.ref y])) rfl (rest := []) rfl (hb hbytes d8)
    have hh3 := q3.trans hh0
    have c4 : Steps p.tables e below (s₁.setTop (entryFrame m #[.ref x, .ref y] 3)) (T3.setTop (mkF m 15 #[.val (.ref x), .val (.ref y), .unset] [.ref y])) := (c2.trans (st3 _ (Steps.refl _))).trans (by
      refine XS.ifNo X3.here hexec rfl (hb hbytes d11) rfl (i0_eq_f (by decide)) ?_
      refine XS.aloadN X3.here hexec rfl (hb hbytes d14) rfl rfl ?_
      exact Steps.refl _)
    obtain ⟨T5, X5, q5, st5⟩ := cself X3 hexec hown (wk W (.classLink "java/lang/String" 10 "java/lang/String")) (hy.mv X3.warmed.alike hh3).1 (g := (mkF m 15 #[.val (.ref x), .val (.ref y), .unset] [.ref y])) rfl (rest := []) rfl (hb hbytes d15)
    have hh5 := q5.trans hh3
    have c6 : Steps p.tables e below (s₁.setTop (entryFrame m #[.ref x, .ref y] 3)) (T5.setTop (mkF m 19 #[.val (.ref x), .val (.ref y), .val (.ref y)] [])) := (c4.trans (st5 _ (Steps.refl _))).trans (by
      refine XS.astoreN X5.here hexec rfl (hb hbytes d18) rfl rfl rfl ?_
      exact Steps.refl _)
    obtain ⟨T7, X7, q7, st7⟩ := X5.sget hexec hown (wk W (.fieldLink "java/lang/String" 38 "java/lang/String" "COMPACT_STRINGS" "Z")) s1 (fun _ _ h => by rw [hh5]; exact h) (g := (mkF m 19 #[.val (.ref x), .val (.ref y), .val (.ref y)] [])) rfl (hb hbytes d19)
    have hh7 := q7.trans hh5
    have c8 : Steps p.tables e below (s₁.setTop (entryFrame m #[.ref x, .ref y] 3)) (T7.setTop (mkF m 26 #[.val (.ref x), .val (.ref y), .val (.ref y)] [.ref x])) := (c6.trans (st7 _ (Steps.refl _))).trans (by
      refine XS.ifNo X7.here hexec rfl (hb hbytes d22) rfl (i0_eq_f hz) ?_
      refine XS.aloadN X7.here hexec rfl (hb hbytes d25) rfl rfl ?_
      exact Steps.refl _)
    obtain ⟨T9, X9, q9, st9⟩ := X7.hget hexec hown (wk W (.fieldLink "java/lang/String" 15 "java/lang/String" "coder" "B")) (hx.mv X7.warmed.alike hh7).2.2.1 (g := (mkF m 26 #[.val (.ref x), .val (.ref y), .val (.ref y)] [.ref x])) rfl (rest := []) rfl (hb hbytes d26)
    have hh9 := q9.trans hh7
    have c10 : Steps p.tables e below (s₁.setTop (entryFrame m #[.ref x, .ref y] 3)) (T9.setTop (mkF m 30 #[.val (.ref x), .val (.ref y), .val (.ref y)] [.ref y, .int cd])) := (c8.trans (st9 _ (Steps.refl _))).trans (by
      refine XS.aloadN X9.here hexec rfl (hb hbytes d29) rfl rfl ?_
      exact Steps.refl _)
    obtain ⟨T11, X11, q11, st11⟩ := X9.hget hexec hown (wk W (.fieldLink "java/lang/String" 15 "java/lang/String" "coder" "B")) (hy.mv X9.warmed.alike hh9).2.2.1 (g := (mkF m 30 #[.val (.ref x), .val (.ref y), .val (.ref y)] [.ref y, .int cd])) rfl (rest := [.int cd]) rfl (hb hbytes d30)
    have hh11 := q11.trans hh9
    have c12 : Steps p.tables e below (s₁.setTop (entryFrame m #[.ref x, .ref y] 3)) (T11.setTop (mkF m 33 #[.val (.ref x), .val (.ref y), .val (.ref y)] [.int cd', .int cd])) := c10.trans (st11 _ (Steps.refl _))
    by_cases hcd : cd = cd'
    · subst hcd
      have c13 : Steps p.tables e below (s₁.setTop (entryFrame m #[.ref x, .ref y] 3)) (T11.setTop (mkF m 37 #[.val (.ref x), .val (.ref y), .val (.ref y)] [.ref x])) := c12.trans (by
        refine XS.icmpNo X11.here hexec rfl (hb hbytes d33) rfl (ii_ne_f rfl) ?_
        refine XS.aloadN X11.here hexec rfl (hb hbytes d36) rfl rfl ?_
        exact Steps.refl _)
      obtain ⟨T14, X14, q14, st14⟩ := X11.hget hexec hown (wk W (.fieldLink "java/lang/String" 9 "java/lang/String" "value" "[B")) (hx.mv X11.warmed.alike hh11).2.1 (g := (mkF m 37 #[.val (.ref x), .val (.ref y), .val (.ref y)] [.ref x])) rfl (rest := []) rfl (hb hbytes d37)
      have hh14 := q14.trans hh11
      have c15 : Steps p.tables e below (s₁.setTop (entryFrame m #[.ref x, .ref y] 3)) (T14.setTop (mkF m 41 #[.val (.ref x), .val (.ref y), .val (.ref y)] [.ref y, .ref t])) := (c13.trans (st14 _ (Steps.refl _))).trans (by
        refine XS.aloadN X14.here hexec rfl (hb hbytes d40) rfl rfl ?_
        exact Steps.refl _)
      obtain ⟨T16, X16, q16, st16⟩ := X14.hget hexec hown (wk W (.fieldLink "java/lang/String" 9 "java/lang/String" "value" "[B")) (hy.mv X14.warmed.alike hh14).2.1 (g := (mkF m 41 #[.val (.ref x), .val (.ref y), .val (.ref y)] [.ref y, .ref t])) rfl (rest := [.ref t]) rfl (hb hbytes d41)
      have hh16 := q16.trans hh14
      have c17 : Steps p.tables e below (s₁.setTop (entryFrame m #[.ref x, .ref y] 3)) (T16.setTop (mkF m 44 #[.val (.ref x), .val (.ref y), .val (.ref y)] [.ref t', .ref t])) := c15.trans (st16 _ (Steps.refl _))
      obtain ⟨v18, T18, X18, E18, g18⟩ := X16.callS hexec (LEq.law l t V t' V') hown (wks W (staticW "java/lang/String" 541 LEq.yN)) (wk W LEq.tab) (W := 0) (Nat.le_of_ble_eq_true rfl) (Nat.le_of_ble_eq_true rfl) (Nat.le_refl _) (Nat.le_refl _) (g := (mkF m 44 #[.val (.ref x), .val (.ref y), .val (.ref y)] [.ref t', .ref t])) rfl (by rw [hml]; rfl) c17 (argsL := [.ref t, .ref t']) (rest := []) rfl rfl (by show 2 * 0 + 0 ≤ _; decide) (hb hbytes d44) (⟨rfl, hx.2.2.2.1.mv X16.warmed.alike hh16, hx.2.2.2.2.1.ty, hy.2.2.2.1.mv X16.warmed.alike hh16, hy.2.2.2.2.1.ty⟩)
      obtain ⟨v, rfl, q18, hv⟩ := E18
      have iff := Cod.eqv hx.2.2.2.2.1 hy.2.2.2.2.1 hx.2.2.2.2.2 hy.2.2.2.2.2
      rcases hv with ⟨rfl, he⟩ | ⟨rfl, he⟩
      · have c19 : Steps p.tables e below (s₁.setTop (entryFrame m #[.ref x, .ref y] 3)) (T18.setTop (mkF m 55 #[.val (.ref x), .val (.ref y), .val (.ref y)] [.int 1])) := Steps.trans g18 (by
          refine XS.ifNo X18.here hexec rfl (hb hbytes d47) rfl (i0_eq_f (by decide)) ?_
          refine iconstV X18.here hexec rfl 1 (hb hbytes d50) (by decide) ?_
          refine XS.goto X18.here hexec rfl (pc0 := 51) rfl (hb hbytes d51) (by decide) rfl ?_
          exact Steps.refl _)
        exact ⟨T18, some (.int 1), _, _, _, X18, rfl, rfl, rfl, (fun h => by cases h), ⟨1, rfl, q18.trans hh16, Or.inl ⟨rfl, iff.mp he⟩⟩, fun fs hl => c19.trans (X18.ireturnOut hexec hret rfl (Or.inr (Or.inl rfl)) (hb hbytes d55) hl)⟩
      · have c19 : Steps p.tables e below (s₁.setTop (entryFrame m #[.ref x, .ref y] 3)) (T18.setTop (mkF m 55 #[.val (.ref x), .val (.ref y), .val (.ref y)] [.int 0])) := Steps.trans g18 (by
          refine XS.ifYes X18.here hexec rfl (pc0 := 47) rfl (hb hbytes d47) rfl (i0_eq_t rfl) (by decide) rfl ?_
          refine iconstV X18.here hexec rfl 0 (hb hbytes d54) (by decide) ?_
          exact Steps.refl _)
        exact ⟨T18, some (.int 0), _, _, _, X18, rfl, rfl, rfl, (fun h => by cases h), ⟨0, rfl, q18.trans hh16, Or.inr ⟨rfl, fun q => he (iff.mpr q)⟩⟩, fun fs hl => c19.trans (X18.ireturnOut hexec hret rfl (Or.inr (Or.inl rfl)) (hb hbytes d55) hl)⟩
    · have c13 : Steps p.tables e below (s₁.setTop (entryFrame m #[.ref x, .ref y] 3)) (T11.setTop (mkF m 55 #[.val (.ref x), .val (.ref y), .val (.ref y)] [.int 0])) := c12.trans (by
        refine XS.icmpYes X11.here hexec rfl (pc0 := 33) rfl (hb hbytes d33) rfl (ii_ne_t hcd) (by decide) rfl ?_
        refine iconstV X11.here hexec rfl 0 (hb hbytes d54) (by decide) ?_
        exact Steps.refl _)
      exact ⟨T11, some (.int 0), _, _, _, X11, rfl, rfl, rfl, (fun h => by cases h), ⟨0, rfl, hh11, Or.inr ⟨rfl, Cod.dif hx.2.2.2.2.1 hy.2.2.2.2.1 hcd⟩⟩, fun fs hl => c13.trans (X11.ireturnOut hexec hret rfl (Or.inr (Or.inl rfl)) (hb hbytes d55) hl)⟩
theorem pays {l : Launch} {R : Room} {p : Program} {e : Env} {below : List Frame} {s : State} {sargs : Array Value} {len W : Nat} (x t : Addr) (V : Cell) (cd : Int32) (n : Nat) (f : Nat → Int32) (y t' : Addr) (V' : Cell) (cd' : Int32) (k : Nat) (g : Nat → Int32) (z : Int32) (htab : tab.before sargs s = true) (hfr : 2 ≤ R.frames) (hlo : W + 28 ≤ R.locals) :
    Back l R p e below s sargs yN len W (fun A₁ a₁ => A₁.cells + 0 ≤ R.cells ∧ A₁.slots + 0 ≤ R.slots ∧ P x t V cd n f y t' V' cd' k g z a₁ A₁.U) (fun A₁ _ v₁ B₁ => Says01 (SameT n f k g) v₁ A₁.U B₁.U ∧ B₁.locs = A₁.locs ++ [] ∧ B₁.cells = A₁.cells + 0 ∧ B₁.slots = A₁.slots + 0) :=
  (law l x t V cd n f y t' V' cd' k g z).pays htab hfr (by omega)
end SEq
end StrChars
namespace StrChars.Road
open Jvm Sem ClassFile Op Lib Jvm.Stand Jvm.Free Jvm.Free.XT
open Jvm.Lib.Cold (StaticIs)
/-- the words of String.equals(Object) -/
abbrev wordsEq : List Jvm.Cond := [.code SEq.yN SEq.yB 3 (some .boolean), .initialized ST, .classLink ST 10 ST, .fieldLink ST 38 ST "COMPACT_STRINGS" "Z", .fieldLink ST 15 ST "coder" "B", .fieldLink ST 9 ST "value" "[B", .methodLink ST 541 LEq.yN, .static LEq.yN, .code LEq.yN LEq.yB 3 (some .boolean), .initialized "java/lang/StringLatin1"]
theorem tabEq_of {a : Array Value} {s : State} (h : ∀ w ∈ wordsEq, w.before a s = true) : SEq.tab.before a s = true := by
  have hl : LEq.tab.before a s = true := unparts (wk h (.code LEq.yN LEq.yB 3 (some .boolean))) (wks h (.initialized LEq.yN.cls :: LEq.site))
  have q := consq hl h
  exact unparts (wk q (.code SEq.yN SEq.yB 3 (some .boolean))) (wks q (.initialized SEq.yN.cls :: SEq.site))
theorem movedEq {Z s : State} {a0 args : Array Value} (hZ : Z.Warmed39 s.vm) (hw : ∀ d ∈ wordsEq, d.before a0 Z = true) : ∀ d ∈ wordsEq, d.before args s = true := fun d hd => by
  have t : ∀ d ∈ wordsEq, (d.onTables && d.keepsFace) = true := by decide +kernel
  exact RoadKit.mv hZ (hw d hd) (t d hd)
/-- the road's facts of a String, as the laws ask it -/
theorem txt_of {Z U : State} {a0 : Array Value} {kI : Nat} (wi : (Jvm.Cond.instantiable ST kI).before a0 Z = true) (al : Z.vm.Alike U.vm) {x t : Addr} {kb : ClassId} {cs : List Int32} {cd N2 : Int32} {vs : List Value} (E : RoadKit.Exa Z U.heap x ST) (V : RoadKit.Fld Z U.heap x ST "value" "[B" (.ref t)) (C : RoadKit.Fld Z U.heap x ST "coder" "B" (.int cd)) (K : RoadKit.Arv Z U.heap t kb .byte N2 vs (.int 0)) (hc : CodA cs cd N2 vs) (hb : ∀ c ∈ cs, ¬ c < 0 ∧ ¬ (65535 : Int32) < c) (l2 : cs.length ≤ 4000) :
    ∃ A, Txt x t A cd cs.length (fun j => cs.getD j 0) U := by
  obtain ⟨A, K1, K2, K3, K4, K5, K6⟩ := K
  have hcod := hc.cod (by omega) K3 K5
  obtain ⟨D, fV, fC, hB, F1, F2, g1, g2, -, -⟩ := strObj wi al E V C
  exact ⟨A, ⟨_, hB.2.2.1, D, hB.1, rfl, by cases q : D.vm <;> first | rfl | exact absurd q (hB.2.1.2 _)⟩, Has.of hB F1 g1, Has.of hB F2 g2, ⟨K1.1, State.isArrayOf_alike al K1.2.1, K1.2.2, by rcases hcod with ⟨-, q, -⟩ | ⟨-, q, -⟩ <;> omega⟩, hcod, fun j hj => by
    have e : cs.getD j 0 = cs[j] := by simp [List.getD_eq_getElem?_getD, hj]
    show ¬ cs.getD j 0 < 0 ∧ ¬ 65535 < cs.getD j 0
    rw [e]; exact hb _ (List.getElem_mem _)⟩
theorem same_list (cs ds : List Int32) : SameT cs.length (fun j => cs.getD j 0) ds.length (fun j => ds.getD j 0) ↔ cs = ds := by
  constructor
  · rintro ⟨e, q⟩
    refine List.ext_getElem e fun j h1 h2 => ?_
    have := q j h1
    simpa [List.getD_eq_getElem?_getD, h1, h2] using this
  · rintro rfl
    exact ⟨rfl, fun _ _ => rfl⟩
/-- **equals(Object) OF TWO SUCH STRINGS**: 1 just where the chars are the same -/
theorem eqW {p : Program} {l : Launch} {e : Env} {R : Room} {s : State} {args : Array Value} {below : List Frame} {len W : Nat} {Z : State} {a0 : Array Value} {h : Heap} (hZ : Z.Warmed39 s.vm) (hw : ∀ d ∈ wordsEq, d.before a0 Z = true) {kI : Nat} (wi : (Jvm.Cond.instantiable ST kI).before a0 Z = true)
    {x t : Addr} {kb : ClassId} {cs : List Int32} {cd N2 : Int32} {vs : List Value} (E : RoadKit.Exa Z h x ST) (V : RoadKit.Fld Z h x ST "value" "[B" (.ref t)) (C : RoadKit.Fld Z h x ST "coder" "B" (.int cd)) (K : RoadKit.Arv Z h t kb .byte N2 vs (.int 0)) (hc : CodA cs cd N2 vs) (hb : ∀ c ∈ cs, ¬ c < 0 ∧ ¬ (65535 : Int32) < c) (l2 : cs.length ≤ 4000)
    {y t' : Addr} {kb' : ClassId} {ds : List Int32} {cd' N2' : Int32} {vs' : List Value} (E' : RoadKit.Exa Z h y ST) (V' : RoadKit.Fld Z h y ST "value" "[B" (.ref t')) (C' : RoadKit.Fld Z h y ST "coder" "B" (.int cd')) (K' : RoadKit.Arv Z h t' kb' .byte N2' vs' (.int 0)) (hc' : CodA ds cd' N2' vs') (hb' : ∀ c ∈ ds, ¬ c < 0 ∧ ¬ (65535 : Int32) < c) (l2' : ds.length ≤ 4000)
    {z : Int32} (S : RoadKit.Sta Z h ST "COMPACT_STRINGS" "Z" (.int z)) (hz : ¬ z = 0) (hfr : 2 ≤ R.frames) (hlo : W + 28 ≤ R.locals) :
    Back l R p e below s args (⟨"java/lang/String", "equals", "(Ljava/lang/Object;)Z"⟩ : MethodName) len W (fun P a => a = #[.ref x, .ref y] ∧ P.U.heap = h ∧ P.cells + 0 ≤ R.cells ∧ P.slots + 0 ≤ R.slots)
      (fun P _ v B => ∃ L, (((v = some (.int 1) ∧ cs = ds) ∨ (v = some (.int 0) ∧ ¬ cs = ds)) ∧ L = [] ∧ B.U.heap = h) ∧ B.locs = P.locs ++ L ∧ B.cells = P.cells + 0 ∧ B.slots = P.slots + 0) := by
  intro m meth c P g ig mk a X hg hsize hdg hW hn hp'
  obtain ⟨rfl, rfl, r1, r2⟩ := hp'
  have al : Z.vm.Alike P.U.vm := hZ.alike.trans X.warmed.alike
  obtain ⟨A, hx⟩ := txt_of wi al E V C K hc hb l2
  obtain ⟨A', hy⟩ := txt_of wi al E' V' C' K' hc' hb' l2'
  obtain ⟨v, B, X', ⟨⟨w, hv, hh, hq⟩, hl, hk, hs⟩, st⟩ := SEq.pays x t A cd cs.length (fun j => cs.getD j 0) y t' A' cd' ds.length (fun j => ds.getD j 0) z (tabEq_of (movedEq hZ hw)) hfr hlo m meth c P g ig mk _ X hg hsize hdg hW hn ⟨r1, r2, rfl, hx, hy, sta_is al S, hz⟩
  refine ⟨v, B, X', ⟨[], ⟨?_, rfl, hh⟩, hl, hk, hs⟩, st⟩
  rcases hq with ⟨rfl, q⟩ | ⟨rfl, q⟩
  · exact Or.inl ⟨hv, (same_list cs ds).mp q⟩
  · exact Or.inr ⟨hv, fun e => q ((same_list cs ds).mpr e)⟩
end StrChars.Road
namespace StrChars.Road
open Jvm Sem ClassFile Op Lib Jvm.Stand Jvm.Free Jvm.Free.XT
open Jvm.Lib.Cold (StaticIs)
/-- what backV says of its String, as the contracts of this text ask it: cs's low bytes, coder 0 -/
theorem codOf {cs : List Int32} {n : Nat} (hn : cs.length = n) (hb : ∀ c ∈ cs, ¬ 255 < c) : CodA cs 0 (Int32.ofNat n) ((cs.map lo8).map Value.int) := Or.inl ⟨rfl, by rw [hn], by simp [List.map_map, Function.comp_def], hb⟩
end StrChars.Road
end Jvm.Pilot.@@N@@
namespace Jvm.Pilot.@@N@@
open Jvm Jvm.ClassFile Sem Op Lib Jvm.Free Jvm.Stand Jvm.LawKit Jvm.RoadKit Bundle Jvm.Pilot.@@N@@.Jvm.D
theorem paysEq {p : Program} {l : Launch} {e : Env} {R : Room} {s : State} {args : Array Value} {below : List Frame} {len W : Nat} {Z : State} {a0 : Array Value} {h : Heap} (hZ : Z.Warmed39 s.vm) (hw : ∀ d ∈ StrChars.Road.wordsEq, d.before a0 Z = true) {kI : Nat} (wi : (Jvm.Cond.instantiable StrChars.Road.ST kI).before a0 Z = true) {x t : Addr} {kb : ClassId} {cs : List Int32} {cd N : Int32} {vs : List Value} (E : RoadKit.Exa Z h x StrChars.Road.ST) (F : RoadKit.Fld Z h x StrChars.Road.ST "value" "[B" (.ref t)) (C : RoadKit.Fld Z h x StrChars.Road.ST "coder" "B" (.int cd)) (A : RoadKit.Arv Z h t kb .byte N vs (.int 0)) (hc : StrChars.Road.CodA cs cd N vs) (hb : ∀ c ∈ cs, ¬ c < 0 ∧ ¬ (65535 : Int32) < c) (l2 : cs.length ≤ 4000) {x' t' : Addr} {kb' : ClassId} {cs' : List Int32} {cd' N' : Int32} {vs' : List Value} (E' : RoadKit.Exa Z h x' StrChars.Road.ST) (F' : RoadKit.Fld Z h x' StrChars.Road.ST "value" "[B" (.ref t')) (C' : RoadKit.Fld Z h x' StrChars.Road.ST "coder" "B" (.int cd')) (A' : RoadKit.Arv Z h t' kb' .byte N' vs' (.int 0)) (hc' : StrChars.Road.CodA cs' cd' N' vs') (hb' : ∀ c ∈ cs', ¬ c < 0 ∧ ¬ (65535 : Int32) < c) (l2' : cs'.length ≤ 4000) {z : Int32} (S : RoadKit.Sta Z h StrChars.Road.ST "COMPACT_STRINGS" "Z" (.int z)) (hz : ¬ z = 0) (hfr : 2 ≤ R.frames) (hlo : W + 28 ≤ R.locals) : Pays l R p e below s args (⟨"java/lang/String", "equals", "(Ljava/lang/Object;)Z"⟩ : MethodName) len W #[.ref x, .ref x'] h 0 0 (fun v h' L => ((v = some (.int 1) ∧ cs = cs') ∨ (v = some (.int 0) ∧ ¬ cs = cs')) ∧ L = [] ∧ h' = h) :=
  StrChars.Road.eqW hZ hw wi E F C A hc hb l2 E' F' C' A' hc' hb' l2' S hz hfr hlo
theorem paysNew {p : Program} {l : Launch} {e : Env} {R : Room} {s : State} {args : Array Value} {below : List Frame} {len W : Nat} {Z : State} {a0 : Array Value} {h : Heap} (hZ : Z.Warmed39 s.vm) (hw : ∀ d ∈ StrChars.Road.words, d.before a0 Z = true) {kI : Nat} (wi : (Jvm.Cond.instantiable StrChars.Road.ST kI).before a0 Z = true) {x b : Addr} {kC : ClassId} {cs bs : List Int32} {d v0 c0 : Value} {z N : Int32} {n n0 : Nat} (hx0 : n0 ≤ x) (hh0 : n0 ≤ h.size) (E : RoadKit.Exa Z h x StrChars.Road.ST) (F : RoadKit.Fld Z h x StrChars.Road.ST "value" "[B" v0) (C : RoadKit.Fld Z h x StrChars.Road.ST "coder" "B" c0) (A : RoadKit.Arv Z h b kC .char N (cs.map Value.int) d) (S : RoadKit.Sta Z h StrChars.Road.ST "COMPACT_STRINGS" "Z" (.int z)) (hz : ¬ z = 0) (hn : cs.length = n) (hN : N = Int32.ofNat n) (l0 : 0 < n) (l2 : n ≤ 4000) (hp : ∀ c ∈ cs, ¬ c < 0 ∧ ¬ (255 : Int32) < c) (hb : bs = cs.map (fun c => c.toInt8.toInt32)) (hfr : 4 ≤ R.frames) (hlo : W + 65 ≤ R.locals) : Pays l R p e below s args (⟨"java/lang/String", "<init>", "([C)V"⟩ : MethodName) len W #[.ref x, .ref b] h 1 n (StrChars.Road.QV Z x N bs h n0) :=
  StrChars.Road.backV hZ hw wi hx0 hh0 E F C A S hz hn hN l0 l2 hp hb hfr hlo
end Jvm.Pilot.@@N@@
namespace Jvm.Pilot.@@N@@
open Jvm Jvm.ClassFile Sem Op Lib Jvm.Free Jvm.Stand Jvm.LawKit Jvm.RoadKit Bundle Jvm.Pilot.@@N@@.Jvm.D
theorem own_small {x : Int32} {n : Nat} (h0 : 0 ≤ x.toInt) (h1 : x.toInt < n) : ∃ i : Fin n, x = Int32.ofNat i.val := by
  obtain ⟨k, hk⟩ : ∃ k : Nat, x.toInt = k := ⟨x.toInt.toNat, by omega⟩
  have := x.toInt_lt
  exact ⟨⟨k, by omega⟩, Int32.toInt_inj.mp (show x.toInt = (Int32.ofNat k).toInt by rw [hk, Int32.toInt_ofNat_small (by omega)])⟩
theorem own_and3 (x : Int32) : (x &&& 3) = 0 ∨ (x &&& 3) = 1 ∨ (x &&& 3) = 2 ∨ (x &&& 3) = 3 := by
  have q := c_and x 3 (by decide)
  have e3 : (3 : Int32).toInt = 3 := by decide
  obtain ⟨i, hi⟩ := own_small (n := 4) q.1 (by omega)
  have t : ∀ i : Fin 4, Int32.ofNat i.val = 0 ∨ Int32.ofNat i.val = 1 ∨ Int32.ofNat i.val = 2 ∨ Int32.ofNat i.val = 3 := by decide +kernel
  rw [hi]
  exact t i
theorem own_ofN {i n : Nat} (hn : n ≤ 4000) (hi : i ≤ n) : Int32.ofNat i < Int32.ofNat n ↔ i < n := by
  rw [Int32.lt_iff_toInt_lt, Int32.toInt_ofNat_small (by omega), Int32.toInt_ofNat_small (by omega)]
  omega
theorem own_nn {i : Nat} (hi : i ≤ 4000) : ¬ Int32.ofNat i < 0 := by
  rw [Int32.lt_iff_toInt_lt, Int32.toInt_ofNat_small (by omega)]
  show ¬ (i : Int) < 0
  omega
theorem own_in {i n : Nat} (hn : n ≤ 4000) (hi : i < n) : ¬ Int32.ofNat i < 0 ∧ Int32.ofNat i < Int32.ofNat n := ⟨own_nn (by omega), (own_ofN hn (by omega)).mpr hi⟩
theorem own_cl {i : Nat} (hi : i ≤ 4000) : (Int32.ofNat i).toNatClampNeg = i := by
  rw [Int32.toNatClampNeg, Int32.toInt_ofNat_small (by omega)]
  rfl
theorem own_inc {i : Nat} : Int32.ofNat i + Int32.ofInt 1 = Int32.ofNat (i + 1) := by
  rw [Int32.ofNat_add]; rfl
theorem own_at {cs : List Int32} {i : Nat} {dv : Value} (h4 : cs.length ≤ 4000) (hi : i < cs.length) : (cs.map Value.int).getD (Int32.ofNat i).toNatClampNeg dv = .int (cs.getD i 0) := by
  rw [own_cl (by omega)]
  simp [List.getD_eq_getElem?_getD, hi]
theorem own_inj {i n : Nat} (hn : n ≤ 4000) (hi : i ≤ 4000) (h : Int32.ofNat i = Int32.ofNat n) : i = n := by
  have := congrArg Int32.toInt h
  rw [Int32.toInt_ofNat_small (by omega), Int32.toInt_ofNat_small (by omega)] at this
  omega
theorem own_and255 (x : Int32) : ¬ nar .char ((x &&& (255 : Int32)).toUInt32.toUInt16.toUInt32.toInt32) < 0 ∧ ¬ (255 : Int32) < nar .char ((x &&& (255 : Int32)).toUInt32.toUInt16.toUInt32.toInt32) := by
  have t : ∀ k : Fin 256, ¬ nar .char ((Int32.ofNat k.val).toUInt32.toUInt16.toUInt32.toInt32) < 0 ∧ ¬ (255 : Int32) < nar .char ((Int32.ofNat k.val).toUInt32.toUInt16.toUInt32.toInt32) := by decide +kernel
  have h : (x &&& 255).toBitVec.toNat < 256 := by
    simp only [Int32.toBitVec_and, BitVec.toNat_and]
    exact Nat.lt_succ_of_le Nat.and_le_right
  have e : (x &&& 255) = Int32.ofNat (x &&& 255).toBitVec.toNat := by
    apply Int32.toBitVec_inj.mp
    show _ = BitVec.ofNat 32 _
    rw [BitVec.ofNat_toNat]; simp
  rw [e]
  exact t ⟨_, h⟩
theorem own_safeS {Z : State} {EL : List (String × Nat)} {vm : Vm} {h : Heap} {x : Addr} (hal : Z.vm.Alike vm) (E : Exa Z h x "java/lang/String") (V : Fld Z h x "java/lang/String" "value" "[B" .null) : Safe Z EL vm h x := fun B => by
  obtain ⟨cell, cf, kk, i, f, e1, e2, -, -, -, -, e7⟩ := V
  obtain ⟨p, -, u, a, -, q, -, W, hy⟩ := B
  obtain ⟨cS, ⟨L, g1, g2⟩, -, hB, -⟩ := W
  rcases hy with rfl | rfl
  · cases (show h[q.sa]? = some q.sC from L.1).symm.trans e1
    obtain ⟨c', k', i', hf, -⟩ := L.2.2.2.1
    obtain ⟨k2, hi, -⟩ := State.fieldFound?_setVm (s := Z) hal e2
    have hf' : (Z.setVm vm).fieldFound? "java/lang/String" "value" "[B" = some (c', k', i', q.fSV) := hf
    rw [hi] at hf'
    cases hf'
    have := L.2.2.2.2.2.2.2.1
    rw [this] at e7
    cases e7
  · obtain ⟨cell2, k2, r1, r2, -⟩ := E
    cases r1.symm.trans e1
    cases (show h[q.sd]? = some q.SA from L.2.2.2.2.2.2.2.2.2.1).symm.trans e1
    have hB' : vm.findClass "[B" = some q.SA.cls := hB
    rw [hal.findClass] at hB'
    obtain ⟨k3, s1, s2⟩ := Vm.findClass_spec hB'
    obtain ⟨k4, s3, s4⟩ := Vm.findClass_spec r2
    cases s1.symm.trans s3
    have := s2.symm.trans s4
    exact absurd this (by decide)
section LitKit
variable {p : Program} {l : Launch} {e : Env} {R : Room} {s : State} {m : MethodId} {args : Array Value} {below : List Frame} {meth : Method} {c : Code} {n0 : Nat} {Q : Option Value → Vm → Heap → Prop} {F : Outcome → State → List Loc → Prop} {B : Nat} {h h' : Heap} {k n : Nat}
variable {Z : State} {own : String} {bs : ByteArray} {ml : Nat} {ret : Option FieldType} {nm : String} {a0 : Array Value} {Ls Ls' : Array Slot} {st rest : List Value} {pc pc' : Nat} {vm0 : Vm} {EL : List (String × Nat)}
/-- a Latin-1 String with these signs -/
def Str (Z : State) (h : Heap) (a : Addr) (cs : List Int32) : Prop :=
  Exa Z h a "java/lang/String" ∧ Fld Z h a "java/lang/String" "coder" "B" (.int 0) ∧ ∃ (t : Addr) (kb : ClassId), Fld Z h a "java/lang/String" "value" "[B" (.ref t) ∧ Arv Z h t kb .byte (Int32.ofNat cs.length) (cs.map fun c => Value.int (StrChars.lo8 c)) (.int 0)
theorem Str.ext {a : Addr} {cs : List Int32} (S : Str Z h a cs) (E : Ext h h') : Str Z h' a cs := by
  obtain ⟨e1, e2, t, kb, e3, e4⟩ := S
  exact ⟨e1.ext E, e2.ext E, t, kb, e3.ext E, e4.ext E⟩
theorem Str.keep0 {a : Addr} {cs : List Int32} (S : Str Z h a cs) (K : Keep h h' []) : Str Z h' a cs := by
  obtain ⟨e1, e2, t, kb, e3, e4⟩ := S
  exact ⟨e1.keep K, e2.keep K nin0, t, kb, e3.keep K nin0, e4.keep K nin0⟩
theorem own_tyne {t b : Addr} {k1 k2 : ClassId} {ty1 ty2 : FieldType} {z1 z2 : Int32} {v1 v2 : List Value} {d1 d2 : Value} (A : Arv Z h t k1 ty1 z1 v1 d1) (B : Arv Z h b k2 ty2 z2 v2 d2) (hn : ty1 ≠ ty2) : t ≠ b := by
  rintro rfl
  obtain ⟨c1, ⟨a1, ⟨-, q1, r1, m1, s1⟩, -⟩, -⟩ := A
  obtain ⟨c2, ⟨a2, ⟨-, q2, r2, m2, s2⟩, -⟩, -⟩ := B
  cases a1.symm.trans a2
  cases r1.symm.trans r2
  rw [s1] at s2
  cases s2
  exact hn rfl
theorem own_exne {a b : Addr} {kI : Nat} {C : String} {k2 : ClassId} {ty2 : FieldType} {z2 : Int32} {v2 : List Value} {d2 : Value} (wi : (Jvm.Cond.instantiable C kI).before a0 Z = true) (E : Exa Z h a C) (B : Arv Z h b k2 ty2 z2 v2 d2) : a ≠ b := by
  rintro rfl
  obtain ⟨cI, kI', hc, hk, hkind, -⟩ := Cond.instantiable_spec wi
  obtain ⟨cell, k3, e1, e2, e3, -⟩ := E
  obtain ⟨c2, ⟨a2, ⟨-, q2, r2, m2, s2⟩, -⟩, -⟩ := B
  cases e1.symm.trans a2
  cases hc.symm.trans e2
  cases hk.symm.trans r2
  rw [hkind] at s2
  cases s2
theorem Str.keepB {a b : Addr} {cs : List Int32} {kI : Nat} {kb : ClassId} {ty : FieldType} {z : Int32} {vs : List Value} {d : Value} (wi : (Jvm.Cond.instantiable "java/lang/String" kI).before a0 Z = true) (S : Str Z h a cs) (K : Keep h h' [b]) (A : Arv Z h b kb ty z vs d) (hty : FieldType.byte ≠ ty := by decide) : Str Z h' a cs := by
  obtain ⟨e1, e2, t, kt, e3, e4⟩ := S
  have n1 := own_exne wi e1 A
  have n2 := own_tyne e4 A hty
  exact ⟨e1.keep K, e2.keep K (ninS n1 nin0), t, kt, e3.keep K (ninS n1 nin0), e4.keep K (ninS n2 nin0)⟩
/-- ldc of a constant that is resolved already: nothing is made -/
theorem Go.ldcWarm (K : Ctx p s m meth c Z own bs ml ret nm R F B) {j : Nat} {a : Addr} {text : String} (w : (Jvm.Cond.stringLink own j text).before a0 Z = true) (L : Lit s own j a) (hd : decode bs pc = .ok (.ldc j, 2)) (hp : pc + 2 = pc') (H : Go p l e R s m args below meth c n0 Q F B h k n (mkF m pc' Ls (.ref a :: st))) : Go p l e R s m args below meth c n0 Q F B h k n (mkF m pc Ls st) := by
  subst hp
  have w2 : (Jvm.Cond.stringRef own j text).before a0 s = true := by
    have q : (Jvm.Cond.stringLink own j text).before a0 s = true := mvS (s := s) (vm0 := s.vm) K.cz w
    simp only [Lit] at L
    simp only [Cond.before, Cond.holds, Cond.value] at q ⊢
    cases hf : s.vm.findClass own with
    | none => simp [hf] at q
    | some cc =>
      rw [L]
      simp only [hf, Option.map_some, beq_iff_eq, Option.some.injEq, Bool.and_eq_true] at q ⊢
      exact ⟨q.1, trivial⟩
  exact H.by fun T _ X _ t q => Jvm.RoadKit.ldcR X K.cx (State.Warmed39.refl s) K.co w2 L (g := mkF m pc Ls st) rfl (hb K.cb hd) t q
theorem Lit.later {vm1 : Vm} {j : Nat} {a : Addr} (L : Lit (s.setVm vm0) own j a) (W : (s.setVm vm0).Warmed39 vm1) : Lit (s.setVm vm1) own j a := State.resolvedAt?_warmed39 W L
def pot (f : Bool) (x : Nat) : Nat := if f then 0 else x
/-- f says: this constant is resolved, to a String with these signs -/
def LitF (s : State) (vm : Vm) (Z : State) (h : Heap) (own : String) (j : Nat) (cs : List Int32) (f : Bool) : Prop := f = true → ∃ a, Lit (s.setVm vm) own j a ∧ Str Z h a cs
section LitF
variable {j : Nat} {cs : List Int32} {f : Bool}
theorem LitF.ext (H : LitF s vm0 Z h own j cs f) (E : Ext h h') : LitF s vm0 Z h' own j cs f := fun q => by obtain ⟨a, u, v⟩ := H q; exact ⟨a, u, v.ext E⟩
theorem LitF.keep0 (H : LitF s vm0 Z h own j cs f) (K : Keep h h' []) : LitF s vm0 Z h' own j cs f := fun q => by obtain ⟨a, u, v⟩ := H q; exact ⟨a, u, v.keep0 K⟩
theorem LitF.keepB {b : Addr} {kI : Nat} {kb : ClassId} {ty : FieldType} {z : Int32} {vs : List Value} {d : Value} (wi : (Jvm.Cond.instantiable "java/lang/String" kI).before a0 Z = true) (H : LitF s vm0 Z h own j cs f) (K : Keep h h' [b]) (A : Arv Z h b kb ty z vs d) (hty : FieldType.byte ≠ ty := by decide) : LitF s vm0 Z h' own j cs f := fun q => by obtain ⟨a, u, v⟩ := H q; exact ⟨a, u, v.keepB wi K A hty⟩
theorem LitF.later {vm1 : Vm} (H : LitF s vm0 Z h own j cs f) (W : (s.setVm vm0).Warmed39 vm1) : LitF s vm1 Z h own j cs f := fun q => by obtain ⟨a, u, v⟩ := H q; exact ⟨a, Lit.later u W, v⟩
end LitF
/-- ldc of a constant that is read, on a budget: f says that it is resolved already -/
theorem Go.ldcB (K : Ctx p (s.setVm vm0) m meth c Z own bs ml ret nm R (FW s R) B) (hS : s.Since vm0 B) {text : String} {j i : Nat} (w : (Jvm.Cond.stringLink own j text).before a0 Z = true) (wS : ∀ a ∈ Bundle.stringAtoms, a.before a0 Z = true) (hEL : EW Z a0 EL) (hmem : (own, j) ∈ EL) (HC : CHv Z EL vm0 h)
    {cs : List Int32} (ht : (∀ c ∈ text.toList, c.toNat < 256) ∧ text.toList.map (fun c => Value.int (Jvm.Lit.byteI c.toNat.toUInt16)) = cs.map fun c => Value.int (StrChars.lo8 c)) (hcs : cs.length ≤ 4000)
    (f : Bool) (hf : LitF s vm0 Z h own j cs f) (hi : 4 * text.toList.length ≤ i) (hbig : i ≤ 536870912) {i4 : Nat} (hi4 : i + 4 = i4) (hc : k + pot f 2 ≤ R.cells) (hl : n + pot f i4 ≤ R.slots) (hd : decode bs pc = .ok (.ldc j, 2)) (hp : pc + 2 = pc')
    (H : ∀ a vm1 h' B1, Ext h h' → CHr Z EL vm0 h vm1 h' → s.Since vm1 B1 → (s.setVm vm0).Warmed39 vm1 → LitF s vm1 Z h' own j cs true → Str Z h' a cs → Ctx p (s.setVm vm1) m meth c Z own bs ml ret nm R (FW s R) B1 →
      Go p l e R (s.setVm vm1) m args below meth c n0 Q (FW s R) B1 h' (k + pot f 2) (n + pot f i4) (mkF m pc' Ls (.ref a :: st))) : Go p l e R (s.setVm vm0) m args below meth c n0 Q (FW s R) B h k n (mkF m pc Ls st) := by
  cases f with
  | true =>
    obtain ⟨a, L, S⟩ := hf rfl
    exact Go.ldcWarm K w L hd hp (H a vm0 h B ⟨Nat.le_refl _, fun _ _ q => q⟩ (CHr.refl HC) hS (State.Warmed39.refl (s.setVm vm0)) hf S K)
  | false =>
    subst hp hi4
    intro T locs X eT N hB
    have hlz : (Int32.ofNat cs.length).toNatClampNeg = (cs.map fun c => Value.int (StrChars.lo8 c)).length := by rw [own_cl hcs, List.length_map]
    obtain ⟨a, T', h', k1, b, kb, X', e', E, hS', hk', hZ', ho', x1, x2, x3, x4, -, -, hr', hL, -, q⟩ := ldcCH (s := s.setVm vm0) (vm0 := vm0) X K.cx K.cz K.co w wS eT ((State.WarmedH.refl (s.setVm vm0)).since 0) (Nat.zero_le _) hEL hmem HC ht (own_nn hcs) hlz (g := mkF m pc Ls st) rfl (hb K.cb hd) hi hbig (show k + 2 ≤ R.cells from hc) (show n + (i + 4) ≤ R.slots from hl)
    have hS2 : s.Since T'.vm h'.size := hS.trans ⟨hS'.1, hS'.2.mono hk'⟩ (Nat.le_trans hB E.1)
    obtain ⟨s₂, o, r1, r2⟩ := H a T'.vm h' h'.size E hr' hS2 hS'.1 (fun _ => ⟨a, hL, x1, x2, b, kb, x3, x4⟩) ⟨x1, x2, b, kb, x3, x4⟩ (Ctx.wide hS2 K.cx hZ' ho' K.cb K.cl K.cr K.cn K.ck) T' locs X' e' N (Nat.le_refl _)
    exact ⟨s₂, o, q _ r1, r2⟩
/-- a static call of a wide callee, and that the tables warm -/
theorem Go.callSX (K : Ctx p (s.setVm vm0) m meth c Z own bs ml ret nm R (FW s R) B) (hS : s.Since vm0 B) {j : Nat} {y : MethodName} {bytes : ByteArray} {maxL : Nat} {rt : Option FieldType} {W kc nc : Nat} {Qc : Option Value → Heap → List Loc → Prop} {argsL : List Value}
    (w1 : (Jvm.Cond.methodLink own j y).before args (s.setVm vm0) = true) (w2 : (Jvm.Cond.static y).before args (s.setVm vm0) = true) (w3 : (Jvm.Cond.initialized y.cls).before args (s.setVm vm0) = true) (w4 : (Jvm.Cond.code y bytes maxL rt).before args (s.setVm vm0) = true) (hy : y.cls ≠ "java/lang/invoke/MethodHandle" ∧ y.cls ≠ "java/lang/invoke/VarHandle")
    (hK : PaysW l R p e below s vm0 args y 3 W argsL.toArray h kc nc Z EL Qc) (hml : Ls.size = ml) (hlen : ∀ sig, parseMethodDescriptor y.desc = some sig → argsL.length = sig.parameters.length) (hst : st = argsL.reverse ++ rest) (hW : (rest.map fun v => v.category).sum ≤ W) (hc : k + kc ≤ R.cells) (hs : n + nc ≤ R.slots) (hfr : ∀ v h' L, Qc v h' L → Fr n0 L) (hd : decode bs pc = .ok (.invokestatic j, 3)) (hp : pc + 3 = pc')
    (H : ∀ v h' L vm1 B1, Qc v h' L → CHr Z EL vm0 h vm1 h' → (s.setVm vm0).Warmed39 vm1 → s.Since vm1 B1 → Ctx p (s.setVm vm1) m meth c Z own bs ml ret nm R (FW s R) B1 → Go p l e R (s.setVm vm1) m args below meth c n0 Q (FW s R) B1 h' (k + kc) (n + nc) (mkF m pc' Ls (v.toList ++ rest))) : Go p l e R (s.setVm vm0) m args below meth c n0 Q (FW s R) B h k n (mkF m pc Ls st) := by
  subst hp hst
  intro T locs X eT N hB
  obtain ⟨v, vm₁, ⟨T', L', k', n'⟩, -, X', hs2, hg, ⟨L, hq, l1, y1, z1, hr⟩, q⟩ := callSS X K.cx (y := y) (bytes := bytes) (maxL := maxL) (ret := rt) K.co w1 w2 w3 w4 hy hK (g := mkF m pc Ls (argsL.reverse ++ rest)) rfl (hml.trans K.cl.symm) (argsL := argsL) (rest := rest) hlen rfl (by show 2 * 0 + _ ≤ _; omega) (hb K.cb hd) (fun _ _ => ⟨rfl, eT, hc, hs⟩)
  dsimp only [Pt.U, Pt.locs, Pt.cells, Pt.slots] at X' l1 y1 z1 q hq hr hs2 hg
  subst l1 y1 z1
  have hwm := hs2.1
  obtain ⟨X2, hS2, hZ2, ho2⟩ := rebS hS (Nat.le_trans hB (Nat.le_of_eq (congrArg Array.size eT.symm))) X' hs2 hg K.cz K.co
  obtain ⟨s₂, o, r1, r2⟩ := H v _ L _ _ hq hr hwm hS2 (Ctx.wide hS2 K.cx hZ2 ho2 K.cb K.cl K.cr K.cn K.ck) T' _ X2 rfl (N.app (hfr _ _ _ hq)) (Nat.le_refl _)
  exact ⟨s₂, o, q.trans r1, r2⟩
theorem Go.bzload (K : Ctx p s m meth c Z own bs ml ret nm R F B) {a : Addr} {kA : ClassId} {z j : Int32} {vs : List Value} {dv v : Value} (V : Arv Z h a kA .boolean z vs dv) (hin : ¬ j < 0 ∧ j < z) (hv : vs.getD j.toNatClampNeg dv = v) (hd : decode bs pc = .ok (.baload, 1)) (hp : pc + 1 = pc')
    (H : Go p l e R s m args below meth c n0 Q F B h k n (mkF m pc' Ls (v :: st))) : Go p l e R s m args below meth c n0 Q F B h k n (mkF m pc Ls (.int j :: .ref a :: st)) := by
  subst hp
  obtain ⟨cl, A, q1, S, q3, Hs, G⟩ := V
  exact H.by fun T _ X eT t q => X.baloadBooleans K.cx (by rw [eT]; exact A.1) (State.isArrayOf_alike K.cz.alike A.2.1) A.2.2 (inb_of S hin) (Hs.at (inb_of S hin) hv) (g := mkF m pc Ls (.int j :: .ref a :: st)) rfl rfl (hb K.cb hd) t q
/-- a virtual call of a method that the named class inherits -/
theorem Go.callVU (K : Ctx p s m meth c Z own bs ml ret nm R F B) {j : Nat} {C owner : String} {y z : MethodName} {W kc nc : Nat} {a : Addr} {Qc : Option Value → Heap → List Loc → Prop} {argsL : List Value}
    (w1 : (Jvm.Cond.methodLink own j y).before args s = true) (w5 : (Jvm.Cond.sameMethod y.cls owner y.name y.desc).before args s = true) (w2 : (Jvm.Cond.declares ⟨owner, y.name, y.desc⟩).before args s = true) (hy : owner ≠ "java/lang/invoke/MethodHandle" ∧ owner ≠ "java/lang/invoke/VarHandle") (w3 : (Jvm.Cond.selects C y z).before args s = true) (w4 : (Jvm.Cond.instanceMethod z).before args s = true) (E : Exa Z h a C)
    (hK : Pays l R p e below s args z 3 W (.ref a :: argsL).toArray h kc nc Qc) (hml : Ls.size = ml) (hlen : ∀ sig, parseMethodDescriptor y.desc = some sig → argsL.length = sig.parameters.length) (hst : st = argsL.reverse ++ .ref a :: rest) (hW : (rest.map fun v => v.category).sum ≤ W) (hc : k + kc ≤ R.cells) (hs : n + nc ≤ R.slots) (hfr : ∀ v h' L, Qc v h' L → Fr n0 L) (hgr : ∀ v h' L, Qc v h' L → h.size ≤ h'.size) (hd : decode bs pc = .ok (.invokevirtual j, 3)) (hp : pc + 3 = pc')
    (H : ∀ v h' L, Qc v h' L → Go p l e R s m args below meth c n0 Q F B h' (k + kc) (n + nc) (mkF m pc' Ls (v.toList ++ rest))) : Go p l e R s m args below meth c n0 Q F B h k n (mkF m pc Ls st) := by
  subst hp hst
  intro T locs X eT N hB
  obtain ⟨cq, kq, qa, qb, qc⟩ := isOf K.cz eT E
  obtain ⟨v, vm₁, ⟨T', L', k', n'⟩, -, X', ⟨L, hq, l1, y1, z1⟩, q⟩ := X.virtualBackUp K.cx (x := y) (y := z) K.co w1 w5 w2 hy w3 w4 hK qa qc (g := mkF m pc Ls (argsL.reverse ++ .ref a :: rest)) rfl (hml.trans K.cl.symm) (Steps.refl _) (argsL := argsL) (rest := rest) hlen rfl (by show 2 * 0 + _ ≤ _; omega) (hb K.cb hd) (fun _ _ => ⟨rfl, eT, hc, hs⟩)
  dsimp only [Pt.U, Pt.locs, Pt.cells, Pt.slots] at X' l1 y1 z1 q hq
  subst l1 y1 z1
  obtain ⟨s₂, o, r1, r2⟩ := H v _ L hq T' _ X' rfl (N.app (hfr _ _ _ hq)) (Nat.le_trans hB (hgr _ _ _ hq))
  exact ⟨s₂, o, q.trans r1, r2⟩
/-- tableswitch, inside -/
theorem Go.tswIn (K : Ctx p s m meth c Z own bs ml ret nm R F B) {x : Int32} {dflt low high o : Int} {offs : Array Int} {len : Nat} (hd : decode bs pc = .ok (.tableswitch dflt low high offs, len)) (hin : ¬ (x.toInt < low ∨ x.toInt > high)) (hoff : offs[(x.toInt - low).toNat]? = some o) (ho : 0 ≤ (pc : Int) + o) (hp : ((pc : Int) + o).toNat = pc') (H : Go p l e R s m args below meth c n0 Q F B h k n (mkF m pc' Ls st)) : Go p l e R s m args below meth c n0 Q F B h k n (mkF m pc Ls (.int x :: st)) :=
  H.by fun T _ X _ t q => XS.tswIn X.here K.cx (g := mkF m pc Ls (.int x :: st)) rfl (pc0 := pc) rfl (hb K.cb hd) rfl hin hoff ho hp q
end LitKit
section SbKit
variable {p : Program} {l : Launch} {e : Env} {R : Room} {s : State} {m : MethodId} {args : Array Value} {below : List Frame} {meth : Method} {c : Code} {n0 : Nat} {Q : Option Value → Vm → Heap → Prop} {F : Outcome → State → List Loc → Prop} {B : Nat} {h h' : Heap} {k n : Nat}
variable {Z : State} {own : String} {bs : ByteArray} {ml : Nat} {ret : Option FieldType} {nm : String} {a0 : Array Value} {Ls Ls' : Array Slot} {st rest : List Value} {pc pc' : Nat} {vm0 : Vm} {EL : List (String × Nat)}
/-- a method that is not static and has code is declared -/
theorem own_decl {y : MethodName} {by' : ByteArray} {ml' : Nat} {rt : Option FieldType} (w : (Jvm.Cond.instanceMethod y).before args s = true) (wc : (Jvm.Cond.code y by' ml' rt).before args s = true) : (Jvm.Cond.declares y).before args s = true := by
  obtain ⟨mk, me, hn, hm, hst, -⟩ := Cond.instanceMethod_spec w
  obtain ⟨m', c', hm', -, -, -, -, -, -, hsig⟩ := Cond.code_spec hn wc
  cases hm.symm.trans hm'
  simp [Cond.before, Cond.holds, Cond.value, hn, hm, hst, hsig]
/-- a class that is no interface finds its own method -/
theorem own_same {y z x : MethodName} {C : String} (hz : z.cls = y.cls) (hy : y.cls ≠ "java/lang/invoke/MethodHandle" ∧ y.cls ≠ "java/lang/invoke/VarHandle") (w : (Jvm.Cond.instanceMethod y).before a0 Z = true) (ws : (Jvm.Cond.selects C x z).before a0 Z = true) : (Jvm.Cond.sameMethod y.cls y.cls y.name y.desc).before a0 Z = true := by
  obtain ⟨mk, me, hn, -⟩ := Cond.instanceMethod_spec w
  obtain ⟨c2, r2, m2, -, -, q3, -, kk, q5, q6⟩ := Cond.selects_spec ws
  have hc := findClass_of_methodNamed hn
  have hc2 := findClass_of_methodNamed q3
  rw [hz] at hc2
  have e : m2.cls = mk.cls := Option.some.inj (hc2.symm.trans hc)
  have hf := State.methodFound?_of_named hn hy
  have hn' : Z.methodNamed? ⟨y.cls, y.name, y.desc⟩ = some mk := hn
  rw [e] at q5
  simp [Cond.before, Cond.holds, Cond.value, hc, hf, hn', q5, q6]
/-- .. and its methods stand in no interface -/
theorem own_nf {y z x : MethodName} {C : String} (hz : z.cls = y.cls) (ws : (Jvm.Cond.selects C x z).before args s = true) : NotFace s y := by
  intro r0 hn
  obtain ⟨c2, r2, m2, -, -, q3, -, kk, q5, q6⟩ := Cond.selects_spec ws
  have hc := findClass_of_methodNamed hn
  have hc2 := findClass_of_methodNamed q3
  rw [hz] at hc2
  have e : m2.cls = r0.cls := Option.some.inj (hc2.symm.trans hc)
  exact ⟨kk, e ▸ q5, q6⟩
/-- super.y(..): invokespecial of a method of the superclass -/
theorem Go.callSup (K : Ctx p s m meth c Z own bs ml ret nm R F B) {j : Nat} {C : String} {y : MethodName} {bytes : ByteArray} {maxL : Nat} {rt : Option FieldType} {W kc nc : Nat} {a : Addr} {Qc : Option Value → Heap → List Loc → Prop} {argsL : List Value}
    (w1 : (Jvm.Cond.methodLink own j y).before a0 Z = true) (w2 : (Jvm.Cond.sameMethod y.cls y.cls y.name y.desc).before a0 Z = true) (w3 : (Jvm.Cond.instanceMethod y).before a0 Z = true) (w4 : (Jvm.Cond.superclass own y.cls).before a0 Z = true) (hn : y.name ≠ "<init>") (E : Exa Z h a C) (wc : (Jvm.Cond.code y bytes maxL rt).before a0 Z = true)
    (hK : Pays l R p e below s args y 3 W (.ref a :: argsL).toArray h kc nc Qc) (hml : Ls.size = ml) (hlen : ∀ sig, parseMethodDescriptor y.desc = some sig → argsL.length = sig.parameters.length) (hst : st = argsL.reverse ++ .ref a :: rest) (hW : (rest.map fun v => v.category).sum ≤ W) (hc : k + kc ≤ R.cells) (hs : n + nc ≤ R.slots) (hfr : ∀ v h' L, Qc v h' L → Fr n0 L) (hgr : ∀ v h' L, Qc v h' L → h.size ≤ h'.size) (hd : decode bs pc = .ok (.invokespecial j, 3)) (hp : pc + 3 = pc')
    (H : ∀ v h' L, Qc v h' L → Go p l e R s m args below meth c n0 Q F B h' (k + kc) (n + nc) (mkF m pc' Ls (v.toList ++ rest))) : Go p l e R s m args below meth c n0 Q F B h k n (mkF m pc Ls st) := by
  subst hp hst
  intro T locs X eT N hB
  obtain ⟨v, vm₁, ⟨T', L', k', n'⟩, -, X', ⟨L, hq, l1, y1, z1⟩, q⟩ := superBack X K.cx K.cz K.co w1 w2 w3 w4 hn hK eT (Ins.self E) (g := mkF m pc Ls (argsL.reverse ++ .ref a :: rest)) rfl (hml.trans K.cl.symm) wc (argsL := argsL) (rest := rest) hlen rfl (by show 2 * 0 + _ ≤ _; omega) (hb K.cb hd) (fun _ _ => ⟨rfl, eT, hc, hs⟩)
  dsimp only [Pt.U, Pt.locs, Pt.cells, Pt.slots] at X' l1 y1 z1 q hq
  subst l1 y1 z1
  obtain ⟨s₂, o, r1, r2⟩ := H v _ L hq T' _ X' rfl (N.app (hfr _ _ _ hq)) (Nat.le_trans hB (hgr _ _ _ hq))
  exact ⟨s₂, o, q.trans r1, r2⟩
/-- System.arraycopy between two byte arrays -/
theorem Go.acopy (K : Ctx p s m meth c Z own bs ml ret nm R F B) {j : Nat} {a b : Addr} {kA kB : ClassId} {z z' sp dp nn : Int32} {vs vd us : List Value} {dv dd : Value}
    (w1 : (Jvm.Cond.methodLink own j Jvm.Stand.acN).before a0 Z = true) (w2 : (Jvm.Cond.native Jvm.Stand.acN).before a0 Z = true) (w3 : (Jvm.Cond.static Jvm.Stand.acN).before a0 Z = true) (w4 : (Jvm.Cond.initialized "java/lang/System").before a0 Z = true)
    (A : Arv Z h a kA .byte z vs dv) (A' : Arv Z h b kB .byte z' vd dd) (h1 : ¬ sp < 0) (h2 : ¬ dp < 0) (h3 : ¬ nn < 0) (h4 : sp.toNatClampNeg + nn.toNatClampNeg ≤ z.toNatClampNeg) (h5 : dp.toNatClampNeg + nn.toNatClampNeg ≤ z'.toNatClampNeg)
    (hus : us = (List.range nn.toNatClampNeg).map fun i => vs.getD (sp.toNatClampNeg + i) dv) (hl : dp.toNatClampNeg + nn.toNatClampNeg ≤ vd.length) (ge : n0 ≤ b) (hml : Ls.size = ml) (hf : 1 ≤ R.frames) (W : Nat) (hW : (st.map fun v => v.category).sum ≤ W) (hlo : W + 18 ≤ R.locals) (hd : decode bs pc = .ok (.invokestatic j, 3)) (hp : pc + 3 = pc')
    (H : ∀ h', Keep h h' [b] → Arv Z h' b kB .byte z' (vd.take dp.toNatClampNeg ++ us ++ vd.drop (dp.toNatClampNeg + nn.toNatClampNeg)) dd → Go p l e R s m args below meth c n0 Q F B h' k n (mkF m pc' Ls st)) : Go p l e R s m args below meth c n0 Q F B h k n (mkF m pc Ls (.int nn :: .int dp :: .ref b :: .int sp :: .ref a :: st)) := by
  subst hp
  intro T locs X eT N hB
  obtain ⟨T', h', L, X', e', N', Kp, A2, q⟩ := cpA X K.cx K.cz K.co w1 w2 w3 w4 eT A A' (Or.inl ⟨rfl, rfl⟩) h1 h2 h3 h4 h5 hus hl N ge (g := mkF m pc Ls (.int nn :: .int dp :: .ref b :: .int sp :: .ref a :: st)) rfl (hml.trans K.cl.symm) (rest := st) rfl (hb K.cb hd) hf (W := W) (by show 2 * 0 + _ ≤ _; omega) (by show W + (7 + 11) ≤ R.locals; omega)
  obtain ⟨s₂, o, r1, r2⟩ := H h' Kp A2 T' _ X' e' N' (Nat.le_trans hB Kp.1)
  exact ⟨s₂, o, q _ r1, r2⟩
/-- clone() of a byte array -/
theorem Go.cloneB (K : Ctx p s m meth c Z own bs ml ret nm R F B) {j : Nat} {a : Addr} {kA : ClassId} {z : Int32} {vs : List Value} {dv : Value}
    (w1 : (Jvm.Cond.methodLink own j ⟨"[B", "clone", "()Ljava/lang/Object;"⟩).before a0 Z = true) (w2 : (Jvm.Cond.sameMethod "[B" "java/lang/Object" "clone" "()Ljava/lang/Object;").before a0 Z = true) (w3 : (Jvm.Cond.native ⟨"java/lang/Object", "clone", "()Ljava/lang/Object;"⟩).before a0 Z = true)
    (w4 : (Jvm.Cond.instanceMethod ⟨"java/lang/Object", "clone", "()Ljava/lang/Object;"⟩).before a0 Z = true) (w5 : (Jvm.Cond.selects "[B" ⟨"[B", "clone", "()Ljava/lang/Object;"⟩ ⟨"java/lang/Object", "clone", "()Ljava/lang/Object;"⟩).before a0 Z = true) (w6 : (Jvm.Cond.castable "[B" "java/lang/Cloneable").before a0 Z = true)
    (A : Arv Z h a kA .byte z vs dv) (E : Exa Z h a "[B") (hml : Ls.size = ml) (hf : 1 ≤ R.frames) (W : Nat) (hW : (st.map fun v => v.category).sum ≤ W) (hlo : W + 14 ≤ R.locals) (cap : Nat) (hcap : z.toNatClampNeg ≤ cap) (hc : k + 1 ≤ R.cells) (hsl : n + cap ≤ R.slots) (hd : decode bs pc = .ok (.invokevirtual j, 3)) (hp : pc + 3 = pc')
    (H : ∀ h' b, b = h.size → Ext h h' → Arv Z h' b kA .byte z vs dv → Exa Z h' b "[B" → Go p l e R s m args below meth c n0 Q F B h' (k + 1) (n + cap) (mkF m pc' Ls (.ref b :: st))) : Go p l e R s m args below meth c n0 Q F B h k n (mkF m pc Ls (.ref a :: st)) := by
  subst hp
  intro T locs X eT N hB
  obtain ⟨T', h', X', e', E1, A', E', q⟩ := cloneH X K.cx K.cz K.co w1 w2 w3 w4 w5 w6 eT A.arh E (g := mkF m pc Ls (.ref a :: st)) rfl (hml.trans K.cl.symm) (rest := st) rfl (hb K.cb hd) hf (W := W) (by show 2 * 0 + _ ≤ _; omega) hlo hcap hc hsl
  obtain ⟨s₂, o, r1, r2⟩ := H h' h.size rfl E1 A' E' T' locs X' e' N (Nat.le_trans hB E1.1)
  exact ⟨s₂, o, q _ r1, r2⟩
/-- newarray of bytes, and that its class is the class of byte arrays -/
theorem Go.newB (K : Ctx p s m meth c Z own bs ml ret nm R F B) {z : Int32} (w : (Jvm.Cond.arrayClass .byte).before a0 Z = true) (hz : ¬ z < 0) (cap : Nat) (hcap : z.toNatClampNeg ≤ cap) (hb8 : cap * 8 ≤ 536870912) (hc : k + 1 ≤ R.cells) (hl : n + cap ≤ R.slots) (hd : decode bs pc = .ok (.newarray .byte, 2)) (hp : pc + 2 = pc')
    (H : ∀ h' a kA, a = h.size → Ext h h' → Arv Z h' a kA .byte z [] (.int 0) → Exa Z h' a "[B" → Go p l e R s m args below meth c n0 Q F B h' (k + 1) (n + cap) (mkF m pc' Ls (.ref a :: st))) : Go p l e R s m args below meth c n0 Q F B h k n (mkF m pc Ls (.int z :: st)) := by
  subst hp
  intro T locs X eT N hB
  obtain ⟨T', h', kA, X', e', E, A, E2, q⟩ := Jvm.RoadKit.newPE X K.cx K.cz (aty := .byte) w eT (g := mkF m pc Ls (.int z :: st)) rfl (hb K.cb hd) rfl hz hcap hb8 hc hl (ad := "[B") (by decide)
  obtain ⟨s₂, o, r1, r2⟩ := H h' h.size kA rfl E (Arv.new A hz) E2 T' locs X' e' N (Nat.le_trans hB E.1)
  exact ⟨s₂, o, q _ r1, r2⟩
theorem Go.more {k' n' : Nat} {g : JFrame} (hk : k ≤ k') (hn : n ≤ n') (H : Go p l e R s m args below meth c n0 Q F B h k' n' g) : Go p l e R s m args below meth c n0 Q F B h k n g :=
  fun T locs X eT N hB => H T locs (X.more hk hn) eT N hB
end SbKit
/-! the builder's bytes -/
def L8 (cs : List Int32) : List Value := cs.map fun c => Value.int (StrChars.lo8 c)
def Bl (pre : List Int32) : List Value := L8 pre ++ List.replicate (16 - pre.length) (.int 0)
theorem own_L8 (cs : List Int32) : (L8 cs).length = cs.length := by simp [L8]
theorem own_Bl {pre : List Int32} (h : pre.length ≤ 16) : (Bl pre).length = 16 := by simp [Bl, L8]; omega
theorem own_us (cs : List Int32) {d : Value} : L8 cs = (List.range cs.length).map fun i => (L8 cs).getD (0 + i) d := by
  apply List.ext_getElem
  · simp [L8]
  · intro i h1 h2
    simp only [Nat.zero_add, List.getElem_map, List.getElem_range]
    rw [List.getD_eq_getElem?_getD, List.getElem?_eq_getElem h1]
    rfl
theorem own_us2 {pre : List Int32} {d : Value} : L8 pre = (List.range pre.length).map fun i => (Bl pre).getD (0 + i) d := by
  apply List.ext_getElem
  · simp [L8]
  · intro i h1 h2
    have h3 : i < (Bl pre).length := by rw [Bl, List.length_append]; omega
    simp only [Nat.zero_add, List.getElem_map, List.getElem_range]
    rw [List.getD_eq_getElem?_getD, List.getElem?_eq_getElem h3]
    simp only [Bl, List.getElem_append_left h1, Option.getD_some]
theorem own_app {pre cs : List Int32} : (Bl pre).take pre.length ++ L8 cs ++ (Bl pre).drop (pre.length + cs.length) = Bl (pre ++ cs) := by
  have e1 : (Bl pre).take pre.length = L8 pre := List.take_left' (own_L8 pre)
  have e2 : (Bl pre).drop (pre.length + cs.length) = List.replicate (16 - (pre.length + cs.length)) (.int 0) := by
    rw [← List.drop_drop, Bl, List.drop_left' (own_L8 pre), List.drop_replicate]
    congr 1
    omega
  rw [e1, e2]
  simp [Bl, L8]
theorem own_nil : Bl [] = List.replicate 16 (.int 0) := rfl
theorem own_full {pre : List Int32} (h : pre.length = 16) : Bl pre = L8 pre := by simp [Bl, h]
theorem own_f17 {P : Nat → Prop} (t : ∀ c : Fin 17, P c.val) {c : Nat} (h : c ≤ 16) : P c := t ⟨c, by omega⟩
theorem own_tn {c : Nat} (h : c ≤ 16) : (Int32.ofNat c).toNatClampNeg = c := own_f17 (P := fun c => (Int32.ofNat c).toNatClampNeg = c) (by decide) h
theorem own_sub16 {c : Nat} (h : c ≤ 16) : ¬ (0 : Int32) < Int32.ofNat c - (16 : Int32) := own_f17 (P := fun c => ¬ (0 : Int32) < Int32.ofNat c - (16 : Int32)) (by decide) h
theorem own_shr0 {c : Nat} (h : c ≤ 16) : Int32.ofNat c >>> ((0 : Int32) &&& 31) = Int32.ofNat c := own_f17 (P := fun c => Int32.ofNat c >>> ((0 : Int32) &&& 31) = Int32.ofNat c) (by decide) h
theorem own_shl0 {c : Nat} (h : c ≤ 16) : Int32.ofNat c <<< ((0 : Int32) &&& 31) = Int32.ofNat c := own_f17 (P := fun c => Int32.ofNat c <<< ((0 : Int32) &&& 31) = Int32.ofNat c) (by decide) h
theorem own_sub0 {c : Nat} (h : c ≤ 16) : Int32.ofNat c - (0 : Int32) = Int32.ofNat c := own_f17 (P := fun c => Int32.ofNat c - (0 : Int32) = Int32.ofNat c) (by decide) h
theorem own_nn16 {c : Nat} (h : c ≤ 16) : ¬ Int32.ofNat c < 0 := own_f17 (P := fun c => ¬ Int32.ofNat c < 0) (by decide) h
theorem own_ne16 {c : Nat} (h : c ≤ 16) (q : ¬ Int32.ofNat c = 16) : c < 16 := by
  rcases Nat.lt_or_ge c 16 with r | r
  · exact r
  · exact absurd (show Int32.ofNat c = 16 by rw [show c = 16 by omega]; rfl) q
theorem own_e16 {c : Nat} (h : c ≤ 16) (q : Int32.ofNat c = 16) : c = 16 := own_f17 (P := fun c => Int32.ofNat c = 16 → c = 16) (by decide) h q
def Bd (Z : State) (h : Heap) (o tb : Addr) (kb : ClassId) (pre : List Int32) : Prop :=
  Exa Z h o "java/lang/StringBuilder" ∧ Fld Z h o "java/lang/AbstractStringBuilder" "value" "[B" (.ref tb) ∧ Fld Z h o "java/lang/AbstractStringBuilder" "coder" "B" (.int 0) ∧ Fld Z h o "java/lang/AbstractStringBuilder" "count" "I" (.int (Int32.ofNat pre.length)) ∧ Arv Z h tb kb .byte (16 : Int32) (Bl pre) (.int 0) ∧ Exa Z h tb "[B"
theorem ef_co (m : MethodId) (sa : Addr) : entryFrame m #[(.ref sa)] 1 = mkF m 0 #[.val (.ref sa)] [] := by first | (simp [entryFrame, mkF, argsToLocals, Value.category]; done) | rfl
theorem d_jdk_42_method_152_0 : decode jdk_42_method_152_code 0 = .ok (.getstatic 38, 3) := by decide +kernel
theorem d_jdk_42_method_152_3 : decode jdk_42_method_152_code 3 = .ok (.ifCond .eq 10, 3) := by decide +kernel
theorem d_jdk_42_method_152_6 : decode jdk_42_method_152_code 6 = .ok (.aload_n 0, 1) := by decide +kernel
theorem d_jdk_42_method_152_7 : decode jdk_42_method_152_code 7 = .ok (.getfield 15, 3) := by decide +kernel
theorem d_jdk_42_method_152_10 : decode jdk_42_method_152_code 10 = .ok (.goto 4, 3) := by decide +kernel
theorem d_jdk_42_method_152_14 : decode jdk_42_method_152_code 14 = .ok (.ireturn, 1) := by decide +kernel
theorem pn_java_lang_String : plainName "java/lang/String" = true := by first | (simp [plainName, overriddenIn]; done) | decide +kernel
set_option maxRecDepth 65536 in
set_option maxHeartbeats 40000000 in
theorem m_co (l : Launch) (Z : State) (a0 : Array Value) (hw : ∀ d ∈ tables_1, d.before a0 Z = true) (h0 : Heap) (n0 : Nat) (Z0 : n0 ≤ h0.size) (sa : Addr) (C_sa : Fld Z h0 sa "java/lang/String" "coder" "B" (.int 0)) (od : Old Z n0 h0) (zc : Int32) (S1 : Sta Z Z.heap "java/lang/String" "COMPACT_STRINGS" "Z" (.int zc)) (P1 : ¬ (zc = (0 : Int32))) :
    Met l Z [] (⟨"java/lang/String", "coder", "()B"⟩ : MethodName) jdk_42_method_152_code 1 (some .byte) ({ frames := 0, cells := 0, slots := 0, locals := 0 } : Room) #[(.ref sa)] h0 n0 (fun v h => v = some (.int 0) ∧ h0 = h) := by
  refine Met.of (plainFor_of_name pn_java_lang_String) ?_
  intro p e s m below meth c F K
  refine Go.cast (ef_co m sa) ?_
  refine Go.getS K (host := "") (Or.inl (hw _ (List.mem_of_getElem? (i := 14) rfl))) Via.refl (S1.ext od.2) d_jdk_42_method_152_0 (pc' := 3) rfl ?_
  refine Go.ifc K d_jdk_42_method_152_3 (by decide) (pcT := 13) (pcF := 6) (by decide) rfl (fun h3 => ?_) (fun h3 => ?_)
  · replace h3 : zc = 0 := h3
    exact absurd h3 P1
  · replace h3 : ¬ (zc = 0) := h3
    refine Go.aloadN K d_jdk_42_method_152_6 rfl rfl (pc' := 7) rfl ?_
    refine Go.getF K (host := "") (Or.inl (hw _ (List.mem_of_getElem? (i := 26) rfl))) Via.refl C_sa d_jdk_42_method_152_7 (pc' := 10) rfl ?_
    refine Go.goto K d_jdk_42_method_152_10 (pc' := 14) (by decide) (by decide) ?_
    exact Go.retN K (by simp) (by decide) (by decide) d_jdk_42_method_152_14 (fun _ _ _ _ => ⟨rfl, rfl⟩)
theorem ef_le (m : MethodId) (sa : Addr) : entryFrame m #[(.ref sa)] 1 = mkF m 0 #[.val (.ref sa)] [] := by first | (simp [entryFrame, mkF, argsToLocals, Value.category]; done) | rfl
theorem d_jdk_42_method_54_0 : decode jdk_42_method_54_code 0 = .ok (.aload_n 0, 1) := by decide +kernel
theorem d_jdk_42_method_54_1 : decode jdk_42_method_54_code 1 = .ok (.getfield 9, 3) := by decide +kernel
theorem d_jdk_42_method_54_4 : decode jdk_42_method_54_code 4 = .ok (.arraylength, 1) := by decide +kernel
theorem d_jdk_42_method_54_5 : decode jdk_42_method_54_code 5 = .ok (.aload_n 0, 1) := by decide +kernel
theorem d_jdk_42_method_54_6 : decode jdk_42_method_54_code 6 = .ok (.invokevirtual 335, 3) := by decide +kernel
theorem pd__28_29B : parseMethodDescriptor "()B" = some ⟨[], some .byte⟩ := by decide +kernel
theorem d_jdk_42_method_54_9 : decode jdk_42_method_54_code 9 = .ok (.ishr, 1) := by decide +kernel
theorem d_jdk_42_method_54_10 : decode jdk_42_method_54_code 10 = .ok (.ireturn, 1) := by decide +kernel
set_option maxRecDepth 65536 in
set_option maxHeartbeats 40000000 in
theorem m_le (l : Launch) (Z : State) (a0 : Array Value) (hw : ∀ d ∈ tables_1, d.before a0 Z = true) (h0 : Heap) (n0 : Nat) (Z0 : n0 ≤ h0.size) (sa ts : Addr) (kt : ClassId) (cs : List Int32) (E_sa : Exa Z h0 sa "java/lang/String") (C_sa : Fld Z h0 sa "java/lang/String" "coder" "B" (.int 0)) (F_sa : Fld Z h0 sa "java/lang/String" "value" "[B" (.ref ts)) (V_ts : Arv Z h0 ts kt .byte (Int32.ofNat cs.length) (L8 cs) (.int 0)) (hcs : cs.length ≤ 16) (od : Old Z n0 h0) (zc : Int32) (S1 : Sta Z Z.heap "java/lang/String" "COMPACT_STRINGS" "Z" (.int zc)) (P1 : ¬ (zc = (0 : Int32))) :
    Met l Z [] (⟨"java/lang/String", "length", "()I"⟩ : MethodName) jdk_42_method_54_code 1 (some .int) ({ frames := 1, cells := 0, slots := 0, locals := 14 } : Room) #[(.ref sa)] h0 n0 (fun v h => v = some (.int (Int32.ofNat cs.length)) ∧ h0 = h) := by
  refine Met.of (plainFor_of_name pn_java_lang_String) ?_
  intro p e s m below meth c F K
  refine Go.cast (ef_le m sa) ?_
  refine Go.aloadN K d_jdk_42_method_54_0 rfl rfl (pc' := 1) rfl ?_
  refine Go.getF K (host := "") (Or.inl (hw _ (List.mem_of_getElem? (i := 28) rfl))) Via.refl F_sa d_jdk_42_method_54_1 (pc' := 4) rfl ?_
  refine Go.arraylength K V_ts d_jdk_42_method_54_4 (pc' := 5) rfl ?_
  refine Go.aloadN K d_jdk_42_method_54_5 rfl rfl (pc' := 6) rfl ?_
  refine Go.callV K (y := (⟨"java/lang/String", "coder", "()B"⟩ : MethodName)) (z := (⟨"java/lang/String", "coder", "()B"⟩ : MethodName)) (W := 1) (kc := 0) (nc := 0) (a := sa) (mvT K.cz (hw _ (List.mem_of_getElem? (i := 73) rfl))) (mvT K.cz (hw _ (List.mem_of_getElem? (i := 74) rfl))) (notFace_of_selects (args := #[]) (mvT K.cz (hw _ (List.mem_of_getElem? (i := 76) rfl)))) (mvT K.cz (hw _ (List.mem_of_getElem? (i := 76) rfl))) (mvT K.cz (hw _ (List.mem_of_getElem? (i := 75) rfl))) (by decide) E_sa ((m_co l Z a0 hw h0 n0 Z0 sa C_sa od zc S1 P1).pays (W := 1) K.cz (hw _ (List.mem_of_getElem? (i := 77) rfl)) (hw _ (List.mem_of_getElem? (i := 3) rfl)) (by decide) (by decide)) rfl (argsL := []) (rest := [(.int (Int32.ofNat cs.length))]) (lenOf pd__28_29B rfl) rfl (Nat.le_of_ble_eq_true rfl) (by decide) (by decide) frOf grOf d_jdk_42_method_54_6 (pc' := 9) rfl ?_
  rintro v3 h1 Lc2 ⟨⟨⟨rfl, eh⟩, -⟩, -⟩
  obtain rfl := eh
  show Go p l e _ _ m _ below meth c _ _ _ _ h0 _ _ (mkF m 9 #[.val (.ref sa)] [(.int (0 : Int32)), (.int (Int32.ofNat cs.length))])
  refine Go.ishr K d_jdk_42_method_54_9 (pc' := 10) rfl ?_
  exact Go.retI K (by decide) (by decide) d_jdk_42_method_54_10 (fun _ _ _ _ => ⟨by rw [own_shr0 hcs], rfl⟩)
theorem ef_en (m : MethodId) (o : Addr) (x : Int32) : entryFrame m #[(.ref o), (.int x)] 3 = mkF m 0 #[.val (.ref o), .val (.int x), .unset] [] := by first | (simp [entryFrame, mkF, argsToLocals, Value.category]; done) | rfl
theorem d_jdk_68_method_9_0 : decode jdk_68_method_9_code 0 = .ok (.aload_n 0, 1) := by decide +kernel
theorem d_jdk_68_method_9_1 : decode jdk_68_method_9_code 1 = .ok (.getfield 15, 3) := by decide +kernel
theorem d_jdk_68_method_9_4 : decode jdk_68_method_9_code 4 = .ok (.arraylength, 1) := by decide +kernel
theorem d_jdk_68_method_9_5 : decode jdk_68_method_9_code 5 = .ok (.aload_n 0, 1) := by decide +kernel
theorem d_jdk_68_method_9_6 : decode jdk_68_method_9_code 6 = .ok (.getfield 22, 3) := by decide +kernel
theorem d_jdk_68_method_9_9 : decode jdk_68_method_9_code 9 = .ok (.ishr, 1) := by decide +kernel
theorem d_jdk_68_method_9_10 : decode jdk_68_method_9_code 10 = .ok (.istore_n 2, 1) := by decide +kernel
theorem d_jdk_68_method_9_11 : decode jdk_68_method_9_code 11 = .ok (.iload_n 1, 1) := by decide +kernel
theorem d_jdk_68_method_9_12 : decode jdk_68_method_9_code 12 = .ok (.iload_n 2, 1) := by decide +kernel
theorem d_jdk_68_method_9_13 : decode jdk_68_method_9_code 13 = .ok (.isub, 1) := by decide +kernel
theorem d_jdk_68_method_9_14 : decode jdk_68_method_9_code 14 = .ok (.ifCond .le 24, 3) := by decide +kernel
theorem d_jdk_68_method_9_38 : decode jdk_68_method_9_code 38 = .ok (.return_, 1) := by decide +kernel
theorem pn_java_lang_AbstractStringBuilder : plainName "java/lang/AbstractStringBuilder" = true := by first | (simp [plainName, overriddenIn]; done) | decide +kernel
set_option maxRecDepth 65536 in
set_option maxHeartbeats 40000000 in
theorem m_en (l : Launch) (Z : State) (a0 : Array Value) (hw : ∀ d ∈ tables_1, d.before a0 Z = true) (h0 : Heap) (n0 : Nat) (Z0 : n0 ≤ h0.size) (o tb : Addr) (kb : ClassId) (pre : List Int32) (Bq : Bd Z h0 o tb kb pre) (x : Int32) (nn : Nat) (hnn : nn ≤ 16) (hx : x = Int32.ofNat nn) :
    Met l Z [] (⟨"java/lang/AbstractStringBuilder", "ensureCapacityInternal", "(I)V"⟩ : MethodName) jdk_68_method_9_code 3 none ({ frames := 0, cells := 0, slots := 0, locals := 0 } : Room) #[(.ref o), (.int x)] h0 n0 (fun v h => v = none ∧ h0 = h) := by
  refine Met.of (plainFor_of_name pn_java_lang_AbstractStringBuilder) ?_
  intro p e s m below meth c F K
  subst hx
  refine Go.cast (ef_en m o _) ?_
  obtain ⟨E_o, F_o, C_o, N_o, V_b, E_b⟩ := id Bq
  refine Go.aloadN K d_jdk_68_method_9_0 rfl rfl (pc' := 1) rfl ?_
  refine Go.getF K (host := "") (Or.inl (hw _ (List.mem_of_getElem? (i := 51) rfl))) Via.refl F_o d_jdk_68_method_9_1 (pc' := 4) rfl ?_
  refine Go.arraylength K V_b d_jdk_68_method_9_4 (pc' := 5) rfl ?_
  refine Go.aloadN K d_jdk_68_method_9_5 rfl rfl (pc' := 6) rfl ?_
  refine Go.getF K (host := "") (Or.inl (hw _ (List.mem_of_getElem? (i := 53) rfl))) Via.refl C_o d_jdk_68_method_9_6 (pc' := 9) rfl ?_
  refine Go.ishr K d_jdk_68_method_9_9 (pc' := 10) rfl ?_
  refine Go.istoreN K d_jdk_68_method_9_10 (Ls' := #[.val (.ref o), .val (.int (Int32.ofNat nn)), .val (.int ((16 : Int32) >>> ((0 : Int32) &&& 31)))]) rfl (pc' := 11) rfl ?_
  refine Go.iloadN K d_jdk_68_method_9_11 rfl (pc' := 12) rfl ?_
  refine Go.iloadN K d_jdk_68_method_9_12 rfl (pc' := 13) rfl ?_
  refine Go.isub K d_jdk_68_method_9_13 (pc' := 14) rfl ?_
  refine Go.ifc K d_jdk_68_method_9_14 (by decide) (pcT := 38) (pcF := 17) (by decide) rfl (fun h14 => ?_) (fun h14 => ?_)
  · replace h14 : ¬ 0 < ((Int32.ofNat nn) - ((16 : Int32) >>> ((0 : Int32) &&& 31))) := h14
    exact Go.retV K (by decide) (by decide) d_jdk_68_method_9_38 (fun _ _ _ _ => ⟨rfl, rfl⟩)
  · replace h14 : ¬ (¬ 0 < ((Int32.ofNat nn) - ((16 : Int32) >>> ((0 : Int32) &&& 31)))) := h14
    rw [show (16 : Int32) >>> ((0 : Int32) &&& 31) = 16 from by decide] at h14
    exact absurd (own_sub16 hnn) h14
theorem ef_in (m : MethodId) (o : Addr) (sa : Addr) : entryFrame m #[(.ref o), (.ref sa)] 2 = mkF m 0 #[.val (.ref o), .val (.ref sa)] [] := by first | (simp [entryFrame, mkF, argsToLocals, Value.category]; done) | rfl
theorem d_jdk_68_method_71_0 : decode jdk_68_method_71_code 0 = .ok (.getstatic 18, 3) := by decide +kernel
theorem d_jdk_68_method_71_3 : decode jdk_68_method_71_code 3 = .ok (.ifCond .eq 18, 3) := by decide +kernel
theorem d_jdk_68_method_71_6 : decode jdk_68_method_71_code 6 = .ok (.aload_n 0, 1) := by decide +kernel
theorem d_jdk_68_method_71_7 : decode jdk_68_method_71_code 7 = .ok (.getfield 22, 3) := by decide +kernel
theorem d_jdk_68_method_71_10 : decode jdk_68_method_71_code 10 = .ok (.aload_n 1, 1) := by decide +kernel
theorem d_jdk_68_method_71_11 : decode jdk_68_method_71_code 11 = .ok (.invokevirtual 40, 3) := by decide +kernel
theorem d_jdk_68_method_71_14 : decode jdk_68_method_71_code 14 = .ok (.if_icmp .eq 7, 3) := by decide +kernel
theorem d_jdk_68_method_71_21 : decode jdk_68_method_71_code 21 = .ok (.return_, 1) := by decide +kernel
set_option maxRecDepth 65536 in
set_option maxHeartbeats 40000000 in
theorem m_in (l : Launch) (Z : State) (a0 : Array Value) (hw : ∀ d ∈ tables_1, d.before a0 Z = true) (h0 : Heap) (n0 : Nat) (Z0 : n0 ≤ h0.size) (o tb : Addr) (kb : ClassId) (pre : List Int32) (Bq : Bd Z h0 o tb kb pre) (sa ts : Addr) (kt : ClassId) (cs : List Int32) (E_sa : Exa Z h0 sa "java/lang/String") (C_sa : Fld Z h0 sa "java/lang/String" "coder" "B" (.int 0)) (F_sa : Fld Z h0 sa "java/lang/String" "value" "[B" (.ref ts)) (V_ts : Arv Z h0 ts kt .byte (Int32.ofNat cs.length) (L8 cs) (.int 0)) (od : Old Z n0 h0) (zc : Int32) (S1 : Sta Z Z.heap "java/lang/String" "COMPACT_STRINGS" "Z" (.int zc)) (P1 : ¬ (zc = (0 : Int32))) :
    Met l Z [] (⟨"java/lang/AbstractStringBuilder", "inflateIfNeededFor", "(Ljava/lang/String;)V"⟩ : MethodName) jdk_68_method_71_code 2 none ({ frames := 1, cells := 0, slots := 0, locals := 14 } : Room) #[(.ref o), (.ref sa)] h0 n0 (fun v h => v = none ∧ h0 = h) := by
  refine Met.of (plainFor_of_name pn_java_lang_AbstractStringBuilder) ?_
  intro p e s m below meth c F K
  refine Go.cast (ef_in m o sa) ?_
  obtain ⟨E_o, F_o, C_o, N_o, V_b, E_b⟩ := id Bq
  refine Go.getS K (host := "") (Or.inl (hw _ (List.mem_of_getElem? (i := 50) rfl))) Via.refl (S1.ext od.2) d_jdk_68_method_71_0 (pc' := 3) rfl ?_
  refine Go.ifc K d_jdk_68_method_71_3 (by decide) (pcT := 21) (pcF := 6) (by decide) rfl (fun h3 => ?_) (fun h3 => ?_)
  · replace h3 : zc = 0 := h3
    exact absurd h3 P1
  · replace h3 : ¬ (zc = 0) := h3
    refine Go.aloadN K d_jdk_68_method_71_6 rfl rfl (pc' := 7) rfl ?_
    refine Go.getF K (host := "") (Or.inl (hw _ (List.mem_of_getElem? (i := 53) rfl))) Via.refl C_o d_jdk_68_method_71_7 (pc' := 10) rfl ?_
    refine Go.aloadN K d_jdk_68_method_71_10 rfl rfl (pc' := 11) rfl ?_
    refine Go.callV K (y := (⟨"java/lang/String", "coder", "()B"⟩ : MethodName)) (z := (⟨"java/lang/String", "coder", "()B"⟩ : MethodName)) (W := 1) (kc := 0) (nc := 0) (a := sa) (mvT K.cz (hw _ (List.mem_of_getElem? (i := 95) rfl))) (mvT K.cz (hw _ (List.mem_of_getElem? (i := 74) rfl))) (notFace_of_selects (args := #[]) (mvT K.cz (hw _ (List.mem_of_getElem? (i := 76) rfl)))) (mvT K.cz (hw _ (List.mem_of_getElem? (i := 76) rfl))) (mvT K.cz (hw _ (List.mem_of_getElem? (i := 75) rfl))) (by decide) E_sa ((m_co l Z a0 hw h0 n0 Z0 sa C_sa od zc S1 P1).pays (W := 1) K.cz (hw _ (List.mem_of_getElem? (i := 77) rfl)) (hw _ (List.mem_of_getElem? (i := 3) rfl)) (by decide) (by decide)) rfl (argsL := []) (rest := [(.int (0 : Int32))]) (lenOf pd__28_29B rfl) rfl (Nat.le_of_ble_eq_true rfl) (by decide) (by decide) frOf grOf d_jdk_68_method_71_11 (pc' := 14) rfl ?_
    rintro v6 h4 Lc5 ⟨⟨⟨rfl, eh⟩, -⟩, -⟩
    obtain rfl := eh
    show Go p l e _ _ m _ below meth c _ _ _ _ h0 _ _ (mkF m 14 #[.val (.ref o), .val (.ref sa)] [(.int (0 : Int32)), (.int (0 : Int32))])
    refine Go.icmp K d_jdk_68_method_71_14 (by decide) (pcT := 21) (pcF := 17) (by decide) rfl (fun h14 => ?_) (fun h14 => ?_)
    · replace h14 : (0 : Int32) = (0 : Int32) := h14
      exact Go.retV K (by decide) (by decide) d_jdk_68_method_71_21 (fun _ _ _ _ => ⟨rfl, rfl⟩)
    · replace h14 : ¬ ((0 : Int32) = (0 : Int32)) := h14
      exact absurd rfl h14
theorem ef_gb (m : MethodId) (sa : Addr) (tb : Addr) (x : Int32) : entryFrame m #[(.ref sa), (.ref tb), (.int x), (.int (0 : Int32))] 4 = mkF m 0 #[.val (.ref sa), .val (.ref tb), .val (.int x), .val (.int (0 : Int32))] [] := by first | (simp [entryFrame, mkF, argsToLocals, Value.category]; done) | rfl
theorem d_jdk_42_method_147_0 : decode jdk_42_method_147_code 0 = .ok (.aload_n 0, 1) := by decide +kernel
theorem d_jdk_42_method_147_1 : decode jdk_42_method_147_code 1 = .ok (.invokevirtual 335, 3) := by decide +kernel
theorem d_jdk_42_method_147_4 : decode jdk_42_method_147_code 4 = .ok (.iload_n 3, 1) := by decide +kernel
theorem d_jdk_42_method_147_5 : decode jdk_42_method_147_code 5 = .ok (.if_icmp .ne 23, 3) := by decide +kernel
theorem d_jdk_42_method_147_8 : decode jdk_42_method_147_code 8 = .ok (.aload_n 0, 1) := by decide +kernel
theorem d_jdk_42_method_147_9 : decode jdk_42_method_147_code 9 = .ok (.getfield 9, 3) := by decide +kernel
theorem d_jdk_42_method_147_12 : decode jdk_42_method_147_code 12 = .ok (.iconst 0, 1) := by decide +kernel
theorem d_jdk_42_method_147_13 : decode jdk_42_method_147_code 13 = .ok (.aload_n 1, 1) := by decide +kernel
theorem d_jdk_42_method_147_14 : decode jdk_42_method_147_code 14 = .ok (.iload_n 2, 1) := by decide +kernel
theorem d_jdk_42_method_147_15 : decode jdk_42_method_147_code 15 = .ok (.iload_n 3, 1) := by decide +kernel
theorem d_jdk_42_method_147_16 : decode jdk_42_method_147_code 16 = .ok (.ishl, 1) := by decide +kernel
theorem d_jdk_42_method_147_17 : decode jdk_42_method_147_code 17 = .ok (.aload_n 0, 1) := by decide +kernel
theorem d_jdk_42_method_147_18 : decode jdk_42_method_147_code 18 = .ok (.getfield 9, 3) := by decide +kernel
theorem d_jdk_42_method_147_21 : decode jdk_42_method_147_code 21 = .ok (.arraylength, 1) := by decide +kernel
theorem d_jdk_42_method_147_22 : decode jdk_42_method_147_code 22 = .ok (.invokestatic 212, 3) := by decide +kernel
theorem d_jdk_42_method_147_25 : decode jdk_42_method_147_code 25 = .ok (.goto 18, 3) := by decide +kernel
theorem d_jdk_42_method_147_43 : decode jdk_42_method_147_code 43 = .ok (.return_, 1) := by decide +kernel
set_option maxRecDepth 65536 in
set_option maxHeartbeats 40000000 in
theorem m_gb (l : Launch) (Z : State) (a0 : Array Value) (hw : ∀ d ∈ tables_1, d.before a0 Z = true) (h0 : Heap) (n0 : Nat) (Z0 : n0 ≤ h0.size) (sa ts : Addr) (kt : ClassId) (cs : List Int32) (E_sa : Exa Z h0 sa "java/lang/String") (C_sa : Fld Z h0 sa "java/lang/String" "coder" "B" (.int 0)) (F_sa : Fld Z h0 sa "java/lang/String" "value" "[B" (.ref ts)) (V_ts : Arv Z h0 ts kt .byte (Int32.ofNat cs.length) (L8 cs) (.int 0)) (tb : Addr) (kb : ClassId) (pre : List Int32) (V_tb : Arv Z h0 tb kb .byte (16 : Int32) (Bl pre) (.int 0)) (g_tb : n0 ≤ tb) (hpc : pre.length + cs.length ≤ 16) (x : Int32) (hx : x = Int32.ofNat pre.length) (od : Old Z n0 h0) (zc : Int32) (S1 : Sta Z Z.heap "java/lang/String" "COMPACT_STRINGS" "Z" (.int zc)) (P1 : ¬ (zc = (0 : Int32))) :
    Met l Z [] (⟨"java/lang/String", "getBytes", "([BIB)V"⟩ : MethodName) jdk_42_method_147_code 4 none ({ frames := 1, cells := 0, slots := 0, locals := 18 } : Room) #[(.ref sa), (.ref tb), (.int x), (.int (0 : Int32))] h0 n0 (fun v h => v = none ∧ Keep h0 h [tb] ∧ Arv Z h tb kb .byte (16 : Int32) (Bl (pre ++ cs)) (.int 0)) := by
  refine Met.of (plainFor_of_name pn_java_lang_String) ?_
  intro p e s m below meth c F K
  subst hx
  refine Go.cast (ef_gb m sa tb _) ?_
  refine Go.aloadN K d_jdk_42_method_147_0 rfl rfl (pc' := 1) rfl ?_
  refine Go.callV K (y := (⟨"java/lang/String", "coder", "()B"⟩ : MethodName)) (z := (⟨"java/lang/String", "coder", "()B"⟩ : MethodName)) (W := 0) (kc := 0) (nc := 0) (a := sa) (mvT K.cz (hw _ (List.mem_of_getElem? (i := 73) rfl))) (mvT K.cz (hw _ (List.mem_of_getElem? (i := 74) rfl))) (notFace_of_selects (args := #[]) (mvT K.cz (hw _ (List.mem_of_getElem? (i := 76) rfl)))) (mvT K.cz (hw _ (List.mem_of_getElem? (i := 76) rfl))) (mvT K.cz (hw _ (List.mem_of_getElem? (i := 75) rfl))) (by decide) E_sa ((m_co l Z a0 hw h0 n0 Z0 sa C_sa od zc S1 P1).pays (W := 0) K.cz (hw _ (List.mem_of_getElem? (i := 77) rfl)) (hw _ (List.mem_of_getElem? (i := 3) rfl)) (by decide) (by decide)) rfl (argsL := []) (rest := []) (lenOf pd__28_29B rfl) rfl (Nat.le_of_ble_eq_true rfl) (by decide) (by decide) frOf grOf d_jdk_42_method_147_1 (pc' := 4) rfl ?_
  rintro v9 h7 Lc8 ⟨⟨⟨rfl, eh⟩, -⟩, -⟩
  obtain rfl := eh
  show Go p l e _ _ m _ below meth c _ _ _ _ h0 _ _ (mkF m 4 #[.val (.ref sa), .val (.ref tb), .val (.int (Int32.ofNat pre.length)), .val (.int (0 : Int32))] [(.int (0 : Int32))])
  refine Go.iloadN K d_jdk_42_method_147_4 rfl (pc' := 5) rfl ?_
  refine Go.icmp K d_jdk_42_method_147_5 (by decide) (pcT := 28) (pcF := 8) (by decide) rfl (fun h5 => ?_) (fun h5 => ?_)
  · replace h5 : ¬ (0 : Int32) = (0 : Int32) := h5
    exact absurd rfl h5
  · replace h5 : ¬ (¬ (0 : Int32) = (0 : Int32)) := h5
    refine Go.aloadN K d_jdk_42_method_147_8 rfl rfl (pc' := 9) rfl ?_
    refine Go.getF K (host := "") (Or.inl (hw _ (List.mem_of_getElem? (i := 28) rfl))) Via.refl F_sa d_jdk_42_method_147_9 (pc' := 12) rfl ?_
    refine Go.iconst K (v := 0) d_jdk_42_method_147_12 rfl (pc' := 13) rfl ?_
    refine Go.aloadN K d_jdk_42_method_147_13 rfl rfl (pc' := 14) rfl ?_
    refine Go.iloadN K d_jdk_42_method_147_14 rfl (pc' := 15) rfl ?_
    refine Go.iloadN K d_jdk_42_method_147_15 rfl (pc' := 16) rfl ?_
    refine Go.ishl K d_jdk_42_method_147_16 (pc' := 17) rfl ?_
    refine Go.aloadN K d_jdk_42_method_147_17 rfl rfl (pc' := 18) rfl ?_
    refine Go.getF K (host := "") (Or.inl (hw _ (List.mem_of_getElem? (i := 28) rfl))) Via.refl F_sa d_jdk_42_method_147_18 (pc' := 21) rfl ?_
    refine Go.arraylength K V_ts d_jdk_42_method_147_21 (pc' := 22) rfl ?_
    have hp : pre.length ≤ 16 := by omega
    have hc : cs.length ≤ 16 := by omega
    rw [own_shl0 hp]
    show Go p l e _ _ m _ below meth c _ _ _ _ h0 _ _ (mkF m 22 #[.val (.ref sa), .val (.ref tb), .val (.int (Int32.ofNat pre.length)), .val (.int (0 : Int32))] [(.int (Int32.ofNat cs.length)), (.int (Int32.ofNat pre.length)), (.ref tb), (.int (0 : Int32)), (.ref ts)])
    refine Go.acopy K (us := L8 cs) (hw _ (List.mem_of_getElem? (i := 101) rfl)) (hw _ (List.mem_of_getElem? (i := 104) rfl)) (hw _ (List.mem_of_getElem? (i := 102) rfl)) (hw _ (List.mem_of_getElem? (i := 103) rfl)) V_ts V_tb (by decide) (own_nn16 hp) (own_nn16 hc) (by rw [show (0 : Int32).toNatClampNeg = 0 from rfl]; omega) (by rw [own_tn hp, own_tn hc]; exact hpc) (by rw [own_tn hc, show (0 : Int32).toNatClampNeg = 0 from rfl]; exact own_us cs) (by rw [own_tn hp, own_tn hc, own_Bl hp]; exact hpc) g_tb rfl (by decide) 0 (Nat.le_of_ble_eq_true rfl) (by decide) d_jdk_42_method_147_22 (pc' := 25) rfl ?_
    intro h10 K11 V2
    have od13 := od.keep K11 (allS g_tb all0)
    have z14 := Nat.le_trans Z0 K11.1
    rw [own_tn hp, own_tn hc, own_app] at V2
    refine Go.goto K d_jdk_42_method_147_25 (pc' := 43) (by decide) (by decide) ?_
    exact Go.retV K (by decide) (by decide) d_jdk_42_method_147_43 (fun _ _ _ _ => ⟨rfl, K11, V2⟩)
theorem ef_ps (m : MethodId) (o : Addr) (x : Int32) (sa : Addr) : entryFrame m #[(.ref o), (.int x), (.ref sa)] 3 = mkF m 0 #[.val (.ref o), .val (.int x), .val (.ref sa)] [] := by first | (simp [entryFrame, mkF, argsToLocals, Value.category]; done) | rfl
theorem d_jdk_68_method_73_0 : decode jdk_68_method_73_code 0 = .ok (.aload_n 0, 1) := by decide +kernel
theorem d_jdk_68_method_73_1 : decode jdk_68_method_73_code 1 = .ok (.aload_n 2, 1) := by decide +kernel
theorem d_jdk_68_method_73_2 : decode jdk_68_method_73_code 2 = .ok (.invokevirtual 397, 3) := by decide +kernel
theorem pd__28Ljava_2flang_2fString_3b_29V : parseMethodDescriptor "(Ljava/lang/String;)V" = some ⟨[(.object "java/lang/String")], none⟩ := by decide +kernel
theorem d_jdk_68_method_73_5 : decode jdk_68_method_73_code 5 = .ok (.aload_n 2, 1) := by decide +kernel
theorem d_jdk_68_method_73_6 : decode jdk_68_method_73_code 6 = .ok (.aload_n 0, 1) := by decide +kernel
theorem d_jdk_68_method_73_7 : decode jdk_68_method_73_code 7 = .ok (.getfield 15, 3) := by decide +kernel
theorem d_jdk_68_method_73_10 : decode jdk_68_method_73_code 10 = .ok (.iload_n 1, 1) := by decide +kernel
theorem d_jdk_68_method_73_11 : decode jdk_68_method_73_code 11 = .ok (.aload_n 0, 1) := by decide +kernel
theorem d_jdk_68_method_73_12 : decode jdk_68_method_73_code 12 = .ok (.getfield 22, 3) := by decide +kernel
theorem d_jdk_68_method_73_15 : decode jdk_68_method_73_code 15 = .ok (.invokevirtual 399, 3) := by decide +kernel
theorem pd__28_5bBIB_29V : parseMethodDescriptor "([BIB)V" = some ⟨[(.array .byte), .int, .byte], none⟩ := by decide +kernel
theorem d_jdk_68_method_73_18 : decode jdk_68_method_73_code 18 = .ok (.return_, 1) := by decide +kernel
set_option maxRecDepth 65536 in
set_option maxHeartbeats 40000000 in
theorem m_ps (l : Launch) (Z : State) (a0 : Array Value) (hw : ∀ d ∈ tables_1, d.before a0 Z = true) (h0 : Heap) (n0 : Nat) (Z0 : n0 ≤ h0.size) (o tb : Addr) (kb : ClassId) (pre : List Int32) (Bq : Bd Z h0 o tb kb pre) (sa ts : Addr) (kt : ClassId) (cs : List Int32) (E_sa : Exa Z h0 sa "java/lang/String") (C_sa : Fld Z h0 sa "java/lang/String" "coder" "B" (.int 0)) (F_sa : Fld Z h0 sa "java/lang/String" "value" "[B" (.ref ts)) (V_ts : Arv Z h0 ts kt .byte (Int32.ofNat cs.length) (L8 cs) (.int 0)) (g_tb : n0 ≤ tb) (hpc : pre.length + cs.length ≤ 16) (x : Int32) (hx : x = Int32.ofNat pre.length) (od : Old Z n0 h0) (zc : Int32) (S1 : Sta Z Z.heap "java/lang/String" "COMPACT_STRINGS" "Z" (.int zc)) (P1 : ¬ (zc = (0 : Int32))) :
    Met l Z [] (⟨"java/lang/AbstractStringBuilder", "putStringAt", "(ILjava/lang/String;)V"⟩ : MethodName) jdk_68_method_73_code 3 none ({ frames := 2, cells := 0, slots := 0, locals := 56 } : Room) #[(.ref o), (.int x), (.ref sa)] h0 n0 (fun v h => v = none ∧ Keep h0 h [tb] ∧ Arv Z h tb kb .byte (16 : Int32) (Bl (pre ++ cs)) (.int 0)) := by
  refine Met.of (plainFor_of_name pn_java_lang_AbstractStringBuilder) ?_
  intro p e s m below meth c F K
  subst hx
  refine Go.cast (ef_ps m o _ sa) ?_
  obtain ⟨E_o, F_o, C_o, N_o, V_b, E_b⟩ := id Bq
  refine Go.aloadN K d_jdk_68_method_73_0 rfl rfl (pc' := 1) rfl ?_
  refine Go.aloadN K d_jdk_68_method_73_1 rfl rfl (pc' := 2) rfl ?_
  refine Go.callV K (y := (⟨"java/lang/AbstractStringBuilder", "inflateIfNeededFor", "(Ljava/lang/String;)V"⟩ : MethodName)) (z := (⟨"java/lang/AbstractStringBuilder", "inflateIfNeededFor", "(Ljava/lang/String;)V"⟩ : MethodName)) (W := 0) (kc := 0) (nc := 0) (a := o) (mvT K.cz (hw _ (List.mem_of_getElem? (i := 90) rfl))) (own_decl (mvT K.cz (hw _ (List.mem_of_getElem? (i := 91) rfl))) (mvT K.cz (hw _ (List.mem_of_getElem? (i := 94) rfl)))) (notFace_of_selects (args := #[]) (mvT K.cz (hw _ (List.mem_of_getElem? (i := 93) rfl)))) (mvT K.cz (hw _ (List.mem_of_getElem? (i := 93) rfl))) (mvT K.cz (hw _ (List.mem_of_getElem? (i := 91) rfl))) (by decide) E_o ((m_in l Z a0 hw h0 n0 Z0 o tb kb pre Bq sa ts kt cs E_sa C_sa F_sa V_ts od zc S1 P1).pays (W := 0) K.cz (hw _ (List.mem_of_getElem? (i := 94) rfl)) (hw _ (List.mem_of_getElem? (i := 47) rfl)) (by decide) (by decide)) rfl (argsL := [(.ref sa)]) (rest := []) (lenOf pd__28Ljava_2flang_2fString_3b_29V rfl) rfl (Nat.le_of_ble_eq_true rfl) (by decide) (by decide) frOf grOf d_jdk_68_method_73_2 (pc' := 5) rfl ?_
  rintro v17 h15 Lc16 ⟨⟨⟨rfl, eh⟩, -⟩, -⟩
  obtain rfl := eh
  show Go p l e _ _ m _ below meth c _ _ _ _ h0 _ _ (mkF m 5 #[.val (.ref o), .val (.int (Int32.ofNat pre.length)), .val (.ref sa)] [])
  refine Go.aloadN K d_jdk_68_method_73_5 rfl rfl (pc' := 6) rfl ?_
  refine Go.aloadN K d_jdk_68_method_73_6 rfl rfl (pc' := 7) rfl ?_
  refine Go.getF K (host := "") (Or.inl (hw _ (List.mem_of_getElem? (i := 51) rfl))) Via.refl F_o d_jdk_68_method_73_7 (pc' := 10) rfl ?_
  refine Go.iloadN K d_jdk_68_method_73_10 rfl (pc' := 11) rfl ?_
  refine Go.aloadN K d_jdk_68_method_73_11 rfl rfl (pc' := 12) rfl ?_
  refine Go.getF K (host := "") (Or.inl (hw _ (List.mem_of_getElem? (i := 53) rfl))) Via.refl C_o d_jdk_68_method_73_12 (pc' := 15) rfl ?_
  refine Go.callV K (y := (⟨"java/lang/String", "getBytes", "([BIB)V"⟩ : MethodName)) (z := (⟨"java/lang/String", "getBytes", "([BIB)V"⟩ : MethodName)) (W := 0) (kc := 0) (nc := 0) (a := sa) (mvT K.cz (hw _ (List.mem_of_getElem? (i := 96) rfl))) (mvT K.cz (hw _ (List.mem_of_getElem? (i := 97) rfl))) (notFace_of_selects (args := #[]) (mvT K.cz (hw _ (List.mem_of_getElem? (i := 99) rfl)))) (mvT K.cz (hw _ (List.mem_of_getElem? (i := 99) rfl))) (mvT K.cz (hw _ (List.mem_of_getElem? (i := 98) rfl))) (by decide) E_sa ((m_gb l Z a0 hw h0 n0 Z0 sa ts kt cs E_sa C_sa F_sa V_ts tb kb pre V_b g_tb hpc _ rfl od zc S1 P1).pays (W := 0) K.cz (hw _ (List.mem_of_getElem? (i := 100) rfl)) (hw _ (List.mem_of_getElem? (i := 3) rfl)) (by decide) (by decide)) rfl (argsL := [(.ref tb), (.int (Int32.ofNat pre.length)), (.int (0 : Int32))]) (rest := []) (lenOf pd__28_5bBIB_29V rfl) rfl (Nat.le_of_ble_eq_true rfl) (by decide) (by decide) frOf grOf d_jdk_68_method_73_15 (pc' := 18) rfl ?_
  rintro v20 h18 Lc19 ⟨⟨⟨rfl, Kq, Vq⟩, -⟩, -⟩
  show Go p l e _ _ m _ below meth c _ _ _ _ h18 _ _ (mkF m 18 #[.val (.ref o), .val (.int (Int32.ofNat pre.length)), .val (.ref sa)] [])
  exact Go.retV K (by decide) (by decide) d_jdk_68_method_73_18 (fun _ _ _ _ => ⟨rfl, Kq, Vq⟩)
theorem ef_aa (m : MethodId) (o : Addr) (sa : Addr) : entryFrame m #[(.ref o), (.ref sa)] 3 = mkF m 0 #[.val (.ref o), .val (.ref sa), .unset] [] := by first | (simp [entryFrame, mkF, argsToLocals, Value.category]; done) | rfl
theorem d_jdk_68_method_22_0 : decode jdk_68_method_22_code 0 = .ok (.aload_n 1, 1) := by decide +kernel
theorem d_jdk_68_method_22_1 : decode jdk_68_method_22_code 1 = .ok (.ifnonnull 8, 3) := by decide +kernel
theorem d_jdk_68_method_22_9 : decode jdk_68_method_22_code 9 = .ok (.aload_n 1, 1) := by decide +kernel
theorem d_jdk_68_method_22_10 : decode jdk_68_method_22_code 10 = .ok (.invokevirtual 32, 3) := by decide +kernel
theorem pd__28_29I : parseMethodDescriptor "()I" = some ⟨[], some .int⟩ := by decide +kernel
theorem d_jdk_68_method_22_13 : decode jdk_68_method_22_code 13 = .ok (.istore_n 2, 1) := by decide +kernel
theorem d_jdk_68_method_22_14 : decode jdk_68_method_22_code 14 = .ok (.aload_n 0, 1) := by decide +kernel
theorem d_jdk_68_method_22_15 : decode jdk_68_method_22_code 15 = .ok (.aload_n 0, 1) := by decide +kernel
theorem d_jdk_68_method_22_16 : decode jdk_68_method_22_code 16 = .ok (.getfield 79, 3) := by decide +kernel
theorem d_jdk_68_method_22_19 : decode jdk_68_method_22_code 19 = .ok (.iload_n 2, 1) := by decide +kernel
theorem d_jdk_68_method_22_20 : decode jdk_68_method_22_code 20 = .ok (.iadd, 1) := by decide +kernel
theorem d_jdk_68_method_22_21 : decode jdk_68_method_22_code 21 = .ok (.invokevirtual 100, 3) := by decide +kernel
theorem pd__28I_29V : parseMethodDescriptor "(I)V" = some ⟨[.int], none⟩ := by decide +kernel
theorem d_jdk_68_method_22_24 : decode jdk_68_method_22_code 24 = .ok (.aload_n 0, 1) := by decide +kernel
theorem d_jdk_68_method_22_25 : decode jdk_68_method_22_code 25 = .ok (.aload_n 0, 1) := by decide +kernel
theorem d_jdk_68_method_22_26 : decode jdk_68_method_22_code 26 = .ok (.getfield 79, 3) := by decide +kernel
theorem d_jdk_68_method_22_29 : decode jdk_68_method_22_code 29 = .ok (.aload_n 1, 1) := by decide +kernel
theorem d_jdk_68_method_22_30 : decode jdk_68_method_22_code 30 = .ok (.invokevirtual 208, 3) := by decide +kernel
theorem pd__28ILjava_2flang_2fString_3b_29V : parseMethodDescriptor "(ILjava/lang/String;)V" = some ⟨[.int, (.object "java/lang/String")], none⟩ := by decide +kernel
theorem d_jdk_68_method_22_33 : decode jdk_68_method_22_code 33 = .ok (.aload_n 0, 1) := by decide +kernel
theorem d_jdk_68_method_22_34 : decode jdk_68_method_22_code 34 = .ok (.dup, 1) := by decide +kernel
theorem d_jdk_68_method_22_35 : decode jdk_68_method_22_code 35 = .ok (.getfield 79, 3) := by decide +kernel
theorem d_jdk_68_method_22_38 : decode jdk_68_method_22_code 38 = .ok (.iload_n 2, 1) := by decide +kernel
theorem d_jdk_68_method_22_39 : decode jdk_68_method_22_code 39 = .ok (.iadd, 1) := by decide +kernel
theorem d_jdk_68_method_22_40 : decode jdk_68_method_22_code 40 = .ok (.putfield 79, 3) := by decide +kernel
theorem d_jdk_68_method_22_43 : decode jdk_68_method_22_code 43 = .ok (.aload_n 0, 1) := by decide +kernel
theorem d_jdk_68_method_22_44 : decode jdk_68_method_22_code 44 = .ok (.areturn, 1) := by decide +kernel
set_option maxRecDepth 65536 in
set_option maxHeartbeats 40000000 in
theorem m_aa (l : Launch) (Z : State) (a0 : Array Value) (hw : ∀ d ∈ tables_1, d.before a0 Z = true) (h0 : Heap) (n0 : Nat) (Z0 : n0 ≤ h0.size) (o tb : Addr) (kb : ClassId) (pre : List Int32) (Bq : Bd Z h0 o tb kb pre) (sa ts : Addr) (kt : ClassId) (cs : List Int32) (E_sa : Exa Z h0 sa "java/lang/String") (C_sa : Fld Z h0 sa "java/lang/String" "coder" "B" (.int 0)) (F_sa : Fld Z h0 sa "java/lang/String" "value" "[B" (.ref ts)) (V_ts : Arv Z h0 ts kt .byte (Int32.ofNat cs.length) (L8 cs) (.int 0)) (g_o : n0 ≤ o) (g_tb : n0 ≤ tb) (hne : o ≠ tb) (hpc : pre.length + cs.length ≤ 16) (od : Old Z n0 h0) (zc : Int32) (S1 : Sta Z Z.heap "java/lang/String" "COMPACT_STRINGS" "Z" (.int zc)) (P1 : ¬ (zc = (0 : Int32))) :
    Met l Z [] (⟨"java/lang/AbstractStringBuilder", "append", "(Ljava/lang/String;)Ljava/lang/AbstractStringBuilder;"⟩ : MethodName) jdk_68_method_22_code 3 (some (.object "java/lang/AbstractStringBuilder")) ({ frames := 3, cells := 0, slots := 0, locals := 70 } : Room) #[(.ref o), (.ref sa)] h0 n0 (fun v h => v = some (.ref o) ∧ Keep h0 h [o, tb] ∧ Bd Z h o tb kb (pre ++ cs)) := by
  refine Met.of (plainFor_of_name pn_java_lang_AbstractStringBuilder) ?_
  intro p e s m below meth c F K
  refine Go.cast (ef_aa m o sa) ?_
  have kc0 := Keep.refl h0 [o, tb]
  obtain ⟨E_o, F_o, C_o, N_o, V_b, E_b⟩ := id Bq
  have hc : cs.length ≤ 16 := by omega
  have hs : Int32.ofNat pre.length + Int32.ofNat cs.length = Int32.ofNat (pre.length + cs.length) := (Int32.ofNat_add ..).symm
  refine Go.aloadN K d_jdk_68_method_22_0 rfl rfl (pc' := 1) rfl ?_
  refine Go.ifnonnullR K d_jdk_68_method_22_1 (pc' := 9) (by decide) (by decide) ?_
  refine Go.aloadN K d_jdk_68_method_22_9 rfl rfl (pc' := 10) rfl ?_
  refine Go.callV K (y := (⟨"java/lang/String", "length", "()I"⟩ : MethodName)) (z := (⟨"java/lang/String", "length", "()I"⟩ : MethodName)) (W := 0) (kc := 0) (nc := 0) (a := sa) (mvT K.cz (hw _ (List.mem_of_getElem? (i := 68) rfl))) (mvT K.cz (hw _ (List.mem_of_getElem? (i := 69) rfl))) (notFace_of_selects (args := #[]) (mvT K.cz (hw _ (List.mem_of_getElem? (i := 71) rfl)))) (mvT K.cz (hw _ (List.mem_of_getElem? (i := 71) rfl))) (mvT K.cz (hw _ (List.mem_of_getElem? (i := 70) rfl))) (by decide) E_sa ((m_le l Z a0 hw h0 n0 Z0 sa ts kt cs E_sa C_sa F_sa V_ts hc od zc S1 P1).pays (W := 0) K.cz (hw _ (List.mem_of_getElem? (i := 72) rfl)) (hw _ (List.mem_of_getElem? (i := 3) rfl)) (by decide) (by decide)) rfl (argsL := []) (rest := []) (lenOf pd__28_29I rfl) rfl (Nat.le_of_ble_eq_true rfl) (by decide) (by decide) frOf grOf d_jdk_68_method_22_10 (pc' := 13) rfl ?_
  rintro v23 h21 Lc22 ⟨⟨⟨rfl, eh⟩, -⟩, -⟩
  obtain rfl := eh
  show Go p l e _ _ m _ below meth c _ _ _ _ h0 _ _ (mkF m 13 #[.val (.ref o), .val (.ref sa), .unset] [(.int (Int32.ofNat cs.length))])
  refine Go.istoreN K d_jdk_68_method_22_13 (Ls' := #[.val (.ref o), .val (.ref sa), .val (.int (Int32.ofNat cs.length))]) rfl (pc' := 14) rfl ?_
  refine Go.aloadN K d_jdk_68_method_22_14 rfl rfl (pc' := 15) rfl ?_
  refine Go.aloadN K d_jdk_68_method_22_15 rfl rfl (pc' := 16) rfl ?_
  refine Go.getF K (host := "") (Or.inl (hw _ (List.mem_of_getElem? (i := 78) rfl))) Via.refl N_o d_jdk_68_method_22_16 (pc' := 19) rfl ?_
  refine Go.iloadN K d_jdk_68_method_22_19 rfl (pc' := 20) rfl ?_
  refine Go.iadd K d_jdk_68_method_22_20 (pc' := 21) rfl ?_
  refine Go.callV K (y := (⟨"java/lang/AbstractStringBuilder", "ensureCapacityInternal", "(I)V"⟩ : MethodName)) (z := (⟨"java/lang/AbstractStringBuilder", "ensureCapacityInternal", "(I)V"⟩ : MethodName)) (W := 0) (kc := 0) (nc := 0) (a := o) (mvT K.cz (hw _ (List.mem_of_getElem? (i := 80) rfl))) (own_decl (mvT K.cz (hw _ (List.mem_of_getElem? (i := 81) rfl))) (mvT K.cz (hw _ (List.mem_of_getElem? (i := 84) rfl)))) (notFace_of_selects (args := #[]) (mvT K.cz (hw _ (List.mem_of_getElem? (i := 83) rfl)))) (mvT K.cz (hw _ (List.mem_of_getElem? (i := 83) rfl))) (mvT K.cz (hw _ (List.mem_of_getElem? (i := 81) rfl))) (by decide) E_o ((m_en l Z a0 hw h0 n0 Z0 o tb kb pre Bq _ _ hpc hs).pays (W := 0) K.cz (hw _ (List.mem_of_getElem? (i := 84) rfl)) (hw _ (List.mem_of_getElem? (i := 47) rfl)) (by decide) (by decide)) rfl (argsL := [(.int ((Int32.ofNat pre.length) + (Int32.ofNat cs.length)))]) (rest := []) (lenOf pd__28I_29V rfl) rfl (Nat.le_of_ble_eq_true rfl) (by decide) (by decide) frOf grOf d_jdk_68_method_22_21 (pc' := 24) rfl ?_
  rintro v26 h24 Lc25 ⟨⟨⟨rfl, eh⟩, -⟩, -⟩
  obtain rfl := eh
  show Go p l e _ _ m _ below meth c _ _ _ _ h0 _ _ (mkF m 24 #[.val (.ref o), .val (.ref sa), .val (.int (Int32.ofNat cs.length))] [])
  refine Go.aloadN K d_jdk_68_method_22_24 rfl rfl (pc' := 25) rfl ?_
  refine Go.aloadN K d_jdk_68_method_22_25 rfl rfl (pc' := 26) rfl ?_
  refine Go.getF K (host := "") (Or.inl (hw _ (List.mem_of_getElem? (i := 78) rfl))) Via.refl N_o d_jdk_68_method_22_26 (pc' := 29) rfl ?_
  refine Go.aloadN K d_jdk_68_method_22_29 rfl rfl (pc' := 30) rfl ?_
  refine Go.callV K (y := (⟨"java/lang/AbstractStringBuilder", "putStringAt", "(ILjava/lang/String;)V"⟩ : MethodName)) (z := (⟨"java/lang/AbstractStringBuilder", "putStringAt", "(ILjava/lang/String;)V"⟩ : MethodName)) (W := 0) (kc := 0) (nc := 0) (a := o) (mvT K.cz (hw _ (List.mem_of_getElem? (i := 85) rfl))) (own_decl (mvT K.cz (hw _ (List.mem_of_getElem? (i := 86) rfl))) (mvT K.cz (hw _ (List.mem_of_getElem? (i := 89) rfl)))) (notFace_of_selects (args := #[]) (mvT K.cz (hw _ (List.mem_of_getElem? (i := 88) rfl)))) (mvT K.cz (hw _ (List.mem_of_getElem? (i := 88) rfl))) (mvT K.cz (hw _ (List.mem_of_getElem? (i := 86) rfl))) (by decide) E_o ((m_ps l Z a0 hw h0 n0 Z0 o tb kb pre Bq sa ts kt cs E_sa C_sa F_sa V_ts g_tb hpc _ rfl od zc S1 P1).pays (W := 0) K.cz (hw _ (List.mem_of_getElem? (i := 89) rfl)) (hw _ (List.mem_of_getElem? (i := 47) rfl)) (by decide) (by decide)) rfl (argsL := [(.int (Int32.ofNat pre.length)), (.ref sa)]) (rest := []) (lenOf pd__28ILjava_2flang_2fString_3b_29V rfl) rfl (Nat.le_of_ble_eq_true rfl) (by decide) (by decide) frOf grOf d_jdk_68_method_22_30 (pc' := 33) rfl ?_
  rintro v29 h27 Lc28 ⟨⟨⟨rfl, Kq, Vq⟩, -⟩, -⟩
  have f30 := E_o.keep Kq
  have f31 := F_o.keep Kq (ninS hne nin0)
  have f32 := C_o.keep Kq (ninS hne nin0)
  have f33 := N_o.keep Kq (ninS hne nin0)
  have f35 := E_b.keep Kq
  have od36 := od.keep Kq (allS g_tb all0)
  have z37 := Nat.le_trans Z0 Kq.1
  have kc38 := kc0.trans Kq (allS (Or.inl (List.mem_of_getElem? (i := 1) rfl)) all0)
  show Go p l e _ _ m _ below meth c _ _ _ _ h27 _ _ (mkF m 33 #[.val (.ref o), .val (.ref sa), .val (.int (Int32.ofNat cs.length))] [])
  refine Go.aloadN K d_jdk_68_method_22_33 rfl rfl (pc' := 34) rfl ?_
  refine Go.dup K d_jdk_68_method_22_34 rfl (pc' := 35) rfl ?_
  refine Go.getF K (host := "") (Or.inl (hw _ (List.mem_of_getElem? (i := 78) rfl))) Via.refl f33 d_jdk_68_method_22_35 (pc' := 38) rfl ?_
  refine Go.iloadN K d_jdk_68_method_22_38 rfl (pc' := 39) rfl ?_
  refine Go.iadd K d_jdk_68_method_22_39 (pc' := 40) rfl ?_
  refine Go.putF K (host := "") (Or.inl (hw _ (List.mem_of_getElem? (i := 78) rfl))) Via.refl f33 f30 (Or.inl (hw _ (List.mem_of_getElem? (i := 79) rfl))) (hw _ (List.mem_of_getElem? (i := 38) rfl)) (ty := .int) (by decide) rfl rfl g_o d_jdk_68_method_22_40 (pc' := 43) rfl ?_
  intro h39 W40 f41
  have f42 := f31.other W40 (Or.inr (slot_ne (Or.inl (hw _ (List.mem_of_getElem? (i := 52) rfl))) (Or.inl (hw _ (List.mem_of_getElem? (i := 79) rfl))) (by decide) (t := (.array .byte)) (t' := .int) (by decide) (by decide)))
  have f43 := f32.other W40 (Or.inr (slot_ne (Or.inl (hw _ (List.mem_of_getElem? (i := 54) rfl))) (Or.inl (hw _ (List.mem_of_getElem? (i := 79) rfl))) (by decide) (t := .byte) (t' := .int) (by decide) (by decide)))
  have K44 := Keep.of_wr W40
  have f45 := f30.keep K44
  have f49 := f35.keep K44
  have f50 := Vq.keep K44 (ninS (Ne.symm hne) nin0)
  have od51 := od36.keep K44 (allS g_o all0)
  have z52 := Nat.le_trans z37 K44.1
  have kc53 := kc38.trans K44 (allS (Or.inl (List.mem_of_getElem? (i := 0) rfl)) all0)
  refine Go.aloadN K d_jdk_68_method_22_43 rfl rfl (pc' := 44) rfl ?_
  have Nq : Fld Z h39 o "java/lang/AbstractStringBuilder" "count" "I" (.int (Int32.ofNat (pre ++ cs).length)) := by
    rw [List.length_append, ← hs]
    exact f41
  exact Go.retA K rfl rfl rfl (by decide) (by decide) d_jdk_68_method_22_44 (fun _ _ _ _ => ⟨rfl, kc53, ⟨f45, f42, f43, Nq, f50, f49⟩⟩)
theorem ef_sa (m : MethodId) (o : Addr) (sa : Addr) : entryFrame m #[(.ref o), (.ref sa)] 2 = mkF m 0 #[.val (.ref o), .val (.ref sa)] [] := by first | (simp [entryFrame, mkF, argsToLocals, Value.category]; done) | rfl
theorem d_jdk_67_method_7_0 : decode jdk_67_method_7_code 0 = .ok (.aload_n 0, 1) := by decide +kernel
theorem d_jdk_67_method_7_1 : decode jdk_67_method_7_code 1 = .ok (.aload_n 1, 1) := by decide +kernel
theorem d_jdk_67_method_7_2 : decode jdk_67_method_7_code 2 = .ok (.invokespecial 29, 3) := by decide +kernel
theorem pd__28Ljava_2flang_2fString_3b_29Ljava_2flang_2fAbstractStringBuilder_3b : parseMethodDescriptor "(Ljava/lang/String;)Ljava/lang/AbstractStringBuilder;" = some ⟨[(.object "java/lang/String")], some (.object "java/lang/AbstractStringBuilder")⟩ := by decide +kernel
theorem d_jdk_67_method_7_5 : decode jdk_67_method_7_code 5 = .ok (.pop, 1) := by decide +kernel
theorem d_jdk_67_method_7_6 : decode jdk_67_method_7_code 6 = .ok (.aload_n 0, 1) := by decide +kernel
theorem d_jdk_67_method_7_7 : decode jdk_67_method_7_code 7 = .ok (.areturn, 1) := by decide +kernel
theorem pn_java_lang_StringBuilder : plainName "java/lang/StringBuilder" = true := by first | (simp [plainName, overriddenIn]; done) | decide +kernel
set_option maxRecDepth 65536 in
set_option maxHeartbeats 40000000 in
theorem m_sa (l : Launch) (Z : State) (a0 : Array Value) (hw : ∀ d ∈ tables_1, d.before a0 Z = true) (h0 : Heap) (n0 : Nat) (Z0 : n0 ≤ h0.size) (o tb : Addr) (kb : ClassId) (pre : List Int32) (Bq : Bd Z h0 o tb kb pre) (sa ts : Addr) (kt : ClassId) (cs : List Int32) (E_sa : Exa Z h0 sa "java/lang/String") (C_sa : Fld Z h0 sa "java/lang/String" "coder" "B" (.int 0)) (F_sa : Fld Z h0 sa "java/lang/String" "value" "[B" (.ref ts)) (V_ts : Arv Z h0 ts kt .byte (Int32.ofNat cs.length) (L8 cs) (.int 0)) (g_o : n0 ≤ o) (g_tb : n0 ≤ tb) (hne : o ≠ tb) (hpc : pre.length + cs.length ≤ 16) (od : Old Z n0 h0) (zc : Int32) (S1 : Sta Z Z.heap "java/lang/String" "COMPACT_STRINGS" "Z" (.int zc)) (P1 : ¬ (zc = (0 : Int32))) :
    Met l Z [] (⟨"java/lang/StringBuilder", "append", "(Ljava/lang/String;)Ljava/lang/StringBuilder;"⟩ : MethodName) jdk_67_method_7_code 2 (some (.object "java/lang/StringBuilder")) ({ frames := 4, cells := 0, slots := 0, locals := 84 } : Room) #[(.ref o), (.ref sa)] h0 n0 (fun v h => v = some (.ref o) ∧ Keep h0 h [o, tb] ∧ Bd Z h o tb kb (pre ++ cs)) := by
  refine Met.of (plainFor_of_name pn_java_lang_StringBuilder) ?_
  intro p e s m below meth c F K
  refine Go.cast (ef_sa m o sa) ?_
  obtain ⟨E_o, F_o, C_o, N_o, V_b, E_b⟩ := id Bq
  refine Go.aloadN K d_jdk_67_method_7_0 rfl rfl (pc' := 1) rfl ?_
  refine Go.aloadN K d_jdk_67_method_7_1 rfl rfl (pc' := 2) rfl ?_
  refine Go.callSup K (y := (⟨"java/lang/AbstractStringBuilder", "append", "(Ljava/lang/String;)Ljava/lang/AbstractStringBuilder;"⟩ : MethodName)) (W := 0) (kc := 0) (nc := 0) (a := o) (hw _ (List.mem_of_getElem? (i := 63) rfl)) (own_same (y := (⟨"java/lang/AbstractStringBuilder", "append", "(Ljava/lang/String;)Ljava/lang/AbstractStringBuilder;"⟩ : MethodName)) (z := (⟨"java/lang/AbstractStringBuilder", "getValue", "()[B"⟩ : MethodName)) rfl (by decide) (hw _ (List.mem_of_getElem? (i := 64) rfl)) (hw _ (List.mem_of_getElem? (i := 121) rfl))) (hw _ (List.mem_of_getElem? (i := 64) rfl)) (hw _ (List.mem_of_getElem? (i := 65) rfl)) (by decide) E_o (hw _ (List.mem_of_getElem? (i := 67) rfl)) ((m_aa l Z a0 hw h0 n0 Z0 o tb kb pre Bq sa ts kt cs E_sa C_sa F_sa V_ts g_o g_tb hne hpc od zc S1 P1).pays (W := 0) K.cz (hw _ (List.mem_of_getElem? (i := 67) rfl)) (hw _ (List.mem_of_getElem? (i := 47) rfl)) (by decide) (by decide)) rfl (argsL := [(.ref sa)]) (rest := []) (lenOf pd__28Ljava_2flang_2fString_3b_29Ljava_2flang_2fAbstractStringBuilder_3b rfl) rfl (Nat.le_of_ble_eq_true rfl) (by decide) (by decide) frOf grOf d_jdk_67_method_7_2 (pc' := 5) rfl ?_
  rintro v56 h54 Lc55 ⟨⟨⟨rfl, Kq, B2⟩, -⟩, -⟩
  show Go p l e _ _ m _ below meth c _ _ _ _ h54 _ _ (mkF m 5 #[.val (.ref o), .val (.ref sa)] [(.ref o)])
  refine Go.pop K d_jdk_67_method_7_5 rfl (pc' := 6) rfl ?_
  refine Go.aloadN K d_jdk_67_method_7_6 rfl rfl (pc' := 7) rfl ?_
  exact Go.retA K rfl rfl rfl (by decide) (by decide) d_jdk_67_method_7_7 (fun _ _ _ _ => ⟨rfl, Kq, B2⟩)
theorem ef_ai (m : MethodId) (o : Addr) : entryFrame m #[(.ref o), (.int (16 : Int32))] 2 = mkF m 0 #[.val (.ref o), .val (.int (16 : Int32))] [] := by first | (simp [entryFrame, mkF, argsToLocals, Value.category]; done) | rfl
theorem d_jdk_68_method_2_0 : decode jdk_68_method_2_code 0 = .ok (.aload_n 0, 1) := by decide +kernel
theorem d_jdk_68_method_2_1 : decode jdk_68_method_2_code 1 = .ok (.invokespecial 3, 3) := by decide +kernel
theorem d_jdk_68_method_2_4 : decode jdk_68_method_2_code 4 = .ok (.getstatic 18, 3) := by decide +kernel
theorem d_jdk_68_method_2_7 : decode jdk_68_method_2_code 7 = .ok (.ifCond .eq 18, 3) := by decide +kernel
theorem d_jdk_68_method_2_10 : decode jdk_68_method_2_code 10 = .ok (.aload_n 0, 1) := by decide +kernel
theorem d_jdk_68_method_2_11 : decode jdk_68_method_2_code 11 = .ok (.iload_n 1, 1) := by decide +kernel
theorem d_jdk_68_method_2_12 : decode jdk_68_method_2_code 12 = .ok (.newarray .byte, 2) := by decide +kernel
theorem d_jdk_68_method_2_14 : decode jdk_68_method_2_code 14 = .ok (.putfield 15, 3) := by decide +kernel
theorem d_jdk_68_method_2_17 : decode jdk_68_method_2_code 17 = .ok (.aload_n 0, 1) := by decide +kernel
theorem d_jdk_68_method_2_18 : decode jdk_68_method_2_code 18 = .ok (.iconst 0, 1) := by decide +kernel
theorem d_jdk_68_method_2_19 : decode jdk_68_method_2_code 19 = .ok (.putfield 22, 3) := by decide +kernel
theorem d_jdk_68_method_2_22 : decode jdk_68_method_2_code 22 = .ok (.goto 16, 3) := by decide +kernel
theorem d_jdk_68_method_2_38 : decode jdk_68_method_2_code 38 = .ok (.return_, 1) := by decide +kernel
set_option maxRecDepth 65536 in
set_option maxHeartbeats 40000000 in
theorem m_ai (l : Launch) (Z : State) (a0 : Array Value) (hw : ∀ d ∈ tables_1, d.before a0 Z = true) (h0 : Heap) (n0 : Nat) (Z0 : n0 ≤ h0.size) (o : Addr) (E_o : Exa Z h0 o "java/lang/StringBuilder") (F_v : Fld Z h0 o "java/lang/AbstractStringBuilder" "value" "[B" .null) (F_c : Fld Z h0 o "java/lang/AbstractStringBuilder" "coder" "B" (.int (0 : Int32))) (F_n : Fld Z h0 o "java/lang/AbstractStringBuilder" "count" "I" (.int (0 : Int32))) (g_o : n0 ≤ o) (od : Old Z n0 h0) (zc : Int32) (S1 : Sta Z Z.heap "java/lang/String" "COMPACT_STRINGS" "Z" (.int zc)) (P1 : ¬ (zc = (0 : Int32))) :
    Met l Z [] (⟨"java/lang/AbstractStringBuilder", "<init>", "(I)V"⟩ : MethodName) jdk_68_method_2_code 2 none ({ frames := 1, cells := 1, slots := 16, locals := 14 } : Room) #[(.ref o), (.int (16 : Int32))] h0 n0 (fun v h => v = none ∧ Keep h0 h [o] ∧ ∃ (tb : Addr) (kb : ClassId), h0.size ≤ tb ∧ Bd Z h o tb kb []) := by
  refine Met.of (plainFor_of_name pn_java_lang_AbstractStringBuilder) ?_
  intro p e s m below meth c F K
  refine Go.cast (ef_ai m o) ?_
  have kc0 := Keep.refl h0 [o]
  refine Go.aloadN K d_jdk_68_method_2_0 rfl rfl (pc' := 1) rfl ?_
  refine Go.initO K (hw _ (List.mem_of_getElem? (i := 49) rfl)) (hw _ (List.mem_of_getElem? (i := 12) rfl)) (hw _ (List.mem_of_getElem? (i := 13) rfl)) rfl (by decide) 0 (Nat.le_of_ble_eq_true rfl) (by decide) d_jdk_68_method_2_1 (pc' := 4) rfl ?_
  refine Go.getS K (host := "") (Or.inl (hw _ (List.mem_of_getElem? (i := 50) rfl))) Via.refl (S1.ext od.2) d_jdk_68_method_2_4 (pc' := 7) rfl ?_
  refine Go.ifc K d_jdk_68_method_2_7 (by decide) (pcT := 25) (pcF := 10) (by decide) rfl (fun h7 => ?_) (fun h7 => ?_)
  · replace h7 : zc = 0 := h7
    exact absurd h7 P1
  · replace h7 : ¬ (zc = 0) := h7
    refine Go.aloadN K d_jdk_68_method_2_10 rfl rfl (pc' := 11) rfl ?_
    refine Go.iloadN K d_jdk_68_method_2_11 rfl (pc' := 12) rfl ?_
    refine Go.newB K (hw _ (List.mem_of_getElem? (i := 19) rfl)) (by decide) 16 (by decide) (by decide) (by decide) (by decide) d_jdk_68_method_2_12 (pc' := 14) rfl ?_
    intro h57 tb kA_tb eq59 E58 V_tb E_tb
    have sz_tb := Nat.le_trans kc0.1 (Nat.le_of_eq eq59.symm)
    have ne61 : o ≠ tb := own_ne E_o.lt (Nat.le_of_eq eq59.symm)
    have g_tb : n0 ≤ tb := Nat.le_trans Z0 (Nat.le_of_eq eq59.symm)
    have f66 := E_o.ext E58
    have f67 := F_v.ext E58
    have f68 := F_c.ext E58
    have f69 := F_n.ext E58
    have od70 := od.ext E58
    have z71 := Nat.le_trans Z0 E58.1
    have kc72 := kc0.ext E58
    have V60 : Arv Z h57 tb kA_tb .byte (16 : Int32) (List.replicate 16 (.int 0)) (.int 0) := V_tb.pad (pad_rep [] (.int 0) 16)
    refine Go.putF K (host := "") (Or.inl (hw _ (List.mem_of_getElem? (i := 51) rfl))) Via.refl f67 f66 (Or.inl (hw _ (List.mem_of_getElem? (i := 52) rfl))) (hw _ (List.mem_of_getElem? (i := 38) rfl)) (ty := (.array .byte)) (by decide) rfl rfl g_o d_jdk_68_method_2_14 (pc' := 17) rfl ?_
    intro h73 W74 f75
    have f76 := f68.other W74 (Or.inr (slot_ne (Or.inl (hw _ (List.mem_of_getElem? (i := 54) rfl))) (Or.inl (hw _ (List.mem_of_getElem? (i := 52) rfl))) (by decide) (t := .byte) (t' := (.array .byte)) (by decide) (by decide)))
    have f77 := f69.other W74 (Or.inr (slot_ne (Or.inl (hw _ (List.mem_of_getElem? (i := 79) rfl))) (Or.inl (hw _ (List.mem_of_getElem? (i := 52) rfl))) (by decide) (t := .int) (t' := (.array .byte)) (by decide) (by decide)))
    have K78 := Keep.of_wr W74
    have f79 := f66.keep K78
    have f83 := V60.keep K78 (ninS (Ne.symm ne61) nin0)
    have f84 := E_tb.keep K78
    have od85 := od70.keep K78 (allS g_o all0)
    have z86 := Nat.le_trans z71 K78.1
    have kc87 := kc72.trans K78 (allS (Or.inl (List.mem_of_getElem? (i := 0) rfl)) all0)
    refine Go.aloadN K d_jdk_68_method_2_17 rfl rfl (pc' := 18) rfl ?_
    refine Go.iconst K (v := 0) d_jdk_68_method_2_18 rfl (pc' := 19) rfl ?_
    refine Go.putFN K (hw _ (List.mem_of_getElem? (i := 53) rfl)) Via.refl f76 f79 (Or.inl (hw _ (List.mem_of_getElem? (i := 54) rfl))) (hw _ (List.mem_of_getElem? (i := 38) rfl)) (ty := .byte) (v' := (.int (0 : Int32))) (by decide) rfl rfl g_o d_jdk_68_method_2_19 (pc' := 22) rfl ?_
    intro h88 W89 f90
    have f91 := f77.other W89 (Or.inr (slot_ne (Or.inl (hw _ (List.mem_of_getElem? (i := 79) rfl))) (Or.inl (hw _ (List.mem_of_getElem? (i := 54) rfl))) (by decide) (t := .int) (t' := .byte) (by decide) (by decide)))
    have f92 := f75.other W89 (Or.inr (slot_ne (Or.inl (hw _ (List.mem_of_getElem? (i := 52) rfl))) (Or.inl (hw _ (List.mem_of_getElem? (i := 54) rfl))) (by decide) (t := (.array .byte)) (t' := .byte) (by decide) (by decide)))
    have K93 := Keep.of_wr W89
    have f94 := f79.keep K93
    have f95 := f83.keep K93 (ninS (Ne.symm ne61) nin0)
    have f96 := f84.keep K93
    have od100 := od85.keep K93 (allS g_o all0)
    have z101 := Nat.le_trans z86 K93.1
    have kc102 := kc87.trans K93 (allS (Or.inl (List.mem_of_getElem? (i := 0) rfl)) all0)
    refine Go.goto K d_jdk_68_method_2_22 (pc' := 38) (by decide) (by decide) ?_
    exact Go.retV K (by decide) (by decide) d_jdk_68_method_2_38 (fun _ _ _ _ => ⟨rfl, kc102, tb, kA_tb, sz_tb, ⟨f94, f92, f90, f91, f95, f96⟩⟩)
theorem ef_si (m : MethodId) (o : Addr) : entryFrame m #[(.ref o)] 1 = mkF m 0 #[.val (.ref o)] [] := by first | (simp [entryFrame, mkF, argsToLocals, Value.category]; done) | rfl
theorem d_jdk_67_method_1_0 : decode jdk_67_method_1_code 0 = .ok (.aload_n 0, 1) := by decide +kernel
theorem d_jdk_67_method_1_1 : decode jdk_67_method_1_code 1 = .ok (.bipush 16, 2) := by decide +kernel
theorem d_jdk_67_method_1_3 : decode jdk_67_method_1_code 3 = .ok (.invokespecial 1, 3) := by decide +kernel
theorem d_jdk_67_method_1_6 : decode jdk_67_method_1_code 6 = .ok (.return_, 1) := by decide +kernel
set_option maxRecDepth 65536 in
set_option maxHeartbeats 40000000 in
theorem m_si (l : Launch) (Z : State) (a0 : Array Value) (hw : ∀ d ∈ tables_1, d.before a0 Z = true) (h0 : Heap) (n0 : Nat) (Z0 : n0 ≤ h0.size) (o : Addr) (E_o : Exa Z h0 o "java/lang/StringBuilder") (F_v : Fld Z h0 o "java/lang/AbstractStringBuilder" "value" "[B" .null) (F_c : Fld Z h0 o "java/lang/AbstractStringBuilder" "coder" "B" (.int (0 : Int32))) (F_n : Fld Z h0 o "java/lang/AbstractStringBuilder" "count" "I" (.int (0 : Int32))) (g_o : n0 ≤ o) (od : Old Z n0 h0) (zc : Int32) (S1 : Sta Z Z.heap "java/lang/String" "COMPACT_STRINGS" "Z" (.int zc)) (P1 : ¬ (zc = (0 : Int32))) :
    Met l Z [] (⟨"java/lang/StringBuilder", "<init>", "()V"⟩ : MethodName) jdk_67_method_1_code 1 none ({ frames := 2, cells := 1, slots := 16, locals := 28 } : Room) #[(.ref o)] h0 n0 (fun v h => v = none ∧ Keep h0 h [o] ∧ ∃ (tb : Addr) (kb : ClassId), h0.size ≤ tb ∧ Bd Z h o tb kb []) := by
  refine Met.of (plainFor_of_name pn_java_lang_StringBuilder) ?_
  intro p e s m below meth c F K
  refine Go.cast (ef_si m o) ?_
  refine Go.aloadN K d_jdk_67_method_1_0 rfl rfl (pc' := 1) rfl ?_
  refine Go.bipush K (v := 16) d_jdk_67_method_1_1 rfl (pc' := 3) rfl ?_
  refine Go.callC K (y := (⟨"java/lang/AbstractStringBuilder", "<init>", "(I)V"⟩ : MethodName)) (W := 0) (kc := 1) (nc := 16) (a := o) rfl (mvT K.cz (hw _ (List.mem_of_getElem? (i := 43) rfl))) (mvT K.cz (hw _ (List.mem_of_getElem? (i := 44) rfl))) (mvT K.cz (hw _ (List.mem_of_getElem? (i := 48) rfl))) (by decide) ((m_ai l Z a0 hw h0 n0 Z0 o E_o F_v F_c F_n g_o od zc S1 P1).pays (W := 0) K.cz (hw _ (List.mem_of_getElem? (i := 48) rfl)) (hw _ (List.mem_of_getElem? (i := 47) rfl)) (by decide) (by decide)) rfl (argsL := [(.int (16 : Int32))]) (rest := []) (lenOf pd__28I_29V rfl) rfl (Nat.le_of_ble_eq_true rfl) (by decide) (by decide) frOf grOf d_jdk_67_method_1_3 (pc' := 6) rfl ?_
  rintro v105 h103 Lc104 ⟨⟨⟨rfl, Kq, Bq⟩, -⟩, -⟩
  show Go p l e _ _ m _ below meth c _ _ _ _ h103 _ _ (mkF m 6 #[.val (.ref o)] [])
  exact Go.retV K (by decide) (by decide) d_jdk_67_method_1_6 (fun _ _ _ _ => ⟨rfl, Kq, Bq⟩)
theorem ef_m_gv (m : MethodId) (o : Addr) : entryFrame m #[(.ref o)] 1 = mkF m 0 #[.val (.ref o)] [] := by first | (simp [entryFrame, mkF, argsToLocals, Value.category]; done) | rfl
theorem d_jdk_68_method_64_0 : decode jdk_68_method_64_code 0 = .ok (.aload_n 0, 1) := by decide +kernel
theorem d_jdk_68_method_64_1 : decode jdk_68_method_64_code 1 = .ok (.getfield 15, 3) := by decide +kernel
theorem d_jdk_68_method_64_4 : decode jdk_68_method_64_code 4 = .ok (.areturn, 1) := by decide +kernel
set_option maxRecDepth 65536 in
set_option maxHeartbeats 40000000 in
theorem m_gv (l : Launch) (Z : State) (a0 : Array Value) (hw : ∀ d ∈ tables_1, d.before a0 Z = true) (h0 : Heap) (n0 : Nat) (Z0 : n0 ≤ h0.size) (o tb : Addr) (kb : ClassId) (pre : List Int32) (Bq : Bd Z h0 o tb kb pre) :
    Met l Z [] (⟨"java/lang/AbstractStringBuilder", "getValue", "()[B"⟩ : MethodName) jdk_68_method_64_code 1 (some (.array .byte)) ({ frames := 0, cells := 0, slots := 0, locals := 0 } : Room) #[(.ref o)] h0 n0 (fun v h => v = some (.ref tb) ∧ h0 = h) := by
  refine Met.of (plainFor_of_name pn_java_lang_AbstractStringBuilder) ?_
  intro p e s m below meth c F K
  refine Go.cast (ef_m_gv m o) ?_
  obtain ⟨E_o, F_o, C_o, N_o, V_b, E_b⟩ := id Bq
  refine Go.aloadN K d_jdk_68_method_64_0 rfl rfl (pc' := 1) rfl ?_
  refine Go.getF K (host := "") (Or.inl (hw _ (List.mem_of_getElem? (i := 51) rfl))) Via.refl F_o d_jdk_68_method_64_1 (pc' := 4) rfl ?_
  exact Go.retA K rfl rfl rfl (by decide) (by decide) d_jdk_68_method_64_4 (fun _ _ _ _ => ⟨rfl, rfl⟩)
theorem ef_m_al (m : MethodId) (o : Addr) : entryFrame m #[(.ref o)] 1 = mkF m 0 #[.val (.ref o)] [] := by first | (simp [entryFrame, mkF, argsToLocals, Value.category]; done) | rfl
theorem d_jdk_68_method_6_0 : decode jdk_68_method_6_code 0 = .ok (.aload_n 0, 1) := by decide +kernel
theorem d_jdk_68_method_6_1 : decode jdk_68_method_6_code 1 = .ok (.getfield 79, 3) := by decide +kernel
theorem d_jdk_68_method_6_4 : decode jdk_68_method_6_code 4 = .ok (.ireturn, 1) := by decide +kernel
set_option maxRecDepth 65536 in
set_option maxHeartbeats 40000000 in
theorem m_al (l : Launch) (Z : State) (a0 : Array Value) (hw : ∀ d ∈ tables_1, d.before a0 Z = true) (h0 : Heap) (n0 : Nat) (Z0 : n0 ≤ h0.size) (o tb : Addr) (kb : ClassId) (pre : List Int32) (Bq : Bd Z h0 o tb kb pre) :
    Met l Z [] (⟨"java/lang/AbstractStringBuilder", "length", "()I"⟩ : MethodName) jdk_68_method_6_code 1 (some .int) ({ frames := 0, cells := 0, slots := 0, locals := 0 } : Room) #[(.ref o)] h0 n0 (fun v h => v = some (.int (Int32.ofNat pre.length)) ∧ h0 = h) := by
  refine Met.of (plainFor_of_name pn_java_lang_AbstractStringBuilder) ?_
  intro p e s m below meth c F K
  refine Go.cast (ef_m_al m o) ?_
  obtain ⟨E_o, F_o, C_o, N_o, V_b, E_b⟩ := id Bq
  refine Go.aloadN K d_jdk_68_method_6_0 rfl rfl (pc' := 1) rfl ?_
  refine Go.getF K (host := "") (Or.inl (hw _ (List.mem_of_getElem? (i := 78) rfl))) Via.refl N_o d_jdk_68_method_6_1 (pc' := 4) rfl ?_
  exact Go.retI K (by decide) (by decide) d_jdk_68_method_6_4 (fun _ _ _ _ => ⟨rfl, rfl⟩)
theorem ef_sl (m : MethodId) (o : Addr) : entryFrame m #[(.ref o)] 1 = mkF m 0 #[.val (.ref o)] [] := by first | (simp [entryFrame, mkF, argsToLocals, Value.category]; done) | rfl
theorem d_jdk_67_method_93_0 : decode jdk_67_method_93_code 0 = .ok (.aload_n 0, 1) := by decide +kernel
theorem d_jdk_67_method_93_1 : decode jdk_67_method_93_code 1 = .ok (.invokespecial 343, 3) := by decide +kernel
theorem d_jdk_67_method_93_4 : decode jdk_67_method_93_code 4 = .ok (.ireturn, 1) := by decide +kernel
set_option maxRecDepth 65536 in
set_option maxHeartbeats 40000000 in
theorem m_sl (l : Launch) (Z : State) (a0 : Array Value) (hw : ∀ d ∈ tables_1, d.before a0 Z = true) (h0 : Heap) (n0 : Nat) (Z0 : n0 ≤ h0.size) (o tb : Addr) (kb : ClassId) (pre : List Int32) (Bq : Bd Z h0 o tb kb pre) :
    Met l Z [] (⟨"java/lang/StringBuilder", "length", "()I"⟩ : MethodName) jdk_67_method_93_code 1 (some .int) ({ frames := 1, cells := 0, slots := 0, locals := 14 } : Room) #[(.ref o)] h0 n0 (fun v h => v = some (.int (Int32.ofNat pre.length)) ∧ h0 = h) := by
  refine Met.of (plainFor_of_name pn_java_lang_StringBuilder) ?_
  intro p e s m below meth c F K
  refine Go.cast (ef_sl m o) ?_
  obtain ⟨E_o, F_o, C_o, N_o, V_b, E_b⟩ := id Bq
  refine Go.aloadN K d_jdk_67_method_93_0 rfl rfl (pc' := 1) rfl ?_
  refine Go.callSup K (y := (⟨"java/lang/AbstractStringBuilder", "length", "()I"⟩ : MethodName)) (W := 0) (kc := 0) (nc := 0) (a := o) (hw _ (List.mem_of_getElem? (i := 129) rfl)) (own_same (y := (⟨"java/lang/AbstractStringBuilder", "length", "()I"⟩ : MethodName)) (z := (⟨"java/lang/AbstractStringBuilder", "getValue", "()[B"⟩ : MethodName)) rfl (by decide) (hw _ (List.mem_of_getElem? (i := 125) rfl)) (hw _ (List.mem_of_getElem? (i := 121) rfl))) (hw _ (List.mem_of_getElem? (i := 125) rfl)) (hw _ (List.mem_of_getElem? (i := 65) rfl)) (by decide) E_o (hw _ (List.mem_of_getElem? (i := 130) rfl)) ((m_al l Z a0 hw h0 n0 Z0 o tb kb pre Bq).pays (W := 0) K.cz (hw _ (List.mem_of_getElem? (i := 130) rfl)) (hw _ (List.mem_of_getElem? (i := 47) rfl)) (by decide) (by decide)) rfl (argsL := []) (rest := []) (lenOf pd__28_29I rfl) rfl (Nat.le_of_ble_eq_true rfl) (by decide) (by decide) frOf grOf d_jdk_67_method_93_1 (pc' := 4) rfl ?_
  rintro v108 h106 Lc107 ⟨⟨⟨rfl, eh⟩, -⟩, -⟩
  obtain rfl := eh
  show Go p l e _ _ m _ below meth c _ _ _ _ h0 _ _ (mkF m 4 #[.val (.ref o)] [(.int (Int32.ofNat pre.length))])
  exact Go.retI K (by decide) (by decide) d_jdk_67_method_93_4 (fun _ _ _ _ => ⟨rfl, rfl⟩)
theorem ef_la (m : MethodId) (o : Addr) : entryFrame m #[(.ref o)] 1 = mkF m 0 #[.val (.ref o)] [] := by first | (simp [entryFrame, mkF, argsToLocals, Value.category]; done) | rfl
theorem d_jdk_68_method_68_0 : decode jdk_68_method_68_code 0 = .ok (.getstatic 18, 3) := by decide +kernel
theorem d_jdk_68_method_68_3 : decode jdk_68_method_68_code 3 = .ok (.ifCond .eq 14, 3) := by decide +kernel
theorem d_jdk_68_method_68_6 : decode jdk_68_method_68_code 6 = .ok (.aload_n 0, 1) := by decide +kernel
theorem d_jdk_68_method_68_7 : decode jdk_68_method_68_code 7 = .ok (.getfield 22, 3) := by decide +kernel
theorem d_jdk_68_method_68_10 : decode jdk_68_method_68_code 10 = .ok (.ifCond .ne 7, 3) := by decide +kernel
theorem d_jdk_68_method_68_13 : decode jdk_68_method_68_code 13 = .ok (.iconst 1, 1) := by decide +kernel
theorem d_jdk_68_method_68_14 : decode jdk_68_method_68_code 14 = .ok (.goto 4, 3) := by decide +kernel
theorem d_jdk_68_method_68_18 : decode jdk_68_method_68_code 18 = .ok (.ireturn, 1) := by decide +kernel
set_option maxRecDepth 65536 in
set_option maxHeartbeats 40000000 in
theorem m_la (l : Launch) (Z : State) (a0 : Array Value) (hw : ∀ d ∈ tables_1, d.before a0 Z = true) (h0 : Heap) (n0 : Nat) (Z0 : n0 ≤ h0.size) (o tb : Addr) (kb : ClassId) (pre : List Int32) (Bq : Bd Z h0 o tb kb pre) (od : Old Z n0 h0) (zc : Int32) (S1 : Sta Z Z.heap "java/lang/String" "COMPACT_STRINGS" "Z" (.int zc)) (P1 : ¬ (zc = (0 : Int32))) :
    Met l Z [] (⟨"java/lang/AbstractStringBuilder", "isLatin1", "()Z"⟩ : MethodName) jdk_68_method_68_code 1 (some .boolean) ({ frames := 0, cells := 0, slots := 0, locals := 0 } : Room) #[(.ref o)] h0 n0 (fun v h => v = some (.int 1) ∧ h0 = h) := by
  refine Met.of (plainFor_of_name pn_java_lang_AbstractStringBuilder) ?_
  intro p e s m below meth c F K
  refine Go.cast (ef_la m o) ?_
  obtain ⟨E_o, F_o, C_o, N_o, V_b, E_b⟩ := id Bq
  refine Go.getS K (host := "") (Or.inl (hw _ (List.mem_of_getElem? (i := 50) rfl))) Via.refl (S1.ext od.2) d_jdk_68_method_68_0 (pc' := 3) rfl ?_
  refine Go.ifc K d_jdk_68_method_68_3 (by decide) (pcT := 17) (pcF := 6) (by decide) rfl (fun h3 => ?_) (fun h3 => ?_)
  · replace h3 : zc = 0 := h3
    exact absurd h3 P1
  · replace h3 : ¬ (zc = 0) := h3
    refine Go.aloadN K d_jdk_68_method_68_6 rfl rfl (pc' := 7) rfl ?_
    refine Go.getF K (host := "") (Or.inl (hw _ (List.mem_of_getElem? (i := 53) rfl))) Via.refl C_o d_jdk_68_method_68_7 (pc' := 10) rfl ?_
    refine Go.ifc K d_jdk_68_method_68_10 (by decide) (pcT := 17) (pcF := 13) (by decide) rfl (fun h10 => ?_) (fun h10 => ?_)
    · replace h10 : ¬ (0 : Int32) = 0 := h10
      exact absurd rfl h10
    · replace h10 : ¬ (¬ (0 : Int32) = 0) := h10
      refine Go.iconst K (v := 1) d_jdk_68_method_68_13 rfl (pc' := 14) rfl ?_
      refine Go.goto K d_jdk_68_method_68_14 (pc' := 18) (by decide) (by decide) ?_
      exact Go.retN K (by simp) (by decide) (by decide) d_jdk_68_method_68_18 (fun _ _ _ _ => ⟨rfl, rfl⟩)
theorem ef_ck (m : MethodId) (x : Int32) : entryFrame m #[(.int (0 : Int32)), (.int x)] 2 = mkF m 0 #[.val (.int (0 : Int32)), .val (.int x)] [] := by first | (simp [entryFrame, mkF, argsToLocals, Value.category]; done) | rfl
theorem d_jdk_65_method_131_0 : decode jdk_65_method_131_code 0 = .ok (.iload_n 1, 1) := by decide +kernel
theorem d_jdk_65_method_131_1 : decode jdk_65_method_131_code 1 = .ok (.iload_n 0, 1) := by decide +kernel
theorem d_jdk_65_method_131_2 : decode jdk_65_method_131_code 2 = .ok (.if_icmp .ge 35, 3) := by decide +kernel
theorem d_jdk_65_method_131_37 : decode jdk_65_method_131_code 37 = .ok (.return_, 1) := by decide +kernel
theorem pn_java_util_Arrays : plainName "java/util/Arrays" = true := by first | (simp [plainName, overriddenIn]; done) | decide +kernel
set_option maxRecDepth 65536 in
set_option maxHeartbeats 40000000 in
theorem m_ck (l : Launch) (Z : State) (a0 : Array Value) (hw : ∀ d ∈ tables_1, d.before a0 Z = true) (h0 : Heap) (n0 : Nat) (Z0 : n0 ≤ h0.size) (x : Int32) (nn : Nat) (hnn : nn ≤ 16) (hx : x = Int32.ofNat nn) :
    Met l Z [] (⟨"java/util/Arrays", "checkLength", "(II)V"⟩ : MethodName) jdk_65_method_131_code 2 none ({ frames := 0, cells := 0, slots := 0, locals := 0 } : Room) #[(.int (0 : Int32)), (.int x)] h0 n0 (fun v h => v = none ∧ h0 = h) := by
  refine Met.of (plainFor_of_name pn_java_util_Arrays) ?_
  intro p e s m below meth c F K
  subst hx
  refine Go.cast (ef_ck m _) ?_
  refine Go.iloadN K d_jdk_65_method_131_0 rfl (pc' := 1) rfl ?_
  refine Go.iloadN K d_jdk_65_method_131_1 rfl (pc' := 2) rfl ?_
  refine Go.icmp K d_jdk_65_method_131_2 (by decide) (pcT := 37) (pcF := 5) (by decide) rfl (fun h2 => ?_) (fun h2 => ?_)
  · replace h2 : ¬ (Int32.ofNat nn) < (0 : Int32) := h2
    exact Go.retV K (by decide) (by decide) d_jdk_65_method_131_37 (fun _ _ _ _ => ⟨rfl, rfl⟩)
  · replace h2 : ¬ (¬ (Int32.ofNat nn) < (0 : Int32)) := h2
    exact absurd (own_nn16 hnn) h2
theorem own_m16 {c : Nat} (h : c ≤ 16) (q : ¬ Int32.ofNat c < (16 : Int32)) : (16 : Int32) = Int32.ofNat c := own_f17 (P := fun c => ¬ Int32.ofNat c < (16 : Int32) → (16 : Int32) = Int32.ofNat c) (by decide) h q
theorem ef_mi (m : MethodId) (x : Int32) : entryFrame m #[(.int (16 : Int32)), (.int x)] 2 = mkF m 0 #[.val (.int (16 : Int32)), .val (.int x)] [] := by first | (simp [entryFrame, mkF, argsToLocals, Value.category]; done) | rfl
theorem d_jdk_29_method_69_0 : decode jdk_29_method_69_code 0 = .ok (.iload_n 0, 1) := by decide +kernel
theorem d_jdk_29_method_69_1 : decode jdk_29_method_69_code 1 = .ok (.iload_n 1, 1) := by decide +kernel
theorem d_jdk_29_method_69_2 : decode jdk_29_method_69_code 2 = .ok (.if_icmp .gt 7, 3) := by decide +kernel
theorem d_jdk_29_method_69_9 : decode jdk_29_method_69_code 9 = .ok (.iload_n 1, 1) := by decide +kernel
theorem d_jdk_29_method_69_10 : decode jdk_29_method_69_code 10 = .ok (.ireturn, 1) := by decide +kernel
theorem d_jdk_29_method_69_5 : decode jdk_29_method_69_code 5 = .ok (.iload_n 0, 1) := by decide +kernel
theorem d_jdk_29_method_69_6 : decode jdk_29_method_69_code 6 = .ok (.goto 4, 3) := by decide +kernel
set_option maxRecDepth 65536 in
set_option maxHeartbeats 40000000 in
theorem m_mi (l : Launch) (Z : State) (a0 : Array Value) (hw : ∀ d ∈ tables_1, d.before a0 Z = true) (h0 : Heap) (n0 : Nat) (Z0 : n0 ≤ h0.size) (x : Int32) (nn : Nat) (hnn : nn ≤ 16) (hx : x = Int32.ofNat nn) :
    Met l Z [] (⟨"java/lang/Math", "min", "(II)I"⟩ : MethodName) jdk_29_method_69_code 2 (some .int) ({ frames := 0, cells := 0, slots := 0, locals := 0 } : Room) #[(.int (16 : Int32)), (.int x)] h0 n0 (fun v h => v = some (.int (Int32.ofNat nn)) ∧ h0 = h) := by
  refine Met.of (by decide +kernel) ?_
  intro p e s m below meth c F K
  subst hx
  refine Go.cast (ef_mi m _) ?_
  refine Go.iloadN K d_jdk_29_method_69_0 rfl (pc' := 1) rfl ?_
  refine Go.iloadN K d_jdk_29_method_69_1 rfl (pc' := 2) rfl ?_
  refine Go.icmp K d_jdk_29_method_69_2 (by decide) (pcT := 9) (pcF := 5) (by decide) rfl (fun h2 => ?_) (fun h2 => ?_)
  · replace h2 : (Int32.ofNat nn) < (16 : Int32) := h2
    refine Go.iloadN K d_jdk_29_method_69_9 rfl (pc' := 10) rfl ?_
    exact Go.retI K (by decide) (by decide) d_jdk_29_method_69_10 (fun _ _ _ _ => ⟨rfl, rfl⟩)
  · replace h2 : ¬ ((Int32.ofNat nn) < (16 : Int32)) := h2
    refine Go.iloadN K d_jdk_29_method_69_5 rfl (pc' := 6) rfl ?_
    refine Go.goto K d_jdk_29_method_69_6 (pc' := 10) (by decide) (by decide) ?_
    exact Go.retI K (by decide) (by decide) d_jdk_29_method_69_10 (fun _ _ _ _ => ⟨by rw [← own_m16 hnn h2], rfl⟩)
theorem ef_cb (m : MethodId) (tb : Addr) (x : Int32) : entryFrame m #[(.ref tb), (.int (0 : Int32)), (.int x)] 5 = mkF m 0 #[.val (.ref tb), .val (.int (0 : Int32)), .val (.int x), .unset, .unset] [] := by first | (simp [entryFrame, mkF, argsToLocals, Value.category]; done) | rfl
theorem d_jdk_65_method_133_0 : decode jdk_65_method_133_code 0 = .ok (.iload_n 1, 1) := by decide +kernel
theorem d_jdk_65_method_133_1 : decode jdk_65_method_133_code 1 = .ok (.iload_n 2, 1) := by decide +kernel
theorem d_jdk_65_method_133_2 : decode jdk_65_method_133_code 2 = .ok (.invokestatic 343, 3) := by decide +kernel
theorem pd__28II_29V : parseMethodDescriptor "(II)V" = some ⟨[.int, .int], none⟩ := by decide +kernel
theorem d_jdk_65_method_133_5 : decode jdk_65_method_133_code 5 = .ok (.iload_n 2, 1) := by decide +kernel
theorem d_jdk_65_method_133_6 : decode jdk_65_method_133_code 6 = .ok (.iload_n 1, 1) := by decide +kernel
theorem d_jdk_65_method_133_7 : decode jdk_65_method_133_code 7 = .ok (.isub, 1) := by decide +kernel
theorem d_jdk_65_method_133_8 : decode jdk_65_method_133_code 8 = .ok (.istore_n 3, 1) := by decide +kernel
theorem d_jdk_65_method_133_9 : decode jdk_65_method_133_code 9 = .ok (.iload_n 3, 1) := by decide +kernel
theorem d_jdk_65_method_133_10 : decode jdk_65_method_133_code 10 = .ok (.newarray .byte, 2) := by decide +kernel
theorem d_jdk_65_method_133_12 : decode jdk_65_method_133_code 12 = .ok (.astore 4, 2) := by decide +kernel
theorem d_jdk_65_method_133_14 : decode jdk_65_method_133_code 14 = .ok (.aload_n 0, 1) := by decide +kernel
theorem d_jdk_65_method_133_15 : decode jdk_65_method_133_code 15 = .ok (.iload_n 1, 1) := by decide +kernel
theorem d_jdk_65_method_133_16 : decode jdk_65_method_133_code 16 = .ok (.aload 4, 2) := by decide +kernel
theorem d_jdk_65_method_133_18 : decode jdk_65_method_133_code 18 = .ok (.iconst 0, 1) := by decide +kernel
theorem d_jdk_65_method_133_19 : decode jdk_65_method_133_code 19 = .ok (.aload_n 0, 1) := by decide +kernel
theorem d_jdk_65_method_133_20 : decode jdk_65_method_133_code 20 = .ok (.arraylength, 1) := by decide +kernel
theorem d_jdk_65_method_133_21 : decode jdk_65_method_133_code 21 = .ok (.iload_n 1, 1) := by decide +kernel
theorem d_jdk_65_method_133_22 : decode jdk_65_method_133_code 22 = .ok (.isub, 1) := by decide +kernel
theorem d_jdk_65_method_133_23 : decode jdk_65_method_133_code 23 = .ok (.iload_n 3, 1) := by decide +kernel
theorem d_jdk_65_method_133_24 : decode jdk_65_method_133_code 24 = .ok (.invokestatic 304, 3) := by decide +kernel
theorem pd__28II_29I : parseMethodDescriptor "(II)I" = some ⟨[.int, .int], some .int⟩ := by decide +kernel
theorem d_jdk_65_method_133_27 : decode jdk_65_method_133_code 27 = .ok (.invokestatic 150, 3) := by decide +kernel
theorem d_jdk_65_method_133_30 : decode jdk_65_method_133_code 30 = .ok (.aload 4, 2) := by decide +kernel
theorem d_jdk_65_method_133_32 : decode jdk_65_method_133_code 32 = .ok (.areturn, 1) := by decide +kernel
set_option maxRecDepth 65536 in
set_option maxHeartbeats 40000000 in
theorem m_cb (l : Launch) (Z : State) (a0 : Array Value) (hw : ∀ d ∈ tables_1, d.before a0 Z = true) (h0 : Heap) (n0 : Nat) (Z0 : n0 ≤ h0.size) (tb : Addr) (kb : ClassId) (pre : List Int32) (hpre : pre.length ≤ 16) (V_tb : Arv Z h0 tb kb .byte (16 : Int32) (Bl pre) (.int 0)) (E_tb : Exa Z h0 tb "[B") (x : Int32) (hx : x = Int32.ofNat pre.length) :
    Met l Z [] (⟨"java/util/Arrays", "copyOfRangeByte", "([BII)[B"⟩ : MethodName) jdk_65_method_133_code 5 (some (.array .byte)) ({ frames := 1, cells := 1, slots := 16, locals := 24 } : Room) #[(.ref tb), (.int (0 : Int32)), (.int x)] h0 n0 (fun v h => ∃ (nb : Addr) (kn : ClassId), v = some (.ref nb) ∧ h0.size ≤ nb ∧ Keep h0 h [] ∧ Arv Z h nb kn .byte (Int32.ofNat pre.length) (L8 pre) (.int 0)) := by
  refine Met.of (plainFor_of_name pn_java_util_Arrays) ?_
  intro p e s m below meth c F K
  subst hx
  refine Go.cast (ef_cb m tb _) ?_
  have kc0 := Keep.refl h0 []
  refine Go.iloadN K d_jdk_65_method_133_0 rfl (pc' := 1) rfl ?_
  refine Go.iloadN K d_jdk_65_method_133_1 rfl (pc' := 2) rfl ?_
  refine Go.callS K (y := (⟨"java/util/Arrays", "checkLength", "(II)V"⟩ : MethodName)) (W := 0) (kc := 0) (nc := 0) (mvT K.cz (hw _ (List.mem_of_getElem? (i := 227) rfl))) (mvT K.cz (hw _ (List.mem_of_getElem? (i := 228) rfl))) (mvT K.cz (hw _ (List.mem_of_getElem? (i := 138) rfl))) (mvT K.cz (hw _ (List.mem_of_getElem? (i := 229) rfl))) (by decide) ((m_ck l Z a0 hw h0 n0 Z0 _ _ hpre rfl).pays (W := 0) K.cz (hw _ (List.mem_of_getElem? (i := 229) rfl)) (hw _ (List.mem_of_getElem? (i := 138) rfl)) (by decide) (by decide)) rfl (argsL := [(.int (0 : Int32)), (.int (Int32.ofNat pre.length))]) (rest := []) (lenOf pd__28II_29V rfl) rfl (Nat.le_of_ble_eq_true rfl) (by decide) (by decide) frOf grOf d_jdk_65_method_133_2 (pc' := 5) rfl ?_
  rintro v111 h109 Lc110 ⟨⟨⟨rfl, eh⟩, -⟩, -⟩
  obtain rfl := eh
  show Go p l e _ _ m _ below meth c _ _ _ _ h0 _ _ (mkF m 5 #[.val (.ref tb), .val (.int (0 : Int32)), .val (.int (Int32.ofNat pre.length)), .unset, .unset] [])
  refine Go.iloadN K d_jdk_65_method_133_5 rfl (pc' := 6) rfl ?_
  refine Go.iloadN K d_jdk_65_method_133_6 rfl (pc' := 7) rfl ?_
  refine Go.isub K d_jdk_65_method_133_7 (pc' := 8) rfl ?_
  rw [own_sub0 hpre]
  show Go p l e _ _ m _ below meth c _ _ _ _ h0 _ _ (mkF m 8 #[.val (.ref tb), .val (.int (0 : Int32)), .val (.int (Int32.ofNat pre.length)), .unset, .unset] [(.int (Int32.ofNat pre.length))])
  refine Go.istoreN K d_jdk_65_method_133_8 (Ls' := #[.val (.ref tb), .val (.int (0 : Int32)), .val (.int (Int32.ofNat pre.length)), .val (.int (Int32.ofNat pre.length)), .unset]) rfl (pc' := 9) rfl ?_
  refine Go.iloadN K d_jdk_65_method_133_9 rfl (pc' := 10) rfl ?_
  refine Go.newB K (hw _ (List.mem_of_getElem? (i := 19) rfl)) (own_nn16 hpre) 16 (by rw [own_tn hpre]; exact hpre) (by decide) (by decide) (by decide) d_jdk_65_method_133_10 (pc' := 12) rfl ?_
  intro h112 nb kA_nb eq114 E113 V_nb E_nb
  have sz_nb := Nat.le_trans kc0.1 (Nat.le_of_eq eq114.symm)
  have ne116 : tb ≠ nb := own_ne V_tb.lt (Nat.le_of_eq eq114.symm)
  have g_nb : n0 ≤ nb := Nat.le_trans Z0 (Nat.le_of_eq eq114.symm)
  have f118 := V_tb.ext E113
  have z119 := Nat.le_trans Z0 E113.1
  have kc120 := kc0.ext E113
  have V115 : Arv Z h112 nb kA_nb .byte (Int32.ofNat pre.length) (List.replicate pre.length (.int 0)) (.int 0) := V_nb.pad (pad_rep [] (.int 0) pre.length)
  refine Go.astore K d_jdk_65_method_133_12 rfl (Ls' := #[.val (.ref tb), .val (.int (0 : Int32)), .val (.int (Int32.ofNat pre.length)), .val (.int (Int32.ofNat pre.length)), .val (.ref nb)]) rfl (pc' := 14) rfl ?_
  refine Go.aloadN K d_jdk_65_method_133_14 rfl rfl (pc' := 15) rfl ?_
  refine Go.iloadN K d_jdk_65_method_133_15 rfl (pc' := 16) rfl ?_
  refine Go.aload K d_jdk_65_method_133_16 rfl rfl (pc' := 18) rfl ?_
  refine Go.iconst K (v := 0) d_jdk_65_method_133_18 rfl (pc' := 19) rfl ?_
  refine Go.aloadN K d_jdk_65_method_133_19 rfl rfl (pc' := 20) rfl ?_
  refine Go.arraylength K f118 d_jdk_65_method_133_20 (pc' := 21) rfl ?_
  refine Go.iloadN K d_jdk_65_method_133_21 rfl (pc' := 22) rfl ?_
  refine Go.isub K d_jdk_65_method_133_22 (pc' := 23) rfl ?_
  refine Go.iloadN K d_jdk_65_method_133_23 rfl (pc' := 24) rfl ?_
  rw [show (16 : Int32) - 0 = 16 from rfl]
  show Go p l e _ _ m _ below meth c _ _ _ _ h112 _ _ (mkF m 24 #[.val (.ref tb), .val (.int (0 : Int32)), .val (.int (Int32.ofNat pre.length)), .val (.int (Int32.ofNat pre.length)), .val (.ref nb)] [(.int (Int32.ofNat pre.length)), (.int (16 : Int32)), (.int (0 : Int32)), (.ref nb), (.int (0 : Int32)), (.ref tb)])
  refine Go.callS K (y := (⟨"java/lang/Math", "min", "(II)I"⟩ : MethodName)) (W := 4) (kc := 0) (nc := 0) (mvT K.cz (hw _ (List.mem_of_getElem? (i := 230) rfl))) (mvT K.cz (hw _ (List.mem_of_getElem? (i := 231) rfl))) (mvT K.cz (hw _ (List.mem_of_getElem? (i := 232) rfl))) (mvT K.cz (hw _ (List.mem_of_getElem? (i := 233) rfl))) (by decide) ((m_mi l Z a0 hw h112 n0 z119 _ _ hpre rfl).pays (W := 4) K.cz (hw _ (List.mem_of_getElem? (i := 233) rfl)) (hw _ (List.mem_of_getElem? (i := 232) rfl)) (by decide) (by decide)) rfl (argsL := [(.int (16 : Int32)), (.int (Int32.ofNat pre.length))]) (rest := [(.int (0 : Int32)), (.ref nb), (.int (0 : Int32)), (.ref tb)]) (lenOf pd__28II_29I rfl) rfl (Nat.le_of_ble_eq_true rfl) (by decide) (by decide) frOf grOf d_jdk_65_method_133_24 (pc' := 27) rfl ?_
  rintro v123 h121 Lc122 ⟨⟨⟨rfl, eh⟩, -⟩, -⟩
  obtain rfl := eh
  show Go p l e _ _ m _ below meth c _ _ _ _ h112 _ _ (mkF m 27 #[.val (.ref tb), .val (.int (0 : Int32)), .val (.int (Int32.ofNat pre.length)), .val (.int (Int32.ofNat pre.length)), .val (.ref nb)] [(.int (Int32.ofNat pre.length)), (.int (0 : Int32)), (.ref nb), (.int (0 : Int32)), (.ref tb)])
  refine Go.acopy K (us := L8 pre) (hw _ (List.mem_of_getElem? (i := 234) rfl)) (hw _ (List.mem_of_getElem? (i := 104) rfl)) (hw _ (List.mem_of_getElem? (i := 102) rfl)) (hw _ (List.mem_of_getElem? (i := 103) rfl)) f118 V115 (by decide) (by decide) (own_nn16 hpre) (by rw [own_tn hpre, show (0 : Int32).toNatClampNeg = 0 from rfl, show (16 : Int32).toNatClampNeg = 16 from rfl]; omega) (by rw [show (0 : Int32).toNatClampNeg = 0 from rfl]; omega) (by rw [own_tn hpre, show (0 : Int32).toNatClampNeg = 0 from rfl]; exact own_us2) (by rw [own_tn hpre, show (0 : Int32).toNatClampNeg = 0 from rfl, List.length_replicate]; omega) g_nb rfl (by decide) 0 (Nat.le_of_ble_eq_true rfl) (by decide) d_jdk_65_method_133_27 (pc' := 30) rfl ?_
  intro h124 K125 V2
  have f126 := f118.keep K125 (ninS ne116 nin0)
  have f128 := E_nb.keep K125
  have z129 := Nat.le_trans z119 K125.1
  have kc130 := kc120.trans K125 (allS (Or.inr sz_nb) all0)
  have V3 : Arv Z h124 nb kA_nb .byte (Int32.ofNat pre.length) (L8 pre) (.int 0) := by
    rw [own_tn hpre, show (0 : Int32).toNatClampNeg = 0 from rfl] at V2
    simpa using V2
  refine Go.aload K d_jdk_65_method_133_30 rfl rfl (pc' := 32) rfl ?_
  exact Go.retA K rfl rfl rfl (by decide) (by decide) d_jdk_65_method_133_32 (fun _ _ _ _ => ⟨nb, kA_nb, rfl, sz_nb, kc130, V3⟩)
theorem ef_cr (m : MethodId) (tb : Addr) (x : Int32) : entryFrame m #[(.ref tb), (.int (0 : Int32)), (.int x)] 3 = mkF m 0 #[.val (.ref tb), .val (.int (0 : Int32)), .val (.int x)] [] := by first | (simp [entryFrame, mkF, argsToLocals, Value.category]; done) | rfl
theorem d_jdk_65_method_132_0 : decode jdk_65_method_132_code 0 = .ok (.iload_n 1, 1) := by decide +kernel
theorem d_jdk_65_method_132_1 : decode jdk_65_method_132_code 1 = .ok (.ifCond .ne 9, 3) := by decide +kernel
theorem d_jdk_65_method_132_4 : decode jdk_65_method_132_code 4 = .ok (.iload_n 2, 1) := by decide +kernel
theorem d_jdk_65_method_132_5 : decode jdk_65_method_132_code 5 = .ok (.aload_n 0, 1) := by decide +kernel
theorem d_jdk_65_method_132_6 : decode jdk_65_method_132_code 6 = .ok (.arraylength, 1) := by decide +kernel
theorem d_jdk_65_method_132_7 : decode jdk_65_method_132_code 7 = .ok (.if_icmp .eq 10, 3) := by decide +kernel
theorem d_jdk_65_method_132_10 : decode jdk_65_method_132_code 10 = .ok (.aload_n 0, 1) := by decide +kernel
theorem d_jdk_65_method_132_11 : decode jdk_65_method_132_code 11 = .ok (.iload_n 1, 1) := by decide +kernel
theorem d_jdk_65_method_132_12 : decode jdk_65_method_132_code 12 = .ok (.iload_n 2, 1) := by decide +kernel
theorem d_jdk_65_method_132_13 : decode jdk_65_method_132_code 13 = .ok (.invokestatic 339, 3) := by decide +kernel
theorem pd__28_5bBII_29_5bB : parseMethodDescriptor "([BII)[B" = some ⟨[(.array .byte), .int, .int], some (.array .byte)⟩ := by decide +kernel
theorem d_jdk_65_method_132_16 : decode jdk_65_method_132_code 16 = .ok (.areturn, 1) := by decide +kernel
theorem d_jdk_65_method_132_17 : decode jdk_65_method_132_code 17 = .ok (.aload_n 0, 1) := by decide +kernel
theorem d_jdk_65_method_132_18 : decode jdk_65_method_132_code 18 = .ok (.invokevirtual 310, 3) := by decide +kernel
theorem d_jdk_65_method_132_21 : decode jdk_65_method_132_code 21 = .ok (.checkcast 311, 3) := by decide +kernel
theorem d_jdk_65_method_132_24 : decode jdk_65_method_132_code 24 = .ok (.areturn, 1) := by decide +kernel
set_option maxRecDepth 65536 in
set_option maxHeartbeats 40000000 in
theorem m_cr (l : Launch) (Z : State) (a0 : Array Value) (hw : ∀ d ∈ tables_1, d.before a0 Z = true) (h0 : Heap) (n0 : Nat) (Z0 : n0 ≤ h0.size) (tb : Addr) (kb : ClassId) (pre : List Int32) (hpre : pre.length ≤ 16) (V_tb : Arv Z h0 tb kb .byte (16 : Int32) (Bl pre) (.int 0)) (E_tb : Exa Z h0 tb "[B") (x : Int32) (hx : x = Int32.ofNat pre.length) :
    Met l Z [] (⟨"java/util/Arrays", "copyOfRange", "([BII)[B"⟩ : MethodName) jdk_65_method_132_code 3 (some (.array .byte)) ({ frames := 2, cells := 1, slots := 16, locals := 56 } : Room) #[(.ref tb), (.int (0 : Int32)), (.int x)] h0 n0 (fun v h => ∃ (nb : Addr) (kn : ClassId), v = some (.ref nb) ∧ h0.size ≤ nb ∧ Keep h0 h [] ∧ Arv Z h nb kn .byte (Int32.ofNat pre.length) (L8 pre) (.int 0)) := by
  refine Met.of (plainFor_of_name pn_java_util_Arrays) ?_
  intro p e s m below meth c F K
  subst hx
  refine Go.cast (ef_cr m tb _) ?_
  have kc0 := Keep.refl h0 []
  refine Go.iloadN K d_jdk_65_method_132_0 rfl (pc' := 1) rfl ?_
  refine Go.ifc K d_jdk_65_method_132_1 (by decide) (pcT := 10) (pcF := 4) (by decide) rfl (fun h1 => ?_) (fun h1 => ?_)
  · replace h1 : ¬ (0 : Int32) = 0 := h1
    exact absurd rfl h1
  · replace h1 : ¬ (¬ (0 : Int32) = 0) := h1
    refine Go.iloadN K d_jdk_65_method_132_4 rfl (pc' := 5) rfl ?_
    refine Go.aloadN K d_jdk_65_method_132_5 rfl rfl (pc' := 6) rfl ?_
    refine Go.arraylength K V_tb d_jdk_65_method_132_6 (pc' := 7) rfl ?_
    refine Go.icmp K d_jdk_65_method_132_7 (by decide) (pcT := 17) (pcF := 10) (by decide) rfl (fun h7 => ?_) (fun h7 => ?_)
    · replace h7 : (Int32.ofNat pre.length) = (16 : Int32) := h7
      refine Go.aloadN K d_jdk_65_method_132_17 rfl rfl (pc' := 18) rfl ?_
      refine Go.cloneB K (hw _ (List.mem_of_getElem? (i := 140) rfl)) (hw _ (List.mem_of_getElem? (i := 141) rfl)) (hw _ (List.mem_of_getElem? (i := 145) rfl)) (hw _ (List.mem_of_getElem? (i := 143) rfl)) (hw _ (List.mem_of_getElem? (i := 144) rfl)) (hw _ (List.mem_of_getElem? (i := 146) rfl)) V_tb E_tb rfl (by decide) 0 (Nat.le_of_ble_eq_true rfl) (by decide) 16 (by decide) (by decide) (by decide) d_jdk_65_method_132_18 (pc' := 21) rfl ?_
      intro h134 nb eqn En V_nb E_nb
      have sz_nb := Nat.le_trans kc0.1 (Nat.le_of_eq eqn.symm)
      have ne135 : tb ≠ nb := own_ne V_tb.lt (Nat.le_of_eq eqn.symm)
      have f138 := V_tb.ext En
      have f139 := E_tb.ext En
      have z140 := Nat.le_trans Z0 En.1
      have kc141 := kc0.ext En
      refine Go.castY K (hw _ (List.mem_of_getElem? (i := 147) rfl)) (Ins.self E_nb) d_jdk_65_method_132_21 (pc' := 24) rfl ?_
      have e16 := own_e16 hpre h7
      have V3 : Arv Z h134 nb kb .byte (Int32.ofNat pre.length) (L8 pre) (.int 0) := by
        rw [h7, ← own_full e16]
        exact V_nb
      exact Go.retA K rfl rfl rfl (by decide) (by decide) d_jdk_65_method_132_24 (fun _ _ _ _ => ⟨nb, kb, rfl, sz_nb, kc141, V3⟩)
    · replace h7 : ¬ ((Int32.ofNat pre.length) = (16 : Int32)) := h7
      refine Go.aloadN K d_jdk_65_method_132_10 rfl rfl (pc' := 11) rfl ?_
      refine Go.iloadN K d_jdk_65_method_132_11 rfl (pc' := 12) rfl ?_
      refine Go.iloadN K d_jdk_65_method_132_12 rfl (pc' := 13) rfl ?_
      refine Go.callS K (y := (⟨"java/util/Arrays", "copyOfRangeByte", "([BII)[B"⟩ : MethodName)) (W := 0) (kc := 1) (nc := 16) (mvT K.cz (hw _ (List.mem_of_getElem? (i := 224) rfl))) (mvT K.cz (hw _ (List.mem_of_getElem? (i := 225) rfl))) (mvT K.cz (hw _ (List.mem_of_getElem? (i := 138) rfl))) (mvT K.cz (hw _ (List.mem_of_getElem? (i := 226) rfl))) (by decide) ((m_cb l Z a0 hw h0 n0 Z0 tb kb pre hpre V_tb E_tb _ rfl).pays (W := 0) K.cz (hw _ (List.mem_of_getElem? (i := 226) rfl)) (hw _ (List.mem_of_getElem? (i := 138) rfl)) (by decide) (by decide)) rfl (argsL := [(.ref tb), (.int (0 : Int32)), (.int (Int32.ofNat pre.length))]) (rest := []) (lenOf pd__28_5bBII_29_5bB rfl) rfl (Nat.le_of_ble_eq_true rfl) (by decide) (by decide) frOf grOf d_jdk_65_method_132_13 (pc' := 16) rfl ?_
      rintro v133 h131 Lc132 ⟨⟨⟨nb, kn, rfl, hle, Kq, Vq⟩, -⟩, -⟩
      show Go p l e _ _ m _ below meth c _ _ _ _ h131 _ _ (mkF m 16 #[.val (.ref tb), .val (.int (0 : Int32)), .val (.int (Int32.ofNat pre.length))] [(.ref nb)])
      exact Go.retA K rfl rfl rfl (by decide) (by decide) d_jdk_65_method_132_16 (fun _ _ _ _ => ⟨nb, kn, rfl, hle, Kq, Vq⟩)
theorem ef_x2 (m : MethodId) (xs : Addr) (o : Addr) : entryFrame m #[(.ref xs), (.ref o), .null] 5 = mkF m 0 #[.val (.ref xs), .val (.ref o), .val .null, .unset, .unset] [] := by first | (simp [entryFrame, mkF, argsToLocals, Value.category]; done) | rfl
theorem d_jdk_42_method_150_0 : decode jdk_42_method_150_code 0 = .ok (.aload_n 0, 1) := by decide +kernel
theorem d_jdk_42_method_150_1 : decode jdk_42_method_150_code 1 = .ok (.invokespecial 1, 3) := by decide +kernel
theorem d_jdk_42_method_150_4 : decode jdk_42_method_150_code 4 = .ok (.aload_n 1, 1) := by decide +kernel
theorem d_jdk_42_method_150_5 : decode jdk_42_method_150_code 5 = .ok (.invokevirtual 552, 3) := by decide +kernel
theorem pd__28_29_5bB : parseMethodDescriptor "()[B" = some ⟨[], some (.array .byte)⟩ := by decide +kernel
theorem d_jdk_42_method_150_8 : decode jdk_42_method_150_code 8 = .ok (.astore_n 3, 1) := by decide +kernel
theorem d_jdk_42_method_150_9 : decode jdk_42_method_150_code 9 = .ok (.aload_n 1, 1) := by decide +kernel
theorem d_jdk_42_method_150_10 : decode jdk_42_method_150_code 10 = .ok (.invokevirtual 549, 3) := by decide +kernel
theorem d_jdk_42_method_150_13 : decode jdk_42_method_150_code 13 = .ok (.istore 4, 2) := by decide +kernel
theorem d_jdk_42_method_150_15 : decode jdk_42_method_150_code 15 = .ok (.aload_n 1, 1) := by decide +kernel
theorem d_jdk_42_method_150_16 : decode jdk_42_method_150_code 16 = .ok (.invokevirtual 1047, 3) := by decide +kernel
theorem pd__28_29Z : parseMethodDescriptor "()Z" = some ⟨[], some .boolean⟩ := by decide +kernel
theorem d_jdk_42_method_150_19 : decode jdk_42_method_150_code 19 = .ok (.ifCond .eq 22, 3) := by decide +kernel
theorem d_jdk_42_method_150_22 : decode jdk_42_method_150_code 22 = .ok (.aload_n 0, 1) := by decide +kernel
theorem d_jdk_42_method_150_23 : decode jdk_42_method_150_code 23 = .ok (.iconst 0, 1) := by decide +kernel
theorem d_jdk_42_method_150_24 : decode jdk_42_method_150_code 24 = .ok (.putfield 15, 3) := by decide +kernel
theorem d_jdk_42_method_150_27 : decode jdk_42_method_150_code 27 = .ok (.aload_n 0, 1) := by decide +kernel
theorem d_jdk_42_method_150_28 : decode jdk_42_method_150_code 28 = .ok (.aload_n 3, 1) := by decide +kernel
theorem d_jdk_42_method_150_29 : decode jdk_42_method_150_code 29 = .ok (.iconst 0, 1) := by decide +kernel
theorem d_jdk_42_method_150_30 : decode jdk_42_method_150_code 30 = .ok (.iload 4, 2) := by decide +kernel
theorem d_jdk_42_method_150_32 : decode jdk_42_method_150_code 32 = .ok (.invokestatic 54, 3) := by decide +kernel
theorem d_jdk_42_method_150_35 : decode jdk_42_method_150_code 35 = .ok (.putfield 9, 3) := by decide +kernel
theorem d_jdk_42_method_150_38 : decode jdk_42_method_150_code 38 = .ok (.goto 59, 3) := by decide +kernel
theorem d_jdk_42_method_150_97 : decode jdk_42_method_150_code 97 = .ok (.return_, 1) := by decide +kernel
set_option maxRecDepth 65536 in
set_option maxHeartbeats 40000000 in
theorem m_x2 (l : Launch) (Z : State) (a0 : Array Value) (hw : ∀ d ∈ tables_1, d.before a0 Z = true) (h0 : Heap) (n0 : Nat) (Z0 : n0 ≤ h0.size) (o tb : Addr) (kb : ClassId) (pre : List Int32) (Bq : Bd Z h0 o tb kb pre) (xs : Addr) (E_xs : Exa Z h0 xs "java/lang/String") (F_v : Fld Z h0 xs "java/lang/String" "value" "[B" .null) (F_c : Fld Z h0 xs "java/lang/String" "coder" "B" (.int (0 : Int32))) (g_xs : n0 ≤ xs) (hpre : pre.length ≤ 16) (nx1 : xs ≠ o) (nx2 : xs ≠ tb) (od : Old Z n0 h0) (zc : Int32) (S1 : Sta Z Z.heap "java/lang/String" "COMPACT_STRINGS" "Z" (.int zc)) (P1 : ¬ (zc = (0 : Int32))) :
    Met l Z [] (⟨"java/lang/String", "<init>", "(Ljava/lang/AbstractStringBuilder;Ljava/lang/Void;)V"⟩ : MethodName) jdk_42_method_150_code 5 none ({ frames := 3, cells := 1, slots := 16, locals := 72 } : Room) #[(.ref xs), (.ref o), .null] h0 n0 (fun v h => v = none ∧ Keep h0 h [xs] ∧ Str Z h xs pre) := by
  refine Met.of (plainFor_of_name pn_java_lang_String) ?_
  intro p e s m below meth c F K
  refine Go.cast (ef_x2 m xs o) ?_
  have kc0 := Keep.refl h0 [xs]
  obtain ⟨E_o, F_o, C_o, N_o, V_b, E_b⟩ := id Bq
  refine Go.aloadN K d_jdk_42_method_150_0 rfl rfl (pc' := 1) rfl ?_
  refine Go.initO K (hw _ (List.mem_of_getElem? (i := 11) rfl)) (hw _ (List.mem_of_getElem? (i := 12) rfl)) (hw _ (List.mem_of_getElem? (i := 13) rfl)) rfl (by decide) 0 (Nat.le_of_ble_eq_true rfl) (by decide) d_jdk_42_method_150_1 (pc' := 4) rfl ?_
  refine Go.aloadN K d_jdk_42_method_150_4 rfl rfl (pc' := 5) rfl ?_
  refine Go.callV K (y := (⟨"java/lang/AbstractStringBuilder", "getValue", "()[B"⟩ : MethodName)) (z := (⟨"java/lang/AbstractStringBuilder", "getValue", "()[B"⟩ : MethodName)) (W := 0) (kc := 0) (nc := 0) (a := o) (mvT K.cz (hw _ (List.mem_of_getElem? (i := 118) rfl))) (mvT K.cz (hw _ (List.mem_of_getElem? (i := 119) rfl))) (notFace_of_selects (args := #[]) (mvT K.cz (hw _ (List.mem_of_getElem? (i := 121) rfl)))) (mvT K.cz (hw _ (List.mem_of_getElem? (i := 121) rfl))) (mvT K.cz (hw _ (List.mem_of_getElem? (i := 120) rfl))) (by decide) E_o ((m_gv l Z a0 hw h0 n0 Z0 o tb kb pre Bq).pays (W := 0) K.cz (hw _ (List.mem_of_getElem? (i := 122) rfl)) (hw _ (List.mem_of_getElem? (i := 47) rfl)) (by decide) (by decide)) rfl (argsL := []) (rest := []) (lenOf pd__28_29_5bB rfl) rfl (Nat.le_of_ble_eq_true rfl) (by decide) (by decide) frOf grOf d_jdk_42_method_150_5 (pc' := 8) rfl ?_
  rintro v144 h142 Lc143 ⟨⟨⟨rfl, eh⟩, -⟩, -⟩
  obtain rfl := eh
  show Go p l e _ _ m _ below meth c _ _ _ _ h0 _ _ (mkF m 8 #[.val (.ref xs), .val (.ref o), .val .null, .unset, .unset] [(.ref tb)])
  refine Go.astoreN K d_jdk_42_method_150_8 rfl (Ls' := #[.val (.ref xs), .val (.ref o), .val .null, .val (.ref tb), .unset]) rfl (pc' := 9) rfl ?_
  refine Go.aloadN K d_jdk_42_method_150_9 rfl rfl (pc' := 10) rfl ?_
  refine Go.callV K (y := (⟨"java/lang/AbstractStringBuilder", "length", "()I"⟩ : MethodName)) (z := (⟨"java/lang/StringBuilder", "length", "()I"⟩ : MethodName)) (W := 0) (kc := 0) (nc := 0) (a := o) (mvT K.cz (hw _ (List.mem_of_getElem? (i := 123) rfl))) (mvT K.cz (hw _ (List.mem_of_getElem? (i := 124) rfl))) (own_nf (y := (⟨"java/lang/AbstractStringBuilder", "length", "()I"⟩ : MethodName)) (z := (⟨"java/lang/AbstractStringBuilder", "getValue", "()[B"⟩ : MethodName)) rfl (mvT (args := #[]) K.cz (hw _ (List.mem_of_getElem? (i := 121) rfl)))) (mvT K.cz (hw _ (List.mem_of_getElem? (i := 126) rfl))) (mvT K.cz (hw _ (List.mem_of_getElem? (i := 127) rfl))) (by decide) E_o ((m_sl l Z a0 hw h0 n0 Z0 o tb kb pre Bq).pays (W := 0) K.cz (hw _ (List.mem_of_getElem? (i := 128) rfl)) (hw _ (List.mem_of_getElem? (i := 39) rfl)) (by decide) (by decide)) rfl (argsL := []) (rest := []) (lenOf pd__28_29I rfl) rfl (Nat.le_of_ble_eq_true rfl) (by decide) (by decide) frOf grOf d_jdk_42_method_150_10 (pc' := 13) rfl ?_
  rintro v147 h145 Lc146 ⟨⟨⟨rfl, eh⟩, -⟩, -⟩
  obtain rfl := eh
  show Go p l e _ _ m _ below meth c _ _ _ _ h0 _ _ (mkF m 13 #[.val (.ref xs), .val (.ref o), .val .null, .val (.ref tb), .unset] [(.int (Int32.ofNat pre.length))])
  refine Go.istore K d_jdk_42_method_150_13 (Ls' := #[.val (.ref xs), .val (.ref o), .val .null, .val (.ref tb), .val (.int (Int32.ofNat pre.length))]) rfl (pc' := 15) rfl ?_
  refine Go.aloadN K d_jdk_42_method_150_15 rfl rfl (pc' := 16) rfl ?_
  refine Go.callV K (y := (⟨"java/lang/AbstractStringBuilder", "isLatin1", "()Z"⟩ : MethodName)) (z := (⟨"java/lang/AbstractStringBuilder", "isLatin1", "()Z"⟩ : MethodName)) (W := 0) (kc := 0) (nc := 0) (a := o) (mvT K.cz (hw _ (List.mem_of_getElem? (i := 131) rfl))) (mvT K.cz (hw _ (List.mem_of_getElem? (i := 132) rfl))) (notFace_of_selects (args := #[]) (mvT K.cz (hw _ (List.mem_of_getElem? (i := 134) rfl)))) (mvT K.cz (hw _ (List.mem_of_getElem? (i := 134) rfl))) (mvT K.cz (hw _ (List.mem_of_getElem? (i := 133) rfl))) (by decide) E_o ((m_la l Z a0 hw h0 n0 Z0 o tb kb pre Bq od zc S1 P1).pays (W := 0) K.cz (hw _ (List.mem_of_getElem? (i := 135) rfl)) (hw _ (List.mem_of_getElem? (i := 47) rfl)) (by decide) (by decide)) rfl (argsL := []) (rest := []) (lenOf pd__28_29Z rfl) rfl (Nat.le_of_ble_eq_true rfl) (by decide) (by decide) frOf grOf d_jdk_42_method_150_16 (pc' := 19) rfl ?_
  rintro v150 h148 Lc149 ⟨⟨⟨rfl, eh⟩, -⟩, -⟩
  obtain rfl := eh
  show Go p l e _ _ m _ below meth c _ _ _ _ h0 _ _ (mkF m 19 #[.val (.ref xs), .val (.ref o), .val .null, .val (.ref tb), .val (.int (Int32.ofNat pre.length))] [(.int (1 : Int32))])
  refine Go.ifc K d_jdk_42_method_150_19 (by decide) (pcT := 41) (pcF := 22) (by decide) rfl (fun h19 => ?_) (fun h19 => ?_)
  · replace h19 : (1 : Int32) = 0 := h19
    exact absurd h19 (by decide)
  · replace h19 : ¬ ((1 : Int32) = 0) := h19
    refine Go.aloadN K d_jdk_42_method_150_22 rfl rfl (pc' := 23) rfl ?_
    refine Go.iconst K (v := 0) d_jdk_42_method_150_23 rfl (pc' := 24) rfl ?_
    refine Go.putFN K (hw _ (List.mem_of_getElem? (i := 26) rfl)) Via.refl F_c E_xs (Or.inr ⟨(hw _ (List.mem_of_getElem? (i := 27) rfl)), rfl, rfl⟩) (hw _ (List.mem_of_getElem? (i := 2) rfl)) (ty := .byte) (v' := (.int (0 : Int32))) (by decide) rfl rfl g_xs d_jdk_42_method_150_24 (pc' := 27) rfl ?_
    intro h151 W152 f153
    have f154 := F_v.other W152 (Or.inr (slot_ne (Or.inr (hw _ (List.mem_of_getElem? (i := 29) rfl))) (Or.inr (hw _ (List.mem_of_getElem? (i := 27) rfl))) (by decide) (t := (.array .byte)) (t' := .byte) (by decide) (by decide)))
    have K155 := Keep.of_wr W152
    have f156 := E_o.keep K155
    have f157 := F_o.keep K155 (ninS (Ne.symm nx1) nin0)
    have f158 := C_o.keep K155 (ninS (Ne.symm nx1) nin0)
    have f159 := N_o.keep K155 (ninS (Ne.symm nx1) nin0)
    have f160 := V_b.keep K155 (ninS (Ne.symm nx2) nin0)
    have f161 := E_b.keep K155
    have f162 := E_xs.keep K155
    have od165 := od.keep K155 (allS g_xs all0)
    have z166 := Nat.le_trans Z0 K155.1
    have kc167 := kc0.trans K155 (allS (Or.inl (List.mem_of_getElem? (i := 0) rfl)) all0)
    refine Go.aloadN K d_jdk_42_method_150_27 rfl rfl (pc' := 28) rfl ?_
    refine Go.aloadN K d_jdk_42_method_150_28 rfl rfl (pc' := 29) rfl ?_
    refine Go.iconst K (v := 0) d_jdk_42_method_150_29 rfl (pc' := 30) rfl ?_
    refine Go.iload K d_jdk_42_method_150_30 rfl (pc' := 32) rfl ?_
    refine Go.callS K (y := (⟨"java/util/Arrays", "copyOfRange", "([BII)[B"⟩ : MethodName)) (W := 1) (kc := 1) (nc := 16) (mvT K.cz (hw _ (List.mem_of_getElem? (i := 136) rfl))) (mvT K.cz (hw _ (List.mem_of_getElem? (i := 137) rfl))) (mvT K.cz (hw _ (List.mem_of_getElem? (i := 138) rfl))) (mvT K.cz (hw _ (List.mem_of_getElem? (i := 139) rfl))) (by decide) ((m_cr l Z a0 hw h151 n0 z166 tb kb pre hpre f160 f161 _ rfl).pays (W := 1) K.cz (hw _ (List.mem_of_getElem? (i := 139) rfl)) (hw _ (List.mem_of_getElem? (i := 138) rfl)) (by decide) (by decide)) rfl (argsL := [(.ref tb), (.int (0 : Int32)), (.int (Int32.ofNat pre.length))]) (rest := [(.ref xs)]) (lenOf pd__28_5bBII_29_5bB rfl) rfl (Nat.le_of_ble_eq_true rfl) (by decide) (by decide) frOf grOf d_jdk_42_method_150_32 (pc' := 35) rfl ?_
    rintro v170 h168 Lc169 ⟨⟨⟨nb, kn, rfl, hle, Kq, Vq⟩, -⟩, -⟩
    have sz_nb := Nat.le_trans kc167.1 hle
    have ne171 : xs ≠ nb := own_ne f162.lt hle
    have ne172 : o ≠ nb := own_ne f156.lt hle
    have ne173 : tb ≠ nb := own_ne f160.lt hle
    have f174 := f156.keep Kq
    have f175 := f157.keep Kq nin0
    have f176 := f158.keep Kq nin0
    have f177 := f159.keep Kq nin0
    have f178 := f160.keep Kq nin0
    have f179 := f161.keep Kq
    have f180 := f162.keep Kq
    have f181 := f154.keep Kq nin0
    have f182 := f153.keep Kq nin0
    have od183 := od165.keep Kq all0
    have z184 := Nat.le_trans z166 Kq.1
    have kc185 := kc167.trans Kq all0
    show Go p l e _ _ m _ below meth c _ _ _ _ h168 _ _ (mkF m 35 #[.val (.ref xs), .val (.ref o), .val .null, .val (.ref tb), .val (.int (Int32.ofNat pre.length))] [(.ref nb), (.ref xs)])
    refine Go.putF K (host := "") (Or.inl (hw _ (List.mem_of_getElem? (i := 28) rfl))) Via.refl f181 f180 (Or.inr ⟨(hw _ (List.mem_of_getElem? (i := 29) rfl)), rfl, rfl⟩) (hw _ (List.mem_of_getElem? (i := 2) rfl)) (ty := (.array .byte)) (by decide) rfl rfl g_xs d_jdk_42_method_150_35 (pc' := 38) rfl ?_
    intro h186 W187 f188
    have f189 := f182.other W187 (Or.inr (slot_ne (Or.inr (hw _ (List.mem_of_getElem? (i := 27) rfl))) (Or.inr (hw _ (List.mem_of_getElem? (i := 29) rfl))) (by decide) (t := .byte) (t' := (.array .byte)) (by decide) (by decide)))
    have K190 := Keep.of_wr W187
    have f191 := f174.keep K190
    have f192 := f175.keep K190 (ninS (Ne.symm nx1) nin0)
    have f193 := f176.keep K190 (ninS (Ne.symm nx1) nin0)
    have f194 := f177.keep K190 (ninS (Ne.symm nx1) nin0)
    have f195 := f178.keep K190 (ninS (Ne.symm nx2) nin0)
    have f196 := f179.keep K190
    have f197 := f180.keep K190
    have f200 := Vq.keep K190 (ninS (Ne.symm ne171) nin0)
    have od201 := od183.keep K190 (allS g_xs all0)
    have z202 := Nat.le_trans z184 K190.1
    have kc203 := kc185.trans K190 (allS (Or.inl (List.mem_of_getElem? (i := 0) rfl)) all0)
    refine Go.goto K d_jdk_42_method_150_38 (pc' := 97) (by decide) (by decide) ?_
    exact Go.retV K (by decide) (by decide) d_jdk_42_method_150_97 (fun _ _ _ _ => ⟨rfl, kc203, f197, f189, nb, kn, f188, f200⟩)
theorem ef_x1 (m : MethodId) (xs : Addr) (o : Addr) : entryFrame m #[(.ref xs), (.ref o)] 2 = mkF m 0 #[.val (.ref xs), .val (.ref o)] [] := by first | (simp [entryFrame, mkF, argsToLocals, Value.category]; done) | rfl
theorem d_jdk_42_method_53_0 : decode jdk_42_method_53_code 0 = .ok (.aload_n 0, 1) := by decide +kernel
theorem d_jdk_42_method_53_1 : decode jdk_42_method_53_code 1 = .ok (.aload_n 1, 1) := by decide +kernel
theorem d_jdk_42_method_53_2 : decode jdk_42_method_53_code 2 = .ok (.aconst_null, 1) := by decide +kernel
theorem d_jdk_42_method_53_3 : decode jdk_42_method_53_code 3 = .ok (.invokespecial 489, 3) := by decide +kernel
theorem pd__28Ljava_2flang_2fAbstractStringBuilder_3bLjava_2flang_2fVoid_3b_29V : parseMethodDescriptor "(Ljava/lang/AbstractStringBuilder;Ljava/lang/Void;)V" = some ⟨[(.object "java/lang/AbstractStringBuilder"), (.object "java/lang/Void")], none⟩ := by decide +kernel
theorem d_jdk_42_method_53_6 : decode jdk_42_method_53_code 6 = .ok (.return_, 1) := by decide +kernel
set_option maxRecDepth 65536 in
set_option maxHeartbeats 40000000 in
theorem m_x1 (l : Launch) (Z : State) (a0 : Array Value) (hw : ∀ d ∈ tables_1, d.before a0 Z = true) (h0 : Heap) (n0 : Nat) (Z0 : n0 ≤ h0.size) (o tb : Addr) (kb : ClassId) (pre : List Int32) (Bq : Bd Z h0 o tb kb pre) (xs : Addr) (E_xs : Exa Z h0 xs "java/lang/String") (F_v : Fld Z h0 xs "java/lang/String" "value" "[B" .null) (F_c : Fld Z h0 xs "java/lang/String" "coder" "B" (.int (0 : Int32))) (g_xs : n0 ≤ xs) (hpre : pre.length ≤ 16) (nx1 : xs ≠ o) (nx2 : xs ≠ tb) (od : Old Z n0 h0) (zc : Int32) (S1 : Sta Z Z.heap "java/lang/String" "COMPACT_STRINGS" "Z" (.int zc)) (P1 : ¬ (zc = (0 : Int32))) :
    Met l Z [] (⟨"java/lang/String", "<init>", "(Ljava/lang/StringBuilder;)V"⟩ : MethodName) jdk_42_method_53_code 2 none ({ frames := 4, cells := 1, slots := 16, locals := 88 } : Room) #[(.ref xs), (.ref o)] h0 n0 (fun v h => v = none ∧ Keep h0 h [xs] ∧ Str Z h xs pre) := by
  refine Met.of (plainFor_of_name pn_java_lang_String) ?_
  intro p e s m below meth c F K
  refine Go.cast (ef_x1 m xs o) ?_
  refine Go.aloadN K d_jdk_42_method_53_0 rfl rfl (pc' := 1) rfl ?_
  refine Go.aloadN K d_jdk_42_method_53_1 rfl rfl (pc' := 2) rfl ?_
  refine Go.aconstNull K d_jdk_42_method_53_2 (pc' := 3) rfl ?_
  refine Go.callC K (y := (⟨"java/lang/String", "<init>", "(Ljava/lang/AbstractStringBuilder;Ljava/lang/Void;)V"⟩ : MethodName)) (W := 0) (kc := 1) (nc := 16) (a := xs) rfl (mvT K.cz (hw _ (List.mem_of_getElem? (i := 115) rfl))) (mvT K.cz (hw _ (List.mem_of_getElem? (i := 116) rfl))) (mvT K.cz (hw _ (List.mem_of_getElem? (i := 117) rfl))) (by decide) ((m_x2 l Z a0 hw h0 n0 Z0 o tb kb pre Bq xs E_xs F_v F_c g_xs hpre nx1 nx2 od zc S1 P1).pays (W := 0) K.cz (hw _ (List.mem_of_getElem? (i := 117) rfl)) (hw _ (List.mem_of_getElem? (i := 3) rfl)) (by decide) (by decide)) rfl (argsL := [(.ref o), .null]) (rest := []) (lenOf pd__28Ljava_2flang_2fAbstractStringBuilder_3bLjava_2flang_2fVoid_3b_29V rfl) rfl (Nat.le_of_ble_eq_true rfl) (by decide) (by decide) frOf grOf d_jdk_42_method_53_3 (pc' := 6) rfl ?_
  rintro v206 h204 Lc205 ⟨⟨⟨rfl, Kq, Sq⟩, -⟩, -⟩
  show Go p l e _ _ m _ below meth c _ _ _ _ h204 _ _ (mkF m 6 #[.val (.ref xs), .val (.ref o)] [])
  exact Go.retV K (by decide) (by decide) d_jdk_42_method_53_6 (fun _ _ _ _ => ⟨rfl, Kq, Sq⟩)
theorem ef_ts (m : MethodId) (o : Addr) : entryFrame m #[(.ref o)] 1 = mkF m 0 #[.val (.ref o)] [] := by first | (simp [entryFrame, mkF, argsToLocals, Value.category]; done) | rfl
theorem d_jdk_67_method_42_0 : decode jdk_67_method_42_code 0 = .ok (.new 18, 3) := by decide +kernel
theorem d_jdk_67_method_42_3 : decode jdk_67_method_42_code 3 = .ok (.dup, 1) := by decide +kernel
theorem d_jdk_67_method_42_4 : decode jdk_67_method_42_code 4 = .ok (.aload_n 0, 1) := by decide +kernel
theorem d_jdk_67_method_42_5 : decode jdk_67_method_42_code 5 = .ok (.invokespecial 137, 3) := by decide +kernel
theorem pd__28Ljava_2flang_2fStringBuilder_3b_29V : parseMethodDescriptor "(Ljava/lang/StringBuilder;)V" = some ⟨[(.object "java/lang/StringBuilder")], none⟩ := by decide +kernel
theorem d_jdk_67_method_42_8 : decode jdk_67_method_42_code 8 = .ok (.areturn, 1) := by decide +kernel
set_option maxRecDepth 65536 in
set_option maxHeartbeats 40000000 in
theorem m_ts (l : Launch) (Z : State) (a0 : Array Value) (hw : ∀ d ∈ tables_1, d.before a0 Z = true) (h0 : Heap) (n0 : Nat) (Z0 : n0 ≤ h0.size) (o tb : Addr) (kb : ClassId) (pre : List Int32) (Bq : Bd Z h0 o tb kb pre) (hpre : pre.length ≤ 16) (od : Old Z n0 h0) (zc : Int32) (S1 : Sta Z Z.heap "java/lang/String" "COMPACT_STRINGS" "Z" (.int zc)) (P1 : ¬ (zc = (0 : Int32))) :
    Met l Z [] (⟨"java/lang/StringBuilder", "toString", "()Ljava/lang/String;"⟩ : MethodName) jdk_67_method_42_code 1 (some (.object "java/lang/String")) ({ frames := 5, cells := 2, slots := 20, locals := 102 } : Room) #[(.ref o)] h0 n0 (fun v h => ∃ xs : Addr, v = some (.ref xs) ∧ h0.size ≤ xs ∧ Keep h0 h [] ∧ Str Z h xs pre) := by
  refine Met.of (plainFor_of_name pn_java_lang_StringBuilder) ?_
  intro p e s m below meth c F K
  refine Go.cast (ef_ts m o) ?_
  have kc0 := Keep.refl h0 []
  obtain ⟨E_o, F_o, C_o, N_o, V_b, E_b⟩ := id Bq
  refine Go.newO K (hw _ (List.mem_of_getElem? (i := 111) rfl)) (hw _ (List.mem_of_getElem? (i := 2) rfl)) (hw _ (List.mem_of_getElem? (i := 3) rfl)) (by decide) (by decide) d_jdk_67_method_42_0 (pc' := 3) rfl ?_
  intro h207 xs eq210 E208 E_xs D209
  have sz_xs := Nat.le_trans kc0.1 (Nat.le_of_eq eq210.symm)
  have ne211 : o ≠ xs := own_ne E_o.lt (Nat.le_of_eq eq210.symm)
  have ne212 : tb ≠ xs := own_ne V_b.lt (Nat.le_of_eq eq210.symm)
  have g_xs : n0 ≤ xs := Nat.le_trans Z0 (Nat.le_of_eq eq210.symm)
  have f219 := E_o.ext E208
  have f220 := F_o.ext E208
  have f221 := C_o.ext E208
  have f222 := N_o.ext E208
  have f223 := V_b.ext E208
  have f224 := E_b.ext E208
  have od225 := od.ext E208
  have z226 := Nat.le_trans Z0 E208.1
  have kc227 := kc0.ext E208
  have f228 : Fld Z h207 xs "java/lang/String" "coder" "B" (.int (0 : Int32)) := D209 (Or.inr (hw _ (List.mem_of_getElem? (i := 27) rfl))) (ty := .byte) (by decide)
  have f229 : Fld Z h207 xs "java/lang/String" "value" "[B" .null := D209 (Or.inr (hw _ (List.mem_of_getElem? (i := 29) rfl))) (ty := (.array .byte)) (by decide)
  refine Go.dup K d_jdk_67_method_42_3 rfl (pc' := 4) rfl ?_
  refine Go.aloadN K d_jdk_67_method_42_4 rfl rfl (pc' := 5) rfl ?_
  refine Go.callC K (y := (⟨"java/lang/String", "<init>", "(Ljava/lang/StringBuilder;)V"⟩ : MethodName)) (W := 1) (kc := 1) (nc := 16) (a := xs) rfl (mvT K.cz (hw _ (List.mem_of_getElem? (i := 112) rfl))) (mvT K.cz (hw _ (List.mem_of_getElem? (i := 113) rfl))) (mvT K.cz (hw _ (List.mem_of_getElem? (i := 114) rfl))) (by decide) ((m_x1 l Z a0 hw h207 n0 z226 o tb kb pre ⟨f219, f220, f221, f222, f223, f224⟩ xs E_xs f229 f228 g_xs hpre (Ne.symm ne211) (Ne.symm ne212) od225 zc S1 P1).pays (W := 1) K.cz (hw _ (List.mem_of_getElem? (i := 114) rfl)) (hw _ (List.mem_of_getElem? (i := 3) rfl)) (by decide) (by decide)) rfl (argsL := [(.ref o)]) (rest := [(.ref xs)]) (lenOf pd__28Ljava_2flang_2fStringBuilder_3b_29V rfl) rfl (Nat.le_of_ble_eq_true rfl) (by decide) (by decide) frOf grOf d_jdk_67_method_42_5 (pc' := 8) rfl ?_
  rintro v232 h230 Lc231 ⟨⟨⟨rfl, Kq, Sq⟩, -⟩, -⟩
  have f233 := f219.keep Kq
  have f234 := f220.keep Kq (ninS ne211 nin0)
  have f235 := f221.keep Kq (ninS ne211 nin0)
  have f236 := f222.keep Kq (ninS ne211 nin0)
  have f237 := f223.keep Kq (ninS ne212 nin0)
  have f238 := f224.keep Kq
  have f239 := E_xs.keep Kq
  have od242 := od225.keep Kq (allS g_xs all0)
  have z243 := Nat.le_trans z226 Kq.1
  have kc244 := kc227.trans Kq (allS (Or.inr sz_xs) all0)
  show Go p l e _ _ m _ below meth c _ _ _ _ h230 _ _ (mkF m 8 #[.val (.ref o)] [(.ref xs)])
  exact Go.retA K rfl rfl rfl (by decide) (by decide) d_jdk_67_method_42_8 (fun _ _ _ _ => ⟨xs, rfl, sz_xs, kc244, Sq⟩)
theorem ef_th (m : MethodId) (o : Addr) (mg : Addr) : entryFrame m #[(.ref o), (.ref mg)] 2 = mkF m 0 #[.val (.ref o), .val (.ref mg)] [] := by first | (simp [entryFrame, mkF, argsToLocals, Value.category]; done) | rfl
theorem d_jdk_78_method_2_0 : decode jdk_78_method_2_code 0 = .ok (.aload_n 0, 1) := by decide +kernel
theorem d_jdk_78_method_2_1 : decode jdk_78_method_2_code 1 = .ok (.invokespecial 1, 3) := by decide +kernel
theorem d_jdk_78_method_2_4 : decode jdk_78_method_2_code 4 = .ok (.aload_n 0, 1) := by decide +kernel
theorem d_jdk_78_method_2_5 : decode jdk_78_method_2_code 5 = .ok (.aload_n 0, 1) := by decide +kernel
theorem d_jdk_78_method_2_6 : decode jdk_78_method_2_code 6 = .ok (.putfield 7, 3) := by decide +kernel
theorem d_jdk_78_method_2_9 : decode jdk_78_method_2_code 9 = .ok (.aload_n 0, 1) := by decide +kernel
theorem d_jdk_78_method_2_10 : decode jdk_78_method_2_code 10 = .ok (.getstatic 13, 3) := by decide +kernel
theorem d_jdk_78_method_2_13 : decode jdk_78_method_2_code 13 = .ok (.putfield 17, 3) := by decide +kernel
theorem d_jdk_78_method_2_16 : decode jdk_78_method_2_code 16 = .ok (.aload_n 0, 1) := by decide +kernel
theorem d_jdk_78_method_2_17 : decode jdk_78_method_2_code 17 = .ok (.getstatic 20, 3) := by decide +kernel
theorem d_jdk_78_method_2_20 : decode jdk_78_method_2_code 20 = .ok (.putfield 24, 3) := by decide +kernel
theorem d_jdk_78_method_2_23 : decode jdk_78_method_2_code 23 = .ok (.aload_n 0, 1) := by decide +kernel
theorem d_jdk_78_method_2_24 : decode jdk_78_method_2_code 24 = .ok (.invokevirtual 27, 3) := by decide +kernel
theorem d_jdk_78_method_2_27 : decode jdk_78_method_2_code 27 = .ok (.pop, 1) := by decide +kernel
theorem d_jdk_78_method_2_28 : decode jdk_78_method_2_code 28 = .ok (.aload_n 0, 1) := by decide +kernel
theorem d_jdk_78_method_2_29 : decode jdk_78_method_2_code 29 = .ok (.aload_n 1, 1) := by decide +kernel
theorem d_jdk_78_method_2_30 : decode jdk_78_method_2_code 30 = .ok (.putfield 31, 3) := by decide +kernel
theorem d_jdk_78_method_2_33 : decode jdk_78_method_2_code 33 = .ok (.return_, 1) := by decide +kernel
theorem pn_java_lang_Throwable : plainName "java/lang/Throwable" = true := by first | (simp [plainName, overriddenIn]; done) | decide +kernel
set_option maxRecDepth 65536 in
set_option maxHeartbeats 40000000 in
theorem m_th (l : Launch) (Z : State) (a0 : Array Value) (hw : ∀ d ∈ tables_1, d.before a0 Z = true) (h0 : Heap) (n0 : Nat) (Z0 : n0 ≤ h0.size) (o mg : Addr) (hl : l.stackTraces = true) (us ss : Addr) (SU : Sta Z Z.heap "java/lang/Throwable" "UNASSIGNED_STACK" "[Ljava/lang/StackTraceElement;" (.ref us)) (SS : Sta Z Z.heap "java/lang/Throwable" "SUPPRESSED_SENTINEL" "Ljava/util/List;" (.ref ss)) (od : Old Z n0 h0) (E_o : Exa Z h0 o "java/lang/IllegalArgumentException") (U_o : Unt h0 o) (F_b : Fld Z h0 o "java/lang/Throwable" "backtrace" "Ljava/lang/Object;" .null) (F_c : Fld Z h0 o "java/lang/Throwable" "cause" "Ljava/lang/Throwable;" .null) (F_t : Fld Z h0 o "java/lang/Throwable" "stackTrace" "[Ljava/lang/StackTraceElement;" .null) (F_u : Fld Z h0 o "java/lang/Throwable" "suppressedExceptions" "Ljava/util/List;" .null) (F_m : Fld Z h0 o "java/lang/Throwable" "detailMessage" "Ljava/lang/String;" .null) (g_o : n0 ≤ o) :
    MetK l Z [] (⟨"java/lang/Throwable", "<init>", "(Ljava/lang/String;)V"⟩ : MethodName) jdk_78_method_2_code 2 none ({ frames := 3, cells := 1, slots := 2752, locals := 42 } : Room) #[(.ref o), (.ref mg)] h0 n0 (fun v h => v = none ∧ Keep h0 h [o] ∧ Exa Z h o "java/lang/IllegalArgumentException" ∧ Fld Z h o "java/lang/Throwable" "detailMessage" "Ljava/lang/String;" (.ref mg)) := by
  refine MetK.of (plainFor_of_name pn_java_lang_Throwable) ?_
  intro p e s m below meth c F hsh hTK hBl K
  have hfw : ∀ d ∈ fillW "java/lang/IllegalArgumentException", d.before a0 Z = true := fun d hd => hw d ((by decide +kernel : ∀ d ∈ fillW "java/lang/IllegalArgumentException", d ∈ tables_1) d hd)
  have th0 : ThS Z s.heap := by rw [hsh]; exact own_ths od
  refine Go.cast (ef_th m o mg) ?_
  have kc0 := Keep.refl h0 [o]
  refine Go.aloadN K d_jdk_78_method_2_0 rfl rfl (pc' := 1) rfl ?_
  refine Go.initO K (hw _ (List.mem_of_getElem? (i := 170) rfl)) (hw _ (List.mem_of_getElem? (i := 12) rfl)) (hw _ (List.mem_of_getElem? (i := 13) rfl)) rfl (by decide) 0 (Nat.le_of_ble_eq_true rfl) (by decide) d_jdk_78_method_2_1 (pc' := 4) rfl ?_
  refine Go.aloadN K d_jdk_78_method_2_4 rfl rfl (pc' := 5) rfl ?_
  refine Go.aloadN K d_jdk_78_method_2_5 rfl rfl (pc' := 6) rfl ?_
  refine Go.putF K (host := "") (Or.inl (hw _ (List.mem_of_getElem? (i := 171) rfl))) Via.refl F_c E_o (Or.inl (hw _ (List.mem_of_getElem? (i := 172) rfl))) (hw _ (List.mem_of_getElem? (i := 35) rfl)) (ty := (.object "java/lang/Throwable")) (by decide) rfl rfl g_o d_jdk_78_method_2_6 (pc' := 9) rfl ?_
  intro h245 W246 f247
  have f248 := F_b.other W246 (Or.inr (slot_ne (Or.inl (hw _ (List.mem_of_getElem? (i := 203) rfl))) (Or.inl (hw _ (List.mem_of_getElem? (i := 172) rfl))) (by decide) (t := (.object "java/lang/Object")) (t' := (.object "java/lang/Throwable")) (by decide) (by decide)))
  have f249 := F_t.other W246 (Or.inr (slot_ne (Or.inl (hw _ (List.mem_of_getElem? (i := 175) rfl))) (Or.inl (hw _ (List.mem_of_getElem? (i := 172) rfl))) (by decide) (t := (.array (.object "java/lang/StackTraceElement"))) (t' := (.object "java/lang/Throwable")) (by decide) (by decide)))
  have f250 := F_u.other W246 (Or.inr (slot_ne (Or.inl (hw _ (List.mem_of_getElem? (i := 178) rfl))) (Or.inl (hw _ (List.mem_of_getElem? (i := 172) rfl))) (by decide) (t := (.object "java/util/List")) (t' := (.object "java/lang/Throwable")) (by decide) (by decide)))
  have f251 := F_m.other W246 (Or.inr (slot_ne (Or.inl (hw _ (List.mem_of_getElem? (i := 202) rfl))) (Or.inl (hw _ (List.mem_of_getElem? (i := 172) rfl))) (by decide) (t := (.object "java/lang/String")) (t' := (.object "java/lang/Throwable")) (by decide) (by decide)))
  have U252 := Unt.wr W246 U_o
  have K253 := Keep.of_wr W246
  have f254 := E_o.keep K253
  have od261 := od.keep K253 (allS g_o all0)
  have z262 := Nat.le_trans Z0 K253.1
  have kc263 := kc0.trans K253 (allS (Or.inl (List.mem_of_getElem? (i := 0) rfl)) all0)
  refine Go.aloadN K d_jdk_78_method_2_9 rfl rfl (pc' := 10) rfl ?_
  refine Go.getS K (host := "") (Or.inl (hw _ (List.mem_of_getElem? (i := 173) rfl))) Via.refl (SU.ext od261.2) d_jdk_78_method_2_10 (pc' := 13) rfl ?_
  refine Go.putF K (host := "") (Or.inl (hw _ (List.mem_of_getElem? (i := 174) rfl))) Via.refl f249 f254 (Or.inl (hw _ (List.mem_of_getElem? (i := 175) rfl))) (hw _ (List.mem_of_getElem? (i := 35) rfl)) (ty := (.array (.object "java/lang/StackTraceElement"))) (by decide) rfl rfl g_o d_jdk_78_method_2_13 (pc' := 16) rfl ?_
  intro h264 W265 f266
  have f267 := f248.other W265 (Or.inr (slot_ne (Or.inl (hw _ (List.mem_of_getElem? (i := 203) rfl))) (Or.inl (hw _ (List.mem_of_getElem? (i := 175) rfl))) (by decide) (t := (.object "java/lang/Object")) (t' := (.array (.object "java/lang/StackTraceElement"))) (by decide) (by decide)))
  have f268 := f250.other W265 (Or.inr (slot_ne (Or.inl (hw _ (List.mem_of_getElem? (i := 178) rfl))) (Or.inl (hw _ (List.mem_of_getElem? (i := 175) rfl))) (by decide) (t := (.object "java/util/List")) (t' := (.array (.object "java/lang/StackTraceElement"))) (by decide) (by decide)))
  have f269 := f251.other W265 (Or.inr (slot_ne (Or.inl (hw _ (List.mem_of_getElem? (i := 202) rfl))) (Or.inl (hw _ (List.mem_of_getElem? (i := 175) rfl))) (by decide) (t := (.object "java/lang/String")) (t' := (.array (.object "java/lang/StackTraceElement"))) (by decide) (by decide)))
  have f270 := f247.other W265 (Or.inr (slot_ne (Or.inl (hw _ (List.mem_of_getElem? (i := 172) rfl))) (Or.inl (hw _ (List.mem_of_getElem? (i := 175) rfl))) (by decide) (t := (.object "java/lang/Throwable")) (t' := (.array (.object "java/lang/StackTraceElement"))) (by decide) (by decide)))
  have U271 := Unt.wr W265 U252
  have K272 := Keep.of_wr W265
  have f273 := f254.keep K272
  have od280 := od261.keep K272 (allS g_o all0)
  have z281 := Nat.le_trans z262 K272.1
  have kc282 := kc263.trans K272 (allS (Or.inl (List.mem_of_getElem? (i := 0) rfl)) all0)
  refine Go.aloadN K d_jdk_78_method_2_16 rfl rfl (pc' := 17) rfl ?_
  refine Go.getS K (host := "") (Or.inl (hw _ (List.mem_of_getElem? (i := 176) rfl))) Via.refl (SS.ext od280.2) d_jdk_78_method_2_17 (pc' := 20) rfl ?_
  refine Go.putF K (host := "") (Or.inl (hw _ (List.mem_of_getElem? (i := 177) rfl))) Via.refl f268 f273 (Or.inl (hw _ (List.mem_of_getElem? (i := 178) rfl))) (hw _ (List.mem_of_getElem? (i := 35) rfl)) (ty := (.object "java/util/List")) (by decide) rfl rfl g_o d_jdk_78_method_2_20 (pc' := 23) rfl ?_
  intro h283 W284 f285
  have f286 := f267.other W284 (Or.inr (slot_ne (Or.inl (hw _ (List.mem_of_getElem? (i := 203) rfl))) (Or.inl (hw _ (List.mem_of_getElem? (i := 178) rfl))) (by decide) (t := (.object "java/lang/Object")) (t' := (.object "java/util/List")) (by decide) (by decide)))
  have f287 := f269.other W284 (Or.inr (slot_ne (Or.inl (hw _ (List.mem_of_getElem? (i := 202) rfl))) (Or.inl (hw _ (List.mem_of_getElem? (i := 178) rfl))) (by decide) (t := (.object "java/lang/String")) (t' := (.object "java/util/List")) (by decide) (by decide)))
  have f288 := f270.other W284 (Or.inr (slot_ne (Or.inl (hw _ (List.mem_of_getElem? (i := 172) rfl))) (Or.inl (hw _ (List.mem_of_getElem? (i := 178) rfl))) (by decide) (t := (.object "java/lang/Throwable")) (t' := (.object "java/util/List")) (by decide) (by decide)))
  have f289 := f266.other W284 (Or.inr (slot_ne (Or.inl (hw _ (List.mem_of_getElem? (i := 175) rfl))) (Or.inl (hw _ (List.mem_of_getElem? (i := 178) rfl))) (by decide) (t := (.array (.object "java/lang/StackTraceElement"))) (t' := (.object "java/util/List")) (by decide) (by decide)))
  have U290 := Unt.wr W284 U271
  have K291 := Keep.of_wr W284
  have f292 := f273.keep K291
  have od299 := od280.keep K291 (allS g_o all0)
  have z300 := Nat.le_trans z281 K291.1
  have kc301 := kc282.trans K291 (allS (Or.inl (List.mem_of_getElem? (i := 0) rfl)) all0)
  refine Go.aloadN K d_jdk_78_method_2_23 rfl rfl (pc' := 24) rfl ?_
  refine Go.fill K hl (rc := "java/lang/IllegalArgumentException") (u := us) hfw (hw _ (List.mem_of_getElem? (i := 35) rfl)) th0 od299 hTK hBl f292 U290 f286 f289 SU g_o rfl (by decide) 0 (Nat.le_of_ble_eq_true rfl) (by decide) (by decide) (by decide) d_jdk_78_method_2_24 (pc' := 27) rfl ?_
  intro h302 h303 h304 h305 _ _ E306 W307 W308 W309
  have f317 := f292.ext E306
  have f318 := f286.ext E306
  have f319 := f287.ext E306
  have f320 := f288.ext E306
  have f321 := f289.ext E306
  have f322 := U290.ext E306
  have f323 := f285.ext E306
  have od324 := od299.ext E306
  have z325 := Nat.le_trans z300 E306.1
  have kc326 := kc301.ext E306
  have f327 := f319.other W307 (Or.inr (slot_ne (Or.inl (hw _ (List.mem_of_getElem? (i := 202) rfl))) (Or.inl (hw _ (List.mem_of_getElem? (i := 203) rfl))) (by decide) (t := (.object "java/lang/String")) (t' := (.object "java/lang/Object")) (by decide) (by decide)))
  have f328 := f320.other W307 (Or.inr (slot_ne (Or.inl (hw _ (List.mem_of_getElem? (i := 172) rfl))) (Or.inl (hw _ (List.mem_of_getElem? (i := 203) rfl))) (by decide) (t := (.object "java/lang/Throwable")) (t' := (.object "java/lang/Object")) (by decide) (by decide)))
  have f329 := f321.other W307 (Or.inr (slot_ne (Or.inl (hw _ (List.mem_of_getElem? (i := 175) rfl))) (Or.inl (hw _ (List.mem_of_getElem? (i := 203) rfl))) (by decide) (t := (.array (.object "java/lang/StackTraceElement"))) (t' := (.object "java/lang/Object")) (by decide) (by decide)))
  have f330 := f323.other W307 (Or.inr (slot_ne (Or.inl (hw _ (List.mem_of_getElem? (i := 178) rfl))) (Or.inl (hw _ (List.mem_of_getElem? (i := 203) rfl))) (by decide) (t := (.object "java/util/List")) (t' := (.object "java/lang/Object")) (by decide) (by decide)))
  have U331 := Unt.wr W307 f322
  have K332 := Keep.of_wr W307
  have f333 := f317.keep K332
  have od340 := od324.keep K332 (allS g_o all0)
  have z341 := Nat.le_trans z325 K332.1
  have kc342 := kc326.trans K332 (allS (Or.inl (List.mem_of_getElem? (i := 0) rfl)) all0)
  have f343 := f327.other W308 (Or.inr (slot_ne (Or.inl (hw _ (List.mem_of_getElem? (i := 202) rfl))) (Or.inl (hw _ (List.mem_of_getElem? (i := 204) rfl))) (by decide) (t := (.object "java/lang/String")) (t' := .int) (by decide) (by decide)))
  have f344 := f328.other W308 (Or.inr (slot_ne (Or.inl (hw _ (List.mem_of_getElem? (i := 172) rfl))) (Or.inl (hw _ (List.mem_of_getElem? (i := 204) rfl))) (by decide) (t := (.object "java/lang/Throwable")) (t' := .int) (by decide) (by decide)))
  have f345 := f329.other W308 (Or.inr (slot_ne (Or.inl (hw _ (List.mem_of_getElem? (i := 175) rfl))) (Or.inl (hw _ (List.mem_of_getElem? (i := 204) rfl))) (by decide) (t := (.array (.object "java/lang/StackTraceElement"))) (t' := .int) (by decide) (by decide)))
  have f346 := f330.other W308 (Or.inr (slot_ne (Or.inl (hw _ (List.mem_of_getElem? (i := 178) rfl))) (Or.inl (hw _ (List.mem_of_getElem? (i := 204) rfl))) (by decide) (t := (.object "java/util/List")) (t' := .int) (by decide) (by decide)))
  have U347 := Unt.wr W308 U331
  have K348 := Keep.of_wr W308
  have f349 := f333.keep K348
  have od355 := od340.keep K348 (allS g_o all0)
  have z356 := Nat.le_trans z341 K348.1
  have kc357 := kc342.trans K348 (allS (Or.inl (List.mem_of_getElem? (i := 0) rfl)) all0)
  have f358 := f343.other W309 (Or.inr (slot_ne (Or.inl (hw _ (List.mem_of_getElem? (i := 202) rfl))) (Or.inl (hw _ (List.mem_of_getElem? (i := 175) rfl))) (by decide) (t := (.object "java/lang/String")) (t' := (.array (.object "java/lang/StackTraceElement"))) (by decide) (by decide)))
  have f359 := f344.other W309 (Or.inr (slot_ne (Or.inl (hw _ (List.mem_of_getElem? (i := 172) rfl))) (Or.inl (hw _ (List.mem_of_getElem? (i := 175) rfl))) (by decide) (t := (.object "java/lang/Throwable")) (t' := (.array (.object "java/lang/StackTraceElement"))) (by decide) (by decide)))
  have f360 := f346.other W309 (Or.inr (slot_ne (Or.inl (hw _ (List.mem_of_getElem? (i := 178) rfl))) (Or.inl (hw _ (List.mem_of_getElem? (i := 175) rfl))) (by decide) (t := (.object "java/util/List")) (t' := (.array (.object "java/lang/StackTraceElement"))) (by decide) (by decide)))
  have U361 := Unt.wr W309 U347
  have K362 := Keep.of_wr W309
  have f363 := f349.keep K362
  have od369 := od355.keep K362 (allS g_o all0)
  have z370 := Nat.le_trans z356 K362.1
  have kc371 := kc357.trans K362 (allS (Or.inl (List.mem_of_getElem? (i := 0) rfl)) all0)
  refine Go.pop K d_jdk_78_method_2_27 rfl (pc' := 28) rfl ?_
  refine Go.aloadN K d_jdk_78_method_2_28 rfl rfl (pc' := 29) rfl ?_
  refine Go.aloadN K d_jdk_78_method_2_29 rfl rfl (pc' := 30) rfl ?_
  refine Go.putF K (host := "") (Or.inl (hw _ (List.mem_of_getElem? (i := 206) rfl))) Via.refl f358 f363 (Or.inl (hw _ (List.mem_of_getElem? (i := 202) rfl))) (hw _ (List.mem_of_getElem? (i := 35) rfl)) (ty := (.object "java/lang/String")) (by decide) rfl rfl g_o d_jdk_78_method_2_30 (pc' := 33) rfl ?_
  intro h372 W373 f374
  have f375 := f359.other W373 (Or.inr (slot_ne (Or.inl (hw _ (List.mem_of_getElem? (i := 172) rfl))) (Or.inl (hw _ (List.mem_of_getElem? (i := 202) rfl))) (by decide) (t := (.object "java/lang/Throwable")) (t' := (.object "java/lang/String")) (by decide) (by decide)))
  have f376 := f360.other W373 (Or.inr (slot_ne (Or.inl (hw _ (List.mem_of_getElem? (i := 178) rfl))) (Or.inl (hw _ (List.mem_of_getElem? (i := 202) rfl))) (by decide) (t := (.object "java/util/List")) (t' := (.object "java/lang/String")) (by decide) (by decide)))
  have U377 := Unt.wr W373 U361
  have K378 := Keep.of_wr W373
  have f379 := f363.keep K378
  have od384 := od369.keep K378 (allS g_o all0)
  have z385 := Nat.le_trans z370 K378.1
  have kc386 := kc371.trans K378 (allS (Or.inl (List.mem_of_getElem? (i := 0) rfl)) all0)
  exact Go.retV K (by decide) (by decide) d_jdk_78_method_2_33 (fun _ _ _ _ => ⟨rfl, kc386, f379, f374⟩)
theorem ef_m_ex (m : MethodId) (o : Addr) (mg : Addr) : entryFrame m #[(.ref o), (.ref mg)] 2 = mkF m 0 #[.val (.ref o), .val (.ref mg)] [] := by first | (simp [entryFrame, mkF, argsToLocals, Value.category]; done) | rfl
theorem d_jdk_59_method_2_0 : decode jdk_59_method_2_code 0 = .ok (.aload_n 0, 1) := by decide +kernel
theorem d_jdk_59_method_2_1 : decode jdk_59_method_2_code 1 = .ok (.aload_n 1, 1) := by decide +kernel
theorem d_jdk_59_method_2_2 : decode jdk_59_method_2_code 2 = .ok (.invokespecial 7, 3) := by decide +kernel
theorem d_jdk_59_method_2_5 : decode jdk_59_method_2_code 5 = .ok (.return_, 1) := by decide +kernel
theorem pn_java_lang_Exception : plainName "java/lang/Exception" = true := by first | (simp [plainName, overriddenIn]; done) | decide +kernel
set_option maxRecDepth 65536 in
set_option maxHeartbeats 40000000 in
theorem m_ex (l : Launch) (Z : State) (a0 : Array Value) (hw : ∀ d ∈ tables_1, d.before a0 Z = true) (h0 : Heap) (n0 : Nat) (Z0 : n0 ≤ h0.size) (o mg : Addr) (hl : l.stackTraces = true) (us ss : Addr) (SU : Sta Z Z.heap "java/lang/Throwable" "UNASSIGNED_STACK" "[Ljava/lang/StackTraceElement;" (.ref us)) (SS : Sta Z Z.heap "java/lang/Throwable" "SUPPRESSED_SENTINEL" "Ljava/util/List;" (.ref ss)) (od : Old Z n0 h0) (E_o : Exa Z h0 o "java/lang/IllegalArgumentException") (U_o : Unt h0 o) (F_b : Fld Z h0 o "java/lang/Throwable" "backtrace" "Ljava/lang/Object;" .null) (F_c : Fld Z h0 o "java/lang/Throwable" "cause" "Ljava/lang/Throwable;" .null) (F_t : Fld Z h0 o "java/lang/Throwable" "stackTrace" "[Ljava/lang/StackTraceElement;" .null) (F_u : Fld Z h0 o "java/lang/Throwable" "suppressedExceptions" "Ljava/util/List;" .null) (F_m : Fld Z h0 o "java/lang/Throwable" "detailMessage" "Ljava/lang/String;" .null) (g_o : n0 ≤ o) :
    MetK l Z [] (⟨"java/lang/Exception", "<init>", "(Ljava/lang/String;)V"⟩ : MethodName) jdk_59_method_2_code 2 none ({ frames := 4, cells := 1, slots := 2752, locals := 55 } : Room) #[(.ref o), (.ref mg)] h0 n0 (fun v h => v = none ∧ Keep h0 h [o] ∧ Exa Z h o "java/lang/IllegalArgumentException" ∧ Fld Z h o "java/lang/Throwable" "detailMessage" "Ljava/lang/String;" (.ref mg)) := by
  refine MetK.of (plainFor_of_name pn_java_lang_Exception) ?_
  intro p e s m below meth c F hsh hTK hBl K
  refine Go.cast (ef_m_ex m o mg) ?_
  have kc0 := Keep.refl h0 [o]
  refine Go.aloadN K d_jdk_59_method_2_0 rfl rfl (pc' := 1) rfl ?_
  refine Go.aloadN K d_jdk_59_method_2_1 rfl rfl (pc' := 2) rfl ?_
  refine Go.callC K (y := (⟨"java/lang/Throwable", "<init>", "(Ljava/lang/String;)V"⟩ : MethodName)) (W := 0) (kc := 1) (nc := 2752) (a := o) rfl (mvT K.cz (hw _ (List.mem_of_getElem? (i := 164) rfl))) (mvT K.cz (hw _ (List.mem_of_getElem? (i := 165) rfl))) (mvT K.cz (hw _ (List.mem_of_getElem? (i := 169) rfl))) (by decide) ((m_th l Z a0 hw h0 n0 Z0 o mg hl us ss SU SS od E_o U_o F_b F_c F_t F_u F_m g_o).pays (W := 0) K.cz (hw _ (List.mem_of_getElem? (i := 169) rfl)) (hw _ (List.mem_of_getElem? (i := 168) rfl)) (by decide) (by decide) hTK hBl) rfl (argsL := [(.ref mg)]) (rest := []) (lenOf pd__28Ljava_2flang_2fString_3b_29V rfl) rfl (Nat.le_of_ble_eq_true rfl) (by decide) (by decide) frOf grOf d_jdk_59_method_2_2 (pc' := 5) rfl ?_
  rintro v389 h387 Lc388 ⟨⟨⟨rfl, Kq, Eq, Fq⟩, -⟩, -⟩
  show Go p l e _ _ m _ below meth c _ _ _ _ h387 _ _ (mkF m 5 #[.val (.ref o), .val (.ref mg)] [])
  exact Go.retV K (by decide) (by decide) d_jdk_59_method_2_5 (fun _ _ _ _ => ⟨rfl, Kq, Eq, Fq⟩)
theorem ef_m_rt (m : MethodId) (o : Addr) (mg : Addr) : entryFrame m #[(.ref o), (.ref mg)] 2 = mkF m 0 #[.val (.ref o), .val (.ref mg)] [] := by first | (simp [entryFrame, mkF, argsToLocals, Value.category]; done) | rfl
theorem d_jdk_58_method_2_0 : decode jdk_58_method_2_code 0 = .ok (.aload_n 0, 1) := by decide +kernel
theorem d_jdk_58_method_2_1 : decode jdk_58_method_2_code 1 = .ok (.aload_n 1, 1) := by decide +kernel
theorem d_jdk_58_method_2_2 : decode jdk_58_method_2_code 2 = .ok (.invokespecial 7, 3) := by decide +kernel
theorem d_jdk_58_method_2_5 : decode jdk_58_method_2_code 5 = .ok (.return_, 1) := by decide +kernel
theorem pn_java_lang_RuntimeException : plainName "java/lang/RuntimeException" = true := by first | (simp [plainName, overriddenIn]; done) | decide +kernel
set_option maxRecDepth 65536 in
set_option maxHeartbeats 40000000 in
theorem m_rt (l : Launch) (Z : State) (a0 : Array Value) (hw : ∀ d ∈ tables_1, d.before a0 Z = true) (h0 : Heap) (n0 : Nat) (Z0 : n0 ≤ h0.size) (o mg : Addr) (hl : l.stackTraces = true) (us ss : Addr) (SU : Sta Z Z.heap "java/lang/Throwable" "UNASSIGNED_STACK" "[Ljava/lang/StackTraceElement;" (.ref us)) (SS : Sta Z Z.heap "java/lang/Throwable" "SUPPRESSED_SENTINEL" "Ljava/util/List;" (.ref ss)) (od : Old Z n0 h0) (E_o : Exa Z h0 o "java/lang/IllegalArgumentException") (U_o : Unt h0 o) (F_b : Fld Z h0 o "java/lang/Throwable" "backtrace" "Ljava/lang/Object;" .null) (F_c : Fld Z h0 o "java/lang/Throwable" "cause" "Ljava/lang/Throwable;" .null) (F_t : Fld Z h0 o "java/lang/Throwable" "stackTrace" "[Ljava/lang/StackTraceElement;" .null) (F_u : Fld Z h0 o "java/lang/Throwable" "suppressedExceptions" "Ljava/util/List;" .null) (F_m : Fld Z h0 o "java/lang/Throwable" "detailMessage" "Ljava/lang/String;" .null) (g_o : n0 ≤ o) :
    MetK l Z [] (⟨"java/lang/RuntimeException", "<init>", "(Ljava/lang/String;)V"⟩ : MethodName) jdk_58_method_2_code 2 none ({ frames := 5, cells := 1, slots := 2752, locals := 68 } : Room) #[(.ref o), (.ref mg)] h0 n0 (fun v h => v = none ∧ Keep h0 h [o] ∧ Exa Z h o "java/lang/IllegalArgumentException" ∧ Fld Z h o "java/lang/Throwable" "detailMessage" "Ljava/lang/String;" (.ref mg)) := by
  refine MetK.of (plainFor_of_name pn_java_lang_RuntimeException) ?_
  intro p e s m below meth c F hsh hTK hBl K
  refine Go.cast (ef_m_rt m o mg) ?_
  have kc0 := Keep.refl h0 [o]
  refine Go.aloadN K d_jdk_58_method_2_0 rfl rfl (pc' := 1) rfl ?_
  refine Go.aloadN K d_jdk_58_method_2_1 rfl rfl (pc' := 2) rfl ?_
  refine Go.callC K (y := (⟨"java/lang/Exception", "<init>", "(Ljava/lang/String;)V"⟩ : MethodName)) (W := 0) (kc := 1) (nc := 2752) (a := o) rfl (mvT K.cz (hw _ (List.mem_of_getElem? (i := 158) rfl))) (mvT K.cz (hw _ (List.mem_of_getElem? (i := 159) rfl))) (mvT K.cz (hw _ (List.mem_of_getElem? (i := 163) rfl))) (by decide) ((m_ex l Z a0 hw h0 n0 Z0 o mg hl us ss SU SS od E_o U_o F_b F_c F_t F_u F_m g_o).pays (W := 0) K.cz (hw _ (List.mem_of_getElem? (i := 163) rfl)) (hw _ (List.mem_of_getElem? (i := 162) rfl)) (by decide) (by decide) hTK hBl) rfl (argsL := [(.ref mg)]) (rest := []) (lenOf pd__28Ljava_2flang_2fString_3b_29V rfl) rfl (Nat.le_of_ble_eq_true rfl) (by decide) (by decide) frOf grOf d_jdk_58_method_2_2 (pc' := 5) rfl ?_
  rintro v392 h390 Lc391 ⟨⟨⟨rfl, Kq, Eq, Fq⟩, -⟩, -⟩
  show Go p l e _ _ m _ below meth c _ _ _ _ h390 _ _ (mkF m 5 #[.val (.ref o), .val (.ref mg)] [])
  exact Go.retV K (by decide) (by decide) d_jdk_58_method_2_5 (fun _ _ _ _ => ⟨rfl, Kq, Eq, Fq⟩)
theorem ef_m_ia (m : MethodId) (o : Addr) (mg : Addr) : entryFrame m #[(.ref o), (.ref mg)] 2 = mkF m 0 #[.val (.ref o), .val (.ref mg)] [] := by first | (simp [entryFrame, mkF, argsToLocals, Value.category]; done) | rfl
theorem d_jdk_57_method_2_0 : decode jdk_57_method_2_code 0 = .ok (.aload_n 0, 1) := by decide +kernel
theorem d_jdk_57_method_2_1 : decode jdk_57_method_2_code 1 = .ok (.aload_n 1, 1) := by decide +kernel
theorem d_jdk_57_method_2_2 : decode jdk_57_method_2_code 2 = .ok (.invokespecial 7, 3) := by decide +kernel
theorem d_jdk_57_method_2_5 : decode jdk_57_method_2_code 5 = .ok (.return_, 1) := by decide +kernel
theorem pn_java_lang_IllegalArgumentException : plainName "java/lang/IllegalArgumentException" = true := by first | (simp [plainName, overriddenIn]; done) | decide +kernel
set_option maxRecDepth 65536 in
set_option maxHeartbeats 40000000 in
theorem m_ia (l : Launch) (Z : State) (a0 : Array Value) (hw : ∀ d ∈ tables_1, d.before a0 Z = true) (h0 : Heap) (n0 : Nat) (Z0 : n0 ≤ h0.size) (o mg : Addr) (hl : l.stackTraces = true) (us ss : Addr) (SU : Sta Z Z.heap "java/lang/Throwable" "UNASSIGNED_STACK" "[Ljava/lang/StackTraceElement;" (.ref us)) (SS : Sta Z Z.heap "java/lang/Throwable" "SUPPRESSED_SENTINEL" "Ljava/util/List;" (.ref ss)) (od : Old Z n0 h0) (E_o : Exa Z h0 o "java/lang/IllegalArgumentException") (U_o : Unt h0 o) (F_b : Fld Z h0 o "java/lang/Throwable" "backtrace" "Ljava/lang/Object;" .null) (F_c : Fld Z h0 o "java/lang/Throwable" "cause" "Ljava/lang/Throwable;" .null) (F_t : Fld Z h0 o "java/lang/Throwable" "stackTrace" "[Ljava/lang/StackTraceElement;" .null) (F_u : Fld Z h0 o "java/lang/Throwable" "suppressedExceptions" "Ljava/util/List;" .null) (F_m : Fld Z h0 o "java/lang/Throwable" "detailMessage" "Ljava/lang/String;" .null) (g_o : n0 ≤ o) :
    MetK l Z [] (⟨"java/lang/IllegalArgumentException", "<init>", "(Ljava/lang/String;)V"⟩ : MethodName) jdk_57_method_2_code 2 none ({ frames := 6, cells := 1, slots := 2752, locals := 81 } : Room) #[(.ref o), (.ref mg)] h0 n0 (fun v h => v = none ∧ Keep h0 h [o] ∧ Exa Z h o "java/lang/IllegalArgumentException" ∧ Fld Z h o "java/lang/Throwable" "detailMessage" "Ljava/lang/String;" (.ref mg)) := by
  refine MetK.of (plainFor_of_name pn_java_lang_IllegalArgumentException) ?_
  intro p e s m below meth c F hsh hTK hBl K
  refine Go.cast (ef_m_ia m o mg) ?_
  have kc0 := Keep.refl h0 [o]
  refine Go.aloadN K d_jdk_57_method_2_0 rfl rfl (pc' := 1) rfl ?_
  refine Go.aloadN K d_jdk_57_method_2_1 rfl rfl (pc' := 2) rfl ?_
  refine Go.callC K (y := (⟨"java/lang/RuntimeException", "<init>", "(Ljava/lang/String;)V"⟩ : MethodName)) (W := 0) (kc := 1) (nc := 2752) (a := o) rfl (mvT K.cz (hw _ (List.mem_of_getElem? (i := 152) rfl))) (mvT K.cz (hw _ (List.mem_of_getElem? (i := 153) rfl))) (mvT K.cz (hw _ (List.mem_of_getElem? (i := 157) rfl))) (by decide) ((m_rt l Z a0 hw h0 n0 Z0 o mg hl us ss SU SS od E_o U_o F_b F_c F_t F_u F_m g_o).pays (W := 0) K.cz (hw _ (List.mem_of_getElem? (i := 157) rfl)) (hw _ (List.mem_of_getElem? (i := 156) rfl)) (by decide) (by decide) hTK hBl) rfl (argsL := [(.ref mg)]) (rest := []) (lenOf pd__28Ljava_2flang_2fString_3b_29V rfl) rfl (Nat.le_of_ble_eq_true rfl) (by decide) (by decide) frOf grOf d_jdk_57_method_2_2 (pc' := 5) rfl ?_
  rintro v395 h393 Lc394 ⟨⟨⟨rfl, Kq, Eq, Fq⟩, -⟩, -⟩
  show Go p l e _ _ m _ below meth c _ _ _ _ h393 _ _ (mkF m 5 #[.val (.ref o), .val (.ref mg)] [])
  exact Go.retV K (by decide) (by decide) d_jdk_57_method_2_5 (fun _ _ _ _ => ⟨rfl, Kq, Eq, Fq⟩)
theorem ef_gm (m : MethodId) (o : Addr) : entryFrame m #[(.ref o)] 1 = mkF m 0 #[.val (.ref o)] [] := by first | (simp [entryFrame, mkF, argsToLocals, Value.category]; done) | rfl
theorem d_jdk_78_method_6_0 : decode jdk_78_method_6_code 0 = .ok (.aload_n 0, 1) := by decide +kernel
theorem d_jdk_78_method_6_1 : decode jdk_78_method_6_code 1 = .ok (.getfield 31, 3) := by decide +kernel
theorem d_jdk_78_method_6_4 : decode jdk_78_method_6_code 4 = .ok (.areturn, 1) := by decide +kernel
set_option maxRecDepth 65536 in
set_option maxHeartbeats 40000000 in
theorem m_gm (l : Launch) (Z : State) (a0 : Array Value) (hw : ∀ d ∈ tables_1, d.before a0 Z = true) (h0 : Heap) (n0 : Nat) (Z0 : n0 ≤ h0.size) (o mg : Addr) (F_m : Fld Z h0 o "java/lang/Throwable" "detailMessage" "Ljava/lang/String;" (.ref mg)) :
    Met l Z [] (⟨"java/lang/Throwable", "getMessage", "()Ljava/lang/String;"⟩ : MethodName) jdk_78_method_6_code 1 (some (.object "java/lang/String")) ({ frames := 0, cells := 0, slots := 0, locals := 0 } : Room) #[(.ref o)] h0 n0 (fun v h => v = some (.ref mg) ∧ h0 = h) := by
  refine Met.of (plainFor_of_name pn_java_lang_Throwable) ?_
  intro p e s m below meth c F K
  refine Go.cast (ef_gm m o) ?_
  refine Go.aloadN K d_jdk_78_method_6_0 rfl rfl (pc' := 1) rfl ?_
  refine Go.getF K (host := "") (Or.inl (hw _ (List.mem_of_getElem? (i := 206) rfl))) Via.refl F_m d_jdk_78_method_6_1 (pc' := 4) rfl ?_
  exact Go.retA K rfl rfl rfl (by decide) (by decide) d_jdk_78_method_6_4 (fun _ _ _ _ => ⟨rfl, rfl⟩)
theorem own_L8m (cs : List Int32) : L8 cs = (cs.map StrChars.lo8).map Value.int := by simp [L8]
theorem own_t1 : L8 ([84, 104, 101, 32, 110, 97, 109, 101, 32, 34] : List Int32) = [(.int (84 : Int32)), (.int (104 : Int32)), (.int (101 : Int32)), (.int (32 : Int32)), (.int (110 : Int32)), (.int (97 : Int32)), (.int (109 : Int32)), (.int (101 : Int32)), (.int (32 : Int32)), (.int (34 : Int32))] := by
  rw [own_L8m, show (([84, 104, 101, 32, 110, 97, 109, 101, 32, 34] : List Int32)).map StrChars.lo8 = ([84, 104, 101, 32, 110, 97, 109, 101, 32, 34] : List Int32) from by decide +kernel]
  rfl
theorem own_t2 : L8 ([34, 32] : List Int32) = [(.int (34 : Int32)), (.int (32 : Int32))] := by
  rw [own_L8m, show (([34, 32] : List Int32)).map StrChars.lo8 = ([34, 32] : List Int32) from by decide +kernel]
  rfl
theorem ef_nr (m : MethodId) (na : Addr) (ra : Addr) : entryFrame m #[(.ref na), (.ref ra)] 2 = mkF m 0 #[.val (.ref na), .val (.ref ra)] [] := by first | (simp [entryFrame, mkF, argsToLocals, Value.category]; done) | rfl
theorem d_prog_11_method_7_0 : decode prog_11_method_7_code 0 = .ok (.new 50, 3) := by decide +kernel
theorem d_prog_11_method_7_3 : decode prog_11_method_7_code 3 = .ok (.dup, 1) := by decide +kernel
theorem d_prog_11_method_7_4 : decode prog_11_method_7_code 4 = .ok (.new 9, 3) := by decide +kernel
theorem d_prog_11_method_7_7 : decode prog_11_method_7_code 7 = .ok (.dup, 1) := by decide +kernel
theorem d_prog_11_method_7_8 : decode prog_11_method_7_code 8 = .ok (.invokespecial 11, 3) := by decide +kernel
theorem pd__28_29V : parseMethodDescriptor "()V" = some ⟨[], none⟩ := by decide +kernel
theorem d_prog_11_method_7_11 : decode prog_11_method_7_code 11 = .ok (.ldc 52, 2) := by decide +kernel
theorem d_prog_11_method_7_13 : decode prog_11_method_7_code 13 = .ok (.invokevirtual 12, 3) := by decide +kernel
theorem pd__28Ljava_2flang_2fString_3b_29Ljava_2flang_2fStringBuilder_3b : parseMethodDescriptor "(Ljava/lang/String;)Ljava/lang/StringBuilder;" = some ⟨[(.object "java/lang/String")], some (.object "java/lang/StringBuilder")⟩ := by decide +kernel
theorem d_prog_11_method_7_16 : decode prog_11_method_7_code 16 = .ok (.aload_n 0, 1) := by decide +kernel
theorem d_prog_11_method_7_17 : decode prog_11_method_7_code 17 = .ok (.invokevirtual 12, 3) := by decide +kernel
theorem d_prog_11_method_7_20 : decode prog_11_method_7_code 20 = .ok (.ldc 54, 2) := by decide +kernel
theorem d_prog_11_method_7_22 : decode prog_11_method_7_code 22 = .ok (.invokevirtual 12, 3) := by decide +kernel
theorem d_prog_11_method_7_25 : decode prog_11_method_7_code 25 = .ok (.aload_n 1, 1) := by decide +kernel
theorem d_prog_11_method_7_26 : decode prog_11_method_7_code 26 = .ok (.invokevirtual 12, 3) := by decide +kernel
theorem d_prog_11_method_7_29 : decode prog_11_method_7_code 29 = .ok (.invokevirtual 18, 3) := by decide +kernel
theorem pd__28_29Ljava_2flang_2fString_3b : parseMethodDescriptor "()Ljava/lang/String;" = some ⟨[], some (.object "java/lang/String")⟩ := by decide +kernel
theorem d_prog_11_method_7_32 : decode prog_11_method_7_code 32 = .ok (.invokespecial 56, 3) := by decide +kernel
theorem d_prog_11_method_7_35 : decode prog_11_method_7_code 35 = .ok (.areturn, 1) := by decide +kernel
theorem pn_com_example_basehome_basehome_internal_VariableProblems : plainName "com/example/basehome/basehome/internal/VariableProblems" = true := by first | (simp [plainName, overriddenIn]; done) | decide +kernel
set_option maxRecDepth 65536 in
set_option maxHeartbeats 40000000 in
theorem m_nr (l : Launch) (Z : State) (a0 : Array Value) (hw : ∀ d ∈ tables_1, d.before a0 Z = true) (h0 : Heap) (n0 : Nat) (Z0 : n0 ≤ h0.size) (wS : ∀ a ∈ Bundle.stringAtoms, a.before a0 Z = true) (hEL : EW Z a0 [("com/example/basehome/basehome/internal/VariableProblems", 52), ("com/example/basehome/basehome/internal/VariableProblems", 54), ("com/example/basehome/basehome/internal/VariableProblemsNameRefusalPinLaw", 7)]) (na ra : Addr) (ns rs : List Int32) (hns : ns.length ≤ 2) (hrs : rs.length ≤ 2) (Sn : Str Z h0 na ns) (Sr : Str Z h0 ra rs) (hl : l.stackTraces = true) (us ss : Addr) (SU : Sta Z Z.heap "java/lang/Throwable" "UNASSIGNED_STACK" "[Ljava/lang/StackTraceElement;" (.ref us)) (SS : Sta Z Z.heap "java/lang/Throwable" "SUPPRESSED_SENTINEL" "Ljava/util/List;" (.ref ss)) (od : Old Z n0 h0) (zc : Int32) (S1 : Sta Z Z.heap "java/lang/String" "COMPACT_STRINGS" "Z" (.int zc)) (P1 : ¬ (zc = (0 : Int32))) :
    MetWK l Z [] [("com/example/basehome/basehome/internal/VariableProblems", 52), ("com/example/basehome/basehome/internal/VariableProblems", 54), ("com/example/basehome/basehome/internal/VariableProblemsNameRefusalPinLaw", 7)] (⟨"com/example/basehome/basehome/internal/VariableProblems", "nameRefusal", "(Ljava/lang/String;Ljava/lang/String;)Ljava/lang/IllegalArgumentException;"⟩ : MethodName) prog_11_method_7_code 2 (some (.object "java/lang/IllegalArgumentException")) ({ frames := 7, cells := 10, slots := 2860, locals := 116 } : Room) #[(.ref na), (.ref ra)] h0 n0 (fun v h => ∃ ea xs : Addr, v = some (.ref ea) ∧ h0.size ≤ ea ∧ Keep h0 h [] ∧ Exa Z h ea "java/lang/IllegalArgumentException" ∧ Fld Z h ea "java/lang/Throwable" "detailMessage" "Ljava/lang/String;" (.ref xs) ∧ Str Z h xs (((([] ++ ([84, 104, 101, 32, 110, 97, 109, 101, 32, 34] : List Int32)) ++ ns) ++ ([34, 32] : List Int32)) ++ rs)) := by
  refine MetWK.of (plainFor_of_name pn_com_example_basehome_basehome_internal_VariableProblems) ?_
  intro p e s m below meth c vm0 B hsh hTK hBl hS HC K
  have CR := CHr.refl HC
  refine Go.cast (ef_nr m na ra) ?_
  have kc0 := Keep.refl h0 []
  obtain ⟨E_na, C_na, tn, kn, F_na, V_tn⟩ := Sn
  obtain ⟨E_ra, C_ra, tr, kr, F_ra, V_tr⟩ := Sr
  refine Go.newU K (hw _ (List.mem_of_getElem? (i := 34) rfl)) (hw _ (List.mem_of_getElem? (i := 35) rfl)) (hw _ (List.mem_of_getElem? (i := 36) rfl)) (by decide) (by decide) d_prog_11_method_7_0 (pc' := 3) rfl ?_
  intro h396 ea eq399 E397 E_ea D398 U_ea
  have sz_ea := Nat.le_trans kc0.1 (Nat.le_of_eq eq399.symm)
  have ne400 : tn ≠ ea := own_ne V_tn.lt (Nat.le_of_eq eq399.symm)
  have ne401 : tr ≠ ea := own_ne V_tr.lt (Nat.le_of_eq eq399.symm)
  have ne402 : na ≠ ea := own_ne E_na.lt (Nat.le_of_eq eq399.symm)
  have ne403 : ra ≠ ea := own_ne E_ra.lt (Nat.le_of_eq eq399.symm)
  have g_ea : n0 ≤ ea := Nat.le_trans Z0 (Nat.le_of_eq eq399.symm)
  have f412 := E_na.ext E397
  have f413 := C_na.ext E397
  have f414 := F_na.ext E397
  have f415 := V_tn.ext E397
  have f416 := E_ra.ext E397
  have f417 := C_ra.ext E397
  have f418 := F_ra.ext E397
  have f419 := V_tr.ext E397
  have od420 := od.ext E397
  have z421 := Nat.le_trans Z0 E397.1
  have cr422 := CR.trans (CHr.ext E397 CR.1)
  have kc423 := kc0.ext E397
  have f424 : Fld Z h396 ea "java/lang/Throwable" "cause" "Ljava/lang/Throwable;" .null := D398 (Or.inl (hw _ (List.mem_of_getElem? (i := 172) rfl))) (ty := (.object "java/lang/Throwable")) (by decide)
  have f425 : Fld Z h396 ea "java/lang/Throwable" "stackTrace" "[Ljava/lang/StackTraceElement;" .null := D398 (Or.inl (hw _ (List.mem_of_getElem? (i := 175) rfl))) (ty := (.array (.object "java/lang/StackTraceElement"))) (by decide)
  have f426 : Fld Z h396 ea "java/lang/Throwable" "suppressedExceptions" "Ljava/util/List;" .null := D398 (Or.inl (hw _ (List.mem_of_getElem? (i := 178) rfl))) (ty := (.object "java/util/List")) (by decide)
  have f427 : Fld Z h396 ea "java/lang/Throwable" "detailMessage" "Ljava/lang/String;" .null := D398 (Or.inl (hw _ (List.mem_of_getElem? (i := 202) rfl))) (ty := (.object "java/lang/String")) (by decide)
  have f428 : Fld Z h396 ea "java/lang/Throwable" "backtrace" "Ljava/lang/Object;" .null := D398 (Or.inl (hw _ (List.mem_of_getElem? (i := 203) rfl))) (ty := (.object "java/lang/Object")) (by decide)
  have f429 : Fld Z h396 ea "java/lang/Throwable" "depth" "I" (.int (0 : Int32)) := D398 (Or.inl (hw _ (List.mem_of_getElem? (i := 204) rfl))) (ty := .int) (by decide)
  refine Go.dup K d_prog_11_method_7_3 rfl (pc' := 4) rfl ?_
  refine Go.newO K (hw _ (List.mem_of_getElem? (i := 37) rfl)) (hw _ (List.mem_of_getElem? (i := 38) rfl)) (hw _ (List.mem_of_getElem? (i := 39) rfl)) (by decide) (by decide) d_prog_11_method_7_4 (pc' := 7) rfl ?_
  intro h430 sb eq433 E431 E_sb D432
  have sz_sb := Nat.le_trans kc423.1 (Nat.le_of_eq eq433.symm)
  have ne434 : na ≠ sb := own_ne f412.lt (Nat.le_of_eq eq433.symm)
  have ne435 : tr ≠ sb := own_ne f419.lt (Nat.le_of_eq eq433.symm)
  have ne436 : tn ≠ sb := own_ne f415.lt (Nat.le_of_eq eq433.symm)
  have ne437 : ea ≠ sb := own_ne E_ea.lt (Nat.le_of_eq eq433.symm)
  have ne438 : ra ≠ sb := own_ne f416.lt (Nat.le_of_eq eq433.symm)
  have g_sb : n0 ≤ sb := Nat.le_trans z421 (Nat.le_of_eq eq433.symm)
  have f455 := f412.ext E431
  have f456 := f413.ext E431
  have f457 := f414.ext E431
  have f458 := f415.ext E431
  have f459 := f416.ext E431
  have f460 := f417.ext E431
  have f461 := f418.ext E431
  have f462 := f419.ext E431
  have f463 := E_ea.ext E431
  have f464 := U_ea.ext E431
  have f465 := f424.ext E431
  have f466 := f425.ext E431
  have f467 := f426.ext E431
  have f468 := f427.ext E431
  have f469 := f428.ext E431
  have f470 := f429.ext E431
  have od471 := od420.ext E431
  have z472 := Nat.le_trans z421 E431.1
  have cr473 := cr422.trans (CHr.ext E431 cr422.1)
  have kc474 := kc423.ext E431
  have f475 : Fld Z h430 sb "java/lang/AbstractStringBuilder" "value" "[B" .null := D432 (Or.inl (hw _ (List.mem_of_getElem? (i := 52) rfl))) (ty := (.array .byte)) (by decide)
  have f476 : Fld Z h430 sb "java/lang/AbstractStringBuilder" "coder" "B" (.int (0 : Int32)) := D432 (Or.inl (hw _ (List.mem_of_getElem? (i := 54) rfl))) (ty := .byte) (by decide)
  have f477 : Fld Z h430 sb "java/lang/AbstractStringBuilder" "count" "I" (.int (0 : Int32)) := D432 (Or.inl (hw _ (List.mem_of_getElem? (i := 79) rfl))) (ty := .int) (by decide)
  refine Go.dup K d_prog_11_method_7_7 rfl (pc' := 8) rfl ?_
  refine Go.callC K (y := (⟨"java/lang/StringBuilder", "<init>", "()V"⟩ : MethodName)) (W := 3) (kc := 1) (nc := 16) (a := sb) rfl (mvT K.cz (hw _ (List.mem_of_getElem? (i := 40) rfl))) (mvT K.cz (hw _ (List.mem_of_getElem? (i := 41) rfl))) (mvT K.cz (hw _ (List.mem_of_getElem? (i := 42) rfl))) (by decide) ((m_si l Z a0 hw h430 n0 z472 sb E_sb f475 f476 f477 g_sb od471 zc S1 P1).pays (W := 3) K.cz (hw _ (List.mem_of_getElem? (i := 42) rfl)) (hw _ (List.mem_of_getElem? (i := 39) rfl)) (by decide) (by decide)) rfl (argsL := []) (rest := [(.ref sb), (.ref ea), (.ref ea)]) (lenOf pd__28_29V rfl) rfl (Nat.le_of_ble_eq_true rfl) (by decide) (by decide) frOf grOf d_prog_11_method_7_8 (pc' := 11) rfl ?_
  rintro v480 h478 Lc479 ⟨⟨⟨rfl, Kq, tb, kb, hle, Bq⟩, -⟩, -⟩
  have sz_tb := Nat.le_trans kc474.1 hle
  have ne481 : na ≠ tb := own_ne f455.lt hle
  have ne482 : tr ≠ tb := own_ne f462.lt hle
  have ne483 : sb ≠ tb := own_ne E_sb.lt hle
  have ne484 : tn ≠ tb := own_ne f458.lt hle
  have ne485 : ea ≠ tb := own_ne f463.lt hle
  have ne486 : ra ≠ tb := own_ne f459.lt hle
  have g_tb : n0 ≤ tb := Nat.le_trans z472 hle
  have sf_tb := Safe.keep Kq (sfS (Safe.exa K.cz.alike E_sb (by decide) (by decide)) sf0) cr473.1 (Safe.new hle)
  have cr487 := cr473.trans (CHr.keep Kq (sfS (Safe.exa K.cz.alike E_sb (by decide) (by decide)) sf0) cr473.1)
  have f488 := f455.keep Kq
  have f489 := f456.keep Kq (ninS ne434 nin0)
  have f490 := f457.keep Kq (ninS ne434 nin0)
  have f491 := f458.keep Kq (ninS ne436 nin0)
  have f492 := f459.keep Kq
  have f493 := f460.keep Kq (ninS ne438 nin0)
  have f494 := f461.keep Kq (ninS ne438 nin0)
  have f495 := f462.keep Kq (ninS ne435 nin0)
  have f496 := f463.keep Kq
  have f497 := f464.keep Kq (ninS ne437 nin0)
  have f498 := f465.keep Kq (ninS ne437 nin0)
  have f499 := f466.keep Kq (ninS ne437 nin0)
  have f500 := f467.keep Kq (ninS ne437 nin0)
  have f501 := f468.keep Kq (ninS ne437 nin0)
  have f502 := f469.keep Kq (ninS ne437 nin0)
  have f503 := f470.keep Kq (ninS ne437 nin0)
  have f504 := E_sb.keep Kq
  have od508 := od471.keep Kq (allS g_sb all0)
  have z509 := Nat.le_trans z472 Kq.1
  have kc510 := kc474.trans Kq (allS (Or.inr sz_sb) all0)
  obtain ⟨E_o0, F_o0, C_o0, N_o0, V_b0, E_b0⟩ := id Bq
  show Go p l e _ _ m _ below meth c _ _ _ _ h478 _ _ (mkF m 11 #[.val (.ref na), .val (.ref ra)] [(.ref sb), (.ref ea), (.ref ea)])
  refine Go.ldcV K hS (i := 40) (vs := [(.int (84 : Int32)), (.int (104 : Int32)), (.int (101 : Int32)), (.int (32 : Int32)), (.int (110 : Int32)), (.int (97 : Int32)), (.int (109 : Int32)), (.int (101 : Int32)), (.int (32 : Int32)), (.int (34 : Int32))]) (z := 10) (hw _ (List.mem_of_getElem? (i := 55) rfl)) wS hEL (by decide) cr487.1 (by decide +kernel) (by decide) rfl (by decide) (by decide) (by decide) (by decide) d_prog_11_method_7_11 (pc' := 13) rfl ?_
  intro d1 t_d1 kb_d1 vm515 h511 B516 E512 hr513 hS E_d1 C_d1 F_d1 A_d1 sf514 K
  have f534 := hr513.safe V_b0.lt sf_tb
  have f540 := f488.ext E512
  have f541 := f489.ext E512
  have f542 := f490.ext E512
  have f543 := f491.ext E512
  have f544 := f492.ext E512
  have f545 := f493.ext E512
  have f546 := f494.ext E512
  have f547 := f495.ext E512
  have f548 := f496.ext E512
  have f549 := f497.ext E512
  have f550 := f498.ext E512
  have f551 := f499.ext E512
  have f552 := f500.ext E512
  have f553 := f501.ext E512
  have f554 := f502.ext E512
  have f555 := f503.ext E512
  have f556 := E_o0.ext E512
  have f557 := F_o0.ext E512
  have f558 := C_o0.ext E512
  have f559 := N_o0.ext E512
  have f560 := V_b0.ext E512
  have f561 := E_b0.ext E512
  have od562 := od508.ext E512
  have z563 := Nat.le_trans z509 E512.1
  have cr564 := cr487.trans (hr513)
  have kc565 := kc510.ext E512
  have ne566 := (sf514 _ (Safe.exa K.cz.alike f548 (by decide) (by decide))).1
  have ne567 := (sf514 _ (Safe.exa K.cz.alike f548 (by decide) (by decide))).2
  have ne568 := (sf514 _ (Safe.exa K.cz.alike f556 (by decide) (by decide))).1
  have ne569 := (sf514 _ (Safe.exa K.cz.alike f556 (by decide) (by decide))).2
  have ne570 := (sf514 _ f534).1
  have ne571 := (sf514 _ f534).2
  have W_d1 : Arv Z h511 t_d1 kb_d1 .byte (Int32.ofNat ([84, 104, 101, 32, 110, 97, 109, 101, 32, 34] : List Int32).length) (L8 ([84, 104, 101, 32, 110, 97, 109, 101, 32, 34] : List Int32)) (.int 0) := by
    rw [own_t1]
    exact A_d1
  refine Go.callV K (y := (⟨"java/lang/StringBuilder", "append", "(Ljava/lang/String;)Ljava/lang/StringBuilder;"⟩ : MethodName)) (z := (⟨"java/lang/StringBuilder", "append", "(Ljava/lang/String;)Ljava/lang/StringBuilder;"⟩ : MethodName)) (W := 2) (kc := 0) (nc := 0) (a := sb) (mvT K.cz (hw _ (List.mem_of_getElem? (i := 58) rfl))) (mvT K.cz (hw _ (List.mem_of_getElem? (i := 59) rfl))) (notFace_of_selects (args := #[]) (mvT K.cz (hw _ (List.mem_of_getElem? (i := 61) rfl)))) (mvT K.cz (hw _ (List.mem_of_getElem? (i := 61) rfl))) (mvT K.cz (hw _ (List.mem_of_getElem? (i := 60) rfl))) (by decide) f556 ((m_sa l Z a0 hw h511 n0 z563 sb tb kb ([]) ⟨f556, f557, f558, f559, f560, f561⟩ d1 t_d1 kb_d1 ([84, 104, 101, 32, 110, 97, 109, 101, 32, 34] : List Int32) E_d1 C_d1 F_d1 W_d1 g_sb g_tb ne483 (by simp only [List.length_append, List.length_cons, List.length_nil]; omega) od562 zc S1 P1).pays (W := 2) K.cz (hw _ (List.mem_of_getElem? (i := 62) rfl)) (hw _ (List.mem_of_getElem? (i := 39) rfl)) (by decide) (by decide)) rfl (argsL := [(.ref d1)]) (rest := [(.ref ea), (.ref ea)]) (lenOf pd__28Ljava_2flang_2fString_3b_29Ljava_2flang_2fStringBuilder_3b rfl) rfl (Nat.le_of_ble_eq_true rfl) (by decide) (by decide) frOf grOf d_prog_11_method_7_13 (pc' := 16) rfl ?_
  rintro v574 h572 Lc573 ⟨⟨⟨rfl, Kp1, Bp1⟩, -⟩, -⟩
  have f575 := Safe.keep Kp1 (sfS (Safe.exa K.cz.alike f556 (by decide) (by decide)) (sfS f534 sf0)) cr564.1 f534
  have cr576 := cr564.trans (CHr.keep Kp1 (sfS (Safe.exa K.cz.alike f556 (by decide) (by decide)) (sfS f534 sf0)) cr564.1)
  have f577 := f540.keep Kp1
  have f578 := f541.keep Kp1 (ninS ne434 (ninS ne481 nin0))
  have f579 := f542.keep Kp1 (ninS ne434 (ninS ne481 nin0))
  have f580 := f543.keep Kp1 (ninS ne436 (ninS ne484 nin0))
  have f581 := f544.keep Kp1
  have f582 := f545.keep Kp1 (ninS ne438 (ninS ne486 nin0))
  have f583 := f546.keep Kp1 (ninS ne438 (ninS ne486 nin0))
  have f584 := f547.keep Kp1 (ninS ne435 (ninS ne482 nin0))
  have f585 := f548.keep Kp1
  have f586 := f549.keep Kp1 (ninS ne437 (ninS ne485 nin0))
  have f587 := f550.keep Kp1 (ninS ne437 (ninS ne485 nin0))
  have f588 := f551.keep Kp1 (ninS ne437 (ninS ne485 nin0))
  have f589 := f552.keep Kp1 (ninS ne437 (ninS ne485 nin0))
  have f590 := f553.keep Kp1 (ninS ne437 (ninS ne485 nin0))
  have f591 := f554.keep Kp1 (ninS ne437 (ninS ne485 nin0))
  have f592 := f555.keep Kp1 (ninS ne437 (ninS ne485 nin0))
  have f593 := f556.keep Kp1
  have f598 := f561.keep Kp1
  have f599 := E_d1.keep Kp1
  have f600 := C_d1.keep Kp1 (ninS (Ne.symm ne568) (ninS (Ne.symm ne570) nin0))
  have f601 := F_d1.keep Kp1 (ninS (Ne.symm ne568) (ninS (Ne.symm ne570) nin0))
  have f602 := A_d1.keep Kp1 (ninS (Ne.symm ne569) (ninS (Ne.symm ne571) nin0))
  have od603 := od562.keep Kp1 (allS g_sb (allS g_tb all0))
  have z604 := Nat.le_trans z563 Kp1.1
  have kc605 := kc565.trans Kp1 (allS (Or.inr sz_sb) (allS (Or.inr sz_tb) all0))
  obtain ⟨E_o1, F_o1, C_o1, N_o1, V_b1, E_b1⟩ := id Bp1
  show Go p l e _ _ m _ below meth c _ _ _ _ h572 _ _ (mkF m 16 #[.val (.ref na), .val (.ref ra)] [(.ref sb), (.ref ea), (.ref ea)])
  refine Go.aloadN K d_prog_11_method_7_16 rfl rfl (pc' := 17) rfl ?_
  refine Go.callV K (y := (⟨"java/lang/StringBuilder", "append", "(Ljava/lang/String;)Ljava/lang/StringBuilder;"⟩ : MethodName)) (z := (⟨"java/lang/StringBuilder", "append", "(Ljava/lang/String;)Ljava/lang/StringBuilder;"⟩ : MethodName)) (W := 2) (kc := 0) (nc := 0) (a := sb) (mvT K.cz (hw _ (List.mem_of_getElem? (i := 58) rfl))) (mvT K.cz (hw _ (List.mem_of_getElem? (i := 59) rfl))) (notFace_of_selects (args := #[]) (mvT K.cz (hw _ (List.mem_of_getElem? (i := 61) rfl)))) (mvT K.cz (hw _ (List.mem_of_getElem? (i := 61) rfl))) (mvT K.cz (hw _ (List.mem_of_getElem? (i := 60) rfl))) (by decide) E_o1 ((m_sa l Z a0 hw h572 n0 z604 sb tb kb (([] ++ ([84, 104, 101, 32, 110, 97, 109, 101, 32, 34] : List Int32))) ⟨E_o1, F_o1, C_o1, N_o1, V_b1, E_b1⟩ na tn kn ns f577 f578 f579 f580 g_sb g_tb ne483 (by simp only [List.length_append, List.length_cons, List.length_nil]; omega) od603 zc S1 P1).pays (W := 2) K.cz (hw _ (List.mem_of_getElem? (i := 62) rfl)) (hw _ (List.mem_of_getElem? (i := 39) rfl)) (by decide) (by decide)) rfl (argsL := [(.ref na)]) (rest := [(.ref ea), (.ref ea)]) (lenOf pd__28Ljava_2flang_2fString_3b_29Ljava_2flang_2fStringBuilder_3b rfl) rfl (Nat.le_of_ble_eq_true rfl) (by decide) (by decide) frOf grOf d_prog_11_method_7_17 (pc' := 20) rfl ?_
  rintro v608 h606 Lc607 ⟨⟨⟨rfl, Kp2, Bp2⟩, -⟩, -⟩
  have f609 := Safe.keep Kp2 (sfS (Safe.exa K.cz.alike E_o1 (by decide) (by decide)) (sfS f575 sf0)) cr576.1 f575
  have cr610 := cr576.trans (CHr.keep Kp2 (sfS (Safe.exa K.cz.alike E_o1 (by decide) (by decide)) (sfS f575 sf0)) cr576.1)
  have f611 := f577.keep Kp2
  have f612 := f578.keep Kp2 (ninS ne434 (ninS ne481 nin0))
  have f613 := f579.keep Kp2 (ninS ne434 (ninS ne481 nin0))
  have f614 := f580.keep Kp2 (ninS ne436 (ninS ne484 nin0))
  have f615 := f581.keep Kp2
  have f616 := f582.keep Kp2 (ninS ne438 (ninS ne486 nin0))
  have f617 := f583.keep Kp2 (ninS ne438 (ninS ne486 nin0))
  have f618 := f584.keep Kp2 (ninS ne435 (ninS ne482 nin0))
  have f619 := f585.keep Kp2
  have f620 := f586.keep Kp2 (ninS ne437 (ninS ne485 nin0))
  have f621 := f587.keep Kp2 (ninS ne437 (ninS ne485 nin0))
  have f622 := f588.keep Kp2 (ninS ne437 (ninS ne485 nin0))
  have f623 := f589.keep Kp2 (ninS ne437 (ninS ne485 nin0))
  have f624 := f590.keep Kp2 (ninS ne437 (ninS ne485 nin0))
  have f625 := f591.keep Kp2 (ninS ne437 (ninS ne485 nin0))
  have f626 := f592.keep Kp2 (ninS ne437 (ninS ne485 nin0))
  have f627 := E_o1.keep Kp2
  have f628 := E_b1.keep Kp2
  have f629 := f599.keep Kp2
  have f630 := f600.keep Kp2 (ninS (Ne.symm ne568) (ninS (Ne.symm ne570) nin0))
  have f631 := f601.keep Kp2 (ninS (Ne.symm ne568) (ninS (Ne.symm ne570) nin0))
  have f632 := f602.keep Kp2 (ninS (Ne.symm ne569) (ninS (Ne.symm ne571) nin0))
  have od637 := od603.keep Kp2 (allS g_sb (allS g_tb all0))
  have z638 := Nat.le_trans z604 Kp2.1
  have kc639 := kc605.trans Kp2 (allS (Or.inr sz_sb) (allS (Or.inr sz_tb) all0))
  obtain ⟨E_o2, F_o2, C_o2, N_o2, V_b2, E_b2⟩ := id Bp2
  show Go p l e _ _ m _ below meth c _ _ _ _ h606 _ _ (mkF m 20 #[.val (.ref na), .val (.ref ra)] [(.ref sb), (.ref ea), (.ref ea)])
  refine Go.ldcV K hS (i := 8) (vs := [(.int (34 : Int32)), (.int (32 : Int32))]) (z := 2) (hw _ (List.mem_of_getElem? (i := 105) rfl)) wS hEL (by decide) cr610.1 (by decide +kernel) (by decide) rfl (by decide) (by decide) (by decide) (by decide) d_prog_11_method_7_20 (pc' := 22) rfl ?_
  intro d2 t_d2 kb_d2 vm644 h640 B645 E641 hr642 hS E_d2 C_d2 F_d2 A_d2 sf643 K
  have f663 := hr642.safe E_b2.lt f609
  have f673 := f611.ext E641
  have f674 := f612.ext E641
  have f675 := f613.ext E641
  have f676 := f614.ext E641
  have f677 := f615.ext E641
  have f678 := f616.ext E641
  have f679 := f617.ext E641
  have f680 := f618.ext E641
  have f681 := f619.ext E641
  have f682 := f620.ext E641
  have f683 := f621.ext E641
  have f684 := f622.ext E641
  have f685 := f623.ext E641
  have f686 := f624.ext E641
  have f687 := f625.ext E641
  have f688 := f626.ext E641
  have f689 := E_o2.ext E641
  have f690 := E_b2.ext E641
  have f691 := f629.ext E641
  have f692 := f630.ext E641
  have f693 := f631.ext E641
  have f694 := f632.ext E641
  have f695 := F_o2.ext E641
  have f696 := C_o2.ext E641
  have f697 := N_o2.ext E641
  have f698 := V_b2.ext E641
  have od699 := od637.ext E641
  have z700 := Nat.le_trans z638 E641.1
  have cr701 := cr610.trans (hr642)
  have kc702 := kc639.ext E641
  have ne703 := (sf643 _ (Safe.exa K.cz.alike f681 (by decide) (by decide))).1
  have ne704 := (sf643 _ (Safe.exa K.cz.alike f681 (by decide) (by decide))).2
  have ne705 := (sf643 _ (Safe.exa K.cz.alike f689 (by decide) (by decide))).1
  have ne706 := (sf643 _ (Safe.exa K.cz.alike f689 (by decide) (by decide))).2
  have ne707 := (sf643 _ f663).1
  have ne708 := (sf643 _ f663).2
  have W_d2 : Arv Z h640 t_d2 kb_d2 .byte (Int32.ofNat ([34, 32] : List Int32).length) (L8 ([34, 32] : List Int32)) (.int 0) := by
    rw [own_t2]
    exact A_d2
  refine Go.callV K (y := (⟨"java/lang/StringBuilder", "append", "(Ljava/lang/String;)Ljava/lang/StringBuilder;"⟩ : MethodName)) (z := (⟨"java/lang/StringBuilder", "append", "(Ljava/lang/String;)Ljava/lang/StringBuilder;"⟩ : MethodName)) (W := 2) (kc := 0) (nc := 0) (a := sb) (mvT K.cz (hw _ (List.mem_of_getElem? (i := 58) rfl))) (mvT K.cz (hw _ (List.mem_of_getElem? (i := 59) rfl))) (notFace_of_selects (args := #[]) (mvT K.cz (hw _ (List.mem_of_getElem? (i := 61) rfl)))) (mvT K.cz (hw _ (List.mem_of_getElem? (i := 61) rfl))) (mvT K.cz (hw _ (List.mem_of_getElem? (i := 60) rfl))) (by decide) f689 ((m_sa l Z a0 hw h640 n0 z700 sb tb kb ((([] ++ ([84, 104, 101, 32, 110, 97, 109, 101, 32, 34] : List Int32)) ++ ns)) ⟨f689, f695, f696, f697, f698, f690⟩ d2 t_d2 kb_d2 ([34, 32] : List Int32) E_d2 C_d2 F_d2 W_d2 g_sb g_tb ne483 (by simp only [List.length_append, List.length_cons, List.length_nil]; omega) od699 zc S1 P1).pays (W := 2) K.cz (hw _ (List.mem_of_getElem? (i := 62) rfl)) (hw _ (List.mem_of_getElem? (i := 39) rfl)) (by decide) (by decide)) rfl (argsL := [(.ref d2)]) (rest := [(.ref ea), (.ref ea)]) (lenOf pd__28Ljava_2flang_2fString_3b_29Ljava_2flang_2fStringBuilder_3b rfl) rfl (Nat.le_of_ble_eq_true rfl) (by decide) (by decide) frOf grOf d_prog_11_method_7_22 (pc' := 25) rfl ?_
  rintro v711 h709 Lc710 ⟨⟨⟨rfl, Kp3, Bp3⟩, -⟩, -⟩
  have f712 := Safe.keep Kp3 (sfS (Safe.exa K.cz.alike f689 (by decide) (by decide)) (sfS f663 sf0)) cr701.1 f663
  have cr713 := cr701.trans (CHr.keep Kp3 (sfS (Safe.exa K.cz.alike f689 (by decide) (by decide)) (sfS f663 sf0)) cr701.1)
  have f714 := f673.keep Kp3
  have f715 := f674.keep Kp3 (ninS ne434 (ninS ne481 nin0))
  have f716 := f675.keep Kp3 (ninS ne434 (ninS ne481 nin0))
  have f717 := f676.keep Kp3 (ninS ne436 (ninS ne484 nin0))
  have f718 := f677.keep Kp3
  have f719 := f678.keep Kp3 (ninS ne438 (ninS ne486 nin0))
  have f720 := f679.keep Kp3 (ninS ne438 (ninS ne486 nin0))
  have f721 := f680.keep Kp3 (ninS ne435 (ninS ne482 nin0))
  have f722 := f681.keep Kp3
  have f723 := f682.keep Kp3 (ninS ne437 (ninS ne485 nin0))
  have f724 := f683.keep Kp3 (ninS ne437 (ninS ne485 nin0))
  have f725 := f684.keep Kp3 (ninS ne437 (ninS ne485 nin0))
  have f726 := f685.keep Kp3 (ninS ne437 (ninS ne485 nin0))
  have f727 := f686.keep Kp3 (ninS ne437 (ninS ne485 nin0))
  have f728 := f687.keep Kp3 (ninS ne437 (ninS ne485 nin0))
  have f729 := f688.keep Kp3 (ninS ne437 (ninS ne485 nin0))
  have f730 := f689.keep Kp3
  have f731 := f690.keep Kp3
  have f732 := f691.keep Kp3
  have f733 := f692.keep Kp3 (ninS (Ne.symm ne568) (ninS (Ne.symm ne570) nin0))
  have f734 := f693.keep Kp3 (ninS (Ne.symm ne568) (ninS (Ne.symm ne570) nin0))
  have f735 := f694.keep Kp3 (ninS (Ne.symm ne569) (ninS (Ne.symm ne571) nin0))
  have f740 := E_d2.keep Kp3
  have f741 := C_d2.keep Kp3 (ninS (Ne.symm ne705) (ninS (Ne.symm ne707) nin0))
  have f742 := F_d2.keep Kp3 (ninS (Ne.symm ne705) (ninS (Ne.symm ne707) nin0))
  have f743 := A_d2.keep Kp3 (ninS (Ne.symm ne706) (ninS (Ne.symm ne708) nin0))
  have od744 := od699.keep Kp3 (allS g_sb (allS g_tb all0))
  have z745 := Nat.le_trans z700 Kp3.1
  have kc746 := kc702.trans Kp3 (allS (Or.inr sz_sb) (allS (Or.inr sz_tb) all0))
  obtain ⟨E_o3, F_o3, C_o3, N_o3, V_b3, E_b3⟩ := id Bp3
  show Go p l e _ _ m _ below meth c _ _ _ _ h709 _ _ (mkF m 25 #[.val (.ref na), .val (.ref ra)] [(.ref sb), (.ref ea), (.ref ea)])
  refine Go.aloadN K d_prog_11_method_7_25 rfl rfl (pc' := 26) rfl ?_
  refine Go.callV K (y := (⟨"java/lang/StringBuilder", "append", "(Ljava/lang/String;)Ljava/lang/StringBuilder;"⟩ : MethodName)) (z := (⟨"java/lang/StringBuilder", "append", "(Ljava/lang/String;)Ljava/lang/StringBuilder;"⟩ : MethodName)) (W := 2) (kc := 0) (nc := 0) (a := sb) (mvT K.cz (hw _ (List.mem_of_getElem? (i := 58) rfl))) (mvT K.cz (hw _ (List.mem_of_getElem? (i := 59) rfl))) (notFace_of_selects (args := #[]) (mvT K.cz (hw _ (List.mem_of_getElem? (i := 61) rfl)))) (mvT K.cz (hw _ (List.mem_of_getElem? (i := 61) rfl))) (mvT K.cz (hw _ (List.mem_of_getElem? (i := 60) rfl))) (by decide) E_o3 ((m_sa l Z a0 hw h709 n0 z745 sb tb kb (((([] ++ ([84, 104, 101, 32, 110, 97, 109, 101, 32, 34] : List Int32)) ++ ns) ++ ([34, 32] : List Int32))) ⟨E_o3, F_o3, C_o3, N_o3, V_b3, E_b3⟩ ra tr kr rs f718 f719 f720 f721 g_sb g_tb ne483 (by simp only [List.length_append, List.length_cons, List.length_nil]; omega) od744 zc S1 P1).pays (W := 2) K.cz (hw _ (List.mem_of_getElem? (i := 62) rfl)) (hw _ (List.mem_of_getElem? (i := 39) rfl)) (by decide) (by decide)) rfl (argsL := [(.ref ra)]) (rest := [(.ref ea), (.ref ea)]) (lenOf pd__28Ljava_2flang_2fString_3b_29Ljava_2flang_2fStringBuilder_3b rfl) rfl (Nat.le_of_ble_eq_true rfl) (by decide) (by decide) frOf grOf d_prog_11_method_7_26 (pc' := 29) rfl ?_
  rintro v749 h747 Lc748 ⟨⟨⟨rfl, Kp4, Bp4⟩, -⟩, -⟩
  have f750 := Safe.keep Kp4 (sfS (Safe.exa K.cz.alike E_o3 (by decide) (by decide)) (sfS f712 sf0)) cr713.1 f712
  have cr751 := cr713.trans (CHr.keep Kp4 (sfS (Safe.exa K.cz.alike E_o3 (by decide) (by decide)) (sfS f712 sf0)) cr713.1)
  have f752 := f714.keep Kp4
  have f753 := f715.keep Kp4 (ninS ne434 (ninS ne481 nin0))
  have f754 := f716.keep Kp4 (ninS ne434 (ninS ne481 nin0))
  have f755 := f717.keep Kp4 (ninS ne436 (ninS ne484 nin0))
  have f756 := f718.keep Kp4
  have f757 := f719.keep Kp4 (ninS ne438 (ninS ne486 nin0))
  have f758 := f720.keep Kp4 (ninS ne438 (ninS ne486 nin0))
  have f759 := f721.keep Kp4 (ninS ne435 (ninS ne482 nin0))
  have f760 := f722.keep Kp4
  have f761 := f723.keep Kp4 (ninS ne437 (ninS ne485 nin0))
  have f762 := f724.keep Kp4 (ninS ne437 (ninS ne485 nin0))
  have f763 := f725.keep Kp4 (ninS ne437 (ninS ne485 nin0))
  have f764 := f726.keep Kp4 (ninS ne437 (ninS ne485 nin0))
  have f765 := f727.keep Kp4 (ninS ne437 (ninS ne485 nin0))
  have f766 := f728.keep Kp4 (ninS ne437 (ninS ne485 nin0))
  have f767 := f729.keep Kp4 (ninS ne437 (ninS ne485 nin0))
  have f768 := E_o3.keep Kp4
  have f769 := E_b3.keep Kp4
  have f770 := f732.keep Kp4
  have f771 := f733.keep Kp4 (ninS (Ne.symm ne568) (ninS (Ne.symm ne570) nin0))
  have f772 := f734.keep Kp4 (ninS (Ne.symm ne568) (ninS (Ne.symm ne570) nin0))
  have f773 := f735.keep Kp4 (ninS (Ne.symm ne569) (ninS (Ne.symm ne571) nin0))
  have f774 := f740.keep Kp4
  have f775 := f741.keep Kp4 (ninS (Ne.symm ne705) (ninS (Ne.symm ne707) nin0))
  have f776 := f742.keep Kp4 (ninS (Ne.symm ne705) (ninS (Ne.symm ne707) nin0))
  have f777 := f743.keep Kp4 (ninS (Ne.symm ne706) (ninS (Ne.symm ne708) nin0))
  have od782 := od744.keep Kp4 (allS g_sb (allS g_tb all0))
  have z783 := Nat.le_trans z745 Kp4.1
  have kc784 := kc746.trans Kp4 (allS (Or.inr sz_sb) (allS (Or.inr sz_tb) all0))
  obtain ⟨E_o4, F_o4, C_o4, N_o4, V_b4, E_b4⟩ := id Bp4
  show Go p l e _ _ m _ below meth c _ _ _ _ h747 _ _ (mkF m 29 #[.val (.ref na), .val (.ref ra)] [(.ref sb), (.ref ea), (.ref ea)])
  refine Go.callV K (y := (⟨"java/lang/StringBuilder", "toString", "()Ljava/lang/String;"⟩ : MethodName)) (z := (⟨"java/lang/StringBuilder", "toString", "()Ljava/lang/String;"⟩ : MethodName)) (W := 2) (kc := 2) (nc := 20) (a := sb) (mvT K.cz (hw _ (List.mem_of_getElem? (i := 106) rfl))) (mvT K.cz (hw _ (List.mem_of_getElem? (i := 107) rfl))) (notFace_of_selects (args := #[]) (mvT K.cz (hw _ (List.mem_of_getElem? (i := 109) rfl)))) (mvT K.cz (hw _ (List.mem_of_getElem? (i := 109) rfl))) (mvT K.cz (hw _ (List.mem_of_getElem? (i := 108) rfl))) (by decide) E_o4 ((m_ts l Z a0 hw h747 n0 z783 sb tb kb (((([] ++ ([84, 104, 101, 32, 110, 97, 109, 101, 32, 34] : List Int32)) ++ ns) ++ ([34, 32] : List Int32)) ++ rs) ⟨E_o4, F_o4, C_o4, N_o4, V_b4, E_b4⟩ (by simp only [List.length_append, List.length_cons, List.length_nil]; omega) od782 zc S1 P1).pays (W := 2) K.cz (hw _ (List.mem_of_getElem? (i := 110) rfl)) (hw _ (List.mem_of_getElem? (i := 39) rfl)) (by decide) (by decide)) rfl (argsL := []) (rest := [(.ref ea), (.ref ea)]) (lenOf pd__28_29Ljava_2flang_2fString_3b rfl) rfl (Nat.le_of_ble_eq_true rfl) (by decide) (by decide) frOf grOf d_prog_11_method_7_29 (pc' := 32) rfl ?_
  rintro v787 h785 Lc786 ⟨⟨⟨xs, rfl, hle_xs, Kx, Sx⟩, -⟩, -⟩
  have sz_xs := Nat.le_trans kc784.1 hle_xs
  have ne788 : na ≠ xs := own_ne f752.lt hle_xs
  have ne789 : tr ≠ xs := own_ne f759.lt hle_xs
  have ne790 : t_d1 ≠ xs := own_ne f773.lt hle_xs
  have ne791 : t_d2 ≠ xs := own_ne f777.lt hle_xs
  have ne792 : tb ≠ xs := own_ne E_b4.lt hle_xs
  have ne793 : sb ≠ xs := own_ne E_o4.lt hle_xs
  have ne794 : d2 ≠ xs := own_ne f774.lt hle_xs
  have ne795 : d1 ≠ xs := own_ne f770.lt hle_xs
  have ne796 : tn ≠ xs := own_ne f755.lt hle_xs
  have ne797 : ea ≠ xs := own_ne f760.lt hle_xs
  have ne798 : ra ≠ xs := own_ne f756.lt hle_xs
  have g_xs : n0 ≤ xs := Nat.le_trans z783 hle_xs
  have f799 := Safe.keep Kx sf0 cr751.1 f750
  have cr800 := cr751.trans (CHr.keep Kx sf0 cr751.1)
  have f801 := f752.keep Kx
  have f802 := f753.keep Kx nin0
  have f803 := f754.keep Kx nin0
  have f804 := f755.keep Kx nin0
  have f805 := f756.keep Kx
  have f806 := f757.keep Kx nin0
  have f807 := f758.keep Kx nin0
  have f808 := f759.keep Kx nin0
  have f809 := f760.keep Kx
  have f810 := f761.keep Kx nin0
  have f811 := f762.keep Kx nin0
  have f812 := f763.keep Kx nin0
  have f813 := f764.keep Kx nin0
  have f814 := f765.keep Kx nin0
  have f815 := f766.keep Kx nin0
  have f816 := f767.keep Kx nin0
  have f817 := E_o4.keep Kx
  have f818 := E_b4.keep Kx
  have f819 := f770.keep Kx
  have f820 := f771.keep Kx nin0
  have f821 := f772.keep Kx nin0
  have f822 := f773.keep Kx nin0
  have f823 := f774.keep Kx
  have f824 := f775.keep Kx nin0
  have f825 := f776.keep Kx nin0
  have f826 := f777.keep Kx nin0
  have f827 := F_o4.keep Kx nin0
  have f828 := C_o4.keep Kx nin0
  have f829 := N_o4.keep Kx nin0
  have f830 := V_b4.keep Kx nin0
  have od831 := od782.keep Kx all0
  have z832 := Nat.le_trans z783 Kx.1
  have kc833 := kc784.trans Kx all0
  obtain ⟨E_xs, C_xs, tx, kx, F_xs, V_tx⟩ := Sx
  have ne_tx : ea ≠ tx := own_exne (hw _ (List.mem_of_getElem? (i := 35) rfl)) f809 V_tx
  show Go p l e _ _ m _ below meth c _ _ _ _ h785 _ _ (mkF m 32 #[.val (.ref na), .val (.ref ra)] [(.ref xs), (.ref ea), (.ref ea)])
  refine Go.callC K (y := (⟨"java/lang/IllegalArgumentException", "<init>", "(Ljava/lang/String;)V"⟩ : MethodName)) (W := 1) (kc := 1) (nc := 2752) (a := ea) rfl (mvT K.cz (hw _ (List.mem_of_getElem? (i := 149) rfl))) (mvT K.cz (hw _ (List.mem_of_getElem? (i := 150) rfl))) (mvT K.cz (hw _ (List.mem_of_getElem? (i := 151) rfl))) (by decide) ((m_ia l Z a0 hw h785 n0 z832 ea xs hl us ss SU SS od831 f809 f810 f815 f811 f812 f813 f814 g_ea).pays (W := 1) K.cz (hw _ (List.mem_of_getElem? (i := 151) rfl)) (hw _ (List.mem_of_getElem? (i := 36) rfl)) (by decide) (by decide) (Vm.MethodsKnown.alikeC hS.1.alike hTK) (Vm.FramesKnown.alikeC hS.1.alike hBl)) rfl (argsL := [(.ref xs)]) (rest := [(.ref ea)]) (lenOf pd__28Ljava_2flang_2fString_3b_29V rfl) rfl (Nat.le_of_ble_eq_true rfl) (by decide) (by decide) frOf grOf d_prog_11_method_7_32 (pc' := 35) rfl ?_
  rintro v836 h834 Lc835 ⟨⟨⟨rfl, Ke, Ee, Fe⟩, -⟩, -⟩
  have cr837 := cr800.trans (CHr.keep Ke (sfS (Safe.exa K.cz.alike f809 (by decide) (by decide)) sf0) cr800.1)
  have f838 := f809.keep Ke
  have f846 := E_xs.keep Ke
  have f847 := C_xs.keep Ke (ninS (Ne.symm ne797) nin0)
  have f848 := F_xs.keep Ke (ninS (Ne.symm ne797) nin0)
  have f849 := V_tx.keep Ke (ninS (Ne.symm ne_tx) nin0)
  have od850 := od831.keep Ke (allS g_ea all0)
  have z851 := Nat.le_trans z832 Ke.1
  have kc852 := kc833.trans Ke (allS (Or.inr sz_ea) all0)
  show Go p l e _ _ m _ below meth c _ _ _ _ h834 _ _ (mkF m 35 #[.val (.ref na), .val (.ref ra)] [(.ref ea)])
  exact Go.retA K rfl rfl rfl (by decide) (by decide) d_prog_11_method_7_35 (own_end hEL K.cz cr837 ⟨ea, xs, rfl, sz_ea, kc852, Ee, Fe, f846, f847, tx, kx, f848, f849⟩)
theorem own_c32 : nar .char (32 : Int32) = 32 := by decide
theorem own_c34 : nar .char (34 : Int32) = 34 := by decide
theorem own_c84 : nar .char (84 : Int32) = 84 := by decide
theorem own_c97 : nar .char (97 : Int32) = 97 := by decide
theorem own_c101 : nar .char (101 : Int32) = 101 := by decide
theorem own_c104 : nar .char (104 : Int32) = 104 := by decide
theorem own_c109 : nar .char (109 : Int32) = 109 := by decide
theorem own_c110 : nar .char (110 : Int32) = 110 := by decide
theorem own_65 {x : Int32} (h : ¬ (255 : Int32) < x) : ¬ (65535 : Int32) < x := by
  rw [Int32.lt_iff_toInt_lt] at h ⊢
  have e0 : (255 : Int32).toInt = 255 := by decide
  have e1 : (65535 : Int32).toInt = 65535 := by decide
  omega
theorem pd__28_5bC_29V : parseMethodDescriptor "([C)V" = some ⟨[(.array .char)], none⟩ := by decide +kernel
theorem pd__28Ljava_2flang_2fString_3bLjava_2flang_2fString_3b_29Ljava_2flang_2fIllegalArgumentException_3b : parseMethodDescriptor "(Ljava/lang/String;Ljava/lang/String;)Ljava/lang/IllegalArgumentException;" = some ⟨[(.object "java/lang/String"), (.object "java/lang/String")], some (.object "java/lang/IllegalArgumentException")⟩ := by decide +kernel
theorem pd__28Ljava_2flang_2fObject_3b_29Z : parseMethodDescriptor "(Ljava/lang/Object;)Z" = some ⟨[(.object "java/lang/Object")], some .boolean⟩ := by decide +kernel
set_option maxRecDepth 65536 in
set_option maxHeartbeats 40000000 in
theorem seg2 {p : Program} {l : Launch} {e : Env} {s : State} {m : MethodId} {args : Array Value} {below : List Frame} {meth : Method} {c : Code} {vmS vm0 : Vm} {B : Nat} {Z : State} {a0 : Array Value} (hw : ∀ d ∈ tables_1, d.before a0 Z = true) (wS : ∀ a ∈ Bundle.stringAtoms, a.before a0 Z = true) (hEL : EW Z a0 [("com/example/basehome/basehome/internal/VariableProblems", 52), ("com/example/basehome/basehome/internal/VariableProblems", 54), ("com/example/basehome/basehome/internal/VariableProblemsNameRefusalPinLaw", 7)]) (hws : ∀ d ∈ StrChars.Road.words, d.before a0 Z = true) (hwe : ∀ d ∈ StrChars.Road.wordsEq, d.before a0 Z = true) (K : Ctx p (s.setVm vm0) m meth c Z x.cls code maxLocals ret x.name room_1 (FW s room_1) B) (hS : s.Since vm0 B) (hTK : s.vm.MethodsKnown) (hBl : s.vm.FramesKnown below) (h0 h : Heap) (n0 : Nat) (zh : n0 ≤ h.size) (CR : CHr Z [("com/example/basehome/basehome/internal/VariableProblems", 52), ("com/example/basehome/basehome/internal/VariableProblems", 54), ("com/example/basehome/basehome/internal/VariableProblemsNameRefusalPinLaw", 7)] vmS h0 vm0 h) (odh : Old Z n0 h) (zc : Int32) (S1 : Sta Z Z.heap "java/lang/String" "COMPACT_STRINGS" "Z" (.int zc)) (P1 : ¬ (zc = (0 : Int32))) (hl : l.stackTraces = true) (us ss : Addr) (SU : Sta Z Z.heap "java/lang/Throwable" "UNASSIGNED_STACK" "[Ljava/lang/StackTraceElement;" (.ref us)) (SS : Sta Z Z.heap "java/lang/Throwable" "SUPPRESSED_SENTINEL" "Ljava/util/List;" (.ref ss)) (p0 p1 p2 p3 p4 c5 c6 c7 c8 x9 x10 : Int32) (hc5 : ¬ nar .char c5 < 0 ∧ ¬ (255 : Int32) < nar .char c5) (hc6 : ¬ nar .char c6 < 0 ∧ ¬ (255 : Int32) < nar .char c6) (hc7 : ¬ nar .char c7 < 0 ∧ ¬ (255 : Int32) < nar .char c7) (hc8 : ¬ nar .char c8 < 0 ∧ ¬ (255 : Int32) < nar .char c8) (ns rs : List Int32) (hx9 : (x9 = 0 ∧ ns = ([(nar .char c5), (nar .char c6)] : List Int32)) ∨ (x9 = 1 ∧ ns = [])) (hx10 : (x10 = 0 ∧ rs = ([(nar .char c7), (nar .char c8)] : List Int32)) ∨ (x10 = 1 ∧ rs = [])) (ar br na ra : Addr) (S_na : Str Z h na ns) (S_ra : Str Z h ra rs) (k n : Nat) (hk : k ≤ 10) (hn : n ≤ 60) :
    Go p l e room_1 (s.setVm vm0) m args below meth c n0 (fun v vm h => v = some (.int 1) ∧ CHr Z [("com/example/basehome/basehome/internal/VariableProblems", 52), ("com/example/basehome/basehome/internal/VariableProblems", 54), ("com/example/basehome/basehome/internal/VariableProblemsNameRefusalPinLaw", 7)] vmS h0 vm h) (FW s room_1) B h k n (mkF m 132 #[.val (.int p0), .val (.int p1), .val (.int p2), .val (.int p3), .val (.int p4), .val (.int c5), .val (.int c6), .val (.int c7), .val (.int c8), .val (.int x9), .val (.int x10), .val (.ref ar), .val (.ref br), .val (.ref na), .val (.ref ra), .unset, .unset, .unset, .unset, .unset, .unset, .unset] []) := by
  refine Go.more hk hn ?_
  refine Go.bipush K (v := 16) at_132 rfl (pc' := 134) rfl ?_
  refine Go.newP K (hw _ (List.mem_of_getElem? (i := 0) rfl)) (by decide) 16 (by decide) (by decide) (by decide) (by decide) at_134 (pc' := 136) rfl ?_
  intro h853 a5 kA_a5 eq855 E854 V_a5
  have g_a5 : n0 ≤ a5 := Nat.le_trans zh (Nat.le_of_eq eq855.symm)
  have f858 := S_na.ext E854
  have f859 := S_ra.ext E854
  have od860 := odh.ext E854
  have z861 := Nat.le_trans zh E854.1
  have cr862 := CR.trans (CHr.ext E854 CR.1)
  have V863 : Arv Z h853 a5 kA_a5 .char (16 : Int32) [(.int (0 : Int32)), (.int (0 : Int32)), (.int (0 : Int32)), (.int (0 : Int32)), (.int (0 : Int32)), (.int (0 : Int32)), (.int (0 : Int32)), (.int (0 : Int32)), (.int (0 : Int32)), (.int (0 : Int32)), (.int (0 : Int32)), (.int (0 : Int32)), (.int (0 : Int32)), (.int (0 : Int32)), (.int (0 : Int32)), (.int (0 : Int32))] (.int (0 : Int32)) := V_a5.pad (pad_rep [] (.int (0 : Int32)) 16)
  refine Go.dup K at_136 rfl (pc' := 137) rfl ?_
  refine Go.iconst K (v := 0) at_137 rfl (pc' := 138) rfl ?_
  refine Go.bipush K (v := 84) at_138 rfl (pc' := 140) rfl ?_
  refine Go.castore K V863 0 rfl (Nat.le_of_ble_eq_true rfl) ⟨by decide, by decide⟩ g_a5 at_140 (pc' := 141) rfl ?_
  intro h864 K865 V866
  replace V866 : Arv Z h864 a5 kA_a5 .char (16 : Int32) [(.int (nar .char (84 : Int32))), (.int (0 : Int32)), (.int (0 : Int32)), (.int (0 : Int32)), (.int (0 : Int32)), (.int (0 : Int32)), (.int (0 : Int32)), (.int (0 : Int32)), (.int (0 : Int32)), (.int (0 : Int32)), (.int (0 : Int32)), (.int (0 : Int32)), (.int (0 : Int32)), (.int (0 : Int32)), (.int (0 : Int32)), (.int (0 : Int32))] (.int (0 : Int32)) := V866
  have cr867 := cr862.trans (CHr.keep K865 (sfS (Safe.arv K.cz.alike V863 (by decide)) sf0) cr862.1)
  have f868 := Str.keepB (hw _ (List.mem_of_getElem? (i := 2) rfl)) f858 K865 V863
  have f869 := Str.keepB (hw _ (List.mem_of_getElem? (i := 2) rfl)) f859 K865 V863
  have od871 := od860.keep K865 (allS g_a5 all0)
  have z872 := Nat.le_trans z861 K865.1
  clear f858 f859 V863 od860 z861 cr862
  refine Go.dup K at_141 rfl (pc' := 142) rfl ?_
  refine Go.iconst K (v := 1) at_142 rfl (pc' := 143) rfl ?_
  refine Go.bipush K (v := 104) at_143 rfl (pc' := 145) rfl ?_
  refine Go.castore K V866 1 rfl (Nat.le_of_ble_eq_true rfl) ⟨by decide, by decide⟩ g_a5 at_145 (pc' := 146) rfl ?_
  intro h873 K874 V875
  replace V875 : Arv Z h873 a5 kA_a5 .char (16 : Int32) [(.int (nar .char (84 : Int32))), (.int (nar .char (104 : Int32))), (.int (0 : Int32)), (.int (0 : Int32)), (.int (0 : Int32)), (.int (0 : Int32)), (.int (0 : Int32)), (.int (0 : Int32)), (.int (0 : Int32)), (.int (0 : Int32)), (.int (0 : Int32)), (.int (0 : Int32)), (.int (0 : Int32)), (.int (0 : Int32)), (.int (0 : Int32)), (.int (0 : Int32))] (.int (0 : Int32)) := V875
  have cr876 := cr867.trans (CHr.keep K874 (sfS (Safe.arv K.cz.alike V866 (by decide)) sf0) cr867.1)
  have f877 := Str.keepB (hw _ (List.mem_of_getElem? (i := 2) rfl)) f868 K874 V866
  have f878 := Str.keepB (hw _ (List.mem_of_getElem? (i := 2) rfl)) f869 K874 V866
  have od880 := od871.keep K874 (allS g_a5 all0)
  have z881 := Nat.le_trans z872 K874.1
  clear f868 f869 V866 od871 z872 cr867
  refine Go.dup K at_146 rfl (pc' := 147) rfl ?_
  refine Go.iconst K (v := 2) at_147 rfl (pc' := 148) rfl ?_
  refine Go.bipush K (v := 101) at_148 rfl (pc' := 150) rfl ?_
  refine Go.castore K V875 2 rfl (Nat.le_of_ble_eq_true rfl) ⟨by decide, by decide⟩ g_a5 at_150 (pc' := 151) rfl ?_
  intro h882 K883 V884
  replace V884 : Arv Z h882 a5 kA_a5 .char (16 : Int32) [(.int (nar .char (84 : Int32))), (.int (nar .char (104 : Int32))), (.int (nar .char (101 : Int32))), (.int (0 : Int32)), (.int (0 : Int32)), (.int (0 : Int32)), (.int (0 : Int32)), (.int (0 : Int32)), (.int (0 : Int32)), (.int (0 : Int32)), (.int (0 : Int32)), (.int (0 : Int32)), (.int (0 : Int32)), (.int (0 : Int32)), (.int (0 : Int32)), (.int (0 : Int32))] (.int (0 : Int32)) := V884
  have cr885 := cr876.trans (CHr.keep K883 (sfS (Safe.arv K.cz.alike V875 (by decide)) sf0) cr876.1)
  have f886 := Str.keepB (hw _ (List.mem_of_getElem? (i := 2) rfl)) f877 K883 V875
  have f887 := Str.keepB (hw _ (List.mem_of_getElem? (i := 2) rfl)) f878 K883 V875
  have od889 := od880.keep K883 (allS g_a5 all0)
  have z890 := Nat.le_trans z881 K883.1
  clear f877 f878 V875 od880 z881 cr876
  refine Go.dup K at_151 rfl (pc' := 152) rfl ?_
  refine Go.iconst K (v := 3) at_152 rfl (pc' := 153) rfl ?_
  refine Go.bipush K (v := 32) at_153 rfl (pc' := 155) rfl ?_
  refine Go.castore K V884 3 rfl (Nat.le_of_ble_eq_true rfl) ⟨by decide, by decide⟩ g_a5 at_155 (pc' := 156) rfl ?_
  intro h891 K892 V893
  replace V893 : Arv Z h891 a5 kA_a5 .char (16 : Int32) [(.int (nar .char (84 : Int32))), (.int (nar .char (104 : Int32))), (.int (nar .char (101 : Int32))), (.int (nar .char (32 : Int32))), (.int (0 : Int32)), (.int (0 : Int32)), (.int (0 : Int32)), (.int (0 : Int32)), (.int (0 : Int32)), (.int (0 : Int32)), (.int (0 : Int32)), (.int (0 : Int32)), (.int (0 : Int32)), (.int (0 : Int32)), (.int (0 : Int32)), (.int (0 : Int32))] (.int (0 : Int32)) := V893
  have cr894 := cr885.trans (CHr.keep K892 (sfS (Safe.arv K.cz.alike V884 (by decide)) sf0) cr885.1)
  have f895 := Str.keepB (hw _ (List.mem_of_getElem? (i := 2) rfl)) f886 K892 V884
  have f896 := Str.keepB (hw _ (List.mem_of_getElem? (i := 2) rfl)) f887 K892 V884
  have od898 := od889.keep K892 (allS g_a5 all0)
  have z899 := Nat.le_trans z890 K892.1
  clear f886 f887 V884 od889 z890 cr885
  refine Go.dup K at_156 rfl (pc' := 157) rfl ?_
  refine Go.iconst K (v := 4) at_157 rfl (pc' := 158) rfl ?_
  refine Go.bipush K (v := 110) at_158 rfl (pc' := 160) rfl ?_
  refine Go.castore K V893 4 rfl (Nat.le_of_ble_eq_true rfl) ⟨by decide, by decide⟩ g_a5 at_160 (pc' := 161) rfl ?_
  intro h900 K901 V902
  replace V902 : Arv Z h900 a5 kA_a5 .char (16 : Int32) [(.int (nar .char (84 : Int32))), (.int (nar .char (104 : Int32))), (.int (nar .char (101 : Int32))), (.int (nar .char (32 : Int32))), (.int (nar .char (110 : Int32))), (.int (0 : Int32)), (.int (0 : Int32)), (.int (0 : Int32)), (.int (0 : Int32)), (.int (0 : Int32)), (.int (0 : Int32)), (.int (0 : Int32)), (.int (0 : Int32)), (.int (0 : Int32)), (.int (0 : Int32)), (.int (0 : Int32))] (.int (0 : Int32)) := V902
  have cr903 := cr894.trans (CHr.keep K901 (sfS (Safe.arv K.cz.alike V893 (by decide)) sf0) cr894.1)
  have f904 := Str.keepB (hw _ (List.mem_of_getElem? (i := 2) rfl)) f895 K901 V893
  have f905 := Str.keepB (hw _ (List.mem_of_getElem? (i := 2) rfl)) f896 K901 V893
  have od907 := od898.keep K901 (allS g_a5 all0)
  have z908 := Nat.le_trans z899 K901.1
  clear f895 f896 V893 od898 z899 cr894
  refine Go.dup K at_161 rfl (pc' := 162) rfl ?_
  refine Go.iconst K (v := 5) at_162 rfl (pc' := 163) rfl ?_
  refine Go.bipush K (v := 97) at_163 rfl (pc' := 165) rfl ?_
  refine Go.castore K V902 5 rfl (Nat.le_of_ble_eq_true rfl) ⟨by decide, by decide⟩ g_a5 at_165 (pc' := 166) rfl ?_
  intro h909 K910 V911
  replace V911 : Arv Z h909 a5 kA_a5 .char (16 : Int32) [(.int (nar .char (84 : Int32))), (.int (nar .char (104 : Int32))), (.int (nar .char (101 : Int32))), (.int (nar .char (32 : Int32))), (.int (nar .char (110 : Int32))), (.int (nar .char (97 : Int32))), (.int (0 : Int32)), (.int (0 : Int32)), (.int (0 : Int32)), (.int (0 : Int32)), (.int (0 : Int32)), (.int (0 : Int32)), (.int (0 : Int32)), (.int (0 : Int32)), (.int (0 : Int32)), (.int (0 : Int32))] (.int (0 : Int32)) := V911
  have cr912 := cr903.trans (CHr.keep K910 (sfS (Safe.arv K.cz.alike V902 (by decide)) sf0) cr903.1)
  have f913 := Str.keepB (hw _ (List.mem_of_getElem? (i := 2) rfl)) f904 K910 V902
  have f914 := Str.keepB (hw _ (List.mem_of_getElem? (i := 2) rfl)) f905 K910 V902
  have od916 := od907.keep K910 (allS g_a5 all0)
  have z917 := Nat.le_trans z908 K910.1
  clear f904 f905 V902 od907 z908 cr903
  refine Go.dup K at_166 rfl (pc' := 167) rfl ?_
  refine Go.bipush K (v := 6) at_167 rfl (pc' := 169) rfl ?_
  refine Go.bipush K (v := 109) at_169 rfl (pc' := 171) rfl ?_
  refine Go.castore K V911 6 rfl (Nat.le_of_ble_eq_true rfl) ⟨by decide, by decide⟩ g_a5 at_171 (pc' := 172) rfl ?_
  intro h918 K919 V920
  replace V920 : Arv Z h918 a5 kA_a5 .char (16 : Int32) [(.int (nar .char (84 : Int32))), (.int (nar .char (104 : Int32))), (.int (nar .char (101 : Int32))), (.int (nar .char (32 : Int32))), (.int (nar .char (110 : Int32))), (.int (nar .char (97 : Int32))), (.int (nar .char (109 : Int32))), (.int (0 : Int32)), (.int (0 : Int32)), (.int (0 : Int32)), (.int (0 : Int32)), (.int (0 : Int32)), (.int (0 : Int32)), (.int (0 : Int32)), (.int (0 : Int32)), (.int (0 : Int32))] (.int (0 : Int32)) := V920
  have cr921 := cr912.trans (CHr.keep K919 (sfS (Safe.arv K.cz.alike V911 (by decide)) sf0) cr912.1)
  have f922 := Str.keepB (hw _ (List.mem_of_getElem? (i := 2) rfl)) f913 K919 V911
  have f923 := Str.keepB (hw _ (List.mem_of_getElem? (i := 2) rfl)) f914 K919 V911
  have od925 := od916.keep K919 (allS g_a5 all0)
  have z926 := Nat.le_trans z917 K919.1
  clear f913 f914 V911 od916 z917 cr912
  refine Go.dup K at_172 rfl (pc' := 173) rfl ?_
  refine Go.bipush K (v := 7) at_173 rfl (pc' := 175) rfl ?_
  refine Go.bipush K (v := 101) at_175 rfl (pc' := 177) rfl ?_
  refine Go.castore K V920 7 rfl (Nat.le_of_ble_eq_true rfl) ⟨by decide, by decide⟩ g_a5 at_177 (pc' := 178) rfl ?_
  intro h927 K928 V929
  replace V929 : Arv Z h927 a5 kA_a5 .char (16 : Int32) [(.int (nar .char (84 : Int32))), (.int (nar .char (104 : Int32))), (.int (nar .char (101 : Int32))), (.int (nar .char (32 : Int32))), (.int (nar .char (110 : Int32))), (.int (nar .char (97 : Int32))), (.int (nar .char (109 : Int32))), (.int (nar .char (101 : Int32))), (.int (0 : Int32)), (.int (0 : Int32)), (.int (0 : Int32)), (.int (0 : Int32)), (.int (0 : Int32)), (.int (0 : Int32)), (.int (0 : Int32)), (.int (0 : Int32))] (.int (0 : Int32)) := V929
  have cr930 := cr921.trans (CHr.keep K928 (sfS (Safe.arv K.cz.alike V920 (by decide)) sf0) cr921.1)
  have f931 := Str.keepB (hw _ (List.mem_of_getElem? (i := 2) rfl)) f922 K928 V920
  have f932 := Str.keepB (hw _ (List.mem_of_getElem? (i := 2) rfl)) f923 K928 V920
  have od934 := od925.keep K928 (allS g_a5 all0)
  have z935 := Nat.le_trans z926 K928.1
  clear f922 f923 V920 od925 z926 cr921
  refine Go.dup K at_178 rfl (pc' := 179) rfl ?_
  refine Go.bipush K (v := 8) at_179 rfl (pc' := 181) rfl ?_
  refine Go.bipush K (v := 32) at_181 rfl (pc' := 183) rfl ?_
  refine Go.castore K V929 8 rfl (Nat.le_of_ble_eq_true rfl) ⟨by decide, by decide⟩ g_a5 at_183 (pc' := 184) rfl ?_
  intro h936 K937 V938
  replace V938 : Arv Z h936 a5 kA_a5 .char (16 : Int32) [(.int (nar .char (84 : Int32))), (.int (nar .char (104 : Int32))), (.int (nar .char (101 : Int32))), (.int (nar .char (32 : Int32))), (.int (nar .char (110 : Int32))), (.int (nar .char (97 : Int32))), (.int (nar .char (109 : Int32))), (.int (nar .char (101 : Int32))), (.int (nar .char (32 : Int32))), (.int (0 : Int32)), (.int (0 : Int32)), (.int (0 : Int32)), (.int (0 : Int32)), (.int (0 : Int32)), (.int (0 : Int32)), (.int (0 : Int32))] (.int (0 : Int32)) := V938
  have cr939 := cr930.trans (CHr.keep K937 (sfS (Safe.arv K.cz.alike V929 (by decide)) sf0) cr930.1)
  have f940 := Str.keepB (hw _ (List.mem_of_getElem? (i := 2) rfl)) f931 K937 V929
  have f941 := Str.keepB (hw _ (List.mem_of_getElem? (i := 2) rfl)) f932 K937 V929
  have od943 := od934.keep K937 (allS g_a5 all0)
  have z944 := Nat.le_trans z935 K937.1
  clear f931 f932 V929 od934 z935 cr930
  refine Go.dup K at_184 rfl (pc' := 185) rfl ?_
  refine Go.bipush K (v := 9) at_185 rfl (pc' := 187) rfl ?_
  refine Go.bipush K (v := 34) at_187 rfl (pc' := 189) rfl ?_
  refine Go.castore K V938 9 rfl (Nat.le_of_ble_eq_true rfl) ⟨by decide, by decide⟩ g_a5 at_189 (pc' := 190) rfl ?_
  intro h945 K946 V947
  replace V947 : Arv Z h945 a5 kA_a5 .char (16 : Int32) [(.int (nar .char (84 : Int32))), (.int (nar .char (104 : Int32))), (.int (nar .char (101 : Int32))), (.int (nar .char (32 : Int32))), (.int (nar .char (110 : Int32))), (.int (nar .char (97 : Int32))), (.int (nar .char (109 : Int32))), (.int (nar .char (101 : Int32))), (.int (nar .char (32 : Int32))), (.int (nar .char (34 : Int32))), (.int (0 : Int32)), (.int (0 : Int32)), (.int (0 : Int32)), (.int (0 : Int32)), (.int (0 : Int32)), (.int (0 : Int32))] (.int (0 : Int32)) := V947
  have cr948 := cr939.trans (CHr.keep K946 (sfS (Safe.arv K.cz.alike V938 (by decide)) sf0) cr939.1)
  have f949 := Str.keepB (hw _ (List.mem_of_getElem? (i := 2) rfl)) f940 K946 V938
  have f950 := Str.keepB (hw _ (List.mem_of_getElem? (i := 2) rfl)) f941 K946 V938
  have od952 := od943.keep K946 (allS g_a5 all0)
  have z953 := Nat.le_trans z944 K946.1
  clear f940 f941 V938 od943 z944 cr939
  refine Go.dup K at_190 rfl (pc' := 191) rfl ?_
  refine Go.bipush K (v := 10) at_191 rfl (pc' := 193) rfl ?_
  refine Go.iload K at_193 rfl (pc' := 195) rfl ?_
  refine Go.castore K V947 10 rfl (Nat.le_of_ble_eq_true rfl) ⟨by decide, by decide⟩ g_a5 at_195 (pc' := 196) rfl ?_
  intro h954 K955 V956
  replace V956 : Arv Z h954 a5 kA_a5 .char (16 : Int32) [(.int (nar .char (84 : Int32))), (.int (nar .char (104 : Int32))), (.int (nar .char (101 : Int32))), (.int (nar .char (32 : Int32))), (.int (nar .char (110 : Int32))), (.int (nar .char (97 : Int32))), (.int (nar .char (109 : Int32))), (.int (nar .char (101 : Int32))), (.int (nar .char (32 : Int32))), (.int (nar .char (34 : Int32))), (.int (nar .char c5)), (.int (0 : Int32)), (.int (0 : Int32)), (.int (0 : Int32)), (.int (0 : Int32)), (.int (0 : Int32))] (.int (0 : Int32)) := V956
  have cr957 := cr948.trans (CHr.keep K955 (sfS (Safe.arv K.cz.alike V947 (by decide)) sf0) cr948.1)
  have f958 := Str.keepB (hw _ (List.mem_of_getElem? (i := 2) rfl)) f949 K955 V947
  have f959 := Str.keepB (hw _ (List.mem_of_getElem? (i := 2) rfl)) f950 K955 V947
  have od961 := od952.keep K955 (allS g_a5 all0)
  have z962 := Nat.le_trans z953 K955.1
  clear f949 f950 V947 od952 z953 cr948
  refine Go.dup K at_196 rfl (pc' := 197) rfl ?_
  refine Go.bipush K (v := 11) at_197 rfl (pc' := 199) rfl ?_
  refine Go.iload K at_199 rfl (pc' := 201) rfl ?_
  refine Go.castore K V956 11 rfl (Nat.le_of_ble_eq_true rfl) ⟨by decide, by decide⟩ g_a5 at_201 (pc' := 202) rfl ?_
  intro h963 K964 V965
  replace V965 : Arv Z h963 a5 kA_a5 .char (16 : Int32) [(.int (nar .char (84 : Int32))), (.int (nar .char (104 : Int32))), (.int (nar .char (101 : Int32))), (.int (nar .char (32 : Int32))), (.int (nar .char (110 : Int32))), (.int (nar .char (97 : Int32))), (.int (nar .char (109 : Int32))), (.int (nar .char (101 : Int32))), (.int (nar .char (32 : Int32))), (.int (nar .char (34 : Int32))), (.int (nar .char c5)), (.int (nar .char c6)), (.int (0 : Int32)), (.int (0 : Int32)), (.int (0 : Int32)), (.int (0 : Int32))] (.int (0 : Int32)) := V965
  have cr966 := cr957.trans (CHr.keep K964 (sfS (Safe.arv K.cz.alike V956 (by decide)) sf0) cr957.1)
  have f967 := Str.keepB (hw _ (List.mem_of_getElem? (i := 2) rfl)) f958 K964 V956
  have f968 := Str.keepB (hw _ (List.mem_of_getElem? (i := 2) rfl)) f959 K964 V956
  have od970 := od961.keep K964 (allS g_a5 all0)
  have z971 := Nat.le_trans z962 K964.1
  clear f958 f959 V956 od961 z962 cr957
  refine Go.dup K at_202 rfl (pc' := 203) rfl ?_
  refine Go.bipush K (v := 12) at_203 rfl (pc' := 205) rfl ?_
  refine Go.bipush K (v := 34) at_205 rfl (pc' := 207) rfl ?_
  refine Go.castore K V965 12 rfl (Nat.le_of_ble_eq_true rfl) ⟨by decide, by decide⟩ g_a5 at_207 (pc' := 208) rfl ?_
  intro h972 K973 V974
  replace V974 : Arv Z h972 a5 kA_a5 .char (16 : Int32) [(.int (nar .char (84 : Int32))), (.int (nar .char (104 : Int32))), (.int (nar .char (101 : Int32))), (.int (nar .char (32 : Int32))), (.int (nar .char (110 : Int32))), (.int (nar .char (97 : Int32))), (.int (nar .char (109 : Int32))), (.int (nar .char (101 : Int32))), (.int (nar .char (32 : Int32))), (.int (nar .char (34 : Int32))), (.int (nar .char c5)), (.int (nar .char c6)), (.int (nar .char (34 : Int32))), (.int (0 : Int32)), (.int (0 : Int32)), (.int (0 : Int32))] (.int (0 : Int32)) := V974
  have cr975 := cr966.trans (CHr.keep K973 (sfS (Safe.arv K.cz.alike V965 (by decide)) sf0) cr966.1)
  have f976 := Str.keepB (hw _ (List.mem_of_getElem? (i := 2) rfl)) f967 K973 V965
  have f977 := Str.keepB (hw _ (List.mem_of_getElem? (i := 2) rfl)) f968 K973 V965
  have od979 := od970.keep K973 (allS g_a5 all0)
  have z980 := Nat.le_trans z971 K973.1
  clear f967 f968 V965 od970 z971 cr966
  refine Go.dup K at_208 rfl (pc' := 209) rfl ?_
  refine Go.bipush K (v := 13) at_209 rfl (pc' := 211) rfl ?_
  refine Go.bipush K (v := 32) at_211 rfl (pc' := 213) rfl ?_
  refine Go.castore K V974 13 rfl (Nat.le_of_ble_eq_true rfl) ⟨by decide, by decide⟩ g_a5 at_213 (pc' := 214) rfl ?_
  intro h981 K982 V983
  replace V983 : Arv Z h981 a5 kA_a5 .char (16 : Int32) [(.int (nar .char (84 : Int32))), (.int (nar .char (104 : Int32))), (.int (nar .char (101 : Int32))), (.int (nar .char (32 : Int32))), (.int (nar .char (110 : Int32))), (.int (nar .char (97 : Int32))), (.int (nar .char (109 : Int32))), (.int (nar .char (101 : Int32))), (.int (nar .char (32 : Int32))), (.int (nar .char (34 : Int32))), (.int (nar .char c5)), (.int (nar .char c6)), (.int (nar .char (34 : Int32))), (.int (nar .char (32 : Int32))), (.int (0 : Int32)), (.int (0 : Int32))] (.int (0 : Int32)) := V983
  have cr984 := cr975.trans (CHr.keep K982 (sfS (Safe.arv K.cz.alike V974 (by decide)) sf0) cr975.1)
  have f985 := Str.keepB (hw _ (List.mem_of_getElem? (i := 2) rfl)) f976 K982 V974
  have f986 := Str.keepB (hw _ (List.mem_of_getElem? (i := 2) rfl)) f977 K982 V974
  have od988 := od979.keep K982 (allS g_a5 all0)
  have z989 := Nat.le_trans z980 K982.1
  clear f976 f977 V974 od979 z980 cr975
  refine Go.dup K at_214 rfl (pc' := 215) rfl ?_
  refine Go.bipush K (v := 14) at_215 rfl (pc' := 217) rfl ?_
  refine Go.iload K at_217 rfl (pc' := 219) rfl ?_
  refine Go.castore K V983 14 rfl (Nat.le_of_ble_eq_true rfl) ⟨by decide, by decide⟩ g_a5 at_219 (pc' := 220) rfl ?_
  intro h990 K991 V992
  replace V992 : Arv Z h990 a5 kA_a5 .char (16 : Int32) [(.int (nar .char (84 : Int32))), (.int (nar .char (104 : Int32))), (.int (nar .char (101 : Int32))), (.int (nar .char (32 : Int32))), (.int (nar .char (110 : Int32))), (.int (nar .char (97 : Int32))), (.int (nar .char (109 : Int32))), (.int (nar .char (101 : Int32))), (.int (nar .char (32 : Int32))), (.int (nar .char (34 : Int32))), (.int (nar .char c5)), (.int (nar .char c6)), (.int (nar .char (34 : Int32))), (.int (nar .char (32 : Int32))), (.int (nar .char c7)), (.int (0 : Int32))] (.int (0 : Int32)) := V992
  have cr993 := cr984.trans (CHr.keep K991 (sfS (Safe.arv K.cz.alike V983 (by decide)) sf0) cr984.1)
  have f994 := Str.keepB (hw _ (List.mem_of_getElem? (i := 2) rfl)) f985 K991 V983
  have f995 := Str.keepB (hw _ (List.mem_of_getElem? (i := 2) rfl)) f986 K991 V983
  have od997 := od988.keep K991 (allS g_a5 all0)
  have z998 := Nat.le_trans z989 K991.1
  clear f985 f986 V983 od988 z989 cr984
  refine Go.dup K at_220 rfl (pc' := 221) rfl ?_
  refine Go.bipush K (v := 15) at_221 rfl (pc' := 223) rfl ?_
  refine Go.iload K at_223 rfl (pc' := 225) rfl ?_
  refine Go.castore K V992 15 rfl (Nat.le_of_ble_eq_true rfl) ⟨by decide, by decide⟩ g_a5 at_225 (pc' := 226) rfl ?_
  intro h999 K1000 V1001
  replace V1001 : Arv Z h999 a5 kA_a5 .char (16 : Int32) [(.int (nar .char (84 : Int32))), (.int (nar .char (104 : Int32))), (.int (nar .char (101 : Int32))), (.int (nar .char (32 : Int32))), (.int (nar .char (110 : Int32))), (.int (nar .char (97 : Int32))), (.int (nar .char (109 : Int32))), (.int (nar .char (101 : Int32))), (.int (nar .char (32 : Int32))), (.int (nar .char (34 : Int32))), (.int (nar .char c5)), (.int (nar .char c6)), (.int (nar .char (34 : Int32))), (.int (nar .char (32 : Int32))), (.int (nar .char c7)), (.int (nar .char c8))] (.int (0 : Int32)) := V1001
  have cr1002 := cr993.trans (CHr.keep K1000 (sfS (Safe.arv K.cz.alike V992 (by decide)) sf0) cr993.1)
  have f1003 := Str.keepB (hw _ (List.mem_of_getElem? (i := 2) rfl)) f994 K1000 V992
  have f1004 := Str.keepB (hw _ (List.mem_of_getElem? (i := 2) rfl)) f995 K1000 V992
  have od1006 := od997.keep K1000 (allS g_a5 all0)
  have z1007 := Nat.le_trans z998 K1000.1
  clear f994 f995 V992 od997 z998 cr993
  refine Go.astore K at_226 rfl (Ls' := #[.val (.int p0), .val (.int p1), .val (.int p2), .val (.int p3), .val (.int p4), .val (.int c5), .val (.int c6), .val (.int c7), .val (.int c8), .val (.int x9), .val (.int x10), .val (.ref ar), .val (.ref br), .val (.ref na), .val (.ref ra), .val (.ref a5), .unset, .unset, .unset, .unset, .unset, .unset]) rfl (pc' := 228) rfl ?_
  refine Go.bipush K (v := 14) at_228 rfl (pc' := 230) rfl ?_
  refine Go.newP K (hw _ (List.mem_of_getElem? (i := 0) rfl)) (by decide) 14 (by decide) (by decide) (by decide) (by decide) at_230 (pc' := 232) rfl ?_
  intro h1008 a6 kA_a6 eq1010 E1009 V_a6
  have ne1011 : a5 ≠ a6 := own_ne V1001.lt (Nat.le_of_eq eq1010.symm)
  have g_a6 : n0 ≤ a6 := Nat.le_trans z1007 (Nat.le_of_eq eq1010.symm)
  have f1015 := f1003.ext E1009
  have f1016 := f1004.ext E1009
  have f1017 := V1001.ext E1009
  have od1018 := od1006.ext E1009
  have z1019 := Nat.le_trans z1007 E1009.1
  have cr1020 := cr1002.trans (CHr.ext E1009 cr1002.1)
  clear f1003 f1004 V1001 od1006 z1007 cr1002
  have V1021 : Arv Z h1008 a6 kA_a6 .char (14 : Int32) [(.int (0 : Int32)), (.int (0 : Int32)), (.int (0 : Int32)), (.int (0 : Int32)), (.int (0 : Int32)), (.int (0 : Int32)), (.int (0 : Int32)), (.int (0 : Int32)), (.int (0 : Int32)), (.int (0 : Int32)), (.int (0 : Int32)), (.int (0 : Int32)), (.int (0 : Int32)), (.int (0 : Int32))] (.int (0 : Int32)) := V_a6.pad (pad_rep [] (.int (0 : Int32)) 14)
  refine Go.dup K at_232 rfl (pc' := 233) rfl ?_
  refine Go.iconst K (v := 0) at_233 rfl (pc' := 234) rfl ?_
  refine Go.bipush K (v := 84) at_234 rfl (pc' := 236) rfl ?_
  refine Go.castore K V1021 0 rfl (Nat.le_of_ble_eq_true rfl) ⟨by decide, by decide⟩ g_a6 at_236 (pc' := 237) rfl ?_
  intro h1022 K1023 V1024
  replace V1024 : Arv Z h1022 a6 kA_a6 .char (14 : Int32) [(.int (nar .char (84 : Int32))), (.int (0 : Int32)), (.int (0 : Int32)), (.int (0 : Int32)), (.int (0 : Int32)), (.int (0 : Int32)), (.int (0 : Int32)), (.int (0 : Int32)), (.int (0 : Int32)), (.int (0 : Int32)), (.int (0 : Int32)), (.int (0 : Int32)), (.int (0 : Int32)), (.int (0 : Int32))] (.int (0 : Int32)) := V1024
  have cr1025 := cr1020.trans (CHr.keep K1023 (sfS (Safe.arv K.cz.alike V1021 (by decide)) sf0) cr1020.1)
  have f1026 := Str.keepB (hw _ (List.mem_of_getElem? (i := 2) rfl)) f1015 K1023 V1021
  have f1027 := Str.keepB (hw _ (List.mem_of_getElem? (i := 2) rfl)) f1016 K1023 V1021
  have f1028 := f1017.keep K1023 (ninS ne1011 nin0)
  have od1030 := od1018.keep K1023 (allS g_a6 all0)
  have z1031 := Nat.le_trans z1019 K1023.1
  clear f1015 f1016 f1017 V1021 od1018 z1019 cr1020
  refine Go.dup K at_237 rfl (pc' := 238) rfl ?_
  refine Go.iconst K (v := 1) at_238 rfl (pc' := 239) rfl ?_
  refine Go.bipush K (v := 104) at_239 rfl (pc' := 241) rfl ?_
  refine Go.castore K V1024 1 rfl (Nat.le_of_ble_eq_true rfl) ⟨by decide, by decide⟩ g_a6 at_241 (pc' := 242) rfl ?_
  intro h1032 K1033 V1034
  replace V1034 : Arv Z h1032 a6 kA_a6 .char (14 : Int32) [(.int (nar .char (84 : Int32))), (.int (nar .char (104 : Int32))), (.int (0 : Int32)), (.int (0 : Int32)), (.int (0 : Int32)), (.int (0 : Int32)), (.int (0 : Int32)), (.int (0 : Int32)), (.int (0 : Int32)), (.int (0 : Int32)), (.int (0 : Int32)), (.int (0 : Int32)), (.int (0 : Int32)), (.int (0 : Int32))] (.int (0 : Int32)) := V1034
  have cr1035 := cr1025.trans (CHr.keep K1033 (sfS (Safe.arv K.cz.alike V1024 (by decide)) sf0) cr1025.1)
  have f1036 := Str.keepB (hw _ (List.mem_of_getElem? (i := 2) rfl)) f1026 K1033 V1024
  have f1037 := Str.keepB (hw _ (List.mem_of_getElem? (i := 2) rfl)) f1027 K1033 V1024
  have f1038 := f1028.keep K1033 (ninS ne1011 nin0)
  have od1040 := od1030.keep K1033 (allS g_a6 all0)
  have z1041 := Nat.le_trans z1031 K1033.1
  clear f1026 f1027 f1028 V1024 od1030 z1031 cr1025
  refine Go.dup K at_242 rfl (pc' := 243) rfl ?_
  refine Go.iconst K (v := 2) at_243 rfl (pc' := 244) rfl ?_
  refine Go.bipush K (v := 101) at_244 rfl (pc' := 246) rfl ?_
  refine Go.castore K V1034 2 rfl (Nat.le_of_ble_eq_true rfl) ⟨by decide, by decide⟩ g_a6 at_246 (pc' := 247) rfl ?_
  intro h1042 K1043 V1044
  replace V1044 : Arv Z h1042 a6 kA_a6 .char (14 : Int32) [(.int (nar .char (84 : Int32))), (.int (nar .char (104 : Int32))), (.int (nar .char (101 : Int32))), (.int (0 : Int32)), (.int (0 : Int32)), (.int (0 : Int32)), (.int (0 : Int32)), (.int (0 : Int32)), (.int (0 : Int32)), (.int (0 : Int32)), (.int (0 : Int32)), (.int (0 : Int32)), (.int (0 : Int32)), (.int (0 : Int32))] (.int (0 : Int32)) := V1044
  have cr1045 := cr1035.trans (CHr.keep K1043 (sfS (Safe.arv K.cz.alike V1034 (by decide)) sf0) cr1035.1)
  have f1046 := Str.keepB (hw _ (List.mem_of_getElem? (i := 2) rfl)) f1036 K1043 V1034
  have f1047 := Str.keepB (hw _ (List.mem_of_getElem? (i := 2) rfl)) f1037 K1043 V1034
  have f1048 := f1038.keep K1043 (ninS ne1011 nin0)
  have od1050 := od1040.keep K1043 (allS g_a6 all0)
  have z1051 := Nat.le_trans z1041 K1043.1
  clear f1036 f1037 f1038 V1034 od1040 z1041 cr1035
  refine Go.dup K at_247 rfl (pc' := 248) rfl ?_
  refine Go.iconst K (v := 3) at_248 rfl (pc' := 249) rfl ?_
  refine Go.bipush K (v := 32) at_249 rfl (pc' := 251) rfl ?_
  refine Go.castore K V1044 3 rfl (Nat.le_of_ble_eq_true rfl) ⟨by decide, by decide⟩ g_a6 at_251 (pc' := 252) rfl ?_
  intro h1052 K1053 V1054
  replace V1054 : Arv Z h1052 a6 kA_a6 .char (14 : Int32) [(.int (nar .char (84 : Int32))), (.int (nar .char (104 : Int32))), (.int (nar .char (101 : Int32))), (.int (nar .char (32 : Int32))), (.int (0 : Int32)), (.int (0 : Int32)), (.int (0 : Int32)), (.int (0 : Int32)), (.int (0 : Int32)), (.int (0 : Int32)), (.int (0 : Int32)), (.int (0 : Int32)), (.int (0 : Int32)), (.int (0 : Int32))] (.int (0 : Int32)) := V1054
  have cr1055 := cr1045.trans (CHr.keep K1053 (sfS (Safe.arv K.cz.alike V1044 (by decide)) sf0) cr1045.1)
  have f1056 := Str.keepB (hw _ (List.mem_of_getElem? (i := 2) rfl)) f1046 K1053 V1044
  have f1057 := Str.keepB (hw _ (List.mem_of_getElem? (i := 2) rfl)) f1047 K1053 V1044
  have f1058 := f1048.keep K1053 (ninS ne1011 nin0)
  have od1060 := od1050.keep K1053 (allS g_a6 all0)
  have z1061 := Nat.le_trans z1051 K1053.1
  clear f1046 f1047 f1048 V1044 od1050 z1051 cr1045
  refine Go.dup K at_252 rfl (pc' := 253) rfl ?_
  refine Go.iconst K (v := 4) at_253 rfl (pc' := 254) rfl ?_
  refine Go.bipush K (v := 110) at_254 rfl (pc' := 256) rfl ?_
  refine Go.castore K V1054 4 rfl (Nat.le_of_ble_eq_true rfl) ⟨by decide, by decide⟩ g_a6 at_256 (pc' := 257) rfl ?_
  intro h1062 K1063 V1064
  replace V1064 : Arv Z h1062 a6 kA_a6 .char (14 : Int32) [(.int (nar .char (84 : Int32))), (.int (nar .char (104 : Int32))), (.int (nar .char (101 : Int32))), (.int (nar .char (32 : Int32))), (.int (nar .char (110 : Int32))), (.int (0 : Int32)), (.int (0 : Int32)), (.int (0 : Int32)), (.int (0 : Int32)), (.int (0 : Int32)), (.int (0 : Int32)), (.int (0 : Int32)), (.int (0 : Int32)), (.int (0 : Int32))] (.int (0 : Int32)) := V1064
  have cr1065 := cr1055.trans (CHr.keep K1063 (sfS (Safe.arv K.cz.alike V1054 (by decide)) sf0) cr1055.1)
  have f1066 := Str.keepB (hw _ (List.mem_of_getElem? (i := 2) rfl)) f1056 K1063 V1054
  have f1067 := Str.keepB (hw _ (List.mem_of_getElem? (i := 2) rfl)) f1057 K1063 V1054
  have f1068 := f1058.keep K1063 (ninS ne1011 nin0)
  have od1070 := od1060.keep K1063 (allS g_a6 all0)
  have z1071 := Nat.le_trans z1061 K1063.1
  clear f1056 f1057 f1058 V1054 od1060 z1061 cr1055
  refine Go.dup K at_257 rfl (pc' := 258) rfl ?_
  refine Go.iconst K (v := 5) at_258 rfl (pc' := 259) rfl ?_
  refine Go.bipush K (v := 97) at_259 rfl (pc' := 261) rfl ?_
  refine Go.castore K V1064 5 rfl (Nat.le_of_ble_eq_true rfl) ⟨by decide, by decide⟩ g_a6 at_261 (pc' := 262) rfl ?_
  intro h1072 K1073 V1074
  replace V1074 : Arv Z h1072 a6 kA_a6 .char (14 : Int32) [(.int (nar .char (84 : Int32))), (.int (nar .char (104 : Int32))), (.int (nar .char (101 : Int32))), (.int (nar .char (32 : Int32))), (.int (nar .char (110 : Int32))), (.int (nar .char (97 : Int32))), (.int (0 : Int32)), (.int (0 : Int32)), (.int (0 : Int32)), (.int (0 : Int32)), (.int (0 : Int32)), (.int (0 : Int32)), (.int (0 : Int32)), (.int (0 : Int32))] (.int (0 : Int32)) := V1074
  have cr1075 := cr1065.trans (CHr.keep K1073 (sfS (Safe.arv K.cz.alike V1064 (by decide)) sf0) cr1065.1)
  have f1076 := Str.keepB (hw _ (List.mem_of_getElem? (i := 2) rfl)) f1066 K1073 V1064
  have f1077 := Str.keepB (hw _ (List.mem_of_getElem? (i := 2) rfl)) f1067 K1073 V1064
  have f1078 := f1068.keep K1073 (ninS ne1011 nin0)
  have od1080 := od1070.keep K1073 (allS g_a6 all0)
  have z1081 := Nat.le_trans z1071 K1073.1
  clear f1066 f1067 f1068 V1064 od1070 z1071 cr1065
  refine Go.dup K at_262 rfl (pc' := 263) rfl ?_
  refine Go.bipush K (v := 6) at_263 rfl (pc' := 265) rfl ?_
  refine Go.bipush K (v := 109) at_265 rfl (pc' := 267) rfl ?_
  refine Go.castore K V1074 6 rfl (Nat.le_of_ble_eq_true rfl) ⟨by decide, by decide⟩ g_a6 at_267 (pc' := 268) rfl ?_
  intro h1082 K1083 V1084
  replace V1084 : Arv Z h1082 a6 kA_a6 .char (14 : Int32) [(.int (nar .char (84 : Int32))), (.int (nar .char (104 : Int32))), (.int (nar .char (101 : Int32))), (.int (nar .char (32 : Int32))), (.int (nar .char (110 : Int32))), (.int (nar .char (97 : Int32))), (.int (nar .char (109 : Int32))), (.int (0 : Int32)), (.int (0 : Int32)), (.int (0 : Int32)), (.int (0 : Int32)), (.int (0 : Int32)), (.int (0 : Int32)), (.int (0 : Int32))] (.int (0 : Int32)) := V1084
  have cr1085 := cr1075.trans (CHr.keep K1083 (sfS (Safe.arv K.cz.alike V1074 (by decide)) sf0) cr1075.1)
  have f1086 := Str.keepB (hw _ (List.mem_of_getElem? (i := 2) rfl)) f1076 K1083 V1074
  have f1087 := Str.keepB (hw _ (List.mem_of_getElem? (i := 2) rfl)) f1077 K1083 V1074
  have f1088 := f1078.keep K1083 (ninS ne1011 nin0)
  have od1090 := od1080.keep K1083 (allS g_a6 all0)
  have z1091 := Nat.le_trans z1081 K1083.1
  clear f1076 f1077 f1078 V1074 od1080 z1081 cr1075
  refine Go.dup K at_268 rfl (pc' := 269) rfl ?_
  refine Go.bipush K (v := 7) at_269 rfl (pc' := 271) rfl ?_
  refine Go.bipush K (v := 101) at_271 rfl (pc' := 273) rfl ?_
  refine Go.castore K V1084 7 rfl (Nat.le_of_ble_eq_true rfl) ⟨by decide, by decide⟩ g_a6 at_273 (pc' := 274) rfl ?_
  intro h1092 K1093 V1094
  replace V1094 : Arv Z h1092 a6 kA_a6 .char (14 : Int32) [(.int (nar .char (84 : Int32))), (.int (nar .char (104 : Int32))), (.int (nar .char (101 : Int32))), (.int (nar .char (32 : Int32))), (.int (nar .char (110 : Int32))), (.int (nar .char (97 : Int32))), (.int (nar .char (109 : Int32))), (.int (nar .char (101 : Int32))), (.int (0 : Int32)), (.int (0 : Int32)), (.int (0 : Int32)), (.int (0 : Int32)), (.int (0 : Int32)), (.int (0 : Int32))] (.int (0 : Int32)) := V1094
  have cr1095 := cr1085.trans (CHr.keep K1093 (sfS (Safe.arv K.cz.alike V1084 (by decide)) sf0) cr1085.1)
  have f1096 := Str.keepB (hw _ (List.mem_of_getElem? (i := 2) rfl)) f1086 K1093 V1084
  have f1097 := Str.keepB (hw _ (List.mem_of_getElem? (i := 2) rfl)) f1087 K1093 V1084
  have f1098 := f1088.keep K1093 (ninS ne1011 nin0)
  have od1100 := od1090.keep K1093 (allS g_a6 all0)
  have z1101 := Nat.le_trans z1091 K1093.1
  clear f1086 f1087 f1088 V1084 od1090 z1091 cr1085
  refine Go.dup K at_274 rfl (pc' := 275) rfl ?_
  refine Go.bipush K (v := 8) at_275 rfl (pc' := 277) rfl ?_
  refine Go.bipush K (v := 32) at_277 rfl (pc' := 279) rfl ?_
  refine Go.castore K V1094 8 rfl (Nat.le_of_ble_eq_true rfl) ⟨by decide, by decide⟩ g_a6 at_279 (pc' := 280) rfl ?_
  intro h1102 K1103 V1104
  replace V1104 : Arv Z h1102 a6 kA_a6 .char (14 : Int32) [(.int (nar .char (84 : Int32))), (.int (nar .char (104 : Int32))), (.int (nar .char (101 : Int32))), (.int (nar .char (32 : Int32))), (.int (nar .char (110 : Int32))), (.int (nar .char (97 : Int32))), (.int (nar .char (109 : Int32))), (.int (nar .char (101 : Int32))), (.int (nar .char (32 : Int32))), (.int (0 : Int32)), (.int (0 : Int32)), (.int (0 : Int32)), (.int (0 : Int32)), (.int (0 : Int32))] (.int (0 : Int32)) := V1104
  have cr1105 := cr1095.trans (CHr.keep K1103 (sfS (Safe.arv K.cz.alike V1094 (by decide)) sf0) cr1095.1)
  have f1106 := Str.keepB (hw _ (List.mem_of_getElem? (i := 2) rfl)) f1096 K1103 V1094
  have f1107 := Str.keepB (hw _ (List.mem_of_getElem? (i := 2) rfl)) f1097 K1103 V1094
  have f1108 := f1098.keep K1103 (ninS ne1011 nin0)
  have od1110 := od1100.keep K1103 (allS g_a6 all0)
  have z1111 := Nat.le_trans z1101 K1103.1
  clear f1096 f1097 f1098 V1094 od1100 z1101 cr1095
  refine Go.dup K at_280 rfl (pc' := 281) rfl ?_
  refine Go.bipush K (v := 9) at_281 rfl (pc' := 283) rfl ?_
  refine Go.bipush K (v := 34) at_283 rfl (pc' := 285) rfl ?_
  refine Go.castore K V1104 9 rfl (Nat.le_of_ble_eq_true rfl) ⟨by decide, by decide⟩ g_a6 at_285 (pc' := 286) rfl ?_
  intro h1112 K1113 V1114
  replace V1114 : Arv Z h1112 a6 kA_a6 .char (14 : Int32) [(.int (nar .char (84 : Int32))), (.int (nar .char (104 : Int32))), (.int (nar .char (101 : Int32))), (.int (nar .char (32 : Int32))), (.int (nar .char (110 : Int32))), (.int (nar .char (97 : Int32))), (.int (nar .char (109 : Int32))), (.int (nar .char (101 : Int32))), (.int (nar .char (32 : Int32))), (.int (nar .char (34 : Int32))), (.int (0 : Int32)), (.int (0 : Int32)), (.int (0 : Int32)), (.int (0 : Int32))] (.int (0 : Int32)) := V1114
  have cr1115 := cr1105.trans (CHr.keep K1113 (sfS (Safe.arv K.cz.alike V1104 (by decide)) sf0) cr1105.1)
  have f1116 := Str.keepB (hw _ (List.mem_of_getElem? (i := 2) rfl)) f1106 K1113 V1104
  have f1117 := Str.keepB (hw _ (List.mem_of_getElem? (i := 2) rfl)) f1107 K1113 V1104
  have f1118 := f1108.keep K1113 (ninS ne1011 nin0)
  have od1120 := od1110.keep K1113 (allS g_a6 all0)
  have z1121 := Nat.le_trans z1111 K1113.1
  clear f1106 f1107 f1108 V1104 od1110 z1111 cr1105
  refine Go.dup K at_286 rfl (pc' := 287) rfl ?_
  refine Go.bipush K (v := 10) at_287 rfl (pc' := 289) rfl ?_
  refine Go.bipush K (v := 34) at_289 rfl (pc' := 291) rfl ?_
  refine Go.castore K V1114 10 rfl (Nat.le_of_ble_eq_true rfl) ⟨by decide, by decide⟩ g_a6 at_291 (pc' := 292) rfl ?_
  intro h1122 K1123 V1124
  replace V1124 : Arv Z h1122 a6 kA_a6 .char (14 : Int32) [(.int (nar .char (84 : Int32))), (.int (nar .char (104 : Int32))), (.int (nar .char (101 : Int32))), (.int (nar .char (32 : Int32))), (.int (nar .char (110 : Int32))), (.int (nar .char (97 : Int32))), (.int (nar .char (109 : Int32))), (.int (nar .char (101 : Int32))), (.int (nar .char (32 : Int32))), (.int (nar .char (34 : Int32))), (.int (nar .char (34 : Int32))), (.int (0 : Int32)), (.int (0 : Int32)), (.int (0 : Int32))] (.int (0 : Int32)) := V1124
  have cr1125 := cr1115.trans (CHr.keep K1123 (sfS (Safe.arv K.cz.alike V1114 (by decide)) sf0) cr1115.1)
  have f1126 := Str.keepB (hw _ (List.mem_of_getElem? (i := 2) rfl)) f1116 K1123 V1114
  have f1127 := Str.keepB (hw _ (List.mem_of_getElem? (i := 2) rfl)) f1117 K1123 V1114
  have f1128 := f1118.keep K1123 (ninS ne1011 nin0)
  have od1130 := od1120.keep K1123 (allS g_a6 all0)
  have z1131 := Nat.le_trans z1121 K1123.1
  clear f1116 f1117 f1118 V1114 od1120 z1121 cr1115
  refine Go.dup K at_292 rfl (pc' := 293) rfl ?_
  refine Go.bipush K (v := 11) at_293 rfl (pc' := 295) rfl ?_
  refine Go.bipush K (v := 32) at_295 rfl (pc' := 297) rfl ?_
  refine Go.castore K V1124 11 rfl (Nat.le_of_ble_eq_true rfl) ⟨by decide, by decide⟩ g_a6 at_297 (pc' := 298) rfl ?_
  intro h1132 K1133 V1134
  replace V1134 : Arv Z h1132 a6 kA_a6 .char (14 : Int32) [(.int (nar .char (84 : Int32))), (.int (nar .char (104 : Int32))), (.int (nar .char (101 : Int32))), (.int (nar .char (32 : Int32))), (.int (nar .char (110 : Int32))), (.int (nar .char (97 : Int32))), (.int (nar .char (109 : Int32))), (.int (nar .char (101 : Int32))), (.int (nar .char (32 : Int32))), (.int (nar .char (34 : Int32))), (.int (nar .char (34 : Int32))), (.int (nar .char (32 : Int32))), (.int (0 : Int32)), (.int (0 : Int32))] (.int (0 : Int32)) := V1134
  have cr1135 := cr1125.trans (CHr.keep K1133 (sfS (Safe.arv K.cz.alike V1124 (by decide)) sf0) cr1125.1)
  have f1136 := Str.keepB (hw _ (List.mem_of_getElem? (i := 2) rfl)) f1126 K1133 V1124
  have f1137 := Str.keepB (hw _ (List.mem_of_getElem? (i := 2) rfl)) f1127 K1133 V1124
  have f1138 := f1128.keep K1133 (ninS ne1011 nin0)
  have od1140 := od1130.keep K1133 (allS g_a6 all0)
  have z1141 := Nat.le_trans z1131 K1133.1
  clear f1126 f1127 f1128 V1124 od1130 z1131 cr1125
  refine Go.dup K at_298 rfl (pc' := 299) rfl ?_
  refine Go.bipush K (v := 12) at_299 rfl (pc' := 301) rfl ?_
  refine Go.iload K at_301 rfl (pc' := 303) rfl ?_
  refine Go.castore K V1134 12 rfl (Nat.le_of_ble_eq_true rfl) ⟨by decide, by decide⟩ g_a6 at_303 (pc' := 304) rfl ?_
  intro h1142 K1143 V1144
  replace V1144 : Arv Z h1142 a6 kA_a6 .char (14 : Int32) [(.int (nar .char (84 : Int32))), (.int (nar .char (104 : Int32))), (.int (nar .char (101 : Int32))), (.int (nar .char (32 : Int32))), (.int (nar .char (110 : Int32))), (.int (nar .char (97 : Int32))), (.int (nar .char (109 : Int32))), (.int (nar .char (101 : Int32))), (.int (nar .char (32 : Int32))), (.int (nar .char (34 : Int32))), (.int (nar .char (34 : Int32))), (.int (nar .char (32 : Int32))), (.int (nar .char c7)), (.int (0 : Int32))] (.int (0 : Int32)) := V1144
  have cr1145 := cr1135.trans (CHr.keep K1143 (sfS (Safe.arv K.cz.alike V1134 (by decide)) sf0) cr1135.1)
  have f1146 := Str.keepB (hw _ (List.mem_of_getElem? (i := 2) rfl)) f1136 K1143 V1134
  have f1147 := Str.keepB (hw _ (List.mem_of_getElem? (i := 2) rfl)) f1137 K1143 V1134
  have f1148 := f1138.keep K1143 (ninS ne1011 nin0)
  have od1150 := od1140.keep K1143 (allS g_a6 all0)
  have z1151 := Nat.le_trans z1141 K1143.1
  clear f1136 f1137 f1138 V1134 od1140 z1141 cr1135
  refine Go.dup K at_304 rfl (pc' := 305) rfl ?_
  refine Go.bipush K (v := 13) at_305 rfl (pc' := 307) rfl ?_
  refine Go.iload K at_307 rfl (pc' := 309) rfl ?_
  refine Go.castore K V1144 13 rfl (Nat.le_of_ble_eq_true rfl) ⟨by decide, by decide⟩ g_a6 at_309 (pc' := 310) rfl ?_
  intro h1152 K1153 V1154
  replace V1154 : Arv Z h1152 a6 kA_a6 .char (14 : Int32) [(.int (nar .char (84 : Int32))), (.int (nar .char (104 : Int32))), (.int (nar .char (101 : Int32))), (.int (nar .char (32 : Int32))), (.int (nar .char (110 : Int32))), (.int (nar .char (97 : Int32))), (.int (nar .char (109 : Int32))), (.int (nar .char (101 : Int32))), (.int (nar .char (32 : Int32))), (.int (nar .char (34 : Int32))), (.int (nar .char (34 : Int32))), (.int (nar .char (32 : Int32))), (.int (nar .char c7)), (.int (nar .char c8))] (.int (0 : Int32)) := V1154
  have cr1155 := cr1145.trans (CHr.keep K1153 (sfS (Safe.arv K.cz.alike V1144 (by decide)) sf0) cr1145.1)
  have f1156 := Str.keepB (hw _ (List.mem_of_getElem? (i := 2) rfl)) f1146 K1153 V1144
  have f1157 := Str.keepB (hw _ (List.mem_of_getElem? (i := 2) rfl)) f1147 K1153 V1144
  have f1158 := f1148.keep K1153 (ninS ne1011 nin0)
  have od1160 := od1150.keep K1153 (allS g_a6 all0)
  have z1161 := Nat.le_trans z1151 K1153.1
  clear f1146 f1147 f1148 V1144 od1150 z1151 cr1145
  refine Go.astore K at_310 rfl (Ls' := #[.val (.int p0), .val (.int p1), .val (.int p2), .val (.int p3), .val (.int p4), .val (.int c5), .val (.int c6), .val (.int c7), .val (.int c8), .val (.int x9), .val (.int x10), .val (.ref ar), .val (.ref br), .val (.ref na), .val (.ref ra), .val (.ref a5), .val (.ref a6), .unset, .unset, .unset, .unset, .unset]) rfl (pc' := 312) rfl ?_
  refine Go.bipush K (v := 14) at_312 rfl (pc' := 314) rfl ?_
  refine Go.newP K (hw _ (List.mem_of_getElem? (i := 0) rfl)) (by decide) 14 (by decide) (by decide) (by decide) (by decide) at_314 (pc' := 316) rfl ?_
  intro h1162 a7 kA_a7 eq1164 E1163 V_a7
  have ne1165 : a6 ≠ a7 := own_ne V1154.lt (Nat.le_of_eq eq1164.symm)
  have ne1166 : a5 ≠ a7 := own_ne f1158.lt (Nat.le_of_eq eq1164.symm)
  have g_a7 : n0 ≤ a7 := Nat.le_trans z1161 (Nat.le_of_eq eq1164.symm)
  have f1171 := f1156.ext E1163
  have f1172 := f1157.ext E1163
  have f1173 := f1158.ext E1163
  have f1174 := V1154.ext E1163
  have od1175 := od1160.ext E1163
  have z1176 := Nat.le_trans z1161 E1163.1
  have cr1177 := cr1155.trans (CHr.ext E1163 cr1155.1)
  clear f1156 f1157 f1158 V1154 od1160 z1161 cr1155
  have V1178 : Arv Z h1162 a7 kA_a7 .char (14 : Int32) [(.int (0 : Int32)), (.int (0 : Int32)), (.int (0 : Int32)), (.int (0 : Int32)), (.int (0 : Int32)), (.int (0 : Int32)), (.int (0 : Int32)), (.int (0 : Int32)), (.int (0 : Int32)), (.int (0 : Int32)), (.int (0 : Int32)), (.int (0 : Int32)), (.int (0 : Int32)), (.int (0 : Int32))] (.int (0 : Int32)) := V_a7.pad (pad_rep [] (.int (0 : Int32)) 14)
  refine Go.dup K at_316 rfl (pc' := 317) rfl ?_
  refine Go.iconst K (v := 0) at_317 rfl (pc' := 318) rfl ?_
  refine Go.bipush K (v := 84) at_318 rfl (pc' := 320) rfl ?_
  refine Go.castore K V1178 0 rfl (Nat.le_of_ble_eq_true rfl) ⟨by decide, by decide⟩ g_a7 at_320 (pc' := 321) rfl ?_
  intro h1179 K1180 V1181
  replace V1181 : Arv Z h1179 a7 kA_a7 .char (14 : Int32) [(.int (nar .char (84 : Int32))), (.int (0 : Int32)), (.int (0 : Int32)), (.int (0 : Int32)), (.int (0 : Int32)), (.int (0 : Int32)), (.int (0 : Int32)), (.int (0 : Int32)), (.int (0 : Int32)), (.int (0 : Int32)), (.int (0 : Int32)), (.int (0 : Int32)), (.int (0 : Int32)), (.int (0 : Int32))] (.int (0 : Int32)) := V1181
  have cr1182 := cr1177.trans (CHr.keep K1180 (sfS (Safe.arv K.cz.alike V1178 (by decide)) sf0) cr1177.1)
  have f1183 := Str.keepB (hw _ (List.mem_of_getElem? (i := 2) rfl)) f1171 K1180 V1178
  have f1184 := Str.keepB (hw _ (List.mem_of_getElem? (i := 2) rfl)) f1172 K1180 V1178
  have f1185 := f1173.keep K1180 (ninS ne1166 nin0)
  have f1186 := f1174.keep K1180 (ninS ne1165 nin0)
  have od1188 := od1175.keep K1180 (allS g_a7 all0)
  have z1189 := Nat.le_trans z1176 K1180.1
  clear f1171 f1172 f1173 f1174 V1178 od1175 z1176 cr1177
  refine Go.dup K at_321 rfl (pc' := 322) rfl ?_
  refine Go.iconst K (v := 1) at_322 rfl (pc' := 323) rfl ?_
  refine Go.bipush K (v := 104) at_323 rfl (pc' := 325) rfl ?_
  refine Go.castore K V1181 1 rfl (Nat.le_of_ble_eq_true rfl) ⟨by decide, by decide⟩ g_a7 at_325 (pc' := 326) rfl ?_
  intro h1190 K1191 V1192
  replace V1192 : Arv Z h1190 a7 kA_a7 .char (14 : Int32) [(.int (nar .char (84 : Int32))), (.int (nar .char (104 : Int32))), (.int (0 : Int32)), (.int (0 : Int32)), (.int (0 : Int32)), (.int (0 : Int32)), (.int (0 : Int32)), (.int (0 : Int32)), (.int (0 : Int32)), (.int (0 : Int32)), (.int (0 : Int32)), (.int (0 : Int32)), (.int (0 : Int32)), (.int (0 : Int32))] (.int (0 : Int32)) := V1192
  have cr1193 := cr1182.trans (CHr.keep K1191 (sfS (Safe.arv K.cz.alike V1181 (by decide)) sf0) cr1182.1)
  have f1194 := Str.keepB (hw _ (List.mem_of_getElem? (i := 2) rfl)) f1183 K1191 V1181
  have f1195 := Str.keepB (hw _ (List.mem_of_getElem? (i := 2) rfl)) f1184 K1191 V1181
  have f1196 := f1185.keep K1191 (ninS ne1166 nin0)
  have f1197 := f1186.keep K1191 (ninS ne1165 nin0)
  have od1199 := od1188.keep K1191 (allS g_a7 all0)
  have z1200 := Nat.le_trans z1189 K1191.1
  clear f1183 f1184 f1185 f1186 V1181 od1188 z1189 cr1182
  refine Go.dup K at_326 rfl (pc' := 327) rfl ?_
  refine Go.iconst K (v := 2) at_327 rfl (pc' := 328) rfl ?_
  refine Go.bipush K (v := 101) at_328 rfl (pc' := 330) rfl ?_
  refine Go.castore K V1192 2 rfl (Nat.le_of_ble_eq_true rfl) ⟨by decide, by decide⟩ g_a7 at_330 (pc' := 331) rfl ?_
  intro h1201 K1202 V1203
  replace V1203 : Arv Z h1201 a7 kA_a7 .char (14 : Int32) [(.int (nar .char (84 : Int32))), (.int (nar .char (104 : Int32))), (.int (nar .char (101 : Int32))), (.int (0 : Int32)), (.int (0 : Int32)), (.int (0 : Int32)), (.int (0 : Int32)), (.int (0 : Int32)), (.int (0 : Int32)), (.int (0 : Int32)), (.int (0 : Int32)), (.int (0 : Int32)), (.int (0 : Int32)), (.int (0 : Int32))] (.int (0 : Int32)) := V1203
  have cr1204 := cr1193.trans (CHr.keep K1202 (sfS (Safe.arv K.cz.alike V1192 (by decide)) sf0) cr1193.1)
  have f1205 := Str.keepB (hw _ (List.mem_of_getElem? (i := 2) rfl)) f1194 K1202 V1192
  have f1206 := Str.keepB (hw _ (List.mem_of_getElem? (i := 2) rfl)) f1195 K1202 V1192
  have f1207 := f1196.keep K1202 (ninS ne1166 nin0)
  have f1208 := f1197.keep K1202 (ninS ne1165 nin0)
  have od1210 := od1199.keep K1202 (allS g_a7 all0)
  have z1211 := Nat.le_trans z1200 K1202.1
  clear f1194 f1195 f1196 f1197 V1192 od1199 z1200 cr1193
  refine Go.dup K at_331 rfl (pc' := 332) rfl ?_
  refine Go.iconst K (v := 3) at_332 rfl (pc' := 333) rfl ?_
  refine Go.bipush K (v := 32) at_333 rfl (pc' := 335) rfl ?_
  refine Go.castore K V1203 3 rfl (Nat.le_of_ble_eq_true rfl) ⟨by decide, by decide⟩ g_a7 at_335 (pc' := 336) rfl ?_
  intro h1212 K1213 V1214
  replace V1214 : Arv Z h1212 a7 kA_a7 .char (14 : Int32) [(.int (nar .char (84 : Int32))), (.int (nar .char (104 : Int32))), (.int (nar .char (101 : Int32))), (.int (nar .char (32 : Int32))), (.int (0 : Int32)), (.int (0 : Int32)), (.int (0 : Int32)), (.int (0 : Int32)), (.int (0 : Int32)), (.int (0 : Int32)), (.int (0 : Int32)), (.int (0 : Int32)), (.int (0 : Int32)), (.int (0 : Int32))] (.int (0 : Int32)) := V1214
  have cr1215 := cr1204.trans (CHr.keep K1213 (sfS (Safe.arv K.cz.alike V1203 (by decide)) sf0) cr1204.1)
  have f1216 := Str.keepB (hw _ (List.mem_of_getElem? (i := 2) rfl)) f1205 K1213 V1203
  have f1217 := Str.keepB (hw _ (List.mem_of_getElem? (i := 2) rfl)) f1206 K1213 V1203
  have f1218 := f1207.keep K1213 (ninS ne1166 nin0)
  have f1219 := f1208.keep K1213 (ninS ne1165 nin0)
  have od1221 := od1210.keep K1213 (allS g_a7 all0)
  have z1222 := Nat.le_trans z1211 K1213.1
  clear f1205 f1206 f1207 f1208 V1203 od1210 z1211 cr1204
  refine Go.dup K at_336 rfl (pc' := 337) rfl ?_
  refine Go.iconst K (v := 4) at_337 rfl (pc' := 338) rfl ?_
  refine Go.bipush K (v := 110) at_338 rfl (pc' := 340) rfl ?_
  refine Go.castore K V1214 4 rfl (Nat.le_of_ble_eq_true rfl) ⟨by decide, by decide⟩ g_a7 at_340 (pc' := 341) rfl ?_
  intro h1223 K1224 V1225
  replace V1225 : Arv Z h1223 a7 kA_a7 .char (14 : Int32) [(.int (nar .char (84 : Int32))), (.int (nar .char (104 : Int32))), (.int (nar .char (101 : Int32))), (.int (nar .char (32 : Int32))), (.int (nar .char (110 : Int32))), (.int (0 : Int32)), (.int (0 : Int32)), (.int (0 : Int32)), (.int (0 : Int32)), (.int (0 : Int32)), (.int (0 : Int32)), (.int (0 : Int32)), (.int (0 : Int32)), (.int (0 : Int32))] (.int (0 : Int32)) := V1225
  have cr1226 := cr1215.trans (CHr.keep K1224 (sfS (Safe.arv K.cz.alike V1214 (by decide)) sf0) cr1215.1)
  have f1227 := Str.keepB (hw _ (List.mem_of_getElem? (i := 2) rfl)) f1216 K1224 V1214
  have f1228 := Str.keepB (hw _ (List.mem_of_getElem? (i := 2) rfl)) f1217 K1224 V1214
  have f1229 := f1218.keep K1224 (ninS ne1166 nin0)
  have f1230 := f1219.keep K1224 (ninS ne1165 nin0)
  have od1232 := od1221.keep K1224 (allS g_a7 all0)
  have z1233 := Nat.le_trans z1222 K1224.1
  clear f1216 f1217 f1218 f1219 V1214 od1221 z1222 cr1215
  refine Go.dup K at_341 rfl (pc' := 342) rfl ?_
  refine Go.iconst K (v := 5) at_342 rfl (pc' := 343) rfl ?_
  refine Go.bipush K (v := 97) at_343 rfl (pc' := 345) rfl ?_
  refine Go.castore K V1225 5 rfl (Nat.le_of_ble_eq_true rfl) ⟨by decide, by decide⟩ g_a7 at_345 (pc' := 346) rfl ?_
  intro h1234 K1235 V1236
  replace V1236 : Arv Z h1234 a7 kA_a7 .char (14 : Int32) [(.int (nar .char (84 : Int32))), (.int (nar .char (104 : Int32))), (.int (nar .char (101 : Int32))), (.int (nar .char (32 : Int32))), (.int (nar .char (110 : Int32))), (.int (nar .char (97 : Int32))), (.int (0 : Int32)), (.int (0 : Int32)), (.int (0 : Int32)), (.int (0 : Int32)), (.int (0 : Int32)), (.int (0 : Int32)), (.int (0 : Int32)), (.int (0 : Int32))] (.int (0 : Int32)) := V1236
  have cr1237 := cr1226.trans (CHr.keep K1235 (sfS (Safe.arv K.cz.alike V1225 (by decide)) sf0) cr1226.1)
  have f1238 := Str.keepB (hw _ (List.mem_of_getElem? (i := 2) rfl)) f1227 K1235 V1225
  have f1239 := Str.keepB (hw _ (List.mem_of_getElem? (i := 2) rfl)) f1228 K1235 V1225
  have f1240 := f1229.keep K1235 (ninS ne1166 nin0)
  have f1241 := f1230.keep K1235 (ninS ne1165 nin0)
  have od1243 := od1232.keep K1235 (allS g_a7 all0)
  have z1244 := Nat.le_trans z1233 K1235.1
  clear f1227 f1228 f1229 f1230 V1225 od1232 z1233 cr1226
  refine Go.dup K at_346 rfl (pc' := 347) rfl ?_
  refine Go.bipush K (v := 6) at_347 rfl (pc' := 349) rfl ?_
  refine Go.bipush K (v := 109) at_349 rfl (pc' := 351) rfl ?_
  refine Go.castore K V1236 6 rfl (Nat.le_of_ble_eq_true rfl) ⟨by decide, by decide⟩ g_a7 at_351 (pc' := 352) rfl ?_
  intro h1245 K1246 V1247
  replace V1247 : Arv Z h1245 a7 kA_a7 .char (14 : Int32) [(.int (nar .char (84 : Int32))), (.int (nar .char (104 : Int32))), (.int (nar .char (101 : Int32))), (.int (nar .char (32 : Int32))), (.int (nar .char (110 : Int32))), (.int (nar .char (97 : Int32))), (.int (nar .char (109 : Int32))), (.int (0 : Int32)), (.int (0 : Int32)), (.int (0 : Int32)), (.int (0 : Int32)), (.int (0 : Int32)), (.int (0 : Int32)), (.int (0 : Int32))] (.int (0 : Int32)) := V1247
  have cr1248 := cr1237.trans (CHr.keep K1246 (sfS (Safe.arv K.cz.alike V1236 (by decide)) sf0) cr1237.1)
  have f1249 := Str.keepB (hw _ (List.mem_of_getElem? (i := 2) rfl)) f1238 K1246 V1236
  have f1250 := Str.keepB (hw _ (List.mem_of_getElem? (i := 2) rfl)) f1239 K1246 V1236
  have f1251 := f1240.keep K1246 (ninS ne1166 nin0)
  have f1252 := f1241.keep K1246 (ninS ne1165 nin0)
  have od1254 := od1243.keep K1246 (allS g_a7 all0)
  have z1255 := Nat.le_trans z1244 K1246.1
  clear f1238 f1239 f1240 f1241 V1236 od1243 z1244 cr1237
  refine Go.dup K at_352 rfl (pc' := 353) rfl ?_
  refine Go.bipush K (v := 7) at_353 rfl (pc' := 355) rfl ?_
  refine Go.bipush K (v := 101) at_355 rfl (pc' := 357) rfl ?_
  refine Go.castore K V1247 7 rfl (Nat.le_of_ble_eq_true rfl) ⟨by decide, by decide⟩ g_a7 at_357 (pc' := 358) rfl ?_
  intro h1256 K1257 V1258
  replace V1258 : Arv Z h1256 a7 kA_a7 .char (14 : Int32) [(.int (nar .char (84 : Int32))), (.int (nar .char (104 : Int32))), (.int (nar .char (101 : Int32))), (.int (nar .char (32 : Int32))), (.int (nar .char (110 : Int32))), (.int (nar .char (97 : Int32))), (.int (nar .char (109 : Int32))), (.int (nar .char (101 : Int32))), (.int (0 : Int32)), (.int (0 : Int32)), (.int (0 : Int32)), (.int (0 : Int32)), (.int (0 : Int32)), (.int (0 : Int32))] (.int (0 : Int32)) := V1258
  have cr1259 := cr1248.trans (CHr.keep K1257 (sfS (Safe.arv K.cz.alike V1247 (by decide)) sf0) cr1248.1)
  have f1260 := Str.keepB (hw _ (List.mem_of_getElem? (i := 2) rfl)) f1249 K1257 V1247
  have f1261 := Str.keepB (hw _ (List.mem_of_getElem? (i := 2) rfl)) f1250 K1257 V1247
  have f1262 := f1251.keep K1257 (ninS ne1166 nin0)
  have f1263 := f1252.keep K1257 (ninS ne1165 nin0)
  have od1265 := od1254.keep K1257 (allS g_a7 all0)
  have z1266 := Nat.le_trans z1255 K1257.1
  clear f1249 f1250 f1251 f1252 V1247 od1254 z1255 cr1248
  refine Go.dup K at_358 rfl (pc' := 359) rfl ?_
  refine Go.bipush K (v := 8) at_359 rfl (pc' := 361) rfl ?_
  refine Go.bipush K (v := 32) at_361 rfl (pc' := 363) rfl ?_
  refine Go.castore K V1258 8 rfl (Nat.le_of_ble_eq_true rfl) ⟨by decide, by decide⟩ g_a7 at_363 (pc' := 364) rfl ?_
  intro h1267 K1268 V1269
  replace V1269 : Arv Z h1267 a7 kA_a7 .char (14 : Int32) [(.int (nar .char (84 : Int32))), (.int (nar .char (104 : Int32))), (.int (nar .char (101 : Int32))), (.int (nar .char (32 : Int32))), (.int (nar .char (110 : Int32))), (.int (nar .char (97 : Int32))), (.int (nar .char (109 : Int32))), (.int (nar .char (101 : Int32))), (.int (nar .char (32 : Int32))), (.int (0 : Int32)), (.int (0 : Int32)), (.int (0 : Int32)), (.int (0 : Int32)), (.int (0 : Int32))] (.int (0 : Int32)) := V1269
  have cr1270 := cr1259.trans (CHr.keep K1268 (sfS (Safe.arv K.cz.alike V1258 (by decide)) sf0) cr1259.1)
  have f1271 := Str.keepB (hw _ (List.mem_of_getElem? (i := 2) rfl)) f1260 K1268 V1258
  have f1272 := Str.keepB (hw _ (List.mem_of_getElem? (i := 2) rfl)) f1261 K1268 V1258
  have f1273 := f1262.keep K1268 (ninS ne1166 nin0)
  have f1274 := f1263.keep K1268 (ninS ne1165 nin0)
  have od1276 := od1265.keep K1268 (allS g_a7 all0)
  have z1277 := Nat.le_trans z1266 K1268.1
  clear f1260 f1261 f1262 f1263 V1258 od1265 z1266 cr1259
  refine Go.dup K at_364 rfl (pc' := 365) rfl ?_
  refine Go.bipush K (v := 9) at_365 rfl (pc' := 367) rfl ?_
  refine Go.bipush K (v := 34) at_367 rfl (pc' := 369) rfl ?_
  refine Go.castore K V1269 9 rfl (Nat.le_of_ble_eq_true rfl) ⟨by decide, by decide⟩ g_a7 at_369 (pc' := 370) rfl ?_
  intro h1278 K1279 V1280
  replace V1280 : Arv Z h1278 a7 kA_a7 .char (14 : Int32) [(.int (nar .char (84 : Int32))), (.int (nar .char (104 : Int32))), (.int (nar .char (101 : Int32))), (.int (nar .char (32 : Int32))), (.int (nar .char (110 : Int32))), (.int (nar .char (97 : Int32))), (.int (nar .char (109 : Int32))), (.int (nar .char (101 : Int32))), (.int (nar .char (32 : Int32))), (.int (nar .char (34 : Int32))), (.int (0 : Int32)), (.int (0 : Int32)), (.int (0 : Int32)), (.int (0 : Int32))] (.int (0 : Int32)) := V1280
  have cr1281 := cr1270.trans (CHr.keep K1279 (sfS (Safe.arv K.cz.alike V1269 (by decide)) sf0) cr1270.1)
  have f1282 := Str.keepB (hw _ (List.mem_of_getElem? (i := 2) rfl)) f1271 K1279 V1269
  have f1283 := Str.keepB (hw _ (List.mem_of_getElem? (i := 2) rfl)) f1272 K1279 V1269
  have f1284 := f1273.keep K1279 (ninS ne1166 nin0)
  have f1285 := f1274.keep K1279 (ninS ne1165 nin0)
  have od1287 := od1276.keep K1279 (allS g_a7 all0)
  have z1288 := Nat.le_trans z1277 K1279.1
  clear f1271 f1272 f1273 f1274 V1269 od1276 z1277 cr1270
  refine Go.dup K at_370 rfl (pc' := 371) rfl ?_
  refine Go.bipush K (v := 10) at_371 rfl (pc' := 373) rfl ?_
  refine Go.iload K at_373 rfl (pc' := 375) rfl ?_
  refine Go.castore K V1280 10 rfl (Nat.le_of_ble_eq_true rfl) ⟨by decide, by decide⟩ g_a7 at_375 (pc' := 376) rfl ?_
  intro h1289 K1290 V1291
  replace V1291 : Arv Z h1289 a7 kA_a7 .char (14 : Int32) [(.int (nar .char (84 : Int32))), (.int (nar .char (104 : Int32))), (.int (nar .char (101 : Int32))), (.int (nar .char (32 : Int32))), (.int (nar .char (110 : Int32))), (.int (nar .char (97 : Int32))), (.int (nar .char (109 : Int32))), (.int (nar .char (101 : Int32))), (.int (nar .char (32 : Int32))), (.int (nar .char (34 : Int32))), (.int (nar .char c5)), (.int (0 : Int32)), (.int (0 : Int32)), (.int (0 : Int32))] (.int (0 : Int32)) := V1291
  have cr1292 := cr1281.trans (CHr.keep K1290 (sfS (Safe.arv K.cz.alike V1280 (by decide)) sf0) cr1281.1)
  have f1293 := Str.keepB (hw _ (List.mem_of_getElem? (i := 2) rfl)) f1282 K1290 V1280
  have f1294 := Str.keepB (hw _ (List.mem_of_getElem? (i := 2) rfl)) f1283 K1290 V1280
  have f1295 := f1284.keep K1290 (ninS ne1166 nin0)
  have f1296 := f1285.keep K1290 (ninS ne1165 nin0)
  have od1298 := od1287.keep K1290 (allS g_a7 all0)
  have z1299 := Nat.le_trans z1288 K1290.1
  clear f1282 f1283 f1284 f1285 V1280 od1287 z1288 cr1281
  refine Go.dup K at_376 rfl (pc' := 377) rfl ?_
  refine Go.bipush K (v := 11) at_377 rfl (pc' := 379) rfl ?_
  refine Go.iload K at_379 rfl (pc' := 381) rfl ?_
  refine Go.castore K V1291 11 rfl (Nat.le_of_ble_eq_true rfl) ⟨by decide, by decide⟩ g_a7 at_381 (pc' := 382) rfl ?_
  intro h1300 K1301 V1302
  replace V1302 : Arv Z h1300 a7 kA_a7 .char (14 : Int32) [(.int (nar .char (84 : Int32))), (.int (nar .char (104 : Int32))), (.int (nar .char (101 : Int32))), (.int (nar .char (32 : Int32))), (.int (nar .char (110 : Int32))), (.int (nar .char (97 : Int32))), (.int (nar .char (109 : Int32))), (.int (nar .char (101 : Int32))), (.int (nar .char (32 : Int32))), (.int (nar .char (34 : Int32))), (.int (nar .char c5)), (.int (nar .char c6)), (.int (0 : Int32)), (.int (0 : Int32))] (.int (0 : Int32)) := V1302
  have cr1303 := cr1292.trans (CHr.keep K1301 (sfS (Safe.arv K.cz.alike V1291 (by decide)) sf0) cr1292.1)
  have f1304 := Str.keepB (hw _ (List.mem_of_getElem? (i := 2) rfl)) f1293 K1301 V1291
  have f1305 := Str.keepB (hw _ (List.mem_of_getElem? (i := 2) rfl)) f1294 K1301 V1291
  have f1306 := f1295.keep K1301 (ninS ne1166 nin0)
  have f1307 := f1296.keep K1301 (ninS ne1165 nin0)
  have od1309 := od1298.keep K1301 (allS g_a7 all0)
  have z1310 := Nat.le_trans z1299 K1301.1
  clear f1293 f1294 f1295 f1296 V1291 od1298 z1299 cr1292
  refine Go.dup K at_382 rfl (pc' := 383) rfl ?_
  refine Go.bipush K (v := 12) at_383 rfl (pc' := 385) rfl ?_
  refine Go.bipush K (v := 34) at_385 rfl (pc' := 387) rfl ?_
  refine Go.castore K V1302 12 rfl (Nat.le_of_ble_eq_true rfl) ⟨by decide, by decide⟩ g_a7 at_387 (pc' := 388) rfl ?_
  intro h1311 K1312 V1313
  replace V1313 : Arv Z h1311 a7 kA_a7 .char (14 : Int32) [(.int (nar .char (84 : Int32))), (.int (nar .char (104 : Int32))), (.int (nar .char (101 : Int32))), (.int (nar .char (32 : Int32))), (.int (nar .char (110 : Int32))), (.int (nar .char (97 : Int32))), (.int (nar .char (109 : Int32))), (.int (nar .char (101 : Int32))), (.int (nar .char (32 : Int32))), (.int (nar .char (34 : Int32))), (.int (nar .char c5)), (.int (nar .char c6)), (.int (nar .char (34 : Int32))), (.int (0 : Int32))] (.int (0 : Int32)) := V1313
  have cr1314 := cr1303.trans (CHr.keep K1312 (sfS (Safe.arv K.cz.alike V1302 (by decide)) sf0) cr1303.1)
  have f1315 := Str.keepB (hw _ (List.mem_of_getElem? (i := 2) rfl)) f1304 K1312 V1302
  have f1316 := Str.keepB (hw _ (List.mem_of_getElem? (i := 2) rfl)) f1305 K1312 V1302
  have f1317 := f1306.keep K1312 (ninS ne1166 nin0)
  have f1318 := f1307.keep K1312 (ninS ne1165 nin0)
  have od1320 := od1309.keep K1312 (allS g_a7 all0)
  have z1321 := Nat.le_trans z1310 K1312.1
  clear f1304 f1305 f1306 f1307 V1302 od1309 z1310 cr1303
  refine Go.dup K at_388 rfl (pc' := 389) rfl ?_
  refine Go.bipush K (v := 13) at_389 rfl (pc' := 391) rfl ?_
  refine Go.bipush K (v := 32) at_391 rfl (pc' := 393) rfl ?_
  refine Go.castore K V1313 13 rfl (Nat.le_of_ble_eq_true rfl) ⟨by decide, by decide⟩ g_a7 at_393 (pc' := 394) rfl ?_
  intro h1322 K1323 V1324
  replace V1324 : Arv Z h1322 a7 kA_a7 .char (14 : Int32) [(.int (nar .char (84 : Int32))), (.int (nar .char (104 : Int32))), (.int (nar .char (101 : Int32))), (.int (nar .char (32 : Int32))), (.int (nar .char (110 : Int32))), (.int (nar .char (97 : Int32))), (.int (nar .char (109 : Int32))), (.int (nar .char (101 : Int32))), (.int (nar .char (32 : Int32))), (.int (nar .char (34 : Int32))), (.int (nar .char c5)), (.int (nar .char c6)), (.int (nar .char (34 : Int32))), (.int (nar .char (32 : Int32)))] (.int (0 : Int32)) := V1324
  have cr1325 := cr1314.trans (CHr.keep K1323 (sfS (Safe.arv K.cz.alike V1313 (by decide)) sf0) cr1314.1)
  have f1326 := Str.keepB (hw _ (List.mem_of_getElem? (i := 2) rfl)) f1315 K1323 V1313
  have f1327 := Str.keepB (hw _ (List.mem_of_getElem? (i := 2) rfl)) f1316 K1323 V1313
  have f1328 := f1317.keep K1323 (ninS ne1166 nin0)
  have f1329 := f1318.keep K1323 (ninS ne1165 nin0)
  have od1331 := od1320.keep K1323 (allS g_a7 all0)
  have z1332 := Nat.le_trans z1321 K1323.1
  clear f1315 f1316 f1317 f1318 V1313 od1320 z1321 cr1314
  refine Go.astore K at_394 rfl (Ls' := #[.val (.int p0), .val (.int p1), .val (.int p2), .val (.int p3), .val (.int p4), .val (.int c5), .val (.int c6), .val (.int c7), .val (.int c8), .val (.int x9), .val (.int x10), .val (.ref ar), .val (.ref br), .val (.ref na), .val (.ref ra), .val (.ref a5), .val (.ref a6), .val (.ref a7), .unset, .unset, .unset, .unset]) rfl (pc' := 396) rfl ?_
  refine Go.bipush K (v := 12) at_396 rfl (pc' := 398) rfl ?_
  refine Go.newP K (hw _ (List.mem_of_getElem? (i := 0) rfl)) (by decide) 12 (by decide) (by decide) (by decide) (by decide) at_398 (pc' := 400) rfl ?_
  intro h1333 a8 kA_a8 eq1335 E1334 V_a8
  have ne1336 : a7 ≠ a8 := own_ne V1324.lt (Nat.le_of_eq eq1335.symm)
  have ne1337 : a6 ≠ a8 := own_ne f1329.lt (Nat.le_of_eq eq1335.symm)
  have ne1338 : a5 ≠ a8 := own_ne f1328.lt (Nat.le_of_eq eq1335.symm)
  have g_a8 : n0 ≤ a8 := Nat.le_trans z1332 (Nat.le_of_eq eq1335.symm)
  have f1344 := f1326.ext E1334
  have f1345 := f1327.ext E1334
  have f1346 := f1328.ext E1334
  have f1347 := f1329.ext E1334
  have f1348 := V1324.ext E1334
  have od1349 := od1331.ext E1334
  have z1350 := Nat.le_trans z1332 E1334.1
  have cr1351 := cr1325.trans (CHr.ext E1334 cr1325.1)
  clear f1326 f1327 f1328 f1329 V1324 od1331 z1332 cr1325
  have V1352 : Arv Z h1333 a8 kA_a8 .char (12 : Int32) [(.int (0 : Int32)), (.int (0 : Int32)), (.int (0 : Int32)), (.int (0 : Int32)), (.int (0 : Int32)), (.int (0 : Int32)), (.int (0 : Int32)), (.int (0 : Int32)), (.int (0 : Int32)), (.int (0 : Int32)), (.int (0 : Int32)), (.int (0 : Int32))] (.int (0 : Int32)) := V_a8.pad (pad_rep [] (.int (0 : Int32)) 12)
  refine Go.dup K at_400 rfl (pc' := 401) rfl ?_
  refine Go.iconst K (v := 0) at_401 rfl (pc' := 402) rfl ?_
  refine Go.bipush K (v := 84) at_402 rfl (pc' := 404) rfl ?_
  refine Go.castore K V1352 0 rfl (Nat.le_of_ble_eq_true rfl) ⟨by decide, by decide⟩ g_a8 at_404 (pc' := 405) rfl ?_
  intro h1353 K1354 V1355
  replace V1355 : Arv Z h1353 a8 kA_a8 .char (12 : Int32) [(.int (nar .char (84 : Int32))), (.int (0 : Int32)), (.int (0 : Int32)), (.int (0 : Int32)), (.int (0 : Int32)), (.int (0 : Int32)), (.int (0 : Int32)), (.int (0 : Int32)), (.int (0 : Int32)), (.int (0 : Int32)), (.int (0 : Int32)), (.int (0 : Int32))] (.int (0 : Int32)) := V1355
  have cr1356 := cr1351.trans (CHr.keep K1354 (sfS (Safe.arv K.cz.alike V1352 (by decide)) sf0) cr1351.1)
  have f1357 := Str.keepB (hw _ (List.mem_of_getElem? (i := 2) rfl)) f1344 K1354 V1352
  have f1358 := Str.keepB (hw _ (List.mem_of_getElem? (i := 2) rfl)) f1345 K1354 V1352
  have f1359 := f1346.keep K1354 (ninS ne1338 nin0)
  have f1360 := f1347.keep K1354 (ninS ne1337 nin0)
  have f1361 := f1348.keep K1354 (ninS ne1336 nin0)
  have od1363 := od1349.keep K1354 (allS g_a8 all0)
  have z1364 := Nat.le_trans z1350 K1354.1
  clear f1344 f1345 f1346 f1347 f1348 V1352 od1349 z1350 cr1351
  refine Go.dup K at_405 rfl (pc' := 406) rfl ?_
  refine Go.iconst K (v := 1) at_406 rfl (pc' := 407) rfl ?_
  refine Go.bipush K (v := 104) at_407 rfl (pc' := 409) rfl ?_
  refine Go.castore K V1355 1 rfl (Nat.le_of_ble_eq_true rfl) ⟨by decide, by decide⟩ g_a8 at_409 (pc' := 410) rfl ?_
  intro h1365 K1366 V1367
  replace V1367 : Arv Z h1365 a8 kA_a8 .char (12 : Int32) [(.int (nar .char (84 : Int32))), (.int (nar .char (104 : Int32))), (.int (0 : Int32)), (.int (0 : Int32)), (.int (0 : Int32)), (.int (0 : Int32)), (.int (0 : Int32)), (.int (0 : Int32)), (.int (0 : Int32)), (.int (0 : Int32)), (.int (0 : Int32)), (.int (0 : Int32))] (.int (0 : Int32)) := V1367
  have cr1368 := cr1356.trans (CHr.keep K1366 (sfS (Safe.arv K.cz.alike V1355 (by decide)) sf0) cr1356.1)
  have f1369 := Str.keepB (hw _ (List.mem_of_getElem? (i := 2) rfl)) f1357 K1366 V1355
  have f1370 := Str.keepB (hw _ (List.mem_of_getElem? (i := 2) rfl)) f1358 K1366 V1355
  have f1371 := f1359.keep K1366 (ninS ne1338 nin0)
  have f1372 := f1360.keep K1366 (ninS ne1337 nin0)
  have f1373 := f1361.keep K1366 (ninS ne1336 nin0)
  have od1375 := od1363.keep K1366 (allS g_a8 all0)
  have z1376 := Nat.le_trans z1364 K1366.1
  clear f1357 f1358 f1359 f1360 f1361 V1355 od1363 z1364 cr1356
  refine Go.dup K at_410 rfl (pc' := 411) rfl ?_
  refine Go.iconst K (v := 2) at_411 rfl (pc' := 412) rfl ?_
  refine Go.bipush K (v := 101) at_412 rfl (pc' := 414) rfl ?_
  refine Go.castore K V1367 2 rfl (Nat.le_of_ble_eq_true rfl) ⟨by decide, by decide⟩ g_a8 at_414 (pc' := 415) rfl ?_
  intro h1377 K1378 V1379
  replace V1379 : Arv Z h1377 a8 kA_a8 .char (12 : Int32) [(.int (nar .char (84 : Int32))), (.int (nar .char (104 : Int32))), (.int (nar .char (101 : Int32))), (.int (0 : Int32)), (.int (0 : Int32)), (.int (0 : Int32)), (.int (0 : Int32)), (.int (0 : Int32)), (.int (0 : Int32)), (.int (0 : Int32)), (.int (0 : Int32)), (.int (0 : Int32))] (.int (0 : Int32)) := V1379
  have cr1380 := cr1368.trans (CHr.keep K1378 (sfS (Safe.arv K.cz.alike V1367 (by decide)) sf0) cr1368.1)
  have f1381 := Str.keepB (hw _ (List.mem_of_getElem? (i := 2) rfl)) f1369 K1378 V1367
  have f1382 := Str.keepB (hw _ (List.mem_of_getElem? (i := 2) rfl)) f1370 K1378 V1367
  have f1383 := f1371.keep K1378 (ninS ne1338 nin0)
  have f1384 := f1372.keep K1378 (ninS ne1337 nin0)
  have f1385 := f1373.keep K1378 (ninS ne1336 nin0)
  have od1387 := od1375.keep K1378 (allS g_a8 all0)
  have z1388 := Nat.le_trans z1376 K1378.1
  clear f1369 f1370 f1371 f1372 f1373 V1367 od1375 z1376 cr1368
  refine Go.dup K at_415 rfl (pc' := 416) rfl ?_
  refine Go.iconst K (v := 3) at_416 rfl (pc' := 417) rfl ?_
  refine Go.bipush K (v := 32) at_417 rfl (pc' := 419) rfl ?_
  refine Go.castore K V1379 3 rfl (Nat.le_of_ble_eq_true rfl) ⟨by decide, by decide⟩ g_a8 at_419 (pc' := 420) rfl ?_
  intro h1389 K1390 V1391
  replace V1391 : Arv Z h1389 a8 kA_a8 .char (12 : Int32) [(.int (nar .char (84 : Int32))), (.int (nar .char (104 : Int32))), (.int (nar .char (101 : Int32))), (.int (nar .char (32 : Int32))), (.int (0 : Int32)), (.int (0 : Int32)), (.int (0 : Int32)), (.int (0 : Int32)), (.int (0 : Int32)), (.int (0 : Int32)), (.int (0 : Int32)), (.int (0 : Int32))] (.int (0 : Int32)) := V1391
  have cr1392 := cr1380.trans (CHr.keep K1390 (sfS (Safe.arv K.cz.alike V1379 (by decide)) sf0) cr1380.1)
  have f1393 := Str.keepB (hw _ (List.mem_of_getElem? (i := 2) rfl)) f1381 K1390 V1379
  have f1394 := Str.keepB (hw _ (List.mem_of_getElem? (i := 2) rfl)) f1382 K1390 V1379
  have f1395 := f1383.keep K1390 (ninS ne1338 nin0)
  have f1396 := f1384.keep K1390 (ninS ne1337 nin0)
  have f1397 := f1385.keep K1390 (ninS ne1336 nin0)
  have od1399 := od1387.keep K1390 (allS g_a8 all0)
  have z1400 := Nat.le_trans z1388 K1390.1
  clear f1381 f1382 f1383 f1384 f1385 V1379 od1387 z1388 cr1380
  refine Go.dup K at_420 rfl (pc' := 421) rfl ?_
  refine Go.iconst K (v := 4) at_421 rfl (pc' := 422) rfl ?_
  refine Go.bipush K (v := 110) at_422 rfl (pc' := 424) rfl ?_
  refine Go.castore K V1391 4 rfl (Nat.le_of_ble_eq_true rfl) ⟨by decide, by decide⟩ g_a8 at_424 (pc' := 425) rfl ?_
  intro h1401 K1402 V1403
  replace V1403 : Arv Z h1401 a8 kA_a8 .char (12 : Int32) [(.int (nar .char (84 : Int32))), (.int (nar .char (104 : Int32))), (.int (nar .char (101 : Int32))), (.int (nar .char (32 : Int32))), (.int (nar .char (110 : Int32))), (.int (0 : Int32)), (.int (0 : Int32)), (.int (0 : Int32)), (.int (0 : Int32)), (.int (0 : Int32)), (.int (0 : Int32)), (.int (0 : Int32))] (.int (0 : Int32)) := V1403
  have cr1404 := cr1392.trans (CHr.keep K1402 (sfS (Safe.arv K.cz.alike V1391 (by decide)) sf0) cr1392.1)
  have f1405 := Str.keepB (hw _ (List.mem_of_getElem? (i := 2) rfl)) f1393 K1402 V1391
  have f1406 := Str.keepB (hw _ (List.mem_of_getElem? (i := 2) rfl)) f1394 K1402 V1391
  have f1407 := f1395.keep K1402 (ninS ne1338 nin0)
  have f1408 := f1396.keep K1402 (ninS ne1337 nin0)
  have f1409 := f1397.keep K1402 (ninS ne1336 nin0)
  have od1411 := od1399.keep K1402 (allS g_a8 all0)
  have z1412 := Nat.le_trans z1400 K1402.1
  clear f1393 f1394 f1395 f1396 f1397 V1391 od1399 z1400 cr1392
  refine Go.dup K at_425 rfl (pc' := 426) rfl ?_
  refine Go.iconst K (v := 5) at_426 rfl (pc' := 427) rfl ?_
  refine Go.bipush K (v := 97) at_427 rfl (pc' := 429) rfl ?_
  refine Go.castore K V1403 5 rfl (Nat.le_of_ble_eq_true rfl) ⟨by decide, by decide⟩ g_a8 at_429 (pc' := 430) rfl ?_
  intro h1413 K1414 V1415
  replace V1415 : Arv Z h1413 a8 kA_a8 .char (12 : Int32) [(.int (nar .char (84 : Int32))), (.int (nar .char (104 : Int32))), (.int (nar .char (101 : Int32))), (.int (nar .char (32 : Int32))), (.int (nar .char (110 : Int32))), (.int (nar .char (97 : Int32))), (.int (0 : Int32)), (.int (0 : Int32)), (.int (0 : Int32)), (.int (0 : Int32)), (.int (0 : Int32)), (.int (0 : Int32))] (.int (0 : Int32)) := V1415
  have cr1416 := cr1404.trans (CHr.keep K1414 (sfS (Safe.arv K.cz.alike V1403 (by decide)) sf0) cr1404.1)
  have f1417 := Str.keepB (hw _ (List.mem_of_getElem? (i := 2) rfl)) f1405 K1414 V1403
  have f1418 := Str.keepB (hw _ (List.mem_of_getElem? (i := 2) rfl)) f1406 K1414 V1403
  have f1419 := f1407.keep K1414 (ninS ne1338 nin0)
  have f1420 := f1408.keep K1414 (ninS ne1337 nin0)
  have f1421 := f1409.keep K1414 (ninS ne1336 nin0)
  have od1423 := od1411.keep K1414 (allS g_a8 all0)
  have z1424 := Nat.le_trans z1412 K1414.1
  clear f1405 f1406 f1407 f1408 f1409 V1403 od1411 z1412 cr1404
  refine Go.dup K at_430 rfl (pc' := 431) rfl ?_
  refine Go.bipush K (v := 6) at_431 rfl (pc' := 433) rfl ?_
  refine Go.bipush K (v := 109) at_433 rfl (pc' := 435) rfl ?_
  refine Go.castore K V1415 6 rfl (Nat.le_of_ble_eq_true rfl) ⟨by decide, by decide⟩ g_a8 at_435 (pc' := 436) rfl ?_
  intro h1425 K1426 V1427
  replace V1427 : Arv Z h1425 a8 kA_a8 .char (12 : Int32) [(.int (nar .char (84 : Int32))), (.int (nar .char (104 : Int32))), (.int (nar .char (101 : Int32))), (.int (nar .char (32 : Int32))), (.int (nar .char (110 : Int32))), (.int (nar .char (97 : Int32))), (.int (nar .char (109 : Int32))), (.int (0 : Int32)), (.int (0 : Int32)), (.int (0 : Int32)), (.int (0 : Int32)), (.int (0 : Int32))] (.int (0 : Int32)) := V1427
  have cr1428 := cr1416.trans (CHr.keep K1426 (sfS (Safe.arv K.cz.alike V1415 (by decide)) sf0) cr1416.1)
  have f1429 := Str.keepB (hw _ (List.mem_of_getElem? (i := 2) rfl)) f1417 K1426 V1415
  have f1430 := Str.keepB (hw _ (List.mem_of_getElem? (i := 2) rfl)) f1418 K1426 V1415
  have f1431 := f1419.keep K1426 (ninS ne1338 nin0)
  have f1432 := f1420.keep K1426 (ninS ne1337 nin0)
  have f1433 := f1421.keep K1426 (ninS ne1336 nin0)
  have od1435 := od1423.keep K1426 (allS g_a8 all0)
  have z1436 := Nat.le_trans z1424 K1426.1
  clear f1417 f1418 f1419 f1420 f1421 V1415 od1423 z1424 cr1416
  refine Go.dup K at_436 rfl (pc' := 437) rfl ?_
  refine Go.bipush K (v := 7) at_437 rfl (pc' := 439) rfl ?_
  refine Go.bipush K (v := 101) at_439 rfl (pc' := 441) rfl ?_
  refine Go.castore K V1427 7 rfl (Nat.le_of_ble_eq_true rfl) ⟨by decide, by decide⟩ g_a8 at_441 (pc' := 442) rfl ?_
  intro h1437 K1438 V1439
  replace V1439 : Arv Z h1437 a8 kA_a8 .char (12 : Int32) [(.int (nar .char (84 : Int32))), (.int (nar .char (104 : Int32))), (.int (nar .char (101 : Int32))), (.int (nar .char (32 : Int32))), (.int (nar .char (110 : Int32))), (.int (nar .char (97 : Int32))), (.int (nar .char (109 : Int32))), (.int (nar .char (101 : Int32))), (.int (0 : Int32)), (.int (0 : Int32)), (.int (0 : Int32)), (.int (0 : Int32))] (.int (0 : Int32)) := V1439
  have cr1440 := cr1428.trans (CHr.keep K1438 (sfS (Safe.arv K.cz.alike V1427 (by decide)) sf0) cr1428.1)
  have f1441 := Str.keepB (hw _ (List.mem_of_getElem? (i := 2) rfl)) f1429 K1438 V1427
  have f1442 := Str.keepB (hw _ (List.mem_of_getElem? (i := 2) rfl)) f1430 K1438 V1427
  have f1443 := f1431.keep K1438 (ninS ne1338 nin0)
  have f1444 := f1432.keep K1438 (ninS ne1337 nin0)
  have f1445 := f1433.keep K1438 (ninS ne1336 nin0)
  have od1447 := od1435.keep K1438 (allS g_a8 all0)
  have z1448 := Nat.le_trans z1436 K1438.1
  clear f1429 f1430 f1431 f1432 f1433 V1427 od1435 z1436 cr1428
  refine Go.dup K at_442 rfl (pc' := 443) rfl ?_
  refine Go.bipush K (v := 8) at_443 rfl (pc' := 445) rfl ?_
  refine Go.bipush K (v := 32) at_445 rfl (pc' := 447) rfl ?_
  refine Go.castore K V1439 8 rfl (Nat.le_of_ble_eq_true rfl) ⟨by decide, by decide⟩ g_a8 at_447 (pc' := 448) rfl ?_
  intro h1449 K1450 V1451
  replace V1451 : Arv Z h1449 a8 kA_a8 .char (12 : Int32) [(.int (nar .char (84 : Int32))), (.int (nar .char (104 : Int32))), (.int (nar .char (101 : Int32))), (.int (nar .char (32 : Int32))), (.int (nar .char (110 : Int32))), (.int (nar .char (97 : Int32))), (.int (nar .char (109 : Int32))), (.int (nar .char (101 : Int32))), (.int (nar .char (32 : Int32))), (.int (0 : Int32)), (.int (0 : Int32)), (.int (0 : Int32))] (.int (0 : Int32)) := V1451
  have cr1452 := cr1440.trans (CHr.keep K1450 (sfS (Safe.arv K.cz.alike V1439 (by decide)) sf0) cr1440.1)
  have f1453 := Str.keepB (hw _ (List.mem_of_getElem? (i := 2) rfl)) f1441 K1450 V1439
  have f1454 := Str.keepB (hw _ (List.mem_of_getElem? (i := 2) rfl)) f1442 K1450 V1439
  have f1455 := f1443.keep K1450 (ninS ne1338 nin0)
  have f1456 := f1444.keep K1450 (ninS ne1337 nin0)
  have f1457 := f1445.keep K1450 (ninS ne1336 nin0)
  have od1459 := od1447.keep K1450 (allS g_a8 all0)
  have z1460 := Nat.le_trans z1448 K1450.1
  clear f1441 f1442 f1443 f1444 f1445 V1439 od1447 z1448 cr1440
  refine Go.dup K at_448 rfl (pc' := 449) rfl ?_
  refine Go.bipush K (v := 9) at_449 rfl (pc' := 451) rfl ?_
  refine Go.bipush K (v := 34) at_451 rfl (pc' := 453) rfl ?_
  refine Go.castore K V1451 9 rfl (Nat.le_of_ble_eq_true rfl) ⟨by decide, by decide⟩ g_a8 at_453 (pc' := 454) rfl ?_
  intro h1461 K1462 V1463
  replace V1463 : Arv Z h1461 a8 kA_a8 .char (12 : Int32) [(.int (nar .char (84 : Int32))), (.int (nar .char (104 : Int32))), (.int (nar .char (101 : Int32))), (.int (nar .char (32 : Int32))), (.int (nar .char (110 : Int32))), (.int (nar .char (97 : Int32))), (.int (nar .char (109 : Int32))), (.int (nar .char (101 : Int32))), (.int (nar .char (32 : Int32))), (.int (nar .char (34 : Int32))), (.int (0 : Int32)), (.int (0 : Int32))] (.int (0 : Int32)) := V1463
  have cr1464 := cr1452.trans (CHr.keep K1462 (sfS (Safe.arv K.cz.alike V1451 (by decide)) sf0) cr1452.1)
  have f1465 := Str.keepB (hw _ (List.mem_of_getElem? (i := 2) rfl)) f1453 K1462 V1451
  have f1466 := Str.keepB (hw _ (List.mem_of_getElem? (i := 2) rfl)) f1454 K1462 V1451
  have f1467 := f1455.keep K1462 (ninS ne1338 nin0)
  have f1468 := f1456.keep K1462 (ninS ne1337 nin0)
  have f1469 := f1457.keep K1462 (ninS ne1336 nin0)
  have od1471 := od1459.keep K1462 (allS g_a8 all0)
  have z1472 := Nat.le_trans z1460 K1462.1
  clear f1453 f1454 f1455 f1456 f1457 V1451 od1459 z1460 cr1452
  refine Go.dup K at_454 rfl (pc' := 455) rfl ?_
  refine Go.bipush K (v := 10) at_455 rfl (pc' := 457) rfl ?_
  refine Go.bipush K (v := 34) at_457 rfl (pc' := 459) rfl ?_
  refine Go.castore K V1463 10 rfl (Nat.le_of_ble_eq_true rfl) ⟨by decide, by decide⟩ g_a8 at_459 (pc' := 460) rfl ?_
  intro h1473 K1474 V1475
  replace V1475 : Arv Z h1473 a8 kA_a8 .char (12 : Int32) [(.int (nar .char (84 : Int32))), (.int (nar .char (104 : Int32))), (.int (nar .char (101 : Int32))), (.int (nar .char (32 : Int32))), (.int (nar .char (110 : Int32))), (.int (nar .char (97 : Int32))), (.int (nar .char (109 : Int32))), (.int (nar .char (101 : Int32))), (.int (nar .char (32 : Int32))), (.int (nar .char (34 : Int32))), (.int (nar .char (34 : Int32))), (.int (0 : Int32))] (.int (0 : Int32)) := V1475
  have cr1476 := cr1464.trans (CHr.keep K1474 (sfS (Safe.arv K.cz.alike V1463 (by decide)) sf0) cr1464.1)
  have f1477 := Str.keepB (hw _ (List.mem_of_getElem? (i := 2) rfl)) f1465 K1474 V1463
  have f1478 := Str.keepB (hw _ (List.mem_of_getElem? (i := 2) rfl)) f1466 K1474 V1463
  have f1479 := f1467.keep K1474 (ninS ne1338 nin0)
  have f1480 := f1468.keep K1474 (ninS ne1337 nin0)
  have f1481 := f1469.keep K1474 (ninS ne1336 nin0)
  have od1483 := od1471.keep K1474 (allS g_a8 all0)
  have z1484 := Nat.le_trans z1472 K1474.1
  clear f1465 f1466 f1467 f1468 f1469 V1463 od1471 z1472 cr1464
  refine Go.dup K at_460 rfl (pc' := 461) rfl ?_
  refine Go.bipush K (v := 11) at_461 rfl (pc' := 463) rfl ?_
  refine Go.bipush K (v := 32) at_463 rfl (pc' := 465) rfl ?_
  refine Go.castore K V1475 11 rfl (Nat.le_of_ble_eq_true rfl) ⟨by decide, by decide⟩ g_a8 at_465 (pc' := 466) rfl ?_
  intro h1485 K1486 V1487
  replace V1487 : Arv Z h1485 a8 kA_a8 .char (12 : Int32) [(.int (nar .char (84 : Int32))), (.int (nar .char (104 : Int32))), (.int (nar .char (101 : Int32))), (.int (nar .char (32 : Int32))), (.int (nar .char (110 : Int32))), (.int (nar .char (97 : Int32))), (.int (nar .char (109 : Int32))), (.int (nar .char (101 : Int32))), (.int (nar .char (32 : Int32))), (.int (nar .char (34 : Int32))), (.int (nar .char (34 : Int32))), (.int (nar .char (32 : Int32)))] (.int (0 : Int32)) := V1487
  have cr1488 := cr1476.trans (CHr.keep K1486 (sfS (Safe.arv K.cz.alike V1475 (by decide)) sf0) cr1476.1)
  have f1489 := Str.keepB (hw _ (List.mem_of_getElem? (i := 2) rfl)) f1477 K1486 V1475
  have f1490 := Str.keepB (hw _ (List.mem_of_getElem? (i := 2) rfl)) f1478 K1486 V1475
  have f1491 := f1479.keep K1486 (ninS ne1338 nin0)
  have f1492 := f1480.keep K1486 (ninS ne1337 nin0)
  have f1493 := f1481.keep K1486 (ninS ne1336 nin0)
  have od1495 := od1483.keep K1486 (allS g_a8 all0)
  have z1496 := Nat.le_trans z1484 K1486.1
  clear f1477 f1478 f1479 f1480 f1481 V1475 od1483 z1484 cr1476
  refine Go.astore K at_466 rfl (Ls' := #[.val (.int p0), .val (.int p1), .val (.int p2), .val (.int p3), .val (.int p4), .val (.int c5), .val (.int c6), .val (.int c7), .val (.int c8), .val (.int x9), .val (.int x10), .val (.ref ar), .val (.ref br), .val (.ref na), .val (.ref ra), .val (.ref a5), .val (.ref a6), .val (.ref a7), .val (.ref a8), .unset, .unset, .unset]) rfl (pc' := 468) rfl ?_
  refine Go.iload K at_468 rfl (pc' := 470) rfl ?_
  refine Go.ifc K at_470 (by decide) (pcT := 506) (pcF := 473) (by decide) rfl (fun h470 => ?_) (fun h470 => ?_)
  · replace h470 : x9 = 0 := h470
    have ens : ns = ([(nar .char c5), (nar .char c6)] : List Int32) := hx9.elim (fun q => q.2) (fun q => absurd (q.1.symm.trans h470) (by decide))
    refine Go.iload K at_506 rfl (pc' := 508) rfl ?_
    refine Go.ifc K at_508 (by decide) (pcT := 525) (pcF := 511) (by decide) rfl (fun h508 => ?_) (fun h508 => ?_)
    · replace h508 : x10 = 0 := h508
      have ers : rs = ([(nar .char c7), (nar .char c8)] : List Int32) := hx10.elim (fun q => q.2) (fun q => absurd (q.1.symm.trans h508) (by decide))
      subst ens
      subst ers
      have hp : ∀ c ∈ ([(nar .char (84 : Int32)), (nar .char (104 : Int32)), (nar .char (101 : Int32)), (nar .char (32 : Int32)), (nar .char (110 : Int32)), (nar .char (97 : Int32)), (nar .char (109 : Int32)), (nar .char (101 : Int32)), (nar .char (32 : Int32)), (nar .char (34 : Int32)), (nar .char c5), (nar .char c6), (nar .char (34 : Int32)), (nar .char (32 : Int32)), (nar .char c7), (nar .char c8)] : List Int32), ¬ c < 0 ∧ ¬ (255 : Int32) < c := by
        intro c hc
        simp only [List.mem_cons, List.not_mem_nil, or_false] at hc
        rcases hc with rfl | rfl | rfl | rfl | rfl | rfl | rfl | rfl | rfl | rfl | rfl | rfl | rfl | rfl | rfl | rfl
        · decide
        · decide
        · decide
        · decide
        · decide
        · decide
        · decide
        · decide
        · decide
        · decide
        · exact hc5
        · exact hc6
        · decide
        · decide
        · exact hc7
        · exact hc8
      obtain ⟨E_na, C_na, tn, kn, F_na, V_tn⟩ := f1489
      obtain ⟨E_ra, C_ra, tr, kr, F_ra, V_tr⟩ := f1490
      refine Go.newO K (hw _ (List.mem_of_getElem? (i := 1) rfl)) (hw _ (List.mem_of_getElem? (i := 2) rfl)) (hw _ (List.mem_of_getElem? (i := 3) rfl)) (by decide) (by decide) at_525 (pc' := 528) rfl ?_
      intro h1497 ex eq1500 E1498 E_ex D1499
      have ne1501 : na ≠ ex := own_ne E_na.lt (Nat.le_of_eq eq1500.symm)
      have ne1502 : tr ≠ ex := own_ne V_tr.lt (Nat.le_of_eq eq1500.symm)
      have ne1503 : tn ≠ ex := own_ne V_tn.lt (Nat.le_of_eq eq1500.symm)
      have ne1504 : a5 ≠ ex := own_ne f1491.lt (Nat.le_of_eq eq1500.symm)
      have ne1505 : ra ≠ ex := own_ne E_ra.lt (Nat.le_of_eq eq1500.symm)
      have g_ex : n0 ≤ ex := Nat.le_trans z1496 (Nat.le_of_eq eq1500.symm)
      have sf1506 := Safe.ext E1498 cr1488.1 (Safe.new (Nat.le_of_eq eq1500.symm))
      have f1516 := f1491.ext E1498
      have f1517 := E_na.ext E1498
      have f1518 := C_na.ext E1498
      have f1519 := F_na.ext E1498
      have f1520 := V_tn.ext E1498
      have f1521 := E_ra.ext E1498
      have f1522 := C_ra.ext E1498
      have f1523 := F_ra.ext E1498
      have f1524 := V_tr.ext E1498
      have od1525 := od1495.ext E1498
      have z1526 := Nat.le_trans z1496 E1498.1
      have cr1527 := cr1488.trans (CHr.ext E1498 cr1488.1)
      clear f1491 od1495 z1496 cr1488
      have f1528 : Fld Z h1497 ex "java/lang/String" "coder" "B" (.int (0 : Int32)) := D1499 (Or.inr (hw _ (List.mem_of_getElem? (i := 27) rfl))) (ty := .byte) (by decide)
      have f1529 : Fld Z h1497 ex "java/lang/String" "value" "[B" .null := D1499 (Or.inr (hw _ (List.mem_of_getElem? (i := 29) rfl))) (ty := (.array .byte)) (by decide)
      refine Go.dup K at_528 rfl (pc' := 529) rfl ?_
      refine Go.aload K at_529 rfl rfl (pc' := 531) rfl ?_
      refine Go.callC K (y := (⟨"java/lang/String", "<init>", "([C)V"⟩ : MethodName)) (W := 1) (kc := 1) (nc := 16) (a := ex) rfl (mvT K.cz (hw _ (List.mem_of_getElem? (i := 4) rfl))) (mvT K.cz (hw _ (List.mem_of_getElem? (i := 5) rfl))) (mvT K.cz (hw _ (List.mem_of_getElem? (i := 6) rfl))) (by decide) (paysNew (W := 1) K.cz hws (kI := 4) (hw _ (List.mem_of_getElem? (i := 2) rfl)) (cs := ([(nar .char (84 : Int32)), (nar .char (104 : Int32)), (nar .char (101 : Int32)), (nar .char (32 : Int32)), (nar .char (110 : Int32)), (nar .char (97 : Int32)), (nar .char (109 : Int32)), (nar .char (101 : Int32)), (nar .char (32 : Int32)), (nar .char (34 : Int32)), (nar .char c5), (nar .char c6), (nar .char (34 : Int32)), (nar .char (32 : Int32)), (nar .char c7), (nar .char c8)] : List Int32)) (bs := ([(nar .char (84 : Int32)), (nar .char (104 : Int32)), (nar .char (101 : Int32)), (nar .char (32 : Int32)), (nar .char (110 : Int32)), (nar .char (97 : Int32)), (nar .char (109 : Int32)), (nar .char (101 : Int32)), (nar .char (32 : Int32)), (nar .char (34 : Int32)), (nar .char c5), (nar .char c6), (nar .char (34 : Int32)), (nar .char (32 : Int32)), (nar .char c7), (nar .char c8)] : List Int32).map (fun c => c.toInt8.toInt32)) (n := 16) g_ex z1526 E_ex f1529 f1528 f1516 (S1.ext od1525.2) P1 rfl rfl (by decide) (by decide) hp rfl (by decide) (by decide)) rfl (argsL := [(.ref a5)]) (rest := [(.ref ex)]) (lenOf pd__28_5bC_29V rfl) rfl (Nat.le_of_ble_eq_true rfl) (by decide) (by decide) (fun v h' L q => q.2.1) (fun v h' L q => q.2.2.1.1) at_531 (pc' := 534) rfl ?_
      rintro v1532 h1530 Lc1531 ⟨rfl, Nq, Kq_ex, E2_ex, C2_ex, tx, kb_ex, ht0, ht1_ex, htne, F2_ex, V2_tx⟩
      have ne1533 : na ≠ tx := own_ne f1517.lt ht1_ex
      have ne1534 : tr ≠ tx := own_ne f1524.lt ht1_ex
      have ne1535 : ex ≠ tx := own_ne E_ex.lt ht1_ex
      have ne1536 : tn ≠ tx := own_ne f1520.lt ht1_ex
      have ne1537 : a5 ≠ tx := own_ne f1516.lt ht1_ex
      have ne1538 : ra ≠ tx := own_ne f1521.lt ht1_ex
      have f1539 := Safe.keep Kq_ex (sfS sf1506 sf0) cr1527.1 sf1506
      have cr1540 := cr1527.trans (CHr.keep Kq_ex (sfS sf1506 sf0) cr1527.1)
      have f1541 := f1516.keep Kq_ex (ninS ne1504 nin0)
      have f1542 := f1517.keep Kq_ex
      have f1543 := f1518.keep Kq_ex (ninS ne1501 nin0)
      have f1544 := f1519.keep Kq_ex (ninS ne1501 nin0)
      have f1545 := f1520.keep Kq_ex (ninS ne1503 nin0)
      have f1546 := f1521.keep Kq_ex
      have f1547 := f1522.keep Kq_ex (ninS ne1505 nin0)
      have f1548 := f1523.keep Kq_ex (ninS ne1505 nin0)
      have f1549 := f1524.keep Kq_ex (ninS ne1502 nin0)
      have f1550 := E_ex.keep Kq_ex
      have od1553 := od1525.keep Kq_ex (allS g_ex all0)
      have z1554 := Nat.le_trans z1526 Kq_ex.1
      clear f1516 f1517 f1518 f1519 f1520 f1521 f1522 f1523 f1524 f1528 f1529 od1525 z1526 cr1527
      show Go p l e _ _ m _ below meth c _ _ _ _ h1530 _ _ (mkF m 534 #[.val (.int p0), .val (.int p1), .val (.int p2), .val (.int p3), .val (.int p4), .val (.int c5), .val (.int c6), .val (.int c7), .val (.int c8), .val (.int x9), .val (.int x10), .val (.ref ar), .val (.ref br), .val (.ref na), .val (.ref ra), .val (.ref a5), .val (.ref a6), .val (.ref a7), .val (.ref a8), .unset, .unset, .unset] [(.ref ex)])
      refine Go.astore K at_534 rfl (Ls' := #[.val (.int p0), .val (.int p1), .val (.int p2), .val (.int p3), .val (.int p4), .val (.int c5), .val (.int c6), .val (.int c7), .val (.int c8), .val (.int x9), .val (.int x10), .val (.ref ar), .val (.ref br), .val (.ref na), .val (.ref ra), .val (.ref a5), .val (.ref a6), .val (.ref a7), .val (.ref a8), .val (.ref ex), .unset, .unset]) rfl (pc' := 536) rfl ?_
      refine Go.aload K at_536 rfl rfl (pc' := 538) rfl ?_
      refine Go.aload K at_538 rfl rfl (pc' := 540) rfl ?_
      refine Go.callSW K hS (y := (⟨"com/example/basehome/basehome/internal/VariableProblems", "nameRefusal", "(Ljava/lang/String;Ljava/lang/String;)Ljava/lang/IllegalArgumentException;"⟩ : MethodName)) (W := 0) (kc := 10) (nc := 2860) (mvT K.cz (hw _ (List.mem_of_getElem? (i := 30) rfl))) (mvT K.cz (hw _ (List.mem_of_getElem? (i := 31) rfl))) (mvT K.cz (hw _ (List.mem_of_getElem? (i := 32) rfl))) (mvT K.cz (hw _ (List.mem_of_getElem? (i := 33) rfl))) (by decide) ((m_nr l Z a0 hw h1530 n0 z1554 wS hEL na ra ([(nar .char c5), (nar .char c6)] : List Int32) ([(nar .char c7), (nar .char c8)] : List Int32) (Nat.le_of_ble_eq_true rfl) (Nat.le_of_ble_eq_true rfl) ⟨f1542, f1543, tn, kn, f1544, f1545⟩ ⟨f1546, f1547, tr, kr, f1548, f1549⟩ hl us ss SU SS od1553 zc S1 P1).pays (W := 0) K.cz (hw _ (List.mem_of_getElem? (i := 33) rfl)) (hw _ (List.mem_of_getElem? (i := 32) rfl)) (by decide) (by decide) hEL cr1540.1 (Vm.MethodsKnown.alikeC hS.1.alike hTK) (Vm.FramesKnown.alikeC hS.1.alike hBl)) rfl (argsL := [(.ref na), (.ref ra)]) (rest := []) (lenOf pd__28Ljava_2flang_2fString_3bLjava_2flang_2fString_3b_29Ljava_2flang_2fIllegalArgumentException_3b rfl) rfl (Nat.le_of_ble_eq_true rfl) (by decide) (by decide) frOf at_540 (pc' := 543) rfl ?_
      rintro v1557 h1555 Lc1556 vm1558 B1559 ⟨⟨⟨ea, xs, rfl, hle, Kq, Ee, Fe, E_xs, C_xs, ty, ky, F_xs, V_ty⟩, -⟩, -⟩ hrh1555 hS K
      have cr1560 := cr1540.trans (hrh1555)
      have f1561 := E2_ex.keep Kq
      have f1562 := C2_ex.keep Kq nin0
      have f1563 := F2_ex.keep Kq nin0
      have f1564 := V2_tx.keep Kq nin0
      have od1565 := od1553.keep Kq all0
      have z1566 := Nat.le_trans z1554 Kq.1
      clear od1553 z1554 cr1540
      show Go p l e _ _ m _ below meth c _ _ _ _ h1555 _ _ (mkF m 543 #[.val (.int p0), .val (.int p1), .val (.int p2), .val (.int p3), .val (.int p4), .val (.int c5), .val (.int c6), .val (.int c7), .val (.int c8), .val (.int x9), .val (.int x10), .val (.ref ar), .val (.ref br), .val (.ref na), .val (.ref ra), .val (.ref a5), .val (.ref a6), .val (.ref a7), .val (.ref a8), .val (.ref ex), .unset, .unset] [(.ref ea)])
      refine Go.astore K at_543 rfl (Ls' := #[.val (.int p0), .val (.int p1), .val (.int p2), .val (.int p3), .val (.int p4), .val (.int c5), .val (.int c6), .val (.int c7), .val (.int c8), .val (.int x9), .val (.int x10), .val (.ref ar), .val (.ref br), .val (.ref na), .val (.ref ra), .val (.ref a5), .val (.ref a6), .val (.ref a7), .val (.ref a8), .val (.ref ex), .val (.ref ea), .unset]) rfl (pc' := 545) rfl ?_
      refine Go.aload K at_545 rfl rfl (pc' := 547) rfl ?_
      refine Go.ifnonnullR K at_547 (pc' := 552) (by decide) (by decide) ?_
      refine Go.aload K at_552 rfl rfl (pc' := 554) rfl ?_
      refine Go.callVU K (y := (⟨"java/lang/IllegalArgumentException", "getMessage", "()Ljava/lang/String;"⟩ : MethodName)) (z := (⟨"java/lang/Throwable", "getMessage", "()Ljava/lang/String;"⟩ : MethodName)) (owner := "java/lang/Throwable") (W := 0) (kc := 0) (nc := 0) (a := ea) (mvT K.cz (hw _ (List.mem_of_getElem? (i := 207) rfl))) (mvT K.cz (hw _ (List.mem_of_getElem? (i := 208) rfl))) (mvT K.cz (hw _ (List.mem_of_getElem? (i := 209) rfl))) (by decide) (mvT K.cz (hw _ (List.mem_of_getElem? (i := 211) rfl))) (mvT K.cz (hw _ (List.mem_of_getElem? (i := 210) rfl))) Ee ((m_gm l Z a0 hw h1555 n0 z1566 ea xs Fe).pays (W := 0) K.cz (hw _ (List.mem_of_getElem? (i := 212) rfl)) (hw _ (List.mem_of_getElem? (i := 168) rfl)) (by decide) (by decide)) rfl (argsL := []) (rest := []) (lenOf pd__28_29Ljava_2flang_2fString_3b rfl) rfl (Nat.le_of_ble_eq_true rfl) (by decide) (by decide) frOf grOf at_554 (pc' := 557) rfl ?_
      rintro vq h1567 Lq ⟨⟨⟨rfl, eh⟩, -⟩, -⟩
      obtain rfl := eh
      show Go p l e _ _ m _ below meth c _ _ _ _ h1555 _ _ (mkF m 557 #[.val (.int p0), .val (.int p1), .val (.int p2), .val (.int p3), .val (.int p4), .val (.int c5), .val (.int c6), .val (.int c7), .val (.int c8), .val (.int x9), .val (.int x10), .val (.ref ar), .val (.ref br), .val (.ref na), .val (.ref ra), .val (.ref a5), .val (.ref a6), .val (.ref a7), .val (.ref a8), .val (.ref ex), .val (.ref ea), .unset] [(.ref xs)])
      refine Go.astore K at_557 rfl (Ls' := #[.val (.int p0), .val (.int p1), .val (.int p2), .val (.int p3), .val (.int p4), .val (.int c5), .val (.int c6), .val (.int c7), .val (.int c8), .val (.int x9), .val (.int x10), .val (.ref ar), .val (.ref br), .val (.ref na), .val (.ref ra), .val (.ref a5), .val (.ref a6), .val (.ref a7), .val (.ref a8), .val (.ref ex), .val (.ref ea), .val (.ref xs)]) rfl (pc' := 559) rfl ?_
      refine Go.aload K at_559 rfl rfl (pc' := 561) rfl ?_
      refine Go.ifnonnullR K at_561 (pc' := 566) (by decide) (by decide) ?_
      refine Go.aload K at_566 rfl rfl (pc' := 568) rfl ?_
      refine Go.aload K at_568 rfl rfl (pc' := 570) rfl ?_
      have eL : ([(nar .char (84 : Int32)), (nar .char (104 : Int32)), (nar .char (101 : Int32)), (nar .char (32 : Int32)), (nar .char (110 : Int32)), (nar .char (97 : Int32)), (nar .char (109 : Int32)), (nar .char (101 : Int32)), (nar .char (32 : Int32)), (nar .char (34 : Int32)), (nar .char c5), (nar .char c6), (nar .char (34 : Int32)), (nar .char (32 : Int32)), (nar .char c7), (nar .char c8)] : List Int32) = (((([] ++ ([84, 104, 101, 32, 110, 97, 109, 101, 32, 34] : List Int32)) ++ ([(nar .char c5), (nar .char c6)] : List Int32)) ++ ([34, 32] : List Int32)) ++ ([(nar .char c7), (nar .char c8)] : List Int32)) := by simp only [own_c32, own_c34, own_c84, own_c97, own_c101, own_c104, own_c109, own_c110, List.nil_append, List.cons_append, List.append_nil]
      have hbE : ∀ c ∈ ([(nar .char (84 : Int32)), (nar .char (104 : Int32)), (nar .char (101 : Int32)), (nar .char (32 : Int32)), (nar .char (110 : Int32)), (nar .char (97 : Int32)), (nar .char (109 : Int32)), (nar .char (101 : Int32)), (nar .char (32 : Int32)), (nar .char (34 : Int32)), (nar .char c5), (nar .char c6), (nar .char (34 : Int32)), (nar .char (32 : Int32)), (nar .char c7), (nar .char c8)] : List Int32), ¬ c < 0 ∧ ¬ (65535 : Int32) < c := fun c q => ⟨(hp c q).1, own_65 (hp c q).2⟩
      have hpm : ∀ c ∈ (((([] ++ ([84, 104, 101, 32, 110, 97, 109, 101, 32, 34] : List Int32)) ++ ([(nar .char c5), (nar .char c6)] : List Int32)) ++ ([34, 32] : List Int32)) ++ ([(nar .char c7), (nar .char c8)] : List Int32)), ¬ c < 0 ∧ ¬ (255 : Int32) < c := by rw [← eL]; exact hp
      have hbm : ∀ c ∈ (((([] ++ ([84, 104, 101, 32, 110, 97, 109, 101, 32, 34] : List Int32)) ++ ([(nar .char c5), (nar .char c6)] : List Int32)) ++ ([34, 32] : List Int32)) ++ ([(nar .char c7), (nar .char c8)] : List Int32)), ¬ c < 0 ∧ ¬ (65535 : Int32) < c := by rw [← eL]; exact hbE
      have hcE : StrChars.Road.CodA ([(nar .char (84 : Int32)), (nar .char (104 : Int32)), (nar .char (101 : Int32)), (nar .char (32 : Int32)), (nar .char (110 : Int32)), (nar .char (97 : Int32)), (nar .char (109 : Int32)), (nar .char (101 : Int32)), (nar .char (32 : Int32)), (nar .char (34 : Int32)), (nar .char c5), (nar .char c6), (nar .char (34 : Int32)), (nar .char (32 : Int32)), (nar .char c7), (nar .char c8)] : List Int32) 0 (16 : Int32) ((([(nar .char (84 : Int32)), (nar .char (104 : Int32)), (nar .char (101 : Int32)), (nar .char (32 : Int32)), (nar .char (110 : Int32)), (nar .char (97 : Int32)), (nar .char (109 : Int32)), (nar .char (101 : Int32)), (nar .char (32 : Int32)), (nar .char (34 : Int32)), (nar .char c5), (nar .char c6), (nar .char (34 : Int32)), (nar .char (32 : Int32)), (nar .char c7), (nar .char c8)] : List Int32).map (fun c => c.toInt8.toInt32)).map Value.int) := StrChars.Road.codOf (n := 16) rfl (fun c q => (hp c q).2)
      have hcm : StrChars.Road.CodA (((([] ++ ([84, 104, 101, 32, 110, 97, 109, 101, 32, 34] : List Int32)) ++ ([(nar .char c5), (nar .char c6)] : List Int32)) ++ ([34, 32] : List Int32)) ++ ([(nar .char c7), (nar .char c8)] : List Int32)) 0 (Int32.ofNat ((((([] ++ ([84, 104, 101, 32, 110, 97, 109, 101, 32, 34] : List Int32)) ++ ([(nar .char c5), (nar .char c6)] : List Int32)) ++ ([34, 32] : List Int32)) ++ ([(nar .char c7), (nar .char c8)] : List Int32))).length) (((((([] ++ ([84, 104, 101, 32, 110, 97, 109, 101, 32, 34] : List Int32)) ++ ([(nar .char c5), (nar .char c6)] : List Int32)) ++ ([34, 32] : List Int32)) ++ ([(nar .char c7), (nar .char c8)] : List Int32))).map fun c => Value.int (StrChars.lo8 c)) := StrChars.Road.codOf (n := 16) rfl (fun c q => (hpm c q).2)
      refine Go.callV K (y := (⟨"java/lang/String", "equals", "(Ljava/lang/Object;)Z"⟩ : MethodName)) (z := (⟨"java/lang/String", "equals", "(Ljava/lang/Object;)Z"⟩ : MethodName)) (W := 0) (kc := 0) (nc := 0) (a := xs) (mvT K.cz (hw _ (List.mem_of_getElem? (i := 213) rfl))) (mvT K.cz (hw _ (List.mem_of_getElem? (i := 214) rfl))) (notFace_of_selects (args := #[]) (mvT K.cz (hw _ (List.mem_of_getElem? (i := 216) rfl)))) (mvT K.cz (hw _ (List.mem_of_getElem? (i := 216) rfl))) (mvT K.cz (hw _ (List.mem_of_getElem? (i := 215) rfl))) (by decide) E_xs (paysEq (W := 0) K.cz hwe (kI := 4) (hw _ (List.mem_of_getElem? (i := 2) rfl)) (cs := (((([] ++ ([84, 104, 101, 32, 110, 97, 109, 101, 32, 34] : List Int32)) ++ ([(nar .char c5), (nar .char c6)] : List Int32)) ++ ([34, 32] : List Int32)) ++ ([(nar .char c7), (nar .char c8)] : List Int32))) (cs' := ([(nar .char (84 : Int32)), (nar .char (104 : Int32)), (nar .char (101 : Int32)), (nar .char (32 : Int32)), (nar .char (110 : Int32)), (nar .char (97 : Int32)), (nar .char (109 : Int32)), (nar .char (101 : Int32)), (nar .char (32 : Int32)), (nar .char (34 : Int32)), (nar .char c5), (nar .char c6), (nar .char (34 : Int32)), (nar .char (32 : Int32)), (nar .char c7), (nar .char c8)] : List Int32)) E_xs F_xs C_xs V_ty hcm hbm (Nat.le_of_ble_eq_true rfl) f1561 f1563 f1562 f1564 hcE hbE (Nat.le_of_ble_eq_true rfl) (S1.ext od1565.2) P1 (by decide) (by decide)) rfl (argsL := [(.ref ex)]) (rest := []) (lenOf pd__28Ljava_2flang_2fObject_3b_29Z rfl) rfl (Nat.le_of_ble_eq_true rfl) (by decide) (by decide) (fun v h' L q => q.2.1 ▸ (Fr.nil _)) (fun v h' L q => q.2.2 ▸ Nat.le_refl _) at_570 (pc' := 573) rfl ?_
      rintro v1570 h1568 Lc1569 ⟨qv, rfl, eh⟩
      obtain rfl := eh.symm
      rcases qv with ⟨rfl, -⟩ | ⟨-, qx⟩
      · show Go p l e _ _ m _ below meth c _ _ _ _ h1555 _ _ (mkF m 573 #[.val (.int p0), .val (.int p1), .val (.int p2), .val (.int p3), .val (.int p4), .val (.int c5), .val (.int c6), .val (.int c7), .val (.int c8), .val (.int x9), .val (.int x10), .val (.ref ar), .val (.ref br), .val (.ref na), .val (.ref ra), .val (.ref a5), .val (.ref a6), .val (.ref a7), .val (.ref a8), .val (.ref ex), .val (.ref ea), .val (.ref xs)] [(.int (1 : Int32))])
        exact Go.retN K (by simp) (by decide) (by decide) at_573 (own_end hEL K.cz cr1560 rfl)
      · exact absurd eL.symm qx
    · replace h508 : ¬ (x10 = 0) := h508
      have ers : rs = [] := hx10.elim (fun q => absurd q.1 h508) (fun q => q.2)
      subst ens
      subst ers
      have hp : ∀ c ∈ ([(nar .char (84 : Int32)), (nar .char (104 : Int32)), (nar .char (101 : Int32)), (nar .char (32 : Int32)), (nar .char (110 : Int32)), (nar .char (97 : Int32)), (nar .char (109 : Int32)), (nar .char (101 : Int32)), (nar .char (32 : Int32)), (nar .char (34 : Int32)), (nar .char c5), (nar .char c6), (nar .char (34 : Int32)), (nar .char (32 : Int32))] : List Int32), ¬ c < 0 ∧ ¬ (255 : Int32) < c := by
        intro c hc
        simp only [List.mem_cons, List.not_mem_nil, or_false] at hc
        rcases hc with rfl | rfl | rfl | rfl | rfl | rfl | rfl | rfl | rfl | rfl | rfl | rfl | rfl | rfl
        · decide
        · decide
        · decide
        · decide
        · decide
        · decide
        · decide
        · decide
        · decide
        · decide
        · exact hc5
        · exact hc6
        · decide
        · decide
      obtain ⟨E_na, C_na, tn, kn, F_na, V_tn⟩ := f1489
      obtain ⟨E_ra, C_ra, tr, kr, F_ra, V_tr⟩ := f1490
      refine Go.newO K (hw _ (List.mem_of_getElem? (i := 1) rfl)) (hw _ (List.mem_of_getElem? (i := 2) rfl)) (hw _ (List.mem_of_getElem? (i := 3) rfl)) (by decide) (by decide) at_511 (pc' := 514) rfl ?_
      intro h1571 ex eq1574 E1572 E_ex D1573
      have ne1575 : a7 ≠ ex := own_ne f1493.lt (Nat.le_of_eq eq1574.symm)
      have ne1576 : na ≠ ex := own_ne E_na.lt (Nat.le_of_eq eq1574.symm)
      have ne1577 : tr ≠ ex := own_ne V_tr.lt (Nat.le_of_eq eq1574.symm)
      have ne1578 : tn ≠ ex := own_ne V_tn.lt (Nat.le_of_eq eq1574.symm)
      have ne1579 : ra ≠ ex := own_ne E_ra.lt (Nat.le_of_eq eq1574.symm)
      have g_ex : n0 ≤ ex := Nat.le_trans z1496 (Nat.le_of_eq eq1574.symm)
      have sf1580 := Safe.ext E1572 cr1488.1 (Safe.new (Nat.le_of_eq eq1574.symm))
      have f1590 := f1493.ext E1572
      have f1591 := E_na.ext E1572
      have f1592 := C_na.ext E1572
      have f1593 := F_na.ext E1572
      have f1594 := V_tn.ext E1572
      have f1595 := E_ra.ext E1572
      have f1596 := C_ra.ext E1572
      have f1597 := F_ra.ext E1572
      have f1598 := V_tr.ext E1572
      have od1599 := od1495.ext E1572
      have z1600 := Nat.le_trans z1496 E1572.1
      have cr1601 := cr1488.trans (CHr.ext E1572 cr1488.1)
      clear f1493 od1495 z1496 cr1488
      have f1602 : Fld Z h1571 ex "java/lang/String" "coder" "B" (.int (0 : Int32)) := D1573 (Or.inr (hw _ (List.mem_of_getElem? (i := 27) rfl))) (ty := .byte) (by decide)
      have f1603 : Fld Z h1571 ex "java/lang/String" "value" "[B" .null := D1573 (Or.inr (hw _ (List.mem_of_getElem? (i := 29) rfl))) (ty := (.array .byte)) (by decide)
      refine Go.dup K at_514 rfl (pc' := 515) rfl ?_
      refine Go.aload K at_515 rfl rfl (pc' := 517) rfl ?_
      refine Go.callC K (y := (⟨"java/lang/String", "<init>", "([C)V"⟩ : MethodName)) (W := 1) (kc := 1) (nc := 14) (a := ex) rfl (mvT K.cz (hw _ (List.mem_of_getElem? (i := 4) rfl))) (mvT K.cz (hw _ (List.mem_of_getElem? (i := 5) rfl))) (mvT K.cz (hw _ (List.mem_of_getElem? (i := 6) rfl))) (by decide) (paysNew (W := 1) K.cz hws (kI := 4) (hw _ (List.mem_of_getElem? (i := 2) rfl)) (cs := ([(nar .char (84 : Int32)), (nar .char (104 : Int32)), (nar .char (101 : Int32)), (nar .char (32 : Int32)), (nar .char (110 : Int32)), (nar .char (97 : Int32)), (nar .char (109 : Int32)), (nar .char (101 : Int32)), (nar .char (32 : Int32)), (nar .char (34 : Int32)), (nar .char c5), (nar .char c6), (nar .char (34 : Int32)), (nar .char (32 : Int32))] : List Int32)) (bs := ([(nar .char (84 : Int32)), (nar .char (104 : Int32)), (nar .char (101 : Int32)), (nar .char (32 : Int32)), (nar .char (110 : Int32)), (nar .char (97 : Int32)), (nar .char (109 : Int32)), (nar .char (101 : Int32)), (nar .char (32 : Int32)), (nar .char (34 : Int32)), (nar .char c5), (nar .char c6), (nar .char (34 : Int32)), (nar .char (32 : Int32))] : List Int32).map (fun c => c.toInt8.toInt32)) (n := 14) g_ex z1600 E_ex f1603 f1602 f1590 (S1.ext od1599.2) P1 rfl rfl (by decide) (by decide) hp rfl (by decide) (by decide)) rfl (argsL := [(.ref a7)]) (rest := [(.ref ex)]) (lenOf pd__28_5bC_29V rfl) rfl (Nat.le_of_ble_eq_true rfl) (by decide) (by decide) (fun v h' L q => q.2.1) (fun v h' L q => q.2.2.1.1) at_517 (pc' := 520) rfl ?_
      rintro v1606 h1604 Lc1605 ⟨rfl, Nq, Kq_ex, E2_ex, C2_ex, tx, kb_ex, ht0, ht1_ex, htne, F2_ex, V2_tx⟩
      have ne1607 : a7 ≠ tx := own_ne f1590.lt ht1_ex
      have ne1608 : na ≠ tx := own_ne f1591.lt ht1_ex
      have ne1609 : tr ≠ tx := own_ne f1598.lt ht1_ex
      have ne1610 : ex ≠ tx := own_ne E_ex.lt ht1_ex
      have ne1611 : tn ≠ tx := own_ne f1594.lt ht1_ex
      have ne1612 : ra ≠ tx := own_ne f1595.lt ht1_ex
      have f1613 := Safe.keep Kq_ex (sfS sf1580 sf0) cr1601.1 sf1580
      have cr1614 := cr1601.trans (CHr.keep Kq_ex (sfS sf1580 sf0) cr1601.1)
      have f1615 := f1590.keep Kq_ex (ninS ne1575 nin0)
      have f1616 := f1591.keep Kq_ex
      have f1617 := f1592.keep Kq_ex (ninS ne1576 nin0)
      have f1618 := f1593.keep Kq_ex (ninS ne1576 nin0)
      have f1619 := f1594.keep Kq_ex (ninS ne1578 nin0)
      have f1620 := f1595.keep Kq_ex
      have f1621 := f1596.keep Kq_ex (ninS ne1579 nin0)
      have f1622 := f1597.keep Kq_ex (ninS ne1579 nin0)
      have f1623 := f1598.keep Kq_ex (ninS ne1577 nin0)
      have f1624 := E_ex.keep Kq_ex
      have od1627 := od1599.keep Kq_ex (allS g_ex all0)
      have z1628 := Nat.le_trans z1600 Kq_ex.1
      clear f1590 f1591 f1592 f1593 f1594 f1595 f1596 f1597 f1598 f1602 f1603 od1599 z1600 cr1601
      show Go p l e _ _ m _ below meth c _ _ _ _ h1604 _ _ (mkF m 520 #[.val (.int p0), .val (.int p1), .val (.int p2), .val (.int p3), .val (.int p4), .val (.int c5), .val (.int c6), .val (.int c7), .val (.int c8), .val (.int x9), .val (.int x10), .val (.ref ar), .val (.ref br), .val (.ref na), .val (.ref ra), .val (.ref a5), .val (.ref a6), .val (.ref a7), .val (.ref a8), .unset, .unset, .unset] [(.ref ex)])
      refine Go.astore K at_520 rfl (Ls' := #[.val (.int p0), .val (.int p1), .val (.int p2), .val (.int p3), .val (.int p4), .val (.int c5), .val (.int c6), .val (.int c7), .val (.int c8), .val (.int x9), .val (.int x10), .val (.ref ar), .val (.ref br), .val (.ref na), .val (.ref ra), .val (.ref a5), .val (.ref a6), .val (.ref a7), .val (.ref a8), .val (.ref ex), .unset, .unset]) rfl (pc' := 522) rfl ?_
      refine Go.goto K at_522 (pc' := 536) (by decide) (by decide) ?_
      refine Go.aload K at_536 rfl rfl (pc' := 538) rfl ?_
      refine Go.aload K at_538 rfl rfl (pc' := 540) rfl ?_
      refine Go.callSW K hS (y := (⟨"com/example/basehome/basehome/internal/VariableProblems", "nameRefusal", "(Ljava/lang/String;Ljava/lang/String;)Ljava/lang/IllegalArgumentException;"⟩ : MethodName)) (W := 0) (kc := 10) (nc := 2860) (mvT K.cz (hw _ (List.mem_of_getElem? (i := 30) rfl))) (mvT K.cz (hw _ (List.mem_of_getElem? (i := 31) rfl))) (mvT K.cz (hw _ (List.mem_of_getElem? (i := 32) rfl))) (mvT K.cz (hw _ (List.mem_of_getElem? (i := 33) rfl))) (by decide) ((m_nr l Z a0 hw h1604 n0 z1628 wS hEL na ra ([(nar .char c5), (nar .char c6)] : List Int32) ([] : List Int32) (Nat.le_of_ble_eq_true rfl) (Nat.le_of_ble_eq_true rfl) ⟨f1616, f1617, tn, kn, f1618, f1619⟩ ⟨f1620, f1621, tr, kr, f1622, f1623⟩ hl us ss SU SS od1627 zc S1 P1).pays (W := 0) K.cz (hw _ (List.mem_of_getElem? (i := 33) rfl)) (hw _ (List.mem_of_getElem? (i := 32) rfl)) (by decide) (by decide) hEL cr1614.1 (Vm.MethodsKnown.alikeC hS.1.alike hTK) (Vm.FramesKnown.alikeC hS.1.alike hBl)) rfl (argsL := [(.ref na), (.ref ra)]) (rest := []) (lenOf pd__28Ljava_2flang_2fString_3bLjava_2flang_2fString_3b_29Ljava_2flang_2fIllegalArgumentException_3b rfl) rfl (Nat.le_of_ble_eq_true rfl) (by decide) (by decide) frOf at_540 (pc' := 543) rfl ?_
      rintro v1631 h1629 Lc1630 vm1632 B1633 ⟨⟨⟨ea, xs, rfl, hle, Kq, Ee, Fe, E_xs, C_xs, ty, ky, F_xs, V_ty⟩, -⟩, -⟩ hrh1629 hS K
      have cr1634 := cr1614.trans (hrh1629)
      have f1635 := E2_ex.keep Kq
      have f1636 := C2_ex.keep Kq nin0
      have f1637 := F2_ex.keep Kq nin0
      have f1638 := V2_tx.keep Kq nin0
      have od1639 := od1627.keep Kq all0
      have z1640 := Nat.le_trans z1628 Kq.1
      clear od1627 z1628 cr1614
      show Go p l e _ _ m _ below meth c _ _ _ _ h1629 _ _ (mkF m 543 #[.val (.int p0), .val (.int p1), .val (.int p2), .val (.int p3), .val (.int p4), .val (.int c5), .val (.int c6), .val (.int c7), .val (.int c8), .val (.int x9), .val (.int x10), .val (.ref ar), .val (.ref br), .val (.ref na), .val (.ref ra), .val (.ref a5), .val (.ref a6), .val (.ref a7), .val (.ref a8), .val (.ref ex), .unset, .unset] [(.ref ea)])
      refine Go.astore K at_543 rfl (Ls' := #[.val (.int p0), .val (.int p1), .val (.int p2), .val (.int p3), .val (.int p4), .val (.int c5), .val (.int c6), .val (.int c7), .val (.int c8), .val (.int x9), .val (.int x10), .val (.ref ar), .val (.ref br), .val (.ref na), .val (.ref ra), .val (.ref a5), .val (.ref a6), .val (.ref a7), .val (.ref a8), .val (.ref ex), .val (.ref ea), .unset]) rfl (pc' := 545) rfl ?_
      refine Go.aload K at_545 rfl rfl (pc' := 547) rfl ?_
      refine Go.ifnonnullR K at_547 (pc' := 552) (by decide) (by decide) ?_
      refine Go.aload K at_552 rfl rfl (pc' := 554) rfl ?_
      refine Go.callVU K (y := (⟨"java/lang/IllegalArgumentException", "getMessage", "()Ljava/lang/String;"⟩ : MethodName)) (z := (⟨"java/lang/Throwable", "getMessage", "()Ljava/lang/String;"⟩ : MethodName)) (owner := "java/lang/Throwable") (W := 0) (kc := 0) (nc := 0) (a := ea) (mvT K.cz (hw _ (List.mem_of_getElem? (i := 207) rfl))) (mvT K.cz (hw _ (List.mem_of_getElem? (i := 208) rfl))) (mvT K.cz (hw _ (List.mem_of_getElem? (i := 209) rfl))) (by decide) (mvT K.cz (hw _ (List.mem_of_getElem? (i := 211) rfl))) (mvT K.cz (hw _ (List.mem_of_getElem? (i := 210) rfl))) Ee ((m_gm l Z a0 hw h1629 n0 z1640 ea xs Fe).pays (W := 0) K.cz (hw _ (List.mem_of_getElem? (i := 212) rfl)) (hw _ (List.mem_of_getElem? (i := 168) rfl)) (by decide) (by decide)) rfl (argsL := []) (rest := []) (lenOf pd__28_29Ljava_2flang_2fString_3b rfl) rfl (Nat.le_of_ble_eq_true rfl) (by decide) (by decide) frOf grOf at_554 (pc' := 557) rfl ?_
      rintro vq h1641 Lq ⟨⟨⟨rfl, eh⟩, -⟩, -⟩
      obtain rfl := eh
      show Go p l e _ _ m _ below meth c _ _ _ _ h1629 _ _ (mkF m 557 #[.val (.int p0), .val (.int p1), .val (.int p2), .val (.int p3), .val (.int p4), .val (.int c5), .val (.int c6), .val (.int c7), .val (.int c8), .val (.int x9), .val (.int x10), .val (.ref ar), .val (.ref br), .val (.ref na), .val (.ref ra), .val (.ref a5), .val (.ref a6), .val (.ref a7), .val (.ref a8), .val (.ref ex), .val (.ref ea), .unset] [(.ref xs)])
      refine Go.astore K at_557 rfl (Ls' := #[.val (.int p0), .val (.int p1), .val (.int p2), .val (.int p3), .val (.int p4), .val (.int c5), .val (.int c6), .val (.int c7), .val (.int c8), .val (.int x9), .val (.int x10), .val (.ref ar), .val (.ref br), .val (.ref na), .val (.ref ra), .val (.ref a5), .val (.ref a6), .val (.ref a7), .val (.ref a8), .val (.ref ex), .val (.ref ea), .val (.ref xs)]) rfl (pc' := 559) rfl ?_
      refine Go.aload K at_559 rfl rfl (pc' := 561) rfl ?_
      refine Go.ifnonnullR K at_561 (pc' := 566) (by decide) (by decide) ?_
      refine Go.aload K at_566 rfl rfl (pc' := 568) rfl ?_
      refine Go.aload K at_568 rfl rfl (pc' := 570) rfl ?_
      have eL : ([(nar .char (84 : Int32)), (nar .char (104 : Int32)), (nar .char (101 : Int32)), (nar .char (32 : Int32)), (nar .char (110 : Int32)), (nar .char (97 : Int32)), (nar .char (109 : Int32)), (nar .char (101 : Int32)), (nar .char (32 : Int32)), (nar .char (34 : Int32)), (nar .char c5), (nar .char c6), (nar .char (34 : Int32)), (nar .char (32 : Int32))] : List Int32) = (((([] ++ ([84, 104, 101, 32, 110, 97, 109, 101, 32, 34] : List Int32)) ++ ([(nar .char c5), (nar .char c6)] : List Int32)) ++ ([34, 32] : List Int32)) ++ ([] : List Int32)) := by simp only [own_c32, own_c34, own_c84, own_c97, own_c101, own_c104, own_c109, own_c110, List.nil_append, List.cons_append, List.append_nil]
      have hbE : ∀ c ∈ ([(nar .char (84 : Int32)), (nar .char (104 : Int32)), (nar .char (101 : Int32)), (nar .char (32 : Int32)), (nar .char (110 : Int32)), (nar .char (97 : Int32)), (nar .char (109 : Int32)), (nar .char (101 : Int32)), (nar .char (32 : Int32)), (nar .char (34 : Int32)), (nar .char c5), (nar .char c6), (nar .char (34 : Int32)), (nar .char (32 : Int32))] : List Int32), ¬ c < 0 ∧ ¬ (65535 : Int32) < c := fun c q => ⟨(hp c q).1, own_65 (hp c q).2⟩
      have hpm : ∀ c ∈ (((([] ++ ([84, 104, 101, 32, 110, 97, 109, 101, 32, 34] : List Int32)) ++ ([(nar .char c5), (nar .char c6)] : List Int32)) ++ ([34, 32] : List Int32)) ++ ([] : List Int32)), ¬ c < 0 ∧ ¬ (255 : Int32) < c := by rw [← eL]; exact hp
      have hbm : ∀ c ∈ (((([] ++ ([84, 104, 101, 32, 110, 97, 109, 101, 32, 34] : List Int32)) ++ ([(nar .char c5), (nar .char c6)] : List Int32)) ++ ([34, 32] : List Int32)) ++ ([] : List Int32)), ¬ c < 0 ∧ ¬ (65535 : Int32) < c := by rw [← eL]; exact hbE
      have hcE : StrChars.Road.CodA ([(nar .char (84 : Int32)), (nar .char (104 : Int32)), (nar .char (101 : Int32)), (nar .char (32 : Int32)), (nar .char (110 : Int32)), (nar .char (97 : Int32)), (nar .char (109 : Int32)), (nar .char (101 : Int32)), (nar .char (32 : Int32)), (nar .char (34 : Int32)), (nar .char c5), (nar .char c6), (nar .char (34 : Int32)), (nar .char (32 : Int32))] : List Int32) 0 (14 : Int32) ((([(nar .char (84 : Int32)), (nar .char (104 : Int32)), (nar .char (101 : Int32)), (nar .char (32 : Int32)), (nar .char (110 : Int32)), (nar .char (97 : Int32)), (nar .char (109 : Int32)), (nar .char (101 : Int32)), (nar .char (32 : Int32)), (nar .char (34 : Int32)), (nar .char c5), (nar .char c6), (nar .char (34 : Int32)), (nar .char (32 : Int32))] : List Int32).map (fun c => c.toInt8.toInt32)).map Value.int) := StrChars.Road.codOf (n := 14) rfl (fun c q => (hp c q).2)
      have hcm : StrChars.Road.CodA (((([] ++ ([84, 104, 101, 32, 110, 97, 109, 101, 32, 34] : List Int32)) ++ ([(nar .char c5), (nar .char c6)] : List Int32)) ++ ([34, 32] : List Int32)) ++ ([] : List Int32)) 0 (Int32.ofNat ((((([] ++ ([84, 104, 101, 32, 110, 97, 109, 101, 32, 34] : List Int32)) ++ ([(nar .char c5), (nar .char c6)] : List Int32)) ++ ([34, 32] : List Int32)) ++ ([] : List Int32))).length) (((((([] ++ ([84, 104, 101, 32, 110, 97, 109, 101, 32, 34] : List Int32)) ++ ([(nar .char c5), (nar .char c6)] : List Int32)) ++ ([34, 32] : List Int32)) ++ ([] : List Int32))).map fun c => Value.int (StrChars.lo8 c)) := StrChars.Road.codOf (n := 14) rfl (fun c q => (hpm c q).2)
      refine Go.callV K (y := (⟨"java/lang/String", "equals", "(Ljava/lang/Object;)Z"⟩ : MethodName)) (z := (⟨"java/lang/String", "equals", "(Ljava/lang/Object;)Z"⟩ : MethodName)) (W := 0) (kc := 0) (nc := 0) (a := xs) (mvT K.cz (hw _ (List.mem_of_getElem? (i := 213) rfl))) (mvT K.cz (hw _ (List.mem_of_getElem? (i := 214) rfl))) (notFace_of_selects (args := #[]) (mvT K.cz (hw _ (List.mem_of_getElem? (i := 216) rfl)))) (mvT K.cz (hw _ (List.mem_of_getElem? (i := 216) rfl))) (mvT K.cz (hw _ (List.mem_of_getElem? (i := 215) rfl))) (by decide) E_xs (paysEq (W := 0) K.cz hwe (kI := 4) (hw _ (List.mem_of_getElem? (i := 2) rfl)) (cs := (((([] ++ ([84, 104, 101, 32, 110, 97, 109, 101, 32, 34] : List Int32)) ++ ([(nar .char c5), (nar .char c6)] : List Int32)) ++ ([34, 32] : List Int32)) ++ ([] : List Int32))) (cs' := ([(nar .char (84 : Int32)), (nar .char (104 : Int32)), (nar .char (101 : Int32)), (nar .char (32 : Int32)), (nar .char (110 : Int32)), (nar .char (97 : Int32)), (nar .char (109 : Int32)), (nar .char (101 : Int32)), (nar .char (32 : Int32)), (nar .char (34 : Int32)), (nar .char c5), (nar .char c6), (nar .char (34 : Int32)), (nar .char (32 : Int32))] : List Int32)) E_xs F_xs C_xs V_ty hcm hbm (Nat.le_of_ble_eq_true rfl) f1635 f1637 f1636 f1638 hcE hbE (Nat.le_of_ble_eq_true rfl) (S1.ext od1639.2) P1 (by decide) (by decide)) rfl (argsL := [(.ref ex)]) (rest := []) (lenOf pd__28Ljava_2flang_2fObject_3b_29Z rfl) rfl (Nat.le_of_ble_eq_true rfl) (by decide) (by decide) (fun v h' L q => q.2.1 ▸ (Fr.nil _)) (fun v h' L q => q.2.2 ▸ Nat.le_refl _) at_570 (pc' := 573) rfl ?_
      rintro v1644 h1642 Lc1643 ⟨qv, rfl, eh⟩
      obtain rfl := eh.symm
      rcases qv with ⟨rfl, -⟩ | ⟨-, qx⟩
      · show Go p l e _ _ m _ below meth c _ _ _ _ h1629 _ _ (mkF m 573 #[.val (.int p0), .val (.int p1), .val (.int p2), .val (.int p3), .val (.int p4), .val (.int c5), .val (.int c6), .val (.int c7), .val (.int c8), .val (.int x9), .val (.int x10), .val (.ref ar), .val (.ref br), .val (.ref na), .val (.ref ra), .val (.ref a5), .val (.ref a6), .val (.ref a7), .val (.ref a8), .val (.ref ex), .val (.ref ea), .val (.ref xs)] [(.int (1 : Int32))])
        exact Go.retN K (by simp) (by decide) (by decide) at_573 (own_end hEL K.cz cr1634 rfl)
      · exact absurd eL.symm qx
  · replace h470 : ¬ (x9 = 0) := h470
    have ens : ns = [] := hx9.elim (fun q => absurd q.1 h470) (fun q => q.2)
    refine Go.iload K at_473 rfl (pc' := 475) rfl ?_
    refine Go.ifc K at_475 (by decide) (pcT := 492) (pcF := 478) (by decide) rfl (fun h475 => ?_) (fun h475 => ?_)
    · replace h475 : x10 = 0 := h475
      have ers : rs = ([(nar .char c7), (nar .char c8)] : List Int32) := hx10.elim (fun q => q.2) (fun q => absurd (q.1.symm.trans h475) (by decide))
      subst ens
      subst ers
      have hp : ∀ c ∈ ([(nar .char (84 : Int32)), (nar .char (104 : Int32)), (nar .char (101 : Int32)), (nar .char (32 : Int32)), (nar .char (110 : Int32)), (nar .char (97 : Int32)), (nar .char (109 : Int32)), (nar .char (101 : Int32)), (nar .char (32 : Int32)), (nar .char (34 : Int32)), (nar .char (34 : Int32)), (nar .char (32 : Int32)), (nar .char c7), (nar .char c8)] : List Int32), ¬ c < 0 ∧ ¬ (255 : Int32) < c := by
        intro c hc
        simp only [List.mem_cons, List.not_mem_nil, or_false] at hc
        rcases hc with rfl | rfl | rfl | rfl | rfl | rfl | rfl | rfl | rfl | rfl | rfl | rfl | rfl | rfl
        · decide
        · decide
        · decide
        · decide
        · decide
        · decide
        · decide
        · decide
        · decide
        · decide
        · decide
        · decide
        · exact hc7
        · exact hc8
      obtain ⟨E_na, C_na, tn, kn, F_na, V_tn⟩ := f1489
      obtain ⟨E_ra, C_ra, tr, kr, F_ra, V_tr⟩ := f1490
      refine Go.newO K (hw _ (List.mem_of_getElem? (i := 1) rfl)) (hw _ (List.mem_of_getElem? (i := 2) rfl)) (hw _ (List.mem_of_getElem? (i := 3) rfl)) (by decide) (by decide) at_492 (pc' := 495) rfl ?_
      intro h1645 ex eq1648 E1646 E_ex D1647
      have ne1649 : a6 ≠ ex := own_ne f1492.lt (Nat.le_of_eq eq1648.symm)
      have ne1650 : na ≠ ex := own_ne E_na.lt (Nat.le_of_eq eq1648.symm)
      have ne1651 : tr ≠ ex := own_ne V_tr.lt (Nat.le_of_eq eq1648.symm)
      have ne1652 : tn ≠ ex := own_ne V_tn.lt (Nat.le_of_eq eq1648.symm)
      have ne1653 : ra ≠ ex := own_ne E_ra.lt (Nat.le_of_eq eq1648.symm)
      have g_ex : n0 ≤ ex := Nat.le_trans z1496 (Nat.le_of_eq eq1648.symm)
      have sf1654 := Safe.ext E1646 cr1488.1 (Safe.new (Nat.le_of_eq eq1648.symm))
      have f1664 := f1492.ext E1646
      have f1665 := E_na.ext E1646
      have f1666 := C_na.ext E1646
      have f1667 := F_na.ext E1646
      have f1668 := V_tn.ext E1646
      have f1669 := E_ra.ext E1646
      have f1670 := C_ra.ext E1646
      have f1671 := F_ra.ext E1646
      have f1672 := V_tr.ext E1646
      have od1673 := od1495.ext E1646
      have z1674 := Nat.le_trans z1496 E1646.1
      have cr1675 := cr1488.trans (CHr.ext E1646 cr1488.1)
      clear f1492 od1495 z1496 cr1488
      have f1676 : Fld Z h1645 ex "java/lang/String" "coder" "B" (.int (0 : Int32)) := D1647 (Or.inr (hw _ (List.mem_of_getElem? (i := 27) rfl))) (ty := .byte) (by decide)
      have f1677 : Fld Z h1645 ex "java/lang/String" "value" "[B" .null := D1647 (Or.inr (hw _ (List.mem_of_getElem? (i := 29) rfl))) (ty := (.array .byte)) (by decide)
      refine Go.dup K at_495 rfl (pc' := 496) rfl ?_
      refine Go.aload K at_496 rfl rfl (pc' := 498) rfl ?_
      refine Go.callC K (y := (⟨"java/lang/String", "<init>", "([C)V"⟩ : MethodName)) (W := 1) (kc := 1) (nc := 14) (a := ex) rfl (mvT K.cz (hw _ (List.mem_of_getElem? (i := 4) rfl))) (mvT K.cz (hw _ (List.mem_of_getElem? (i := 5) rfl))) (mvT K.cz (hw _ (List.mem_of_getElem? (i := 6) rfl))) (by decide) (paysNew (W := 1) K.cz hws (kI := 4) (hw _ (List.mem_of_getElem? (i := 2) rfl)) (cs := ([(nar .char (84 : Int32)), (nar .char (104 : Int32)), (nar .char (101 : Int32)), (nar .char (32 : Int32)), (nar .char (110 : Int32)), (nar .char (97 : Int32)), (nar .char (109 : Int32)), (nar .char (101 : Int32)), (nar .char (32 : Int32)), (nar .char (34 : Int32)), (nar .char (34 : Int32)), (nar .char (32 : Int32)), (nar .char c7), (nar .char c8)] : List Int32)) (bs := ([(nar .char (84 : Int32)), (nar .char (104 : Int32)), (nar .char (101 : Int32)), (nar .char (32 : Int32)), (nar .char (110 : Int32)), (nar .char (97 : Int32)), (nar .char (109 : Int32)), (nar .char (101 : Int32)), (nar .char (32 : Int32)), (nar .char (34 : Int32)), (nar .char (34 : Int32)), (nar .char (32 : Int32)), (nar .char c7), (nar .char c8)] : List Int32).map (fun c => c.toInt8.toInt32)) (n := 14) g_ex z1674 E_ex f1677 f1676 f1664 (S1.ext od1673.2) P1 rfl rfl (by decide) (by decide) hp rfl (by decide) (by decide)) rfl (argsL := [(.ref a6)]) (rest := [(.ref ex)]) (lenOf pd__28_5bC_29V rfl) rfl (Nat.le_of_ble_eq_true rfl) (by decide) (by decide) (fun v h' L q => q.2.1) (fun v h' L q => q.2.2.1.1) at_498 (pc' := 501) rfl ?_
      rintro v1680 h1678 Lc1679 ⟨rfl, Nq, Kq_ex, E2_ex, C2_ex, tx, kb_ex, ht0, ht1_ex, htne, F2_ex, V2_tx⟩
      have ne1681 : a6 ≠ tx := own_ne f1664.lt ht1_ex
      have ne1682 : na ≠ tx := own_ne f1665.lt ht1_ex
      have ne1683 : tr ≠ tx := own_ne f1672.lt ht1_ex
      have ne1684 : ex ≠ tx := own_ne E_ex.lt ht1_ex
      have ne1685 : tn ≠ tx := own_ne f1668.lt ht1_ex
      have ne1686 : ra ≠ tx := own_ne f1669.lt ht1_ex
      have f1687 := Safe.keep Kq_ex (sfS sf1654 sf0) cr1675.1 sf1654
      have cr1688 := cr1675.trans (CHr.keep Kq_ex (sfS sf1654 sf0) cr1675.1)
      have f1689 := f1664.keep Kq_ex (ninS ne1649 nin0)
      have f1690 := f1665.keep Kq_ex
      have f1691 := f1666.keep Kq_ex (ninS ne1650 nin0)
      have f1692 := f1667.keep Kq_ex (ninS ne1650 nin0)
      have f1693 := f1668.keep Kq_ex (ninS ne1652 nin0)
      have f1694 := f1669.keep Kq_ex
      have f1695 := f1670.keep Kq_ex (ninS ne1653 nin0)
      have f1696 := f1671.keep Kq_ex (ninS ne1653 nin0)
      have f1697 := f1672.keep Kq_ex (ninS ne1651 nin0)
      have f1698 := E_ex.keep Kq_ex
      have od1701 := od1673.keep Kq_ex (allS g_ex all0)
      have z1702 := Nat.le_trans z1674 Kq_ex.1
      clear f1664 f1665 f1666 f1667 f1668 f1669 f1670 f1671 f1672 f1676 f1677 od1673 z1674 cr1675
      show Go p l e _ _ m _ below meth c _ _ _ _ h1678 _ _ (mkF m 501 #[.val (.int p0), .val (.int p1), .val (.int p2), .val (.int p3), .val (.int p4), .val (.int c5), .val (.int c6), .val (.int c7), .val (.int c8), .val (.int x9), .val (.int x10), .val (.ref ar), .val (.ref br), .val (.ref na), .val (.ref ra), .val (.ref a5), .val (.ref a6), .val (.ref a7), .val (.ref a8), .unset, .unset, .unset] [(.ref ex)])
      refine Go.astore K at_501 rfl (Ls' := #[.val (.int p0), .val (.int p1), .val (.int p2), .val (.int p3), .val (.int p4), .val (.int c5), .val (.int c6), .val (.int c7), .val (.int c8), .val (.int x9), .val (.int x10), .val (.ref ar), .val (.ref br), .val (.ref na), .val (.ref ra), .val (.ref a5), .val (.ref a6), .val (.ref a7), .val (.ref a8), .val (.ref ex), .unset, .unset]) rfl (pc' := 503) rfl ?_
      refine Go.goto K at_503 (pc' := 536) (by decide) (by decide) ?_
      refine Go.aload K at_536 rfl rfl (pc' := 538) rfl ?_
      refine Go.aload K at_538 rfl rfl (pc' := 540) rfl ?_
      refine Go.callSW K hS (y := (⟨"com/example/basehome/basehome/internal/VariableProblems", "nameRefusal", "(Ljava/lang/String;Ljava/lang/String;)Ljava/lang/IllegalArgumentException;"⟩ : MethodName)) (W := 0) (kc := 10) (nc := 2860) (mvT K.cz (hw _ (List.mem_of_getElem? (i := 30) rfl))) (mvT K.cz (hw _ (List.mem_of_getElem? (i := 31) rfl))) (mvT K.cz (hw _ (List.mem_of_getElem? (i := 32) rfl))) (mvT K.cz (hw _ (List.mem_of_getElem? (i := 33) rfl))) (by decide) ((m_nr l Z a0 hw h1678 n0 z1702 wS hEL na ra ([] : List Int32) ([(nar .char c7), (nar .char c8)] : List Int32) (Nat.le_of_ble_eq_true rfl) (Nat.le_of_ble_eq_true rfl) ⟨f1690, f1691, tn, kn, f1692, f1693⟩ ⟨f1694, f1695, tr, kr, f1696, f1697⟩ hl us ss SU SS od1701 zc S1 P1).pays (W := 0) K.cz (hw _ (List.mem_of_getElem? (i := 33) rfl)) (hw _ (List.mem_of_getElem? (i := 32) rfl)) (by decide) (by decide) hEL cr1688.1 (Vm.MethodsKnown.alikeC hS.1.alike hTK) (Vm.FramesKnown.alikeC hS.1.alike hBl)) rfl (argsL := [(.ref na), (.ref ra)]) (rest := []) (lenOf pd__28Ljava_2flang_2fString_3bLjava_2flang_2fString_3b_29Ljava_2flang_2fIllegalArgumentException_3b rfl) rfl (Nat.le_of_ble_eq_true rfl) (by decide) (by decide) frOf at_540 (pc' := 543) rfl ?_
      rintro v1705 h1703 Lc1704 vm1706 B1707 ⟨⟨⟨ea, xs, rfl, hle, Kq, Ee, Fe, E_xs, C_xs, ty, ky, F_xs, V_ty⟩, -⟩, -⟩ hrh1703 hS K
      have cr1708 := cr1688.trans (hrh1703)
      have f1709 := E2_ex.keep Kq
      have f1710 := C2_ex.keep Kq nin0
      have f1711 := F2_ex.keep Kq nin0
      have f1712 := V2_tx.keep Kq nin0
      have od1713 := od1701.keep Kq all0
      have z1714 := Nat.le_trans z1702 Kq.1
      clear od1701 z1702 cr1688
      show Go p l e _ _ m _ below meth c _ _ _ _ h1703 _ _ (mkF m 543 #[.val (.int p0), .val (.int p1), .val (.int p2), .val (.int p3), .val (.int p4), .val (.int c5), .val (.int c6), .val (.int c7), .val (.int c8), .val (.int x9), .val (.int x10), .val (.ref ar), .val (.ref br), .val (.ref na), .val (.ref ra), .val (.ref a5), .val (.ref a6), .val (.ref a7), .val (.ref a8), .val (.ref ex), .unset, .unset] [(.ref ea)])
      refine Go.astore K at_543 rfl (Ls' := #[.val (.int p0), .val (.int p1), .val (.int p2), .val (.int p3), .val (.int p4), .val (.int c5), .val (.int c6), .val (.int c7), .val (.int c8), .val (.int x9), .val (.int x10), .val (.ref ar), .val (.ref br), .val (.ref na), .val (.ref ra), .val (.ref a5), .val (.ref a6), .val (.ref a7), .val (.ref a8), .val (.ref ex), .val (.ref ea), .unset]) rfl (pc' := 545) rfl ?_
      refine Go.aload K at_545 rfl rfl (pc' := 547) rfl ?_
      refine Go.ifnonnullR K at_547 (pc' := 552) (by decide) (by decide) ?_
      refine Go.aload K at_552 rfl rfl (pc' := 554) rfl ?_
      refine Go.callVU K (y := (⟨"java/lang/IllegalArgumentException", "getMessage", "()Ljava/lang/String;"⟩ : MethodName)) (z := (⟨"java/lang/Throwable", "getMessage", "()Ljava/lang/String;"⟩ : MethodName)) (owner := "java/lang/Throwable") (W := 0) (kc := 0) (nc := 0) (a := ea) (mvT K.cz (hw _ (List.mem_of_getElem? (i := 207) rfl))) (mvT K.cz (hw _ (List.mem_of_getElem? (i := 208) rfl))) (mvT K.cz (hw _ (List.mem_of_getElem? (i := 209) rfl))) (by decide) (mvT K.cz (hw _ (List.mem_of_getElem? (i := 211) rfl))) (mvT K.cz (hw _ (List.mem_of_getElem? (i := 210) rfl))) Ee ((m_gm l Z a0 hw h1703 n0 z1714 ea xs Fe).pays (W := 0) K.cz (hw _ (List.mem_of_getElem? (i := 212) rfl)) (hw _ (List.mem_of_getElem? (i := 168) rfl)) (by decide) (by decide)) rfl (argsL := []) (rest := []) (lenOf pd__28_29Ljava_2flang_2fString_3b rfl) rfl (Nat.le_of_ble_eq_true rfl) (by decide) (by decide) frOf grOf at_554 (pc' := 557) rfl ?_
      rintro vq h1715 Lq ⟨⟨⟨rfl, eh⟩, -⟩, -⟩
      obtain rfl := eh
      show Go p l e _ _ m _ below meth c _ _ _ _ h1703 _ _ (mkF m 557 #[.val (.int p0), .val (.int p1), .val (.int p2), .val (.int p3), .val (.int p4), .val (.int c5), .val (.int c6), .val (.int c7), .val (.int c8), .val (.int x9), .val (.int x10), .val (.ref ar), .val (.ref br), .val (.ref na), .val (.ref ra), .val (.ref a5), .val (.ref a6), .val (.ref a7), .val (.ref a8), .val (.ref ex), .val (.ref ea), .unset] [(.ref xs)])
      refine Go.astore K at_557 rfl (Ls' := #[.val (.int p0), .val (.int p1), .val (.int p2), .val (.int p3), .val (.int p4), .val (.int c5), .val (.int c6), .val (.int c7), .val (.int c8), .val (.int x9), .val (.int x10), .val (.ref ar), .val (.ref br), .val (.ref na), .val (.ref ra), .val (.ref a5), .val (.ref a6), .val (.ref a7), .val (.ref a8), .val (.ref ex), .val (.ref ea), .val (.ref xs)]) rfl (pc' := 559) rfl ?_
      refine Go.aload K at_559 rfl rfl (pc' := 561) rfl ?_
      refine Go.ifnonnullR K at_561 (pc' := 566) (by decide) (by decide) ?_
      refine Go.aload K at_566 rfl rfl (pc' := 568) rfl ?_
      refine Go.aload K at_568 rfl rfl (pc' := 570) rfl ?_
      have eL : ([(nar .char (84 : Int32)), (nar .char (104 : Int32)), (nar .char (101 : Int32)), (nar .char (32 : Int32)), (nar .char (110 : Int32)), (nar .char (97 : Int32)), (nar .char (109 : Int32)), (nar .char (101 : Int32)), (nar .char (32 : Int32)), (nar .char (34 : Int32)), (nar .char (34 : Int32)), (nar .char (32 : Int32)), (nar .char c7), (nar .char c8)] : List Int32) = (((([] ++ ([84, 104, 101, 32, 110, 97, 109, 101, 32, 34] : List Int32)) ++ ([] : List Int32)) ++ ([34, 32] : List Int32)) ++ ([(nar .char c7), (nar .char c8)] : List Int32)) := by simp only [own_c32, own_c34, own_c84, own_c97, own_c101, own_c104, own_c109, own_c110, List.nil_append, List.cons_append, List.append_nil]
      have hbE : ∀ c ∈ ([(nar .char (84 : Int32)), (nar .char (104 : Int32)), (nar .char (101 : Int32)), (nar .char (32 : Int32)), (nar .char (110 : Int32)), (nar .char (97 : Int32)), (nar .char (109 : Int32)), (nar .char (101 : Int32)), (nar .char (32 : Int32)), (nar .char (34 : Int32)), (nar .char (34 : Int32)), (nar .char (32 : Int32)), (nar .char c7), (nar .char c8)] : List Int32), ¬ c < 0 ∧ ¬ (65535 : Int32) < c := fun c q => ⟨(hp c q).1, own_65 (hp c q).2⟩
      have hpm : ∀ c ∈ (((([] ++ ([84, 104, 101, 32, 110, 97, 109, 101, 32, 34] : List Int32)) ++ ([] : List Int32)) ++ ([34, 32] : List Int32)) ++ ([(nar .char c7), (nar .char c8)] : List Int32)), ¬ c < 0 ∧ ¬ (255 : Int32) < c := by rw [← eL]; exact hp
      have hbm : ∀ c ∈ (((([] ++ ([84, 104, 101, 32, 110, 97, 109, 101, 32, 34] : List Int32)) ++ ([] : List Int32)) ++ ([34, 32] : List Int32)) ++ ([(nar .char c7), (nar .char c8)] : List Int32)), ¬ c < 0 ∧ ¬ (65535 : Int32) < c := by rw [← eL]; exact hbE
      have hcE : StrChars.Road.CodA ([(nar .char (84 : Int32)), (nar .char (104 : Int32)), (nar .char (101 : Int32)), (nar .char (32 : Int32)), (nar .char (110 : Int32)), (nar .char (97 : Int32)), (nar .char (109 : Int32)), (nar .char (101 : Int32)), (nar .char (32 : Int32)), (nar .char (34 : Int32)), (nar .char (34 : Int32)), (nar .char (32 : Int32)), (nar .char c7), (nar .char c8)] : List Int32) 0 (14 : Int32) ((([(nar .char (84 : Int32)), (nar .char (104 : Int32)), (nar .char (101 : Int32)), (nar .char (32 : Int32)), (nar .char (110 : Int32)), (nar .char (97 : Int32)), (nar .char (109 : Int32)), (nar .char (101 : Int32)), (nar .char (32 : Int32)), (nar .char (34 : Int32)), (nar .char (34 : Int32)), (nar .char (32 : Int32)), (nar .char c7), (nar .char c8)] : List Int32).map (fun c => c.toInt8.toInt32)).map Value.int) := StrChars.Road.codOf (n := 14) rfl (fun c q => (hp c q).2)
      have hcm : StrChars.Road.CodA (((([] ++ ([84, 104, 101, 32, 110, 97, 109, 101, 32, 34] : List Int32)) ++ ([] : List Int32)) ++ ([34, 32] : List Int32)) ++ ([(nar .char c7), (nar .char c8)] : List Int32)) 0 (Int32.ofNat ((((([] ++ ([84, 104, 101, 32, 110, 97, 109, 101, 32, 34] : List Int32)) ++ ([] : List Int32)) ++ ([34, 32] : List Int32)) ++ ([(nar .char c7), (nar .char c8)] : List Int32))).length) (((((([] ++ ([84, 104, 101, 32, 110, 97, 109, 101, 32, 34] : List Int32)) ++ ([] : List Int32)) ++ ([34, 32] : List Int32)) ++ ([(nar .char c7), (nar .char c8)] : List Int32))).map fun c => Value.int (StrChars.lo8 c)) := StrChars.Road.codOf (n := 14) rfl (fun c q => (hpm c q).2)
      refine Go.callV K (y := (⟨"java/lang/String", "equals", "(Ljava/lang/Object;)Z"⟩ : MethodName)) (z := (⟨"java/lang/String", "equals", "(Ljava/lang/Object;)Z"⟩ : MethodName)) (W := 0) (kc := 0) (nc := 0) (a := xs) (mvT K.cz (hw _ (List.mem_of_getElem? (i := 213) rfl))) (mvT K.cz (hw _ (List.mem_of_getElem? (i := 214) rfl))) (notFace_of_selects (args := #[]) (mvT K.cz (hw _ (List.mem_of_getElem? (i := 216) rfl)))) (mvT K.cz (hw _ (List.mem_of_getElem? (i := 216) rfl))) (mvT K.cz (hw _ (List.mem_of_getElem? (i := 215) rfl))) (by decide) E_xs (paysEq (W := 0) K.cz hwe (kI := 4) (hw _ (List.mem_of_getElem? (i := 2) rfl)) (cs := (((([] ++ ([84, 104, 101, 32, 110, 97, 109, 101, 32, 34] : List Int32)) ++ ([] : List Int32)) ++ ([34, 32] : List Int32)) ++ ([(nar .char c7), (nar .char c8)] : List Int32))) (cs' := ([(nar .char (84 : Int32)), (nar .char (104 : Int32)), (nar .char (101 : Int32)), (nar .char (32 : Int32)), (nar .char (110 : Int32)), (nar .char (97 : Int32)), (nar .char (109 : Int32)), (nar .char (101 : Int32)), (nar .char (32 : Int32)), (nar .char (34 : Int32)), (nar .char (34 : Int32)), (nar .char (32 : Int32)), (nar .char c7), (nar .char c8)] : List Int32)) E_xs F_xs C_xs V_ty hcm hbm (Nat.le_of_ble_eq_true rfl) f1709 f1711 f1710 f1712 hcE hbE (Nat.le_of_ble_eq_true rfl) (S1.ext od1713.2) P1 (by decide) (by decide)) rfl (argsL := [(.ref ex)]) (rest := []) (lenOf pd__28Ljava_2flang_2fObject_3b_29Z rfl) rfl (Nat.le_of_ble_eq_true rfl) (by decide) (by decide) (fun v h' L q => q.2.1 ▸ (Fr.nil _)) (fun v h' L q => q.2.2 ▸ Nat.le_refl _) at_570 (pc' := 573) rfl ?_
      rintro v1718 h1716 Lc1717 ⟨qv, rfl, eh⟩
      obtain rfl := eh.symm
      rcases qv with ⟨rfl, -⟩ | ⟨-, qx⟩
      · show Go p l e _ _ m _ below meth c _ _ _ _ h1703 _ _ (mkF m 573 #[.val (.int p0), .val (.int p1), .val (.int p2), .val (.int p3), .val (.int p4), .val (.int c5), .val (.int c6), .val (.int c7), .val (.int c8), .val (.int x9), .val (.int x10), .val (.ref ar), .val (.ref br), .val (.ref na), .val (.ref ra), .val (.ref a5), .val (.ref a6), .val (.ref a7), .val (.ref a8), .val (.ref ex), .val (.ref ea), .val (.ref xs)] [(.int (1 : Int32))])
        exact Go.retN K (by simp) (by decide) (by decide) at_573 (own_end hEL K.cz cr1708 rfl)
      · exact absurd eL.symm qx
    · replace h475 : ¬ (x10 = 0) := h475
      have ers : rs = [] := hx10.elim (fun q => absurd q.1 h475) (fun q => q.2)
      subst ens
      subst ers
      have hp : ∀ c ∈ ([(nar .char (84 : Int32)), (nar .char (104 : Int32)), (nar .char (101 : Int32)), (nar .char (32 : Int32)), (nar .char (110 : Int32)), (nar .char (97 : Int32)), (nar .char (109 : Int32)), (nar .char (101 : Int32)), (nar .char (32 : Int32)), (nar .char (34 : Int32)), (nar .char (34 : Int32)), (nar .char (32 : Int32))] : List Int32), ¬ c < 0 ∧ ¬ (255 : Int32) < c := by
        intro c hc
        simp only [List.mem_cons, List.not_mem_nil, or_false] at hc
        rcases hc with rfl | rfl | rfl | rfl | rfl | rfl | rfl | rfl | rfl | rfl | rfl | rfl
        · decide
        · decide
        · decide
        · decide
        · decide
        · decide
        · decide
        · decide
        · decide
        · decide
        · decide
        · decide
      obtain ⟨E_na, C_na, tn, kn, F_na, V_tn⟩ := f1489
      obtain ⟨E_ra, C_ra, tr, kr, F_ra, V_tr⟩ := f1490
      refine Go.newO K (hw _ (List.mem_of_getElem? (i := 1) rfl)) (hw _ (List.mem_of_getElem? (i := 2) rfl)) (hw _ (List.mem_of_getElem? (i := 3) rfl)) (by decide) (by decide) at_478 (pc' := 481) rfl ?_
      intro h1719 ex eq1722 E1720 E_ex D1721
      have ne1723 : a8 ≠ ex := own_ne V1487.lt (Nat.le_of_eq eq1722.symm)
      have ne1724 : na ≠ ex := own_ne E_na.lt (Nat.le_of_eq eq1722.symm)
      have ne1725 : tr ≠ ex := own_ne V_tr.lt (Nat.le_of_eq eq1722.symm)
      have ne1726 : tn ≠ ex := own_ne V_tn.lt (Nat.le_of_eq eq1722.symm)
      have ne1727 : ra ≠ ex := own_ne E_ra.lt (Nat.le_of_eq eq1722.symm)
      have g_ex : n0 ≤ ex := Nat.le_trans z1496 (Nat.le_of_eq eq1722.symm)
      have sf1728 := Safe.ext E1720 cr1488.1 (Safe.new (Nat.le_of_eq eq1722.symm))
      have f1738 := V1487.ext E1720
      have f1739 := E_na.ext E1720
      have f1740 := C_na.ext E1720
      have f1741 := F_na.ext E1720
      have f1742 := V_tn.ext E1720
      have f1743 := E_ra.ext E1720
      have f1744 := C_ra.ext E1720
      have f1745 := F_ra.ext E1720
      have f1746 := V_tr.ext E1720
      have od1747 := od1495.ext E1720
      have z1748 := Nat.le_trans z1496 E1720.1
      have cr1749 := cr1488.trans (CHr.ext E1720 cr1488.1)
      clear V1487 od1495 z1496 cr1488
      have f1750 : Fld Z h1719 ex "java/lang/String" "coder" "B" (.int (0 : Int32)) := D1721 (Or.inr (hw _ (List.mem_of_getElem? (i := 27) rfl))) (ty := .byte) (by decide)
      have f1751 : Fld Z h1719 ex "java/lang/String" "value" "[B" .null := D1721 (Or.inr (hw _ (List.mem_of_getElem? (i := 29) rfl))) (ty := (.array .byte)) (by decide)
      refine Go.dup K at_481 rfl (pc' := 482) rfl ?_
      refine Go.aload K at_482 rfl rfl (pc' := 484) rfl ?_
      refine Go.callC K (y := (⟨"java/lang/String", "<init>", "([C)V"⟩ : MethodName)) (W := 1) (kc := 1) (nc := 12) (a := ex) rfl (mvT K.cz (hw _ (List.mem_of_getElem? (i := 4) rfl))) (mvT K.cz (hw _ (List.mem_of_getElem? (i := 5) rfl))) (mvT K.cz (hw _ (List.mem_of_getElem? (i := 6) rfl))) (by decide) (paysNew (W := 1) K.cz hws (kI := 4) (hw _ (List.mem_of_getElem? (i := 2) rfl)) (cs := ([(nar .char (84 : Int32)), (nar .char (104 : Int32)), (nar .char (101 : Int32)), (nar .char (32 : Int32)), (nar .char (110 : Int32)), (nar .char (97 : Int32)), (nar .char (109 : Int32)), (nar .char (101 : Int32)), (nar .char (32 : Int32)), (nar .char (34 : Int32)), (nar .char (34 : Int32)), (nar .char (32 : Int32))] : List Int32)) (bs := ([(nar .char (84 : Int32)), (nar .char (104 : Int32)), (nar .char (101 : Int32)), (nar .char (32 : Int32)), (nar .char (110 : Int32)), (nar .char (97 : Int32)), (nar .char (109 : Int32)), (nar .char (101 : Int32)), (nar .char (32 : Int32)), (nar .char (34 : Int32)), (nar .char (34 : Int32)), (nar .char (32 : Int32))] : List Int32).map (fun c => c.toInt8.toInt32)) (n := 12) g_ex z1748 E_ex f1751 f1750 f1738 (S1.ext od1747.2) P1 rfl rfl (by decide) (by decide) hp rfl (by decide) (by decide)) rfl (argsL := [(.ref a8)]) (rest := [(.ref ex)]) (lenOf pd__28_5bC_29V rfl) rfl (Nat.le_of_ble_eq_true rfl) (by decide) (by decide) (fun v h' L q => q.2.1) (fun v h' L q => q.2.2.1.1) at_484 (pc' := 487) rfl ?_
      rintro v1754 h1752 Lc1753 ⟨rfl, Nq, Kq_ex, E2_ex, C2_ex, tx, kb_ex, ht0, ht1_ex, htne, F2_ex, V2_tx⟩
      have ne1755 : a8 ≠ tx := own_ne f1738.lt ht1_ex
      have ne1756 : na ≠ tx := own_ne f1739.lt ht1_ex
      have ne1757 : tr ≠ tx := own_ne f1746.lt ht1_ex
      have ne1758 : ex ≠ tx := own_ne E_ex.lt ht1_ex
      have ne1759 : tn ≠ tx := own_ne f1742.lt ht1_ex
      have ne1760 : ra ≠ tx := own_ne f1743.lt ht1_ex
      have f1761 := Safe.keep Kq_ex (sfS sf1728 sf0) cr1749.1 sf1728
      have cr1762 := cr1749.trans (CHr.keep Kq_ex (sfS sf1728 sf0) cr1749.1)
      have f1763 := f1738.keep Kq_ex (ninS ne1723 nin0)
      have f1764 := f1739.keep Kq_ex
      have f1765 := f1740.keep Kq_ex (ninS ne1724 nin0)
      have f1766 := f1741.keep Kq_ex (ninS ne1724 nin0)
      have f1767 := f1742.keep Kq_ex (ninS ne1726 nin0)
      have f1768 := f1743.keep Kq_ex
      have f1769 := f1744.keep Kq_ex (ninS ne1727 nin0)
      have f1770 := f1745.keep Kq_ex (ninS ne1727 nin0)
      have f1771 := f1746.keep Kq_ex (ninS ne1725 nin0)
      have f1772 := E_ex.keep Kq_ex
      have od1775 := od1747.keep Kq_ex (allS g_ex all0)
      have z1776 := Nat.le_trans z1748 Kq_ex.1
      clear f1738 f1739 f1740 f1741 f1742 f1743 f1744 f1745 f1746 f1750 f1751 od1747 z1748 cr1749
      show Go p l e _ _ m _ below meth c _ _ _ _ h1752 _ _ (mkF m 487 #[.val (.int p0), .val (.int p1), .val (.int p2), .val (.int p3), .val (.int p4), .val (.int c5), .val (.int c6), .val (.int c7), .val (.int c8), .val (.int x9), .val (.int x10), .val (.ref ar), .val (.ref br), .val (.ref na), .val (.ref ra), .val (.ref a5), .val (.ref a6), .val (.ref a7), .val (.ref a8), .unset, .unset, .unset] [(.ref ex)])
      refine Go.astore K at_487 rfl (Ls' := #[.val (.int p0), .val (.int p1), .val (.int p2), .val (.int p3), .val (.int p4), .val (.int c5), .val (.int c6), .val (.int c7), .val (.int c8), .val (.int x9), .val (.int x10), .val (.ref ar), .val (.ref br), .val (.ref na), .val (.ref ra), .val (.ref a5), .val (.ref a6), .val (.ref a7), .val (.ref a8), .val (.ref ex), .unset, .unset]) rfl (pc' := 489) rfl ?_
      refine Go.goto K at_489 (pc' := 536) (by decide) (by decide) ?_
      refine Go.aload K at_536 rfl rfl (pc' := 538) rfl ?_
      refine Go.aload K at_538 rfl rfl (pc' := 540) rfl ?_
      refine Go.callSW K hS (y := (⟨"com/example/basehome/basehome/internal/VariableProblems", "nameRefusal", "(Ljava/lang/String;Ljava/lang/String;)Ljava/lang/IllegalArgumentException;"⟩ : MethodName)) (W := 0) (kc := 10) (nc := 2860) (mvT K.cz (hw _ (List.mem_of_getElem? (i := 30) rfl))) (mvT K.cz (hw _ (List.mem_of_getElem? (i := 31) rfl))) (mvT K.cz (hw _ (List.mem_of_getElem? (i := 32) rfl))) (mvT K.cz (hw _ (List.mem_of_getElem? (i := 33) rfl))) (by decide) ((m_nr l Z a0 hw h1752 n0 z1776 wS hEL na ra ([] : List Int32) ([] : List Int32) (Nat.le_of_ble_eq_true rfl) (Nat.le_of_ble_eq_true rfl) ⟨f1764, f1765, tn, kn, f1766, f1767⟩ ⟨f1768, f1769, tr, kr, f1770, f1771⟩ hl us ss SU SS od1775 zc S1 P1).pays (W := 0) K.cz (hw _ (List.mem_of_getElem? (i := 33) rfl)) (hw _ (List.mem_of_getElem? (i := 32) rfl)) (by decide) (by decide) hEL cr1762.1 (Vm.MethodsKnown.alikeC hS.1.alike hTK) (Vm.FramesKnown.alikeC hS.1.alike hBl)) rfl (argsL := [(.ref na), (.ref ra)]) (rest := []) (lenOf pd__28Ljava_2flang_2fString_3bLjava_2flang_2fString_3b_29Ljava_2flang_2fIllegalArgumentException_3b rfl) rfl (Nat.le_of_ble_eq_true rfl) (by decide) (by decide) frOf at_540 (pc' := 543) rfl ?_
      rintro v1779 h1777 Lc1778 vm1780 B1781 ⟨⟨⟨ea, xs, rfl, hle, Kq, Ee, Fe, E_xs, C_xs, ty, ky, F_xs, V_ty⟩, -⟩, -⟩ hrh1777 hS K
      have cr1782 := cr1762.trans (hrh1777)
      have f1783 := E2_ex.keep Kq
      have f1784 := C2_ex.keep Kq nin0
      have f1785 := F2_ex.keep Kq nin0
      have f1786 := V2_tx.keep Kq nin0
      have od1787 := od1775.keep Kq all0
      have z1788 := Nat.le_trans z1776 Kq.1
      clear od1775 z1776 cr1762
      show Go p l e _ _ m _ below meth c _ _ _ _ h1777 _ _ (mkF m 543 #[.val (.int p0), .val (.int p1), .val (.int p2), .val (.int p3), .val (.int p4), .val (.int c5), .val (.int c6), .val (.int c7), .val (.int c8), .val (.int x9), .val (.int x10), .val (.ref ar), .val (.ref br), .val (.ref na), .val (.ref ra), .val (.ref a5), .val (.ref a6), .val (.ref a7), .val (.ref a8), .val (.ref ex), .unset, .unset] [(.ref ea)])
      refine Go.astore K at_543 rfl (Ls' := #[.val (.int p0), .val (.int p1), .val (.int p2), .val (.int p3), .val (.int p4), .val (.int c5), .val (.int c6), .val (.int c7), .val (.int c8), .val (.int x9), .val (.int x10), .val (.ref ar), .val (.ref br), .val (.ref na), .val (.ref ra), .val (.ref a5), .val (.ref a6), .val (.ref a7), .val (.ref a8), .val (.ref ex), .val (.ref ea), .unset]) rfl (pc' := 545) rfl ?_
      refine Go.aload K at_545 rfl rfl (pc' := 547) rfl ?_
      refine Go.ifnonnullR K at_547 (pc' := 552) (by decide) (by decide) ?_
      refine Go.aload K at_552 rfl rfl (pc' := 554) rfl ?_
      refine Go.callVU K (y := (⟨"java/lang/IllegalArgumentException", "getMessage", "()Ljava/lang/String;"⟩ : MethodName)) (z := (⟨"java/lang/Throwable", "getMessage", "()Ljava/lang/String;"⟩ : MethodName)) (owner := "java/lang/Throwable") (W := 0) (kc := 0) (nc := 0) (a := ea) (mvT K.cz (hw _ (List.mem_of_getElem? (i := 207) rfl))) (mvT K.cz (hw _ (List.mem_of_getElem? (i := 208) rfl))) (mvT K.cz (hw _ (List.mem_of_getElem? (i := 209) rfl))) (by decide) (mvT K.cz (hw _ (List.mem_of_getElem? (i := 211) rfl))) (mvT K.cz (hw _ (List.mem_of_getElem? (i := 210) rfl))) Ee ((m_gm l Z a0 hw h1777 n0 z1788 ea xs Fe).pays (W := 0) K.cz (hw _ (List.mem_of_getElem? (i := 212) rfl)) (hw _ (List.mem_of_getElem? (i := 168) rfl)) (by decide) (by decide)) rfl (argsL := []) (rest := []) (lenOf pd__28_29Ljava_2flang_2fString_3b rfl) rfl (Nat.le_of_ble_eq_true rfl) (by decide) (by decide) frOf grOf at_554 (pc' := 557) rfl ?_
      rintro vq h1789 Lq ⟨⟨⟨rfl, eh⟩, -⟩, -⟩
      obtain rfl := eh
      show Go p l e _ _ m _ below meth c _ _ _ _ h1777 _ _ (mkF m 557 #[.val (.int p0), .val (.int p1), .val (.int p2), .val (.int p3), .val (.int p4), .val (.int c5), .val (.int c6), .val (.int c7), .val (.int c8), .val (.int x9), .val (.int x10), .val (.ref ar), .val (.ref br), .val (.ref na), .val (.ref ra), .val (.ref a5), .val (.ref a6), .val (.ref a7), .val (.ref a8), .val (.ref ex), .val (.ref ea), .unset] [(.ref xs)])
      refine Go.astore K at_557 rfl (Ls' := #[.val (.int p0), .val (.int p1), .val (.int p2), .val (.int p3), .val (.int p4), .val (.int c5), .val (.int c6), .val (.int c7), .val (.int c8), .val (.int x9), .val (.int x10), .val (.ref ar), .val (.ref br), .val (.ref na), .val (.ref ra), .val (.ref a5), .val (.ref a6), .val (.ref a7), .val (.ref a8), .val (.ref ex), .val (.ref ea), .val (.ref xs)]) rfl (pc' := 559) rfl ?_
      refine Go.aload K at_559 rfl rfl (pc' := 561) rfl ?_
      refine Go.ifnonnullR K at_561 (pc' := 566) (by decide) (by decide) ?_
      refine Go.aload K at_566 rfl rfl (pc' := 568) rfl ?_
      refine Go.aload K at_568 rfl rfl (pc' := 570) rfl ?_
      have eL : ([(nar .char (84 : Int32)), (nar .char (104 : Int32)), (nar .char (101 : Int32)), (nar .char (32 : Int32)), (nar .char (110 : Int32)), (nar .char (97 : Int32)), (nar .char (109 : Int32)), (nar .char (101 : Int32)), (nar .char (32 : Int32)), (nar .char (34 : Int32)), (nar .char (34 : Int32)), (nar .char (32 : Int32))] : List Int32) = (((([] ++ ([84, 104, 101, 32, 110, 97, 109, 101, 32, 34] : List Int32)) ++ ([] : List Int32)) ++ ([34, 32] : List Int32)) ++ ([] : List Int32)) := by simp only [own_c32, own_c34, own_c84, own_c97, own_c101, own_c104, own_c109, own_c110, List.nil_append, List.cons_append, List.append_nil]
      have hbE : ∀ c ∈ ([(nar .char (84 : Int32)), (nar .char (104 : Int32)), (nar .char (101 : Int32)), (nar .char (32 : Int32)), (nar .char (110 : Int32)), (nar .char (97 : Int32)), (nar .char (109 : Int32)), (nar .char (101 : Int32)), (nar .char (32 : Int32)), (nar .char (34 : Int32)), (nar .char (34 : Int32)), (nar .char (32 : Int32))] : List Int32), ¬ c < 0 ∧ ¬ (65535 : Int32) < c := fun c q => ⟨(hp c q).1, own_65 (hp c q).2⟩
      have hpm : ∀ c ∈ (((([] ++ ([84, 104, 101, 32, 110, 97, 109, 101, 32, 34] : List Int32)) ++ ([] : List Int32)) ++ ([34, 32] : List Int32)) ++ ([] : List Int32)), ¬ c < 0 ∧ ¬ (255 : Int32) < c := by rw [← eL]; exact hp
      have hbm : ∀ c ∈ (((([] ++ ([84, 104, 101, 32, 110, 97, 109, 101, 32, 34] : List Int32)) ++ ([] : List Int32)) ++ ([34, 32] : List Int32)) ++ ([] : List Int32)), ¬ c < 0 ∧ ¬ (65535 : Int32) < c := by rw [← eL]; exact hbE
      have hcE : StrChars.Road.CodA ([(nar .char (84 : Int32)), (nar .char (104 : Int32)), (nar .char (101 : Int32)), (nar .char (32 : Int32)), (nar .char (110 : Int32)), (nar .char (97 : Int32)), (nar .char (109 : Int32)), (nar .char (101 : Int32)), (nar .char (32 : Int32)), (nar .char (34 : Int32)), (nar .char (34 : Int32)), (nar .char (32 : Int32))] : List Int32) 0 (12 : Int32) ((([(nar .char (84 : Int32)), (nar .char (104 : Int32)), (nar .char (101 : Int32)), (nar .char (32 : Int32)), (nar .char (110 : Int32)), (nar .char (97 : Int32)), (nar .char (109 : Int32)), (nar .char (101 : Int32)), (nar .char (32 : Int32)), (nar .char (34 : Int32)), (nar .char (34 : Int32)), (nar .char (32 : Int32))] : List Int32).map (fun c => c.toInt8.toInt32)).map Value.int) := StrChars.Road.codOf (n := 12) rfl (fun c q => (hp c q).2)
      have hcm : StrChars.Road.CodA (((([] ++ ([84, 104, 101, 32, 110, 97, 109, 101, 32, 34] : List Int32)) ++ ([] : List Int32)) ++ ([34, 32] : List Int32)) ++ ([] : List Int32)) 0 (Int32.ofNat ((((([] ++ ([84, 104, 101, 32, 110, 97, 109, 101, 32, 34] : List Int32)) ++ ([] : List Int32)) ++ ([34, 32] : List Int32)) ++ ([] : List Int32))).length) (((((([] ++ ([84, 104, 101, 32, 110, 97, 109, 101, 32, 34] : List Int32)) ++ ([] : List Int32)) ++ ([34, 32] : List Int32)) ++ ([] : List Int32))).map fun c => Value.int (StrChars.lo8 c)) := StrChars.Road.codOf (n := 12) rfl (fun c q => (hpm c q).2)
      refine Go.callV K (y := (⟨"java/lang/String", "equals", "(Ljava/lang/Object;)Z"⟩ : MethodName)) (z := (⟨"java/lang/String", "equals", "(Ljava/lang/Object;)Z"⟩ : MethodName)) (W := 0) (kc := 0) (nc := 0) (a := xs) (mvT K.cz (hw _ (List.mem_of_getElem? (i := 213) rfl))) (mvT K.cz (hw _ (List.mem_of_getElem? (i := 214) rfl))) (notFace_of_selects (args := #[]) (mvT K.cz (hw _ (List.mem_of_getElem? (i := 216) rfl)))) (mvT K.cz (hw _ (List.mem_of_getElem? (i := 216) rfl))) (mvT K.cz (hw _ (List.mem_of_getElem? (i := 215) rfl))) (by decide) E_xs (paysEq (W := 0) K.cz hwe (kI := 4) (hw _ (List.mem_of_getElem? (i := 2) rfl)) (cs := (((([] ++ ([84, 104, 101, 32, 110, 97, 109, 101, 32, 34] : List Int32)) ++ ([] : List Int32)) ++ ([34, 32] : List Int32)) ++ ([] : List Int32))) (cs' := ([(nar .char (84 : Int32)), (nar .char (104 : Int32)), (nar .char (101 : Int32)), (nar .char (32 : Int32)), (nar .char (110 : Int32)), (nar .char (97 : Int32)), (nar .char (109 : Int32)), (nar .char (101 : Int32)), (nar .char (32 : Int32)), (nar .char (34 : Int32)), (nar .char (34 : Int32)), (nar .char (32 : Int32))] : List Int32)) E_xs F_xs C_xs V_ty hcm hbm (Nat.le_of_ble_eq_true rfl) f1783 f1785 f1784 f1786 hcE hbE (Nat.le_of_ble_eq_true rfl) (S1.ext od1787.2) P1 (by decide) (by decide)) rfl (argsL := [(.ref ex)]) (rest := []) (lenOf pd__28Ljava_2flang_2fObject_3b_29Z rfl) rfl (Nat.le_of_ble_eq_true rfl) (by decide) (by decide) (fun v h' L q => q.2.1 ▸ (Fr.nil _)) (fun v h' L q => q.2.2 ▸ Nat.le_refl _) at_570 (pc' := 573) rfl ?_
      rintro v1792 h1790 Lc1791 ⟨qv, rfl, eh⟩
      obtain rfl := eh.symm
      rcases qv with ⟨rfl, -⟩ | ⟨-, qx⟩
      · show Go p l e _ _ m _ below meth c _ _ _ _ h1777 _ _ (mkF m 573 #[.val (.int p0), .val (.int p1), .val (.int p2), .val (.int p3), .val (.int p4), .val (.int c5), .val (.int c6), .val (.int c7), .val (.int c8), .val (.int x9), .val (.int x10), .val (.ref ar), .val (.ref br), .val (.ref na), .val (.ref ra), .val (.ref a5), .val (.ref a6), .val (.ref a7), .val (.ref a8), .val (.ref ex), .val (.ref ea), .val (.ref xs)] [(.int (1 : Int32))])
        exact Go.retN K (by simp) (by decide) (by decide) at_573 (own_end hEL K.cz cr1782 rfl)
      · exact absurd eL.symm qx
theorem ef_law (m : MethodId) (p0 : Int32) (p1 : Int32) (p2 : Int32) (p3 : Int32) (p4 : Int32) : entryFrame m #[(.int p0), (.int p1), (.int p2), (.int p3), (.int p4)] maxLocals = mkF m 0 #[.val (.int p0), .val (.int p1), .val (.int p2), .val (.int p3), .val (.int p4), .unset, .unset, .unset, .unset, .unset, .unset, .unset, .unset, .unset, .unset, .unset, .unset, .unset, .unset, .unset, .unset, .unset] [] := by first | (simp [entryFrame, mkF, argsToLocals, Value.category, maxLocals]; done) | rfl
theorem pn_com_example_basehome_basehome_internal_VariableProblemsNameRefusalPinLaw : plainName "com/example/basehome/basehome/internal/VariableProblemsNameRefusalPinLaw" = true := by first | (simp [plainName, overriddenIn]; done) | decide +kernel
set_option maxRecDepth 65536 in
set_option maxHeartbeats 40000000 in
theorem m_law (l : Launch) (Z : State) (a0 : Array Value) (hw : ∀ d ∈ tables_1, d.before a0 Z = true) (h0 : Heap) (n0 : Nat) (Z0 : n0 ≤ h0.size) (wS : ∀ a ∈ Bundle.stringAtoms, a.before a0 Z = true) (hEL : EW Z a0 [("com/example/basehome/basehome/internal/VariableProblems", 52), ("com/example/basehome/basehome/internal/VariableProblems", 54), ("com/example/basehome/basehome/internal/VariableProblemsNameRefusalPinLaw", 7)]) (p0 : Int32) (p1 : Int32) (p2 : Int32) (p3 : Int32) (p4 : Int32) (zc : Int32) (S1 : Sta Z Z.heap "java/lang/String" "COMPACT_STRINGS" "Z" (.int zc)) (P1 : ¬ (zc = (0 : Int32))) (od : Old Z n0 h0) (hl : l.stackTraces = true) (us ss : Addr) (SU : Sta Z Z.heap "java/lang/Throwable" "UNASSIGNED_STACK" "[Ljava/lang/StackTraceElement;" (.ref us)) (SS : Sta Z Z.heap "java/lang/Throwable" "SUPPRESSED_SENTINEL" "Ljava/util/List;" (.ref ss)) :
    MetWK l Z tables_1 [("com/example/basehome/basehome/internal/VariableProblems", 52), ("com/example/basehome/basehome/internal/VariableProblems", 54), ("com/example/basehome/basehome/internal/VariableProblemsNameRefusalPinLaw", 7)] x code maxLocals ret room_1 #[(.int p0), (.int p1), (.int p2), (.int p3), (.int p4)] h0 n0 (fun v _ => v = some (.int 1)) := by
  refine MetWK.of (plainFor_of_name pn_com_example_basehome_basehome_internal_VariableProblemsNameRefusalPinLaw) ?_
  intro p e s m below meth c vm0 B hsh hTK hBl hS HC K
  have CR := CHr.refl HC
  have hws : ∀ d ∈ StrChars.Road.words, d.before a0 Z = true := fun d hd => hw d ((by decide +kernel : ∀ d ∈ StrChars.Road.words, d ∈ tables_1) d hd)
  have hwe : ∀ d ∈ StrChars.Road.wordsEq, d.before a0 Z = true := fun d hd => hw d ((by decide +kernel : ∀ d ∈ StrChars.Road.wordsEq, d ∈ tables_1) d hd)
  refine Go.cast (ef_law m p0 p1 p2 p3 p4) ?_
  refine Go.iloadN K at_0 rfl (pc' := 1) rfl ?_
  refine Go.sipush K (v := 255) at_1 rfl (pc' := 4) rfl ?_
  refine Go.iand K at_4 (pc' := 5) rfl ?_
  refine Go.i2c K at_5 (pc' := 6) rfl ?_
  refine Go.istore K at_6 (Ls' := #[.val (.int p0), .val (.int p1), .val (.int p2), .val (.int p3), .val (.int p4), .val (.int ((p0 &&& (255 : Int32)).toUInt32.toUInt16.toUInt32.toInt32)), .unset, .unset, .unset, .unset, .unset, .unset, .unset, .unset, .unset, .unset, .unset, .unset, .unset, .unset, .unset, .unset]) rfl (pc' := 8) rfl ?_
  refine Go.iloadN K at_8 rfl (pc' := 9) rfl ?_
  refine Go.sipush K (v := 255) at_9 rfl (pc' := 12) rfl ?_
  refine Go.iand K at_12 (pc' := 13) rfl ?_
  refine Go.i2c K at_13 (pc' := 14) rfl ?_
  refine Go.istore K at_14 (Ls' := #[.val (.int p0), .val (.int p1), .val (.int p2), .val (.int p3), .val (.int p4), .val (.int ((p0 &&& (255 : Int32)).toUInt32.toUInt16.toUInt32.toInt32)), .val (.int ((p1 &&& (255 : Int32)).toUInt32.toUInt16.toUInt32.toInt32)), .unset, .unset, .unset, .unset, .unset, .unset, .unset, .unset, .unset, .unset, .unset, .unset, .unset, .unset, .unset]) rfl (pc' := 16) rfl ?_
  refine Go.iloadN K at_16 rfl (pc' := 17) rfl ?_
  refine Go.sipush K (v := 255) at_17 rfl (pc' := 20) rfl ?_
  refine Go.iand K at_20 (pc' := 21) rfl ?_
  refine Go.i2c K at_21 (pc' := 22) rfl ?_
  refine Go.istore K at_22 (Ls' := #[.val (.int p0), .val (.int p1), .val (.int p2), .val (.int p3), .val (.int p4), .val (.int ((p0 &&& (255 : Int32)).toUInt32.toUInt16.toUInt32.toInt32)), .val (.int ((p1 &&& (255 : Int32)).toUInt32.toUInt16.toUInt32.toInt32)), .val (.int ((p2 &&& (255 : Int32)).toUInt32.toUInt16.toUInt32.toInt32)), .unset, .unset, .unset, .unset, .unset, .unset, .unset, .unset, .unset, .unset, .unset, .unset, .unset, .unset]) rfl (pc' := 24) rfl ?_
  refine Go.iloadN K at_24 rfl (pc' := 25) rfl ?_
  refine Go.sipush K (v := 255) at_25 rfl (pc' := 28) rfl ?_
  refine Go.iand K at_28 (pc' := 29) rfl ?_
  refine Go.i2c K at_29 (pc' := 30) rfl ?_
  refine Go.istore K at_30 (Ls' := #[.val (.int p0), .val (.int p1), .val (.int p2), .val (.int p3), .val (.int p4), .val (.int ((p0 &&& (255 : Int32)).toUInt32.toUInt16.toUInt32.toInt32)), .val (.int ((p1 &&& (255 : Int32)).toUInt32.toUInt16.toUInt32.toInt32)), .val (.int ((p2 &&& (255 : Int32)).toUInt32.toUInt16.toUInt32.toInt32)), .val (.int ((p3 &&& (255 : Int32)).toUInt32.toUInt16.toUInt32.toInt32)), .unset, .unset, .unset, .unset, .unset, .unset, .unset, .unset, .unset, .unset, .unset, .unset, .unset]) rfl (pc' := 32) rfl ?_
  refine Go.iload K at_32 rfl (pc' := 34) rfl ?_
  refine Go.iconst K (v := 1) at_34 rfl (pc' := 35) rfl ?_
  refine Go.iand K at_35 (pc' := 36) rfl ?_
  refine Go.ifc K at_36 (by decide) (pcT := 43) (pcF := 39) (by decide) rfl (fun h36 => ?_) (fun h36 => ?_)
  · replace h36 : (p4 &&& (1 : Int32)) = 0 := h36
    refine Go.iconst K (v := 0) at_43 rfl (pc' := 44) rfl ?_
    refine Go.istore K at_44 (Ls' := #[.val (.int p0), .val (.int p1), .val (.int p2), .val (.int p3), .val (.int p4), .val (.int ((p0 &&& (255 : Int32)).toUInt32.toUInt16.toUInt32.toInt32)), .val (.int ((p1 &&& (255 : Int32)).toUInt32.toUInt16.toUInt32.toInt32)), .val (.int ((p2 &&& (255 : Int32)).toUInt32.toUInt16.toUInt32.toInt32)), .val (.int ((p3 &&& (255 : Int32)).toUInt32.toUInt16.toUInt32.toInt32)), .val (.int (0 : Int32)), .unset, .unset, .unset, .unset, .unset, .unset, .unset, .unset, .unset, .unset, .unset, .unset]) rfl (pc' := 46) rfl ?_
    refine Go.iload K at_46 rfl (pc' := 48) rfl ?_
    refine Go.iconst K (v := 2) at_48 rfl (pc' := 49) rfl ?_
    refine Go.iand K at_49 (pc' := 50) rfl ?_
    refine Go.ifc K at_50 (by decide) (pcT := 57) (pcF := 53) (by decide) rfl (fun h50 => ?_) (fun h50 => ?_)
    · replace h50 : (p4 &&& (2 : Int32)) = 0 := h50
      refine Go.iconst K (v := 0) at_57 rfl (pc' := 58) rfl ?_
      refine Go.istore K at_58 (Ls' := #[.val (.int p0), .val (.int p1), .val (.int p2), .val (.int p3), .val (.int p4), .val (.int ((p0 &&& (255 : Int32)).toUInt32.toUInt16.toUInt32.toInt32)), .val (.int ((p1 &&& (255 : Int32)).toUInt32.toUInt16.toUInt32.toInt32)), .val (.int ((p2 &&& (255 : Int32)).toUInt32.toUInt16.toUInt32.toInt32)), .val (.int ((p3 &&& (255 : Int32)).toUInt32.toUInt16.toUInt32.toInt32)), .val (.int (0 : Int32)), .val (.int (0 : Int32)), .unset, .unset, .unset, .unset, .unset, .unset, .unset, .unset, .unset, .unset, .unset]) rfl (pc' := 60) rfl ?_
      refine Go.iconst K (v := 2) at_60 rfl (pc' := 61) rfl ?_
      refine Go.newP K (hw _ (List.mem_of_getElem? (i := 0) rfl)) (by decide) 2 (by decide) (by decide) (by decide) (by decide) at_61 (pc' := 63) rfl ?_
      intro h1793 ar kA_ar eq1795 E1794 V_ar
      have g_ar : n0 ≤ ar := Nat.le_trans Z0 (Nat.le_of_eq eq1795.symm)
      have od1796 := od.ext E1794
      have z1797 := Nat.le_trans Z0 E1794.1
      have cr1798 := CR.trans (CHr.ext E1794 CR.1)
      have V1799 : Arv Z h1793 ar kA_ar .char (2 : Int32) [(.int (0 : Int32)), (.int (0 : Int32))] (.int (0 : Int32)) := V_ar.pad (pad_rep [] (.int (0 : Int32)) 2)
      refine Go.dup K at_63 rfl (pc' := 64) rfl ?_
      refine Go.iconst K (v := 0) at_64 rfl (pc' := 65) rfl ?_
      refine Go.iload K at_65 rfl (pc' := 67) rfl ?_
      refine Go.castore K V1799 0 rfl (Nat.le_of_ble_eq_true rfl) ⟨by decide, by decide⟩ g_ar at_67 (pc' := 68) rfl ?_
      intro h1800 K1801 V1802
      replace V1802 : Arv Z h1800 ar kA_ar .char (2 : Int32) [(.int (nar .char ((p0 &&& (255 : Int32)).toUInt32.toUInt16.toUInt32.toInt32))), (.int (0 : Int32))] (.int (0 : Int32)) := V1802
      have cr1803 := cr1798.trans (CHr.keep K1801 (sfS (Safe.arv K.cz.alike V1799 (by decide)) sf0) cr1798.1)
      have od1805 := od1796.keep K1801 (allS g_ar all0)
      have z1806 := Nat.le_trans z1797 K1801.1
      refine Go.dup K at_68 rfl (pc' := 69) rfl ?_
      refine Go.iconst K (v := 1) at_69 rfl (pc' := 70) rfl ?_
      refine Go.iload K at_70 rfl (pc' := 72) rfl ?_
      refine Go.castore K V1802 1 rfl (Nat.le_of_ble_eq_true rfl) ⟨by decide, by decide⟩ g_ar at_72 (pc' := 73) rfl ?_
      intro h1807 K1808 V1809
      replace V1809 : Arv Z h1807 ar kA_ar .char (2 : Int32) [(.int (nar .char ((p0 &&& (255 : Int32)).toUInt32.toUInt16.toUInt32.toInt32))), (.int (nar .char ((p1 &&& (255 : Int32)).toUInt32.toUInt16.toUInt32.toInt32)))] (.int (0 : Int32)) := V1809
      have cr1810 := cr1803.trans (CHr.keep K1808 (sfS (Safe.arv K.cz.alike V1802 (by decide)) sf0) cr1803.1)
      have od1812 := od1805.keep K1808 (allS g_ar all0)
      have z1813 := Nat.le_trans z1806 K1808.1
      refine Go.astore K at_73 rfl (Ls' := #[.val (.int p0), .val (.int p1), .val (.int p2), .val (.int p3), .val (.int p4), .val (.int ((p0 &&& (255 : Int32)).toUInt32.toUInt16.toUInt32.toInt32)), .val (.int ((p1 &&& (255 : Int32)).toUInt32.toUInt16.toUInt32.toInt32)), .val (.int ((p2 &&& (255 : Int32)).toUInt32.toUInt16.toUInt32.toInt32)), .val (.int ((p3 &&& (255 : Int32)).toUInt32.toUInt16.toUInt32.toInt32)), .val (.int (0 : Int32)), .val (.int (0 : Int32)), .val (.ref ar), .unset, .unset, .unset, .unset, .unset, .unset, .unset, .unset, .unset, .unset]) rfl (pc' := 75) rfl ?_
      refine Go.iconst K (v := 2) at_75 rfl (pc' := 76) rfl ?_
      refine Go.newP K (hw _ (List.mem_of_getElem? (i := 0) rfl)) (by decide) 2 (by decide) (by decide) (by decide) (by decide) at_76 (pc' := 78) rfl ?_
      intro h1814 br kA_br eq1816 E1815 V_br
      have ne1817 : ar ≠ br := own_ne V1809.lt (Nat.le_of_eq eq1816.symm)
      have g_br : n0 ≤ br := Nat.le_trans z1813 (Nat.le_of_eq eq1816.symm)
      have f1819 := V1809.ext E1815
      have od1820 := od1812.ext E1815
      have z1821 := Nat.le_trans z1813 E1815.1
      have cr1822 := cr1810.trans (CHr.ext E1815 cr1810.1)
      have V1823 : Arv Z h1814 br kA_br .char (2 : Int32) [(.int (0 : Int32)), (.int (0 : Int32))] (.int (0 : Int32)) := V_br.pad (pad_rep [] (.int (0 : Int32)) 2)
      refine Go.dup K at_78 rfl (pc' := 79) rfl ?_
      refine Go.iconst K (v := 0) at_79 rfl (pc' := 80) rfl ?_
      refine Go.iload K at_80 rfl (pc' := 82) rfl ?_
      refine Go.castore K V1823 0 rfl (Nat.le_of_ble_eq_true rfl) ⟨by decide, by decide⟩ g_br at_82 (pc' := 83) rfl ?_
      intro h1824 K1825 V1826
      replace V1826 : Arv Z h1824 br kA_br .char (2 : Int32) [(.int (nar .char ((p2 &&& (255 : Int32)).toUInt32.toUInt16.toUInt32.toInt32))), (.int (0 : Int32))] (.int (0 : Int32)) := V1826
      have cr1827 := cr1822.trans (CHr.keep K1825 (sfS (Safe.arv K.cz.alike V1823 (by decide)) sf0) cr1822.1)
      have f1828 := f1819.keep K1825 (ninS ne1817 nin0)
      have od1830 := od1820.keep K1825 (allS g_br all0)
      have z1831 := Nat.le_trans z1821 K1825.1
      refine Go.dup K at_83 rfl (pc' := 84) rfl ?_
      refine Go.iconst K (v := 1) at_84 rfl (pc' := 85) rfl ?_
      refine Go.iload K at_85 rfl (pc' := 87) rfl ?_
      refine Go.castore K V1826 1 rfl (Nat.le_of_ble_eq_true rfl) ⟨by decide, by decide⟩ g_br at_87 (pc' := 88) rfl ?_
      intro h1832 K1833 V1834
      replace V1834 : Arv Z h1832 br kA_br .char (2 : Int32) [(.int (nar .char ((p2 &&& (255 : Int32)).toUInt32.toUInt16.toUInt32.toInt32))), (.int (nar .char ((p3 &&& (255 : Int32)).toUInt32.toUInt16.toUInt32.toInt32)))] (.int (0 : Int32)) := V1834
      have cr1835 := cr1827.trans (CHr.keep K1833 (sfS (Safe.arv K.cz.alike V1826 (by decide)) sf0) cr1827.1)
      have f1836 := f1828.keep K1833 (ninS ne1817 nin0)
      have od1838 := od1830.keep K1833 (allS g_br all0)
      have z1839 := Nat.le_trans z1831 K1833.1
      refine Go.astore K at_88 rfl (Ls' := #[.val (.int p0), .val (.int p1), .val (.int p2), .val (.int p3), .val (.int p4), .val (.int ((p0 &&& (255 : Int32)).toUInt32.toUInt16.toUInt32.toInt32)), .val (.int ((p1 &&& (255 : Int32)).toUInt32.toUInt16.toUInt32.toInt32)), .val (.int ((p2 &&& (255 : Int32)).toUInt32.toUInt16.toUInt32.toInt32)), .val (.int ((p3 &&& (255 : Int32)).toUInt32.toUInt16.toUInt32.toInt32)), .val (.int (0 : Int32)), .val (.int (0 : Int32)), .val (.ref ar), .val (.ref br), .unset, .unset, .unset, .unset, .unset, .unset, .unset, .unset, .unset]) rfl (pc' := 90) rfl ?_
      refine Go.iload K at_90 rfl (pc' := 92) rfl ?_
      refine Go.ifc K at_92 (by decide) (pcT := 100) (pcF := 95) (by decide) rfl (fun h92 => ?_) (fun h92 => ?_)
      · replace h92 : (0 : Int32) = 0 := h92
        refine Go.newO K (hw _ (List.mem_of_getElem? (i := 1) rfl)) (hw _ (List.mem_of_getElem? (i := 2) rfl)) (hw _ (List.mem_of_getElem? (i := 3) rfl)) (by decide) (by decide) at_100 (pc' := 103) rfl ?_
        intro h1840 na eq1843 E1841 E_na D1842
        have ne1844 : ar ≠ na := own_ne f1836.lt (Nat.le_of_eq eq1843.symm)
        have ne1845 : br ≠ na := own_ne V1834.lt (Nat.le_of_eq eq1843.symm)
        have g_na : n0 ≤ na := Nat.le_trans z1839 (Nat.le_of_eq eq1843.symm)
        have sf1846 := Safe.ext E1841 cr1835.1 (Safe.new (Nat.le_of_eq eq1843.symm))
        have f1849 := f1836.ext E1841
        have f1850 := V1834.ext E1841
        have od1851 := od1838.ext E1841
        have z1852 := Nat.le_trans z1839 E1841.1
        have cr1853 := cr1835.trans (CHr.ext E1841 cr1835.1)
        have f1854 : Fld Z h1840 na "java/lang/String" "coder" "B" (.int (0 : Int32)) := D1842 (Or.inr (hw _ (List.mem_of_getElem? (i := 27) rfl))) (ty := .byte) (by decide)
        have f1855 : Fld Z h1840 na "java/lang/String" "value" "[B" .null := D1842 (Or.inr (hw _ (List.mem_of_getElem? (i := 29) rfl))) (ty := (.array .byte)) (by decide)
        refine Go.dup K at_103 rfl (pc' := 104) rfl ?_
        refine Go.aload K at_104 rfl rfl (pc' := 106) rfl ?_
        have hp_na : ∀ c ∈ ([(nar .char ((p0 &&& (255 : Int32)).toUInt32.toUInt16.toUInt32.toInt32)), (nar .char ((p1 &&& (255 : Int32)).toUInt32.toUInt16.toUInt32.toInt32))] : List Int32), ¬ c < 0 ∧ ¬ (255 : Int32) < c := by
          intro c hc
          simp only [List.mem_cons, List.not_mem_nil, or_false] at hc
          rcases hc with rfl | rfl
          · exact own_and255 p0
          · exact own_and255 p1
        refine Go.callC K (y := (⟨"java/lang/String", "<init>", "([C)V"⟩ : MethodName)) (W := 1) (kc := 1) (nc := 2) (a := na) rfl (mvT K.cz (hw _ (List.mem_of_getElem? (i := 4) rfl))) (mvT K.cz (hw _ (List.mem_of_getElem? (i := 5) rfl))) (mvT K.cz (hw _ (List.mem_of_getElem? (i := 6) rfl))) (by decide) (paysNew (W := 1) K.cz hws (kI := 4) (hw _ (List.mem_of_getElem? (i := 2) rfl)) (cs := ([(nar .char ((p0 &&& (255 : Int32)).toUInt32.toUInt16.toUInt32.toInt32)), (nar .char ((p1 &&& (255 : Int32)).toUInt32.toUInt16.toUInt32.toInt32))] : List Int32)) (bs := ([(nar .char ((p0 &&& (255 : Int32)).toUInt32.toUInt16.toUInt32.toInt32)), (nar .char ((p1 &&& (255 : Int32)).toUInt32.toUInt16.toUInt32.toInt32))] : List Int32).map (fun c => c.toInt8.toInt32)) (n := 2) g_na z1852 E_na f1855 f1854 f1849 (S1.ext od1851.2) P1 rfl rfl (by decide) (by decide) hp_na rfl (by decide) (by decide)) rfl (argsL := [(.ref ar)]) (rest := [(.ref na)]) (lenOf pd__28_5bC_29V rfl) rfl (Nat.le_of_ble_eq_true rfl) (by decide) (by decide) (fun v h' L q => q.2.1) (fun v h' L q => q.2.2.1.1) at_106 (pc' := 109) rfl ?_
        rintro v1858 h1856 Lc1857 ⟨rfl, Nq, Kq_na, E2_na, C2_na, tn, kb_na, ht0, ht1_na, htne, F2_na, V2_tn⟩
        have ne1859 : ar ≠ tn := own_ne f1849.lt ht1_na
        have ne1860 : na ≠ tn := own_ne E_na.lt ht1_na
        have ne1861 : br ≠ tn := own_ne f1850.lt ht1_na
        have f1862 := Safe.keep Kq_na (sfS sf1846 sf0) cr1853.1 sf1846
        have cr1863 := cr1853.trans (CHr.keep Kq_na (sfS sf1846 sf0) cr1853.1)
        have f1864 := f1849.keep Kq_na (ninS ne1844 nin0)
        have f1865 := f1850.keep Kq_na (ninS ne1845 nin0)
        have f1866 := E_na.keep Kq_na
        have od1869 := od1851.keep Kq_na (allS g_na all0)
        have z1870 := Nat.le_trans z1852 Kq_na.1
        show Go p l e _ _ m _ below meth c _ _ _ _ h1856 _ _ (mkF m 109 #[.val (.int p0), .val (.int p1), .val (.int p2), .val (.int p3), .val (.int p4), .val (.int ((p0 &&& (255 : Int32)).toUInt32.toUInt16.toUInt32.toInt32)), .val (.int ((p1 &&& (255 : Int32)).toUInt32.toUInt16.toUInt32.toInt32)), .val (.int ((p2 &&& (255 : Int32)).toUInt32.toUInt16.toUInt32.toInt32)), .val (.int ((p3 &&& (255 : Int32)).toUInt32.toUInt16.toUInt32.toInt32)), .val (.int (0 : Int32)), .val (.int (0 : Int32)), .val (.ref ar), .val (.ref br), .unset, .unset, .unset, .unset, .unset, .unset, .unset, .unset, .unset] [(.ref na)])
        refine Go.astore K at_109 rfl (Ls' := #[.val (.int p0), .val (.int p1), .val (.int p2), .val (.int p3), .val (.int p4), .val (.int ((p0 &&& (255 : Int32)).toUInt32.toUInt16.toUInt32.toInt32)), .val (.int ((p1 &&& (255 : Int32)).toUInt32.toUInt16.toUInt32.toInt32)), .val (.int ((p2 &&& (255 : Int32)).toUInt32.toUInt16.toUInt32.toInt32)), .val (.int ((p3 &&& (255 : Int32)).toUInt32.toUInt16.toUInt32.toInt32)), .val (.int (0 : Int32)), .val (.int (0 : Int32)), .val (.ref ar), .val (.ref br), .val (.ref na), .unset, .unset, .unset, .unset, .unset, .unset, .unset, .unset]) rfl (pc' := 111) rfl ?_
        refine Go.iload K at_111 rfl (pc' := 113) rfl ?_
        refine Go.ifc K at_113 (by decide) (pcT := 121) (pcF := 116) (by decide) rfl (fun h113 => ?_) (fun h113 => ?_)
        · replace h113 : (0 : Int32) = 0 := h113
          refine Go.newO K (hw _ (List.mem_of_getElem? (i := 1) rfl)) (hw _ (List.mem_of_getElem? (i := 2) rfl)) (hw _ (List.mem_of_getElem? (i := 3) rfl)) (by decide) (by decide) at_121 (pc' := 124) rfl ?_
          intro h1871 ra eq1874 E1872 E_ra D1873
          have ne1875 : ar ≠ ra := own_ne f1864.lt (Nat.le_of_eq eq1874.symm)
          have ne1876 : tn ≠ ra := own_ne V2_tn.lt (Nat.le_of_eq eq1874.symm)
          have ne1877 : na ≠ ra := own_ne E2_na.lt (Nat.le_of_eq eq1874.symm)
          have ne1878 : br ≠ ra := own_ne f1865.lt (Nat.le_of_eq eq1874.symm)
          have g_ra : n0 ≤ ra := Nat.le_trans z1870 (Nat.le_of_eq eq1874.symm)
          have sf1879 := Safe.ext E1872 cr1863.1 (Safe.new (Nat.le_of_eq eq1874.symm))
          have f1886 := f1864.ext E1872
          have f1887 := f1865.ext E1872
          have f1888 := E2_na.ext E1872
          have f1889 := C2_na.ext E1872
          have f1890 := F2_na.ext E1872
          have f1891 := V2_tn.ext E1872
          have od1892 := od1869.ext E1872
          have z1893 := Nat.le_trans z1870 E1872.1
          have cr1894 := cr1863.trans (CHr.ext E1872 cr1863.1)
          have f1895 : Fld Z h1871 ra "java/lang/String" "coder" "B" (.int (0 : Int32)) := D1873 (Or.inr (hw _ (List.mem_of_getElem? (i := 27) rfl))) (ty := .byte) (by decide)
          have f1896 : Fld Z h1871 ra "java/lang/String" "value" "[B" .null := D1873 (Or.inr (hw _ (List.mem_of_getElem? (i := 29) rfl))) (ty := (.array .byte)) (by decide)
          refine Go.dup K at_124 rfl (pc' := 125) rfl ?_
          refine Go.aload K at_125 rfl rfl (pc' := 127) rfl ?_
          have hp_ra : ∀ c ∈ ([(nar .char ((p2 &&& (255 : Int32)).toUInt32.toUInt16.toUInt32.toInt32)), (nar .char ((p3 &&& (255 : Int32)).toUInt32.toUInt16.toUInt32.toInt32))] : List Int32), ¬ c < 0 ∧ ¬ (255 : Int32) < c := by
            intro c hc
            simp only [List.mem_cons, List.not_mem_nil, or_false] at hc
            rcases hc with rfl | rfl
            · exact own_and255 p2
            · exact own_and255 p3
          refine Go.callC K (y := (⟨"java/lang/String", "<init>", "([C)V"⟩ : MethodName)) (W := 1) (kc := 1) (nc := 2) (a := ra) rfl (mvT K.cz (hw _ (List.mem_of_getElem? (i := 4) rfl))) (mvT K.cz (hw _ (List.mem_of_getElem? (i := 5) rfl))) (mvT K.cz (hw _ (List.mem_of_getElem? (i := 6) rfl))) (by decide) (paysNew (W := 1) K.cz hws (kI := 4) (hw _ (List.mem_of_getElem? (i := 2) rfl)) (cs := ([(nar .char ((p2 &&& (255 : Int32)).toUInt32.toUInt16.toUInt32.toInt32)), (nar .char ((p3 &&& (255 : Int32)).toUInt32.toUInt16.toUInt32.toInt32))] : List Int32)) (bs := ([(nar .char ((p2 &&& (255 : Int32)).toUInt32.toUInt16.toUInt32.toInt32)), (nar .char ((p3 &&& (255 : Int32)).toUInt32.toUInt16.toUInt32.toInt32))] : List Int32).map (fun c => c.toInt8.toInt32)) (n := 2) g_ra z1893 E_ra f1896 f1895 f1887 (S1.ext od1892.2) P1 rfl rfl (by decide) (by decide) hp_ra rfl (by decide) (by decide)) rfl (argsL := [(.ref br)]) (rest := [(.ref ra)]) (lenOf pd__28_5bC_29V rfl) rfl (Nat.le_of_ble_eq_true rfl) (by decide) (by decide) (fun v h' L q => q.2.1) (fun v h' L q => q.2.2.1.1) at_127 (pc' := 130) rfl ?_
          rintro v1899 h1897 Lc1898 ⟨rfl, Nq, Kq_ra, E2_ra, C2_ra, tr, kb_ra, ht0, ht1_ra, htne, F2_ra, V2_tr⟩
          have ne1900 : na ≠ tr := own_ne f1888.lt ht1_ra
          have ne1901 : br ≠ tr := own_ne f1887.lt ht1_ra
          have ne1902 : ar ≠ tr := own_ne f1886.lt ht1_ra
          have ne1903 : tn ≠ tr := own_ne f1891.lt ht1_ra
          have ne1904 : ra ≠ tr := own_ne E_ra.lt ht1_ra
          have f1905 := Safe.keep Kq_ra (sfS sf1879 sf0) cr1894.1 sf1879
          have cr1906 := cr1894.trans (CHr.keep Kq_ra (sfS sf1879 sf0) cr1894.1)
          have f1907 := f1886.keep Kq_ra (ninS ne1875 nin0)
          have f1908 := f1887.keep Kq_ra (ninS ne1878 nin0)
          have f1909 := f1888.keep Kq_ra
          have f1910 := f1889.keep Kq_ra (ninS ne1877 nin0)
          have f1911 := f1890.keep Kq_ra (ninS ne1877 nin0)
          have f1912 := f1891.keep Kq_ra (ninS ne1876 nin0)
          have f1913 := E_ra.keep Kq_ra
          have od1916 := od1892.keep Kq_ra (allS g_ra all0)
          have z1917 := Nat.le_trans z1893 Kq_ra.1
          show Go p l e _ _ m _ below meth c _ _ _ _ h1897 _ _ (mkF m 130 #[.val (.int p0), .val (.int p1), .val (.int p2), .val (.int p3), .val (.int p4), .val (.int ((p0 &&& (255 : Int32)).toUInt32.toUInt16.toUInt32.toInt32)), .val (.int ((p1 &&& (255 : Int32)).toUInt32.toUInt16.toUInt32.toInt32)), .val (.int ((p2 &&& (255 : Int32)).toUInt32.toUInt16.toUInt32.toInt32)), .val (.int ((p3 &&& (255 : Int32)).toUInt32.toUInt16.toUInt32.toInt32)), .val (.int (0 : Int32)), .val (.int (0 : Int32)), .val (.ref ar), .val (.ref br), .val (.ref na), .unset, .unset, .unset, .unset, .unset, .unset, .unset, .unset] [(.ref ra)])
          refine Go.astore K at_130 rfl (Ls' := #[.val (.int p0), .val (.int p1), .val (.int p2), .val (.int p3), .val (.int p4), .val (.int ((p0 &&& (255 : Int32)).toUInt32.toUInt16.toUInt32.toInt32)), .val (.int ((p1 &&& (255 : Int32)).toUInt32.toUInt16.toUInt32.toInt32)), .val (.int ((p2 &&& (255 : Int32)).toUInt32.toUInt16.toUInt32.toInt32)), .val (.int ((p3 &&& (255 : Int32)).toUInt32.toUInt16.toUInt32.toInt32)), .val (.int (0 : Int32)), .val (.int (0 : Int32)), .val (.ref ar), .val (.ref br), .val (.ref na), .val (.ref ra), .unset, .unset, .unset, .unset, .unset, .unset, .unset]) rfl (pc' := 132) rfl ?_
          have S_na : Str Z h1897 na ([(nar .char ((p0 &&& (255 : Int32)).toUInt32.toUInt16.toUInt32.toInt32)), (nar .char ((p1 &&& (255 : Int32)).toUInt32.toUInt16.toUInt32.toInt32))] : List Int32) := ⟨f1909, f1910, tn, _, f1911, f1912⟩
          have S_ra : Str Z h1897 ra ([(nar .char ((p2 &&& (255 : Int32)).toUInt32.toUInt16.toUInt32.toInt32)), (nar .char ((p3 &&& (255 : Int32)).toUInt32.toUInt16.toUInt32.toInt32))] : List Int32) := ⟨E2_ra, C2_ra, tr, _, F2_ra, V2_tr⟩
          exact seg2 hw wS hEL hws hwe K hS hTK hBl h0 h1897 n0 z1917 cr1906 od1916 zc S1 P1 hl us ss SU SS p0 p1 p2 p3 p4 ((p0 &&& (255 : Int32)).toUInt32.toUInt16.toUInt32.toInt32) ((p1 &&& (255 : Int32)).toUInt32.toUInt16.toUInt32.toInt32) ((p2 &&& (255 : Int32)).toUInt32.toUInt16.toUInt32.toInt32) ((p3 &&& (255 : Int32)).toUInt32.toUInt16.toUInt32.toInt32) (0 : Int32) (0 : Int32) (own_and255 p0) (own_and255 p1) (own_and255 p2) (own_and255 p3) ([(nar .char ((p0 &&& (255 : Int32)).toUInt32.toUInt16.toUInt32.toInt32)), (nar .char ((p1 &&& (255 : Int32)).toUInt32.toUInt16.toUInt32.toInt32))] : List Int32) ([(nar .char ((p2 &&& (255 : Int32)).toUInt32.toUInt16.toUInt32.toInt32)), (nar .char ((p3 &&& (255 : Int32)).toUInt32.toUInt16.toUInt32.toInt32))] : List Int32) (Or.inl ⟨rfl, rfl⟩) (Or.inl ⟨rfl, rfl⟩) ar br na ra S_na S_ra _ _ (by decide) (by decide)
        · replace h113 : ¬ ((0 : Int32) = 0) := h113
          exact absurd rfl h113
      · replace h92 : ¬ ((0 : Int32) = 0) := h92
        exact absurd rfl h92
    · replace h50 : ¬ ((p4 &&& (2 : Int32)) = 0) := h50
      refine Go.iconst K (v := 1) at_53 rfl (pc' := 54) rfl ?_
      refine Go.goto K at_54 (pc' := 58) (by decide) (by decide) ?_
      refine Go.istore K at_58 (Ls' := #[.val (.int p0), .val (.int p1), .val (.int p2), .val (.int p3), .val (.int p4), .val (.int ((p0 &&& (255 : Int32)).toUInt32.toUInt16.toUInt32.toInt32)), .val (.int ((p1 &&& (255 : Int32)).toUInt32.toUInt16.toUInt32.toInt32)), .val (.int ((p2 &&& (255 : Int32)).toUInt32.toUInt16.toUInt32.toInt32)), .val (.int ((p3 &&& (255 : Int32)).toUInt32.toUInt16.toUInt32.toInt32)), .val (.int (0 : Int32)), .val (.int (1 : Int32)), .unset, .unset, .unset, .unset, .unset, .unset, .unset, .unset, .unset, .unset, .unset]) rfl (pc' := 60) rfl ?_
      refine Go.iconst K (v := 2) at_60 rfl (pc' := 61) rfl ?_
      refine Go.newP K (hw _ (List.mem_of_getElem? (i := 0) rfl)) (by decide) 2 (by decide) (by decide) (by decide) (by decide) at_61 (pc' := 63) rfl ?_
      intro h1918 ar kA_ar eq1920 E1919 V_ar
      have g_ar : n0 ≤ ar := Nat.le_trans Z0 (Nat.le_of_eq eq1920.symm)
      have od1921 := od.ext E1919
      have z1922 := Nat.le_trans Z0 E1919.1
      have cr1923 := CR.trans (CHr.ext E1919 CR.1)
      have V1924 : Arv Z h1918 ar kA_ar .char (2 : Int32) [(.int (0 : Int32)), (.int (0 : Int32))] (.int (0 : Int32)) := V_ar.pad (pad_rep [] (.int (0 : Int32)) 2)
      refine Go.dup K at_63 rfl (pc' := 64) rfl ?_
      refine Go.iconst K (v := 0) at_64 rfl (pc' := 65) rfl ?_
      refine Go.iload K at_65 rfl (pc' := 67) rfl ?_
      refine Go.castore K V1924 0 rfl (Nat.le_of_ble_eq_true rfl) ⟨by decide, by decide⟩ g_ar at_67 (pc' := 68) rfl ?_
      intro h1925 K1926 V1927
      replace V1927 : Arv Z h1925 ar kA_ar .char (2 : Int32) [(.int (nar .char ((p0 &&& (255 : Int32)).toUInt32.toUInt16.toUInt32.toInt32))), (.int (0 : Int32))] (.int (0 : Int32)) := V1927
      have cr1928 := cr1923.trans (CHr.keep K1926 (sfS (Safe.arv K.cz.alike V1924 (by decide)) sf0) cr1923.1)
      have od1930 := od1921.keep K1926 (allS g_ar all0)
      have z1931 := Nat.le_trans z1922 K1926.1
      refine Go.dup K at_68 rfl (pc' := 69) rfl ?_
      refine Go.iconst K (v := 1) at_69 rfl (pc' := 70) rfl ?_
      refine Go.iload K at_70 rfl (pc' := 72) rfl ?_
      refine Go.castore K V1927 1 rfl (Nat.le_of_ble_eq_true rfl) ⟨by decide, by decide⟩ g_ar at_72 (pc' := 73) rfl ?_
      intro h1932 K1933 V1934
      replace V1934 : Arv Z h1932 ar kA_ar .char (2 : Int32) [(.int (nar .char ((p0 &&& (255 : Int32)).toUInt32.toUInt16.toUInt32.toInt32))), (.int (nar .char ((p1 &&& (255 : Int32)).toUInt32.toUInt16.toUInt32.toInt32)))] (.int (0 : Int32)) := V1934
      have cr1935 := cr1928.trans (CHr.keep K1933 (sfS (Safe.arv K.cz.alike V1927 (by decide)) sf0) cr1928.1)
      have od1937 := od1930.keep K1933 (allS g_ar all0)
      have z1938 := Nat.le_trans z1931 K1933.1
      refine Go.astore K at_73 rfl (Ls' := #[.val (.int p0), .val (.int p1), .val (.int p2), .val (.int p3), .val (.int p4), .val (.int ((p0 &&& (255 : Int32)).toUInt32.toUInt16.toUInt32.toInt32)), .val (.int ((p1 &&& (255 : Int32)).toUInt32.toUInt16.toUInt32.toInt32)), .val (.int ((p2 &&& (255 : Int32)).toUInt32.toUInt16.toUInt32.toInt32)), .val (.int ((p3 &&& (255 : Int32)).toUInt32.toUInt16.toUInt32.toInt32)), .val (.int (0 : Int32)), .val (.int (1 : Int32)), .val (.ref ar), .unset, .unset, .unset, .unset, .unset, .unset, .unset, .unset, .unset, .unset]) rfl (pc' := 75) rfl ?_
      refine Go.iconst K (v := 2) at_75 rfl (pc' := 76) rfl ?_
      refine Go.newP K (hw _ (List.mem_of_getElem? (i := 0) rfl)) (by decide) 2 (by decide) (by decide) (by decide) (by decide) at_76 (pc' := 78) rfl ?_
      intro h1939 br kA_br eq1941 E1940 V_br
      have ne1942 : ar ≠ br := own_ne V1934.lt (Nat.le_of_eq eq1941.symm)
      have g_br : n0 ≤ br := Nat.le_trans z1938 (Nat.le_of_eq eq1941.symm)
      have f1944 := V1934.ext E1940
      have od1945 := od1937.ext E1940
      have z1946 := Nat.le_trans z1938 E1940.1
      have cr1947 := cr1935.trans (CHr.ext E1940 cr1935.1)
      have V1948 : Arv Z h1939 br kA_br .char (2 : Int32) [(.int (0 : Int32)), (.int (0 : Int32))] (.int (0 : Int32)) := V_br.pad (pad_rep [] (.int (0 : Int32)) 2)
      refine Go.dup K at_78 rfl (pc' := 79) rfl ?_
      refine Go.iconst K (v := 0) at_79 rfl (pc' := 80) rfl ?_
      refine Go.iload K at_80 rfl (pc' := 82) rfl ?_
      refine Go.castore K V1948 0 rfl (Nat.le_of_ble_eq_true rfl) ⟨by decide, by decide⟩ g_br at_82 (pc' := 83) rfl ?_
      intro h1949 K1950 V1951
      replace V1951 : Arv Z h1949 br kA_br .char (2 : Int32) [(.int (nar .char ((p2 &&& (255 : Int32)).toUInt32.toUInt16.toUInt32.toInt32))), (.int (0 : Int32))] (.int (0 : Int32)) := V1951
      have cr1952 := cr1947.trans (CHr.keep K1950 (sfS (Safe.arv K.cz.alike V1948 (by decide)) sf0) cr1947.1)
      have f1953 := f1944.keep K1950 (ninS ne1942 nin0)
      have od1955 := od1945.keep K1950 (allS g_br all0)
      have z1956 := Nat.le_trans z1946 K1950.1
      refine Go.dup K at_83 rfl (pc' := 84) rfl ?_
      refine Go.iconst K (v := 1) at_84 rfl (pc' := 85) rfl ?_
      refine Go.iload K at_85 rfl (pc' := 87) rfl ?_
      refine Go.castore K V1951 1 rfl (Nat.le_of_ble_eq_true rfl) ⟨by decide, by decide⟩ g_br at_87 (pc' := 88) rfl ?_
      intro h1957 K1958 V1959
      replace V1959 : Arv Z h1957 br kA_br .char (2 : Int32) [(.int (nar .char ((p2 &&& (255 : Int32)).toUInt32.toUInt16.toUInt32.toInt32))), (.int (nar .char ((p3 &&& (255 : Int32)).toUInt32.toUInt16.toUInt32.toInt32)))] (.int (0 : Int32)) := V1959
      have cr1960 := cr1952.trans (CHr.keep K1958 (sfS (Safe.arv K.cz.alike V1951 (by decide)) sf0) cr1952.1)
      have f1961 := f1953.keep K1958 (ninS ne1942 nin0)
      have od1963 := od1955.keep K1958 (allS g_br all0)
      have z1964 := Nat.le_trans z1956 K1958.1
      refine Go.astore K at_88 rfl (Ls' := #[.val (.int p0), .val (.int p1), .val (.int p2), .val (.int p3), .val (.int p4), .val (.int ((p0 &&& (255 : Int32)).toUInt32.toUInt16.toUInt32.toInt32)), .val (.int ((p1 &&& (255 : Int32)).toUInt32.toUInt16.toUInt32.toInt32)), .val (.int ((p2 &&& (255 : Int32)).toUInt32.toUInt16.toUInt32.toInt32)), .val (.int ((p3 &&& (255 : Int32)).toUInt32.toUInt16.toUInt32.toInt32)), .val (.int (0 : Int32)), .val (.int (1 : Int32)), .val (.ref ar), .val (.ref br), .unset, .unset, .unset, .unset, .unset, .unset, .unset, .unset, .unset]) rfl (pc' := 90) rfl ?_
      refine Go.iload K at_90 rfl (pc' := 92) rfl ?_
      refine Go.ifc K at_92 (by decide) (pcT := 100) (pcF := 95) (by decide) rfl (fun h92 => ?_) (fun h92 => ?_)
      · replace h92 : (0 : Int32) = 0 := h92
        refine Go.newO K (hw _ (List.mem_of_getElem? (i := 1) rfl)) (hw _ (List.mem_of_getElem? (i := 2) rfl)) (hw _ (List.mem_of_getElem? (i := 3) rfl)) (by decide) (by decide) at_100 (pc' := 103) rfl ?_
        intro h1965 na eq1968 E1966 E_na D1967
        have ne1969 : ar ≠ na := own_ne f1961.lt (Nat.le_of_eq eq1968.symm)
        have ne1970 : br ≠ na := own_ne V1959.lt (Nat.le_of_eq eq1968.symm)
        have g_na : n0 ≤ na := Nat.le_trans z1964 (Nat.le_of_eq eq1968.symm)
        have sf1971 := Safe.ext E1966 cr1960.1 (Safe.new (Nat.le_of_eq eq1968.symm))
        have f1974 := f1961.ext E1966
        have f1975 := V1959.ext E1966
        have od1976 := od1963.ext E1966
        have z1977 := Nat.le_trans z1964 E1966.1
        have cr1978 := cr1960.trans (CHr.ext E1966 cr1960.1)
        have f1979 : Fld Z h1965 na "java/lang/String" "coder" "B" (.int (0 : Int32)) := D1967 (Or.inr (hw _ (List.mem_of_getElem? (i := 27) rfl))) (ty := .byte) (by decide)
        have f1980 : Fld Z h1965 na "java/lang/String" "value" "[B" .null := D1967 (Or.inr (hw _ (List.mem_of_getElem? (i := 29) rfl))) (ty := (.array .byte)) (by decide)
        refine Go.dup K at_103 rfl (pc' := 104) rfl ?_
        refine Go.aload K at_104 rfl rfl (pc' := 106) rfl ?_
        have hp_na : ∀ c ∈ ([(nar .char ((p0 &&& (255 : Int32)).toUInt32.toUInt16.toUInt32.toInt32)), (nar .char ((p1 &&& (255 : Int32)).toUInt32.toUInt16.toUInt32.toInt32))] : List Int32), ¬ c < 0 ∧ ¬ (255 : Int32) < c := by
          intro c hc
          simp only [List.mem_cons, List.not_mem_nil, or_false] at hc
          rcases hc with rfl | rfl
          · exact own_and255 p0
          · exact own_and255 p1
        refine Go.callC K (y := (⟨"java/lang/String", "<init>", "([C)V"⟩ : MethodName)) (W := 1) (kc := 1) (nc := 2) (a := na) rfl (mvT K.cz (hw _ (List.mem_of_getElem? (i := 4) rfl))) (mvT K.cz (hw _ (List.mem_of_getElem? (i := 5) rfl))) (mvT K.cz (hw _ (List.mem_of_getElem? (i := 6) rfl))) (by decide) (paysNew (W := 1) K.cz hws (kI := 4) (hw _ (List.mem_of_getElem? (i := 2) rfl)) (cs := ([(nar .char ((p0 &&& (255 : Int32)).toUInt32.toUInt16.toUInt32.toInt32)), (nar .char ((p1 &&& (255 : Int32)).toUInt32.toUInt16.toUInt32.toInt32))] : List Int32)) (bs := ([(nar .char ((p0 &&& (255 : Int32)).toUInt32.toUInt16.toUInt32.toInt32)), (nar .char ((p1 &&& (255 : Int32)).toUInt32.toUInt16.toUInt32.toInt32))] : List Int32).map (fun c => c.toInt8.toInt32)) (n := 2) g_na z1977 E_na f1980 f1979 f1974 (S1.ext od1976.2) P1 rfl rfl (by decide) (by decide) hp_na rfl (by decide) (by decide)) rfl (argsL := [(.ref ar)]) (rest := [(.ref na)]) (lenOf pd__28_5bC_29V rfl) rfl (Nat.le_of_ble_eq_true rfl) (by decide) (by decide) (fun v h' L q => q.2.1) (fun v h' L q => q.2.2.1.1) at_106 (pc' := 109) rfl ?_
        rintro v1983 h1981 Lc1982 ⟨rfl, Nq, Kq_na, E2_na, C2_na, tn, kb_na, ht0, ht1_na, htne, F2_na, V2_tn⟩
        have ne1984 : ar ≠ tn := own_ne f1974.lt ht1_na
        have ne1985 : na ≠ tn := own_ne E_na.lt ht1_na
        have ne1986 : br ≠ tn := own_ne f1975.lt ht1_na
        have f1987 := Safe.keep Kq_na (sfS sf1971 sf0) cr1978.1 sf1971
        have cr1988 := cr1978.trans (CHr.keep Kq_na (sfS sf1971 sf0) cr1978.1)
        have f1989 := f1974.keep Kq_na (ninS ne1969 nin0)
        have f1990 := f1975.keep Kq_na (ninS ne1970 nin0)
        have f1991 := E_na.keep Kq_na
        have od1994 := od1976.keep Kq_na (allS g_na all0)
        have z1995 := Nat.le_trans z1977 Kq_na.1
        show Go p l e _ _ m _ below meth c _ _ _ _ h1981 _ _ (mkF m 109 #[.val (.int p0), .val (.int p1), .val (.int p2), .val (.int p3), .val (.int p4), .val (.int ((p0 &&& (255 : Int32)).toUInt32.toUInt16.toUInt32.toInt32)), .val (.int ((p1 &&& (255 : Int32)).toUInt32.toUInt16.toUInt32.toInt32)), .val (.int ((p2 &&& (255 : Int32)).toUInt32.toUInt16.toUInt32.toInt32)), .val (.int ((p3 &&& (255 : Int32)).toUInt32.toUInt16.toUInt32.toInt32)), .val (.int (0 : Int32)), .val (.int (1 : Int32)), .val (.ref ar), .val (.ref br), .unset, .unset, .unset, .unset, .unset, .unset, .unset, .unset, .unset] [(.ref na)])
        refine Go.astore K at_109 rfl (Ls' := #[.val (.int p0), .val (.int p1), .val (.int p2), .val (.int p3), .val (.int p4), .val (.int ((p0 &&& (255 : Int32)).toUInt32.toUInt16.toUInt32.toInt32)), .val (.int ((p1 &&& (255 : Int32)).toUInt32.toUInt16.toUInt32.toInt32)), .val (.int ((p2 &&& (255 : Int32)).toUInt32.toUInt16.toUInt32.toInt32)), .val (.int ((p3 &&& (255 : Int32)).toUInt32.toUInt16.toUInt32.toInt32)), .val (.int (0 : Int32)), .val (.int (1 : Int32)), .val (.ref ar), .val (.ref br), .val (.ref na), .unset, .unset, .unset, .unset, .unset, .unset, .unset, .unset]) rfl (pc' := 111) rfl ?_
        refine Go.iload K at_111 rfl (pc' := 113) rfl ?_
        refine Go.ifc K at_113 (by decide) (pcT := 121) (pcF := 116) (by decide) rfl (fun h113 => ?_) (fun h113 => ?_)
        · replace h113 : (1 : Int32) = 0 := h113
          exact absurd h113 (by decide)
        · replace h113 : ¬ ((1 : Int32) = 0) := h113
          refine Go.ldcV K hS (i := 0) (vs := []) (z := 0) (hw _ (List.mem_of_getElem? (i := 223) rfl)) wS hEL (by decide) cr1988.1 (by decide +kernel) (by decide) rfl (by decide) (by decide) (by decide) (by decide) at_116 (pc' := 118) rfl ?_
          intro ra t_ra kb_ra vm2000 h1996 B2001 E1997 hr1998 hS E_ra C_ra F_ra A_ra sf1999 K
          have f2008 := f1989.ext E1997
          have f2009 := f1990.ext E1997
          have f2010 := E2_na.ext E1997
          have f2011 := C2_na.ext E1997
          have f2012 := F2_na.ext E1997
          have f2013 := V2_tn.ext E1997
          have od2014 := od1994.ext E1997
          have z2015 := Nat.le_trans z1995 E1997.1
          have cr2016 := cr1988.trans (hr1998)
          have ne2017 := (sf1999 _ (Safe.arv K.cz.alike f2008 (by decide))).1
          have ne2018 := (sf1999 _ (Safe.arv K.cz.alike f2008 (by decide))).2
          have ne2019 := (sf1999 _ (Safe.arv K.cz.alike f2009 (by decide))).1
          have ne2020 := (sf1999 _ (Safe.arv K.cz.alike f2009 (by decide))).2
          refine Go.goto K at_118 (pc' := 130) (by decide) (by decide) ?_
          refine Go.astore K at_130 rfl (Ls' := #[.val (.int p0), .val (.int p1), .val (.int p2), .val (.int p3), .val (.int p4), .val (.int ((p0 &&& (255 : Int32)).toUInt32.toUInt16.toUInt32.toInt32)), .val (.int ((p1 &&& (255 : Int32)).toUInt32.toUInt16.toUInt32.toInt32)), .val (.int ((p2 &&& (255 : Int32)).toUInt32.toUInt16.toUInt32.toInt32)), .val (.int ((p3 &&& (255 : Int32)).toUInt32.toUInt16.toUInt32.toInt32)), .val (.int (0 : Int32)), .val (.int (1 : Int32)), .val (.ref ar), .val (.ref br), .val (.ref na), .val (.ref ra), .unset, .unset, .unset, .unset, .unset, .unset, .unset]) rfl (pc' := 132) rfl ?_
          have S_na : Str Z h1996 na ([(nar .char ((p0 &&& (255 : Int32)).toUInt32.toUInt16.toUInt32.toInt32)), (nar .char ((p1 &&& (255 : Int32)).toUInt32.toUInt16.toUInt32.toInt32))] : List Int32) := ⟨f2010, f2011, tn, _, f2012, f2013⟩
          have S_ra : Str Z h1996 ra [] := ⟨E_ra, C_ra, t_ra, _, F_ra, A_ra⟩
          exact seg2 hw wS hEL hws hwe K hS hTK hBl h0 h1996 n0 z2015 cr2016 od2014 zc S1 P1 hl us ss SU SS p0 p1 p2 p3 p4 ((p0 &&& (255 : Int32)).toUInt32.toUInt16.toUInt32.toInt32) ((p1 &&& (255 : Int32)).toUInt32.toUInt16.toUInt32.toInt32) ((p2 &&& (255 : Int32)).toUInt32.toUInt16.toUInt32.toInt32) ((p3 &&& (255 : Int32)).toUInt32.toUInt16.toUInt32.toInt32) (0 : Int32) (1 : Int32) (own_and255 p0) (own_and255 p1) (own_and255 p2) (own_and255 p3) ([(nar .char ((p0 &&& (255 : Int32)).toUInt32.toUInt16.toUInt32.toInt32)), (nar .char ((p1 &&& (255 : Int32)).toUInt32.toUInt16.toUInt32.toInt32))] : List Int32) [] (Or.inl ⟨rfl, rfl⟩) (Or.inr ⟨rfl, rfl⟩) ar br na ra S_na S_ra _ _ (by decide) (by decide)
      · replace h92 : ¬ ((0 : Int32) = 0) := h92
        exact absurd rfl h92
  · replace h36 : ¬ ((p4 &&& (1 : Int32)) = 0) := h36
    refine Go.iconst K (v := 1) at_39 rfl (pc' := 40) rfl ?_
    refine Go.goto K at_40 (pc' := 44) (by decide) (by decide) ?_
    refine Go.istore K at_44 (Ls' := #[.val (.int p0), .val (.int p1), .val (.int p2), .val (.int p3), .val (.int p4), .val (.int ((p0 &&& (255 : Int32)).toUInt32.toUInt16.toUInt32.toInt32)), .val (.int ((p1 &&& (255 : Int32)).toUInt32.toUInt16.toUInt32.toInt32)), .val (.int ((p2 &&& (255 : Int32)).toUInt32.toUInt16.toUInt32.toInt32)), .val (.int ((p3 &&& (255 : Int32)).toUInt32.toUInt16.toUInt32.toInt32)), .val (.int (1 : Int32)), .unset, .unset, .unset, .unset, .unset, .unset, .unset, .unset, .unset, .unset, .unset, .unset]) rfl (pc' := 46) rfl ?_
    refine Go.iload K at_46 rfl (pc' := 48) rfl ?_
    refine Go.iconst K (v := 2) at_48 rfl (pc' := 49) rfl ?_
    refine Go.iand K at_49 (pc' := 50) rfl ?_
    refine Go.ifc K at_50 (by decide) (pcT := 57) (pcF := 53) (by decide) rfl (fun h50 => ?_) (fun h50 => ?_)
    · replace h50 : (p4 &&& (2 : Int32)) = 0 := h50
      refine Go.iconst K (v := 0) at_57 rfl (pc' := 58) rfl ?_
      refine Go.istore K at_58 (Ls' := #[.val (.int p0), .val (.int p1), .val (.int p2), .val (.int p3), .val (.int p4), .val (.int ((p0 &&& (255 : Int32)).toUInt32.toUInt16.toUInt32.toInt32)), .val (.int ((p1 &&& (255 : Int32)).toUInt32.toUInt16.toUInt32.toInt32)), .val (.int ((p2 &&& (255 : Int32)).toUInt32.toUInt16.toUInt32.toInt32)), .val (.int ((p3 &&& (255 : Int32)).toUInt32.toUInt16.toUInt32.toInt32)), .val (.int (1 : Int32)), .val (.int (0 : Int32)), .unset, .unset, .unset, .unset, .unset, .unset, .unset, .unset, .unset, .unset, .unset]) rfl (pc' := 60) rfl ?_
      refine Go.iconst K (v := 2) at_60 rfl (pc' := 61) rfl ?_
      refine Go.newP K (hw _ (List.mem_of_getElem? (i := 0) rfl)) (by decide) 2 (by decide) (by decide) (by decide) (by decide) at_61 (pc' := 63) rfl ?_
      intro h2021 ar kA_ar eq2023 E2022 V_ar
      have g_ar : n0 ≤ ar := Nat.le_trans Z0 (Nat.le_of_eq eq2023.symm)
      have od2024 := od.ext E2022
      have z2025 := Nat.le_trans Z0 E2022.1
      have cr2026 := CR.trans (CHr.ext E2022 CR.1)
      have V2027 : Arv Z h2021 ar kA_ar .char (2 : Int32) [(.int (0 : Int32)), (.int (0 : Int32))] (.int (0 : Int32)) := V_ar.pad (pad_rep [] (.int (0 : Int32)) 2)
      refine Go.dup K at_63 rfl (pc' := 64) rfl ?_
      refine Go.iconst K (v := 0) at_64 rfl (pc' := 65) rfl ?_
      refine Go.iload K at_65 rfl (pc' := 67) rfl ?_
      refine Go.castore K V2027 0 rfl (Nat.le_of_ble_eq_true rfl) ⟨by decide, by decide⟩ g_ar at_67 (pc' := 68) rfl ?_
      intro h2028 K2029 V2030
      replace V2030 : Arv Z h2028 ar kA_ar .char (2 : Int32) [(.int (nar .char ((p0 &&& (255 : Int32)).toUInt32.toUInt16.toUInt32.toInt32))), (.int (0 : Int32))] (.int (0 : Int32)) := V2030
      have cr2031 := cr2026.trans (CHr.keep K2029 (sfS (Safe.arv K.cz.alike V2027 (by decide)) sf0) cr2026.1)
      have od2033 := od2024.keep K2029 (allS g_ar all0)
      have z2034 := Nat.le_trans z2025 K2029.1
      refine Go.dup K at_68 rfl (pc' := 69) rfl ?_
      refine Go.iconst K (v := 1) at_69 rfl (pc' := 70) rfl ?_
      refine Go.iload K at_70 rfl (pc' := 72) rfl ?_
      refine Go.castore K V2030 1 rfl (Nat.le_of_ble_eq_true rfl) ⟨by decide, by decide⟩ g_ar at_72 (pc' := 73) rfl ?_
      intro h2035 K2036 V2037
      replace V2037 : Arv Z h2035 ar kA_ar .char (2 : Int32) [(.int (nar .char ((p0 &&& (255 : Int32)).toUInt32.toUInt16.toUInt32.toInt32))), (.int (nar .char ((p1 &&& (255 : Int32)).toUInt32.toUInt16.toUInt32.toInt32)))] (.int (0 : Int32)) := V2037
      have cr2038 := cr2031.trans (CHr.keep K2036 (sfS (Safe.arv K.cz.alike V2030 (by decide)) sf0) cr2031.1)
      have od2040 := od2033.keep K2036 (allS g_ar all0)
      have z2041 := Nat.le_trans z2034 K2036.1
      refine Go.astore K at_73 rfl (Ls' := #[.val (.int p0), .val (.int p1), .val (.int p2), .val (.int p3), .val (.int p4), .val (.int ((p0 &&& (255 : Int32)).toUInt32.toUInt16.toUInt32.toInt32)), .val (.int ((p1 &&& (255 : Int32)).toUInt32.toUInt16.toUInt32.toInt32)), .val (.int ((p2 &&& (255 : Int32)).toUInt32.toUInt16.toUInt32.toInt32)), .val (.int ((p3 &&& (255 : Int32)).toUInt32.toUInt16.toUInt32.toInt32)), .val (.int (1 : Int32)), .val (.int (0 : Int32)), .val (.ref ar), .unset, .unset, .unset, .unset, .unset, .unset, .unset, .unset, .unset, .unset]) rfl (pc' := 75) rfl ?_
      refine Go.iconst K (v := 2) at_75 rfl (pc' := 76) rfl ?_
      refine Go.newP K (hw _ (List.mem_of_getElem? (i := 0) rfl)) (by decide) 2 (by decide) (by decide) (by decide) (by decide) at_76 (pc' := 78) rfl ?_
      intro h2042 br kA_br eq2044 E2043 V_br
      have ne2045 : ar ≠ br := own_ne V2037.lt (Nat.le_of_eq eq2044.symm)
      have g_br : n0 ≤ br := Nat.le_trans z2041 (Nat.le_of_eq eq2044.symm)
      have f2047 := V2037.ext E2043
      have od2048 := od2040.ext E2043
      have z2049 := Nat.le_trans z2041 E2043.1
      have cr2050 := cr2038.trans (CHr.ext E2043 cr2038.1)
      have V2051 : Arv Z h2042 br kA_br .char (2 : Int32) [(.int (0 : Int32)), (.int (0 : Int32))] (.int (0 : Int32)) := V_br.pad (pad_rep [] (.int (0 : Int32)) 2)
      refine Go.dup K at_78 rfl (pc' := 79) rfl ?_
      refine Go.iconst K (v := 0) at_79 rfl (pc' := 80) rfl ?_
      refine Go.iload K at_80 rfl (pc' := 82) rfl ?_
      refine Go.castore K V2051 0 rfl (Nat.le_of_ble_eq_true rfl) ⟨by decide, by decide⟩ g_br at_82 (pc' := 83) rfl ?_
      intro h2052 K2053 V2054
      replace V2054 : Arv Z h2052 br kA_br .char (2 : Int32) [(.int (nar .char ((p2 &&& (255 : Int32)).toUInt32.toUInt16.toUInt32.toInt32))), (.int (0 : Int32))] (.int (0 : Int32)) := V2054
      have cr2055 := cr2050.trans (CHr.keep K2053 (sfS (Safe.arv K.cz.alike V2051 (by decide)) sf0) cr2050.1)
      have f2056 := f2047.keep K2053 (ninS ne2045 nin0)
      have od2058 := od2048.keep K2053 (allS g_br all0)
      have z2059 := Nat.le_trans z2049 K2053.1
      refine Go.dup K at_83 rfl (pc' := 84) rfl ?_
      refine Go.iconst K (v := 1) at_84 rfl (pc' := 85) rfl ?_
      refine Go.iload K at_85 rfl (pc' := 87) rfl ?_
      refine Go.castore K V2054 1 rfl (Nat.le_of_ble_eq_true rfl) ⟨by decide, by decide⟩ g_br at_87 (pc' := 88) rfl ?_
      intro h2060 K2061 V2062
      replace V2062 : Arv Z h2060 br kA_br .char (2 : Int32) [(.int (nar .char ((p2 &&& (255 : Int32)).toUInt32.toUInt16.toUInt32.toInt32))), (.int (nar .char ((p3 &&& (255 : Int32)).toUInt32.toUInt16.toUInt32.toInt32)))] (.int (0 : Int32)) := V2062
      have cr2063 := cr2055.trans (CHr.keep K2061 (sfS (Safe.arv K.cz.alike V2054 (by decide)) sf0) cr2055.1)
      have f2064 := f2056.keep K2061 (ninS ne2045 nin0)
      have od2066 := od2058.keep K2061 (allS g_br all0)
      have z2067 := Nat.le_trans z2059 K2061.1
      refine Go.astore K at_88 rfl (Ls' := #[.val (.int p0), .val (.int p1), .val (.int p2), .val (.int p3), .val (.int p4), .val (.int ((p0 &&& (255 : Int32)).toUInt32.toUInt16.toUInt32.toInt32)), .val (.int ((p1 &&& (255 : Int32)).toUInt32.toUInt16.toUInt32.toInt32)), .val (.int ((p2 &&& (255 : Int32)).toUInt32.toUInt16.toUInt32.toInt32)), .val (.int ((p3 &&& (255 : Int32)).toUInt32.toUInt16.toUInt32.toInt32)), .val (.int (1 : Int32)), .val (.int (0 : Int32)), .val (.ref ar), .val (.ref br), .unset, .unset, .unset, .unset, .unset, .unset, .unset, .unset, .unset]) rfl (pc' := 90) rfl ?_
      refine Go.iload K at_90 rfl (pc' := 92) rfl ?_
      refine Go.ifc K at_92 (by decide) (pcT := 100) (pcF := 95) (by decide) rfl (fun h92 => ?_) (fun h92 => ?_)
      · replace h92 : (1 : Int32) = 0 := h92
        exact absurd h92 (by decide)
      · replace h92 : ¬ ((1 : Int32) = 0) := h92
        refine Go.ldcV K hS (i := 0) (vs := []) (z := 0) (hw _ (List.mem_of_getElem? (i := 223) rfl)) wS hEL (by decide) cr2063.1 (by decide +kernel) (by decide) rfl (by decide) (by decide) (by decide) (by decide) at_95 (pc' := 97) rfl ?_
        intro na t_na kb_na vm2072 h2068 B2073 E2069 hr2070 hS E_na C_na F_na A_na sf2071 K
        have f2076 := f2064.ext E2069
        have f2077 := V2062.ext E2069
        have od2078 := od2066.ext E2069
        have z2079 := Nat.le_trans z2067 E2069.1
        have cr2080 := cr2063.trans (hr2070)
        have ne2081 := (sf2071 _ (Safe.arv K.cz.alike f2076 (by decide))).1
        have ne2082 := (sf2071 _ (Safe.arv K.cz.alike f2076 (by decide))).2
        have ne2083 := (sf2071 _ (Safe.arv K.cz.alike f2077 (by decide))).1
        have ne2084 := (sf2071 _ (Safe.arv K.cz.alike f2077 (by decide))).2
        refine Go.goto K at_97 (pc' := 109) (by decide) (by decide) ?_
        refine Go.astore K at_109 rfl (Ls' := #[.val (.int p0), .val (.int p1), .val (.int p2), .val (.int p3), .val (.int p4), .val (.int ((p0 &&& (255 : Int32)).toUInt32.toUInt16.toUInt32.toInt32)), .val (.int ((p1 &&& (255 : Int32)).toUInt32.toUInt16.toUInt32.toInt32)), .val (.int ((p2 &&& (255 : Int32)).toUInt32.toUInt16.toUInt32.toInt32)), .val (.int ((p3 &&& (255 : Int32)).toUInt32.toUInt16.toUInt32.toInt32)), .val (.int (1 : Int32)), .val (.int (0 : Int32)), .val (.ref ar), .val (.ref br), .val (.ref na), .unset, .unset, .unset, .unset, .unset, .unset, .unset, .unset]) rfl (pc' := 111) rfl ?_
        refine Go.iload K at_111 rfl (pc' := 113) rfl ?_
        refine Go.ifc K at_113 (by decide) (pcT := 121) (pcF := 116) (by decide) rfl (fun h113 => ?_) (fun h113 => ?_)
        · replace h113 : (0 : Int32) = 0 := h113
          refine Go.newO K (hw _ (List.mem_of_getElem? (i := 1) rfl)) (hw _ (List.mem_of_getElem? (i := 2) rfl)) (hw _ (List.mem_of_getElem? (i := 3) rfl)) (by decide) (by decide) at_121 (pc' := 124) rfl ?_
          intro h2085 ra eq2088 E2086 E_ra D2087
          have ne2089 : ar ≠ ra := own_ne f2076.lt (Nat.le_of_eq eq2088.symm)
          have ne2090 : t_na ≠ ra := own_ne A_na.lt (Nat.le_of_eq eq2088.symm)
          have ne2091 : na ≠ ra := own_ne E_na.lt (Nat.le_of_eq eq2088.symm)
          have ne2092 : br ≠ ra := own_ne f2077.lt (Nat.le_of_eq eq2088.symm)
          have g_ra : n0 ≤ ra := Nat.le_trans z2079 (Nat.le_of_eq eq2088.symm)
          have sf2093 := Safe.ext E2086 cr2080.1 (Safe.new (Nat.le_of_eq eq2088.symm))
          have f2100 := f2076.ext E2086
          have f2101 := f2077.ext E2086
          have f2102 := E_na.ext E2086
          have f2103 := C_na.ext E2086
          have f2104 := F_na.ext E2086
          have f2105 := A_na.ext E2086
          have od2106 := od2078.ext E2086
          have z2107 := Nat.le_trans z2079 E2086.1
          have cr2108 := cr2080.trans (CHr.ext E2086 cr2080.1)
          have f2109 : Fld Z h2085 ra "java/lang/String" "coder" "B" (.int (0 : Int32)) := D2087 (Or.inr (hw _ (List.mem_of_getElem? (i := 27) rfl))) (ty := .byte) (by decide)
          have f2110 : Fld Z h2085 ra "java/lang/String" "value" "[B" .null := D2087 (Or.inr (hw _ (List.mem_of_getElem? (i := 29) rfl))) (ty := (.array .byte)) (by decide)
          refine Go.dup K at_124 rfl (pc' := 125) rfl ?_
          refine Go.aload K at_125 rfl rfl (pc' := 127) rfl ?_
          have hp_ra : ∀ c ∈ ([(nar .char ((p2 &&& (255 : Int32)).toUInt32.toUInt16.toUInt32.toInt32)), (nar .char ((p3 &&& (255 : Int32)).toUInt32.toUInt16.toUInt32.toInt32))] : List Int32), ¬ c < 0 ∧ ¬ (255 : Int32) < c := by
            intro c hc
            simp only [List.mem_cons, List.not_mem_nil, or_false] at hc
            rcases hc with rfl | rfl
            · exact own_and255 p2
            · exact own_and255 p3
          refine Go.callC K (y := (⟨"java/lang/String", "<init>", "([C)V"⟩ : MethodName)) (W := 1) (kc := 1) (nc := 2) (a := ra) rfl (mvT K.cz (hw _ (List.mem_of_getElem? (i := 4) rfl))) (mvT K.cz (hw _ (List.mem_of_getElem? (i := 5) rfl))) (mvT K.cz (hw _ (List.mem_of_getElem? (i := 6) rfl))) (by decide) (paysNew (W := 1) K.cz hws (kI := 4) (hw _ (List.mem_of_getElem? (i := 2) rfl)) (cs := ([(nar .char ((p2 &&& (255 : Int32)).toUInt32.toUInt16.toUInt32.toInt32)), (nar .char ((p3 &&& (255 : Int32)).toUInt32.toUInt16.toUInt32.toInt32))] : List Int32)) (bs := ([(nar .char ((p2 &&& (255 : Int32)).toUInt32.toUInt16.toUInt32.toInt32)), (nar .char ((p3 &&& (255 : Int32)).toUInt32.toUInt16.toUInt32.toInt32))] : List Int32).map (fun c => c.toInt8.toInt32)) (n := 2) g_ra z2107 E_ra f2110 f2109 f2101 (S1.ext od2106.2) P1 rfl rfl (by decide) (by decide) hp_ra rfl (by decide) (by decide)) rfl (argsL := [(.ref br)]) (rest := [(.ref ra)]) (lenOf pd__28_5bC_29V rfl) rfl (Nat.le_of_ble_eq_true rfl) (by decide) (by decide) (fun v h' L q => q.2.1) (fun v h' L q => q.2.2.1.1) at_127 (pc' := 130) rfl ?_
          rintro v2113 h2111 Lc2112 ⟨rfl, Nq, Kq_ra, E2_ra, C2_ra, tr, kb_ra, ht0, ht1_ra, htne, F2_ra, V2_tr⟩
          have ne2114 : na ≠ tr := own_ne f2102.lt ht1_ra
          have ne2115 : br ≠ tr := own_ne f2101.lt ht1_ra
          have ne2116 : ar ≠ tr := own_ne f2100.lt ht1_ra
          have ne2117 : t_na ≠ tr := own_ne f2105.lt ht1_ra
          have ne2118 : ra ≠ tr := own_ne E_ra.lt ht1_ra
          have f2119 := Safe.keep Kq_ra (sfS sf2093 sf0) cr2108.1 sf2093
          have cr2120 := cr2108.trans (CHr.keep Kq_ra (sfS sf2093 sf0) cr2108.1)
          have f2121 := f2100.keep Kq_ra (ninS ne2089 nin0)
          have f2122 := f2101.keep Kq_ra (ninS ne2092 nin0)
          have f2123 := f2102.keep Kq_ra
          have f2124 := f2103.keep Kq_ra (ninS ne2091 nin0)
          have f2125 := f2104.keep Kq_ra (ninS ne2091 nin0)
          have f2126 := f2105.keep Kq_ra (ninS ne2090 nin0)
          have f2127 := E_ra.keep Kq_ra
          have od2130 := od2106.keep Kq_ra (allS g_ra all0)
          have z2131 := Nat.le_trans z2107 Kq_ra.1
          show Go p l e _ _ m _ below meth c _ _ _ _ h2111 _ _ (mkF m 130 #[.val (.int p0), .val (.int p1), .val (.int p2), .val (.int p3), .val (.int p4), .val (.int ((p0 &&& (255 : Int32)).toUInt32.toUInt16.toUInt32.toInt32)), .val (.int ((p1 &&& (255 : Int32)).toUInt32.toUInt16.toUInt32.toInt32)), .val (.int ((p2 &&& (255 : Int32)).toUInt32.toUInt16.toUInt32.toInt32)), .val (.int ((p3 &&& (255 : Int32)).toUInt32.toUInt16.toUInt32.toInt32)), .val (.int (1 : Int32)), .val (.int (0 : Int32)), .val (.ref ar), .val (.ref br), .val (.ref na), .unset, .unset, .unset, .unset, .unset, .unset, .unset, .unset] [(.ref ra)])
          refine Go.astore K at_130 rfl (Ls' := #[.val (.int p0), .val (.int p1), .val (.int p2), .val (.int p3), .val (.int p4), .val (.int ((p0 &&& (255 : Int32)).toUInt32.toUInt16.toUInt32.toInt32)), .val (.int ((p1 &&& (255 : Int32)).toUInt32.toUInt16.toUInt32.toInt32)), .val (.int ((p2 &&& (255 : Int32)).toUInt32.toUInt16.toUInt32.toInt32)), .val (.int ((p3 &&& (255 : Int32)).toUInt32.toUInt16.toUInt32.toInt32)), .val (.int (1 : Int32)), .val (.int (0 : Int32)), .val (.ref ar), .val (.ref br), .val (.ref na), .val (.ref ra), .unset, .unset, .unset, .unset, .unset, .unset, .unset]) rfl (pc' := 132) rfl ?_
          have S_na : Str Z h2111 na [] := ⟨f2123, f2124, t_na, _, f2125, f2126⟩
          have S_ra : Str Z h2111 ra ([(nar .char ((p2 &&& (255 : Int32)).toUInt32.toUInt16.toUInt32.toInt32)), (nar .char ((p3 &&& (255 : Int32)).toUInt32.toUInt16.toUInt32.toInt32))] : List Int32) := ⟨E2_ra, C2_ra, tr, _, F2_ra, V2_tr⟩
          exact seg2 hw wS hEL hws hwe K hS hTK hBl h0 h2111 n0 z2131 cr2120 od2130 zc S1 P1 hl us ss SU SS p0 p1 p2 p3 p4 ((p0 &&& (255 : Int32)).toUInt32.toUInt16.toUInt32.toInt32) ((p1 &&& (255 : Int32)).toUInt32.toUInt16.toUInt32.toInt32) ((p2 &&& (255 : Int32)).toUInt32.toUInt16.toUInt32.toInt32) ((p3 &&& (255 : Int32)).toUInt32.toUInt16.toUInt32.toInt32) (1 : Int32) (0 : Int32) (own_and255 p0) (own_and255 p1) (own_and255 p2) (own_and255 p3) [] ([(nar .char ((p2 &&& (255 : Int32)).toUInt32.toUInt16.toUInt32.toInt32)), (nar .char ((p3 &&& (255 : Int32)).toUInt32.toUInt16.toUInt32.toInt32))] : List Int32) (Or.inr ⟨rfl, rfl⟩) (Or.inl ⟨rfl, rfl⟩) ar br na ra S_na S_ra _ _ (by decide) (by decide)
        · replace h113 : ¬ ((0 : Int32) = 0) := h113
          exact absurd rfl h113
    · replace h50 : ¬ ((p4 &&& (2 : Int32)) = 0) := h50
      refine Go.iconst K (v := 1) at_53 rfl (pc' := 54) rfl ?_
      refine Go.goto K at_54 (pc' := 58) (by decide) (by decide) ?_
      refine Go.istore K at_58 (Ls' := #[.val (.int p0), .val (.int p1), .val (.int p2), .val (.int p3), .val (.int p4), .val (.int ((p0 &&& (255 : Int32)).toUInt32.toUInt16.toUInt32.toInt32)), .val (.int ((p1 &&& (255 : Int32)).toUInt32.toUInt16.toUInt32.toInt32)), .val (.int ((p2 &&& (255 : Int32)).toUInt32.toUInt16.toUInt32.toInt32)), .val (.int ((p3 &&& (255 : Int32)).toUInt32.toUInt16.toUInt32.toInt32)), .val (.int (1 : Int32)), .val (.int (1 : Int32)), .unset, .unset, .unset, .unset, .unset, .unset, .unset, .unset, .unset, .unset, .unset]) rfl (pc' := 60) rfl ?_
      refine Go.iconst K (v := 2) at_60 rfl (pc' := 61) rfl ?_
      refine Go.newP K (hw _ (List.mem_of_getElem? (i := 0) rfl)) (by decide) 2 (by decide) (by decide) (by decide) (by decide) at_61 (pc' := 63) rfl ?_
      intro h2132 ar kA_ar eq2134 E2133 V_ar
      have g_ar : n0 ≤ ar := Nat.le_trans Z0 (Nat.le_of_eq eq2134.symm)
      have od2135 := od.ext E2133
      have z2136 := Nat.le_trans Z0 E2133.1
      have cr2137 := CR.trans (CHr.ext E2133 CR.1)
      have V2138 : Arv Z h2132 ar kA_ar .char (2 : Int32) [(.int (0 : Int32)), (.int (0 : Int32))] (.int (0 : Int32)) := V_ar.pad (pad_rep [] (.int (0 : Int32)) 2)
      refine Go.dup K at_63 rfl (pc' := 64) rfl ?_
      refine Go.iconst K (v := 0) at_64 rfl (pc' := 65) rfl ?_
      refine Go.iload K at_65 rfl (pc' := 67) rfl ?_
      refine Go.castore K V2138 0 rfl (Nat.le_of_ble_eq_true rfl) ⟨by decide, by decide⟩ g_ar at_67 (pc' := 68) rfl ?_
      intro h2139 K2140 V2141
      replace V2141 : Arv Z h2139 ar kA_ar .char (2 : Int32) [(.int (nar .char ((p0 &&& (255 : Int32)).toUInt32.toUInt16.toUInt32.toInt32))), (.int (0 : Int32))] (.int (0 : Int32)) := V2141
      have cr2142 := cr2137.trans (CHr.keep K2140 (sfS (Safe.arv K.cz.alike V2138 (by decide)) sf0) cr2137.1)
      have od2144 := od2135.keep K2140 (allS g_ar all0)
      have z2145 := Nat.le_trans z2136 K2140.1
      refine Go.dup K at_68 rfl (pc' := 69) rfl ?_
      refine Go.iconst K (v := 1) at_69 rfl (pc' := 70) rfl ?_
      refine Go.iload K at_70 rfl (pc' := 72) rfl ?_
      refine Go.castore K V2141 1 rfl (Nat.le_of_ble_eq_true rfl) ⟨by decide, by decide⟩ g_ar at_72 (pc' := 73) rfl ?_
      intro h2146 K2147 V2148
      replace V2148 : Arv Z h2146 ar kA_ar .char (2 : Int32) [(.int (nar .char ((p0 &&& (255 : Int32)).toUInt32.toUInt16.toUInt32.toInt32))), (.int (nar .char ((p1 &&& (255 : Int32)).toUInt32.toUInt16.toUInt32.toInt32)))] (.int (0 : Int32)) := V2148
      have cr2149 := cr2142.trans (CHr.keep K2147 (sfS (Safe.arv K.cz.alike V2141 (by decide)) sf0) cr2142.1)
      have od2151 := od2144.keep K2147 (allS g_ar all0)
      have z2152 := Nat.le_trans z2145 K2147.1
      refine Go.astore K at_73 rfl (Ls' := #[.val (.int p0), .val (.int p1), .val (.int p2), .val (.int p3), .val (.int p4), .val (.int ((p0 &&& (255 : Int32)).toUInt32.toUInt16.toUInt32.toInt32)), .val (.int ((p1 &&& (255 : Int32)).toUInt32.toUInt16.toUInt32.toInt32)), .val (.int ((p2 &&& (255 : Int32)).toUInt32.toUInt16.toUInt32.toInt32)), .val (.int ((p3 &&& (255 : Int32)).toUInt32.toUInt16.toUInt32.toInt32)), .val (.int (1 : Int32)), .val (.int (1 : Int32)), .val (.ref ar), .unset, .unset, .unset, .unset, .unset, .unset, .unset, .unset, .unset, .unset]) rfl (pc' := 75) rfl ?_
      refine Go.iconst K (v := 2) at_75 rfl (pc' := 76) rfl ?_
      refine Go.newP K (hw _ (List.mem_of_getElem? (i := 0) rfl)) (by decide) 2 (by decide) (by decide) (by decide) (by decide) at_76 (pc' := 78) rfl ?_
      intro h2153 br kA_br eq2155 E2154 V_br
      have ne2156 : ar ≠ br := own_ne V2148.lt (Nat.le_of_eq eq2155.symm)
      have g_br : n0 ≤ br := Nat.le_trans z2152 (Nat.le_of_eq eq2155.symm)
      have f2158 := V2148.ext E2154
      have od2159 := od2151.ext E2154
      have z2160 := Nat.le_trans z2152 E2154.1
      have cr2161 := cr2149.trans (CHr.ext E2154 cr2149.1)
      have V2162 : Arv Z h2153 br kA_br .char (2 : Int32) [(.int (0 : Int32)), (.int (0 : Int32))] (.int (0 : Int32)) := V_br.pad (pad_rep [] (.int (0 : Int32)) 2)
      refine Go.dup K at_78 rfl (pc' := 79) rfl ?_
      refine Go.iconst K (v := 0) at_79 rfl (pc' := 80) rfl ?_
      refine Go.iload K at_80 rfl (pc' := 82) rfl ?_
      refine Go.castore K V2162 0 rfl (Nat.le_of_ble_eq_true rfl) ⟨by decide, by decide⟩ g_br at_82 (pc' := 83) rfl ?_
      intro h2163 K2164 V2165
      replace V2165 : Arv Z h2163 br kA_br .char (2 : Int32) [(.int (nar .char ((p2 &&& (255 : Int32)).toUInt32.toUInt16.toUInt32.toInt32))), (.int (0 : Int32))] (.int (0 : Int32)) := V2165
      have cr2166 := cr2161.trans (CHr.keep K2164 (sfS (Safe.arv K.cz.alike V2162 (by decide)) sf0) cr2161.1)
      have f2167 := f2158.keep K2164 (ninS ne2156 nin0)
      have od2169 := od2159.keep K2164 (allS g_br all0)
      have z2170 := Nat.le_trans z2160 K2164.1
      refine Go.dup K at_83 rfl (pc' := 84) rfl ?_
      refine Go.iconst K (v := 1) at_84 rfl (pc' := 85) rfl ?_
      refine Go.iload K at_85 rfl (pc' := 87) rfl ?_
      refine Go.castore K V2165 1 rfl (Nat.le_of_ble_eq_true rfl) ⟨by decide, by decide⟩ g_br at_87 (pc' := 88) rfl ?_
      intro h2171 K2172 V2173
      replace V2173 : Arv Z h2171 br kA_br .char (2 : Int32) [(.int (nar .char ((p2 &&& (255 : Int32)).toUInt32.toUInt16.toUInt32.toInt32))), (.int (nar .char ((p3 &&& (255 : Int32)).toUInt32.toUInt16.toUInt32.toInt32)))] (.int (0 : Int32)) := V2173
      have cr2174 := cr2166.trans (CHr.keep K2172 (sfS (Safe.arv K.cz.alike V2165 (by decide)) sf0) cr2166.1)
      have f2175 := f2167.keep K2172 (ninS ne2156 nin0)
      have od2177 := od2169.keep K2172 (allS g_br all0)
      have z2178 := Nat.le_trans z2170 K2172.1
      refine Go.astore K at_88 rfl (Ls' := #[.val (.int p0), .val (.int p1), .val (.int p2), .val (.int p3), .val (.int p4), .val (.int ((p0 &&& (255 : Int32)).toUInt32.toUInt16.toUInt32.toInt32)), .val (.int ((p1 &&& (255 : Int32)).toUInt32.toUInt16.toUInt32.toInt32)), .val (.int ((p2 &&& (255 : Int32)).toUInt32.toUInt16.toUInt32.toInt32)), .val (.int ((p3 &&& (255 : Int32)).toUInt32.toUInt16.toUInt32.toInt32)), .val (.int (1 : Int32)), .val (.int (1 : Int32)), .val (.ref ar), .val (.ref br), .unset, .unset, .unset, .unset, .unset, .unset, .unset, .unset, .unset]) rfl (pc' := 90) rfl ?_
      refine Go.iload K at_90 rfl (pc' := 92) rfl ?_
      refine Go.ifc K at_92 (by decide) (pcT := 100) (pcF := 95) (by decide) rfl (fun h92 => ?_) (fun h92 => ?_)
      · replace h92 : (1 : Int32) = 0 := h92
        exact absurd h92 (by decide)
      · replace h92 : ¬ ((1 : Int32) = 0) := h92
        refine Go.ldcV K hS (i := 0) (vs := []) (z := 0) (hw _ (List.mem_of_getElem? (i := 223) rfl)) wS hEL (by decide) cr2174.1 (by decide +kernel) (by decide) rfl (by decide) (by decide) (by decide) (by decide) at_95 (pc' := 97) rfl ?_
        intro na t_na kb_na vm2183 h2179 B2184 E2180 hr2181 hS E_na C_na F_na A_na sf2182 K
        have f2187 := f2175.ext E2180
        have f2188 := V2173.ext E2180
        have od2189 := od2177.ext E2180
        have z2190 := Nat.le_trans z2178 E2180.1
        have cr2191 := cr2174.trans (hr2181)
        have ne2192 := (sf2182 _ (Safe.arv K.cz.alike f2187 (by decide))).1
        have ne2193 := (sf2182 _ (Safe.arv K.cz.alike f2187 (by decide))).2
        have ne2194 := (sf2182 _ (Safe.arv K.cz.alike f2188 (by decide))).1
        have ne2195 := (sf2182 _ (Safe.arv K.cz.alike f2188 (by decide))).2
        refine Go.goto K at_97 (pc' := 109) (by decide) (by decide) ?_
        refine Go.astore K at_109 rfl (Ls' := #[.val (.int p0), .val (.int p1), .val (.int p2), .val (.int p3), .val (.int p4), .val (.int ((p0 &&& (255 : Int32)).toUInt32.toUInt16.toUInt32.toInt32)), .val (.int ((p1 &&& (255 : Int32)).toUInt32.toUInt16.toUInt32.toInt32)), .val (.int ((p2 &&& (255 : Int32)).toUInt32.toUInt16.toUInt32.toInt32)), .val (.int ((p3 &&& (255 : Int32)).toUInt32.toUInt16.toUInt32.toInt32)), .val (.int (1 : Int32)), .val (.int (1 : Int32)), .val (.ref ar), .val (.ref br), .val (.ref na), .unset, .unset, .unset, .unset, .unset, .unset, .unset, .unset]) rfl (pc' := 111) rfl ?_
        refine Go.iload K at_111 rfl (pc' := 113) rfl ?_
        refine Go.ifc K at_113 (by decide) (pcT := 121) (pcF := 116) (by decide) rfl (fun h113 => ?_) (fun h113 => ?_)
        · replace h113 : (1 : Int32) = 0 := h113
          exact absurd h113 (by decide)
        · replace h113 : ¬ ((1 : Int32) = 0) := h113
          refine Go.ldcV K hS (i := 0) (vs := []) (z := 0) (hw _ (List.mem_of_getElem? (i := 223) rfl)) wS hEL (by decide) cr2191.1 (by decide +kernel) (by decide) rfl (by decide) (by decide) (by decide) (by decide) at_116 (pc' := 118) rfl ?_
          intro ra t_ra kb_ra vm2200 h2196 B2201 E2197 hr2198 hS E_ra C_ra F_ra A_ra sf2199 K
          have f2208 := f2187.ext E2197
          have f2209 := f2188.ext E2197
          have f2210 := E_na.ext E2197
          have f2211 := C_na.ext E2197
          have f2212 := F_na.ext E2197
          have f2213 := A_na.ext E2197
          have od2214 := od2189.ext E2197
          have z2215 := Nat.le_trans z2190 E2197.1
          have cr2216 := cr2191.trans (hr2198)
          have ne2217 := (sf2199 _ (Safe.arv K.cz.alike f2208 (by decide))).1
          have ne2218 := (sf2199 _ (Safe.arv K.cz.alike f2208 (by decide))).2
          have ne2219 := (sf2199 _ (Safe.arv K.cz.alike f2209 (by decide))).1
          have ne2220 := (sf2199 _ (Safe.arv K.cz.alike f2209 (by decide))).2
          refine Go.goto K at_118 (pc' := 130) (by decide) (by decide) ?_
          refine Go.astore K at_130 rfl (Ls' := #[.val (.int p0), .val (.int p1), .val (.int p2), .val (.int p3), .val (.int p4), .val (.int ((p0 &&& (255 : Int32)).toUInt32.toUInt16.toUInt32.toInt32)), .val (.int ((p1 &&& (255 : Int32)).toUInt32.toUInt16.toUInt32.toInt32)), .val (.int ((p2 &&& (255 : Int32)).toUInt32.toUInt16.toUInt32.toInt32)), .val (.int ((p3 &&& (255 : Int32)).toUInt32.toUInt16.toUInt32.toInt32)), .val (.int (1 : Int32)), .val (.int (1 : Int32)), .val (.ref ar), .val (.ref br), .val (.ref na), .val (.ref ra), .unset, .unset, .unset, .unset, .unset, .unset, .unset]) rfl (pc' := 132) rfl ?_
          have S_na : Str Z h2196 na [] := ⟨f2210, f2211, t_na, _, f2212, f2213⟩
          have S_ra : Str Z h2196 ra [] := ⟨E_ra, C_ra, t_ra, _, F_ra, A_ra⟩
          exact seg2 hw wS hEL hws hwe K hS hTK hBl h0 h2196 n0 z2215 cr2216 od2214 zc S1 P1 hl us ss SU SS p0 p1 p2 p3 p4 ((p0 &&& (255 : Int32)).toUInt32.toUInt16.toUInt32.toInt32) ((p1 &&& (255 : Int32)).toUInt32.toUInt16.toUInt32.toInt32) ((p2 &&& (255 : Int32)).toUInt32.toUInt16.toUInt32.toInt32) ((p3 &&& (255 : Int32)).toUInt32.toUInt16.toUInt32.toInt32) (1 : Int32) (1 : Int32) (own_and255 p0) (own_and255 p1) (own_and255 p2) (own_and255 p3) [] [] (Or.inr ⟨rfl, rfl⟩) (Or.inr ⟨rfl, rfl⟩) ar br na ra S_na S_ra _ _ (by decide) (by decide)
set_option maxRecDepth 65536 in
set_option maxHeartbeats 40000000 in
theorem comes_1 {Post : Tables → Env → Array Value → State → Outcome → State → Prop} (hpost : ∀ tb e args s v u, (limb_1_1.after args s (.returned v) u = true ∧ limb_1_2.after args s (.returned v) u = true ∧ True) → ReturnedEndW s (.returned v) u (Jvm.fieldLocs frame_1_writes args s ++ Jvm.arrayLocs frame_1_arrays args s ++ Jvm.staticLocs frame_1_statics s) 56 8960 → Post tb e args s (.returned v) u) :
    ArmFor flags0 classFile x code maxLocals ret World_1 tables_1 room_1 Calls_1 rest_1 Pre_1 Post := by
  intro l hfl _ _ p e ha hc hk s m args below hf hA hF happ hP
  obtain ⟨hcalls, hrest, hpre⟩ := hP
  obtain ⟨-, -, -, hnamed, -, -, -, hat⟩ := (Spec.applies_iff hf).mp happ
  obtain ⟨hg, hn⟩ := and_e (Cond.before_iff.mp (show (Jvm.Cond.and given_1 narrow_1).before args s = true from hpre))
  obtain ⟨q0, r0⟩ := and_e hg
  obtain ⟨q1, r1⟩ := and_e r0
  obtain ⟨q2, r2⟩ := and_e r1
  obtain ⟨q3, r3⟩ := and_e r2
  obtain ⟨q4, r4⟩ := and_e r3
  obtain ⟨w0, w1, w2, w3, w4, rfl⟩ : ∃ w0 w1 w2 w3 w4 : Value, args = #[w0, w1, w2, w3, w4] := by
    have hs : args.size = 5 := by simpa [Cond.value, given_1] using q0
    obtain ⟨L⟩ := args
    match L, hs with
    | [w0, w1, w2, w3, w4], _ => exact ⟨w0, w1, w2, w3, w4, rfl⟩
  have hw := fun d (hd : d ∈ tables_1) => atoms_spec (ws := Jvm.Cond.code x code maxLocals ret :: tables_1) hat d (List.mem_cons_of_mem _ hd)
  obtain ⟨hsets, hown0⟩ := atoms_of _ (rest_1_c_eq ▸ (show rest_1_c.before _ s = true from hrest))
  have hr0 := Cond.before_iff.mp hown0
  have hfit : Fit s := fun {y c} hc i hi => by
    obtain ⟨ha, rfl⟩ := Array.getElem?_eq_some_iff.mp hc
    have q := List.all_eq_true.mp ((Array.all_eq_true_iff_forall_mem.mp hF) _ (Array.getElem_mem ha)) i (List.mem_range.mpr hi)
    simpa [Array.getElem?_eq_getElem hi] using q
  obtain ⟨i0, ei0⟩ := is_v q1
  obtain rfl : w0 = (.int i0) := Option.some.inj ei0
  obtain ⟨i1, ei1⟩ := is_v q2
  obtain rfl : w1 = (.int i1) := Option.some.inj ei1
  obtain ⟨i2, ei2⟩ := is_v q3
  obtain rfl : w2 = (.int i2) := Option.some.inj ei2
  obtain ⟨i3, ei3⟩ := is_v q4
  obtain rfl : w3 = (.int i3) := Option.some.inj ei3
  obtain ⟨i4, ei4⟩ := is_v r4
  obtain rfl : w4 = (.int i4) := Option.some.inj ei4
  obtain ⟨zc, ezc⟩ := is_v (Cond.before_iff.mp (hsets _ (List.mem_of_getElem? (i := 1) rfl)))
  have S1 : Sta s s.heap "java/lang/String" "COMPACT_STRINGS" "Z" (.int zc) := Sta.start ezc (Or.inl (hsets _ (List.mem_of_getElem? (i := 0) rfl)))
  have P1 : ¬ (zc = (0 : Int32)) := gotF (Cond.eq_ints ezc (Term.int_eval (0))) (not_v (Cond.before_iff.mp (hsets _ (List.mem_of_getElem? (i := 2) rfl))))
  obtain ⟨us, eus⟩ := arr_v (Cond.before_iff.mp (hsets _ (List.mem_of_getElem? (i := 17) rfl)))
  have SU : Sta s s.heap "java/lang/Throwable" "UNASSIGNED_STACK" "[Ljava/lang/StackTraceElement;" (.ref us) := Sta.start eus (Or.inl (hsets _ (List.mem_of_getElem? (i := 15) rfl)))
  obtain ⟨ss, ess⟩ := exa_v (Cond.before_iff.mp (hsets _ (List.mem_of_getElem? (i := 22) rfl)))
  have SS : Sta s s.heap "java/lang/Throwable" "SUPPRESSED_SENTINEL" "Ljava/util/List;" (.ref ss) := Sta.start ess (Or.inl (hsets _ (List.mem_of_getElem? (i := 20) rfl)))
  have hl : l.stackTraces = true := by
    have e1 : l.stackTraces = ({ launch0 with flags := l.flags } : Launch).stackTraces := rfl
    rw [e1, hfl]; decide +kernel
  obtain ⟨hTK, hBl⟩ := own_known hf hcalls.1 hcalls.2.1
  have wS : ∀ a ∈ Bundle.stringAtoms, a.before _ s = true := fun d hd => hw d ((by decide +kernel : ∀ d ∈ Bundle.stringAtoms, d ∈ tables_1) d hd)
  have hEL : EW s _ [("com/example/basehome/basehome/internal/VariableProblems", 52), ("com/example/basehome/basehome/internal/VariableProblems", 54), ("com/example/basehome/basehome/internal/VariableProblemsNameRefusalPinLaw", 7)] := EW.cons (hw _ (List.mem_of_getElem? (i := 55) rfl)) (by decide) (EW.cons (hw _ (List.mem_of_getElem? (i := 105) rfl)) (by decide) (EW.cons (hw _ (List.mem_of_getElem? (i := 223) rfl)) (by decide) EW.nil))
  have HC0 : CHv s [("com/example/basehome/basehome/internal/VariableProblems", 52), ("com/example/basehome/basehome/internal/VariableProblems", 54), ("com/example/basehome/basehome/internal/VariableProblemsNameRefusalPinLaw", 7)] s.vm s.heap := CHv.start hEL (fun q hq => hcalls.2.2.1 q (by simpa [consts_1] using hq)) (hsets _ (by decide +kernel)) (hw _ (List.mem_of_getElem? (i := 19) rfl)) (hw _ (List.mem_of_getElem? (i := 2) rfl))
  obtain ⟨n, o, h1, h2, h3, _, L, rfl, ⟨⟨rfl, N⟩, -⟩, -, hq⟩ := m_law l s _ hw s.heap s.heap.size (Nat.le_refl _) wS hEL i0 i1 i2 i3 i4 zc S1 P1 (Old.start s) hl us ss SU SS p e ha hc hk s m _ below hf ((Spec.applies_iff_loose hf).mp happ).1 ⟨rfl, State.Warmed39.refl s, rfl, HC0⟩ ⟨hTK, hBl⟩
  refine ⟨n, _, h1, h2, h3, hpost _ _ _ _ _ _ ⟨Cond.after_iff.mpr rfl, Cond.after_iff.mpr (eq_i res_at (Term.int_eval (1)) rfl), trivial⟩ ⟨hq.1, hq.2.1, hq.2.2.1, (hq.2.2.2.sift fun y hy => Or.inr (N y hy)).mono (by decide) (by decide)⟩⟩
theorem main_1_1 : Claimed_1_1 := comes_1 fun _ _ _ _ _ _ h hF => ⟨h.1, hF⟩
theorem main_1_2 : Claimed_1_2 := comes_1 fun _ _ _ _ _ _ h hF => ⟨h.2.1, hF⟩
end Jvm.Pilot.@@N@@
namespace Jvm.Pilot.@@N@@
open Jvm Jvm.ClassFile Sem Op Lib Jvm.Free Jvm.Stand Jvm.Pilot.@@N@@.Jvm.D
/-! MADE BY PROGRAM (witnessworld.py) out of the Statement's table words and the real class files: 43 classes; the members and pool entries that the words name. The judged class is class 1, her method 1. -/
namespace start1
open Jvm.ClassFile
def u (s : String) : CpInfo := .utf8 (stringToUtf16 s)
/-- a pool by its gaps: so many unusable entries, then the entry; so many at the end -/
def gap : Nat → List CpInfo → List CpInfo
  | 0, r => r
  | n + 1, r => .unusable :: gap n r
def poolList (es : List (Nat × CpInfo)) (last : Nat) : List CpInfo := es.foldr (fun e r => gap e.1 (e.2 :: r)) (gap last [])
def pool (es : List (Nat × CpInfo)) (last : Nat) : Array CpInfo := ⟨poolList es last⟩
def fileOf (pool : Array CpInfo) (this : Nat) (attrs : Array Attribute := #[]) (ms : Array MethodInfo := #[]) (fl : Nat := 33) (sup : Nat := 0) (ifs : Array Nat := #[]) (fds : Array FieldInfo := #[]) : ClassFile where
  minorVersion := 0
  majorVersion := 65
  constantPool := pool
  accessFlags := fl
  thisClass := this
  superClass := sup
  interfaces := ifs
  fields := fds
  methods := ms
  attributes := attrs
def plain (name : String) (sup : Option ClassId) : Class where
  name := name
  kind := .ordinary
  loader := none
  accessFlags := 33
  super := sup
  interfaces := #[]
  cf := none
  fields := #[]
  methods := #[]
  instanceTypes := #[]
  staticTypes := #[]
  resolved := #[]
  callSites := []
  init := .initialized
  statics := none
  mirror := none

def pool0 : Array CpInfo := pool [(5, u "<init>"), (0, u "()V"), (1, .class_ 10), (1, u "java/lang/Object"), (85, u "clone"), (0, u "()Ljava/lang/Object;")] 26

def k0c0 : Code := { maxStack := 0, maxLocals := 1, code := object_method_1_code, exceptionTable := #[], attributes := #[] }
def k0m0 : Method := { name := "<init>", desc := "()V", sig := { parameters := [], returnType := none }, accessFlags := 1, code := some k0c0 }
def k0m1 : Method := { name := "clone", desc := "()Ljava/lang/Object;", sig := { parameters := [], returnType := some (.object "java/lang/Object") }, accessFlags := 260, code := none }
/-- java/lang/Object -/
def k0 : Class := { plain "java/lang/Object" none with
  accessFlags := 33
  interfaces := #[]
  cf := some (fileOf pool0 8 #[] #[{ accessFlags := 1, nameIndex := 5, descriptorIndex := 6, attributes := #[] }, { accessFlags := 260, nameIndex := 96, descriptorIndex := 97, attributes := #[] }] 33 0 #[] #[])
  fields := #[]
  methods := #[k0m0, k0m1]
  instanceTypes := #[]
  staticTypes := #[]
  resolved := Array.replicate 124 none
  statics := none }

def pool1 : Array CpInfo := pool [(2, .class_ 4), (1, u "java/lang/Object"), (0, u "<init>"), (0, u "()V"), (0, .string 8), (0, u ""), (0, .class_ 10), (0, u "java/lang/String"), (0, .methodref 9 12), (0, .nameAndType 5 13), (0, u "([C)V"), (0, .methodref 15 16), (0, .class_ 17), (0, .nameAndType 18 19), (0, u "com/example/basehome/basehome/internal/VariableProblems"), (0, u "nameRefusal"), (0, u "(Ljava/lang/String;Ljava/lang/String;)Ljava/lang/IllegalArgumentException;"), (0, .methodref 21 22), (0, .class_ 23), (0, .nameAndType 24 25), (0, u "java/lang/IllegalArgumentException"), (0, u "getMessage"), (0, u "()Ljava/lang/String;"), (0, .methodref 9 27), (0, .nameAndType 28 29), (0, u "equals"), (0, u "(Ljava/lang/Object;)Z"), (0, .class_ 31), (0, u "com/example/basehome/basehome/internal/VariableProblemsNameRefusalPinLaw"), (2, u "law"), (0, u "(IIIII)Z")] 5

def k1m0 : Method := { name := "<init>", desc := "()V", sig := { parameters := [], returnType := none }, accessFlags := 2, code := none }
def k1c1 : Code := { maxStack := 4, maxLocals := 22, code := code, exceptionTable := #[], attributes := #[] }
def k1m1 : Method := { name := "law", desc := "(IIIII)Z", sig := { parameters := [.int, .int, .int, .int, .int], returnType := some .boolean }, accessFlags := 9, code := some k1c1 }
/-- com/example/basehome/basehome/internal/VariableProblemsNameRefusalPinLaw -/
def k1 : Class := { plain "com/example/basehome/basehome/internal/VariableProblemsNameRefusalPinLaw" (some 0) with
  accessFlags := 49
  interfaces := #[]
  cf := some (fileOf pool1 30 #[] #[{ accessFlags := 2, nameIndex := 5, descriptorIndex := 6, attributes := #[] }, { accessFlags := 9, nameIndex := 34, descriptorIndex := 35, attributes := #[] }] 49 2 #[] #[])
  fields := #[]
  methods := #[k1m0, k1m1]
  instanceTypes := #[]
  staticTypes := #[]
  resolved := Array.replicate 41 none
  statics := none }

def pool2 : Array CpInfo := pool [(1, .class_ 2), (0, u "java/io/Serializable"), (0, .class_ 4), (0, u "java/lang/Object")] 2

/-- java/io/Serializable -/
def k2 : Class := { plain "java/io/Serializable" (some 0) with
  accessFlags := 1537
  interfaces := #[]
  cf := some (fileOf pool2 1 #[] #[] 1537 3 #[] #[])
  fields := #[]
  methods := #[]
  instanceTypes := #[]
  staticTypes := #[]
  resolved := Array.replicate 7 none
  statics := none }

def pool3 : Array CpInfo := pool [(1, .class_ 2), (0, u "java/lang/Comparable"), (0, .class_ 4), (0, u "java/lang/Object")] 7

/-- java/lang/Comparable -/
def k3 : Class := { plain "java/lang/Comparable" (some 0) with
  accessFlags := 1537
  interfaces := #[]
  cf := some (fileOf pool3 1 #[] #[] 1537 3 #[] #[])
  fields := #[]
  methods := #[]
  instanceTypes := #[]
  staticTypes := #[]
  resolved := Array.replicate 12 none
  statics := none }

def pool4 : Array CpInfo := pool [(2, .class_ 4), (1, u "java/lang/CharSequence"), (42, .class_ 48), (0, u "java/lang/CharSequence$1CodePointIterator"), (10, .class_ 60), (0, u "java/lang/CharSequence$1CharIterator"), (5, .class_ 67), (0, u "java/lang/Object")] 63

/-- java/lang/CharSequence -/
def k4 : Class := { plain "java/lang/CharSequence" (some 0) with
  accessFlags := 1537
  interfaces := #[]
  cf := some (fileOf pool4 2 #[.nestMembers #[47, 59]] #[] 1537 66 #[] #[])
  fields := #[]
  methods := #[]
  instanceTypes := #[]
  staticTypes := #[]
  resolved := Array.replicate 131 none
  statics := none }

def pool5 : Array CpInfo := pool [(1, .class_ 2), (0, u "java/lang/constant/Constable"), (0, .class_ 4), (0, u "java/lang/Object")] 6

/-- java/lang/constant/Constable -/
def k5 : Class := { plain "java/lang/constant/Constable" (some 0) with
  accessFlags := 1537
  interfaces := #[]
  cf := some (fileOf pool5 1 #[] #[] 1537 3 #[] #[])
  fields := #[]
  methods := #[]
  instanceTypes := #[]
  staticTypes := #[]
  resolved := Array.replicate 11 none
  statics := none }

def pool6 : Array CpInfo := pool [(1, .class_ 2), (0, u "java/lang/constant/ConstantDesc"), (0, .class_ 4), (0, u "java/lang/Object")] 32

/-- java/lang/constant/ConstantDesc -/
def k6 : Class := { plain "java/lang/constant/ConstantDesc" (some 0) with
  accessFlags := 1537
  interfaces := #[]
  cf := some (fileOf pool6 1 #[] #[] 1537 3 #[] #[])
  fields := #[]
  methods := #[]
  instanceTypes := #[]
  staticTypes := #[]
  resolved := Array.replicate 37 none
  statics := none }

def pool7 : Array CpInfo := pool [(1, .methodref 2 3), (0, .class_ 4), (0, .nameAndType 5 6), (0, u "java/lang/Object"), (0, u "<init>"), (0, u "()V"), (2, .fieldref 10 11), (0, .class_ 12), (0, .nameAndType 13 14), (0, u "java/lang/String"), (0, u "value"), (0, u "[B"), (0, .fieldref 10 16), (0, .nameAndType 17 18), (0, u "coder"), (0, u "B"), (2, u "hash"), (0, u "I"), (2, u "hashIsZero"), (0, u "Z"), (0, .methodref 10 28), (0, .nameAndType 5 29), (0, u "([CIILjava/lang/Void;)V"), (8, .fieldref 10 39), (0, .nameAndType 40 26), (0, u "COMPACT_STRINGS"), (1, .class_ 44), (1, u "java/lang/StringUTF16"), (0, u "compress"), (1, .methodref 42 48), (0, .nameAndType 49 50), (0, u "coderFromArrayLen"), (0, u "([BI)B"), (3, .methodref 55 56), (0, .class_ 57), (0, .nameAndType 58 59), (0, u "java/util/Arrays"), (0, u "copyOfRange"), (0, u "([BII)[B"), (47, .class_ 109), (1, u "java/lang/StringLatin1"), (32, u "()Z"), (34, .methodref 42 178), (0, .nameAndType 45 179), (0, u "([CII)[B"), (13, .class_ 195), (1, u "java/lang/System"), (16, .methodref 193 213), (0, .nameAndType 214 215), (0, u "arraycopy"), (0, u "(Ljava/lang/Object;ILjava/lang/Object;II)V"), (118, u "()I"), (0, .methodref 10 336), (0, .nameAndType 17 337), (0, u "()B"), (2, u "()[B"), (148, .methodref 10 490), (0, .nameAndType 5 491), (0, u "(Ljava/lang/AbstractStringBuilder;Ljava/lang/Void;)V"), (1, .nameAndType 494 142), (0, u "isLatin1"), (11, .nameAndType 507 334), (0, u "length"), (24, u "getBytes"), (8, .methodref 107 542), (0, .nameAndType 543 544), (0, u "equals"), (0, u "([B[B)Z"), (4, .methodref 550 506), (0, .class_ 551), (0, u "java/lang/AbstractStringBuilder"), (0, .methodref 550 553), (0, .nameAndType 554 340), (0, u "getValue"), (18, u "(Ljava/lang/Object;)Z"), (1, .class_ 576), (0, u "java/lang/CharSequence"), (22, u "CASE_INSENSITIVE_ORDER"), (0, u "Ljava/util/Comparator;"), (220, u "([BIB)V"), (188, u "([C)V"), (36, .methodref 550 493), (53, u "serialPersistentFields"), (0, u "[Ljava/io/ObjectStreamField;"), (0, .class_ 1104), (0, u "java/lang/String$CaseInsensitiveComparator"), (1, .class_ 1107), (0, u "java/io/Serializable"), (0, .class_ 1109), (0, u "java/lang/Comparable"), (0, .class_ 1111), (0, u "java/lang/constant/Constable"), (0, .class_ 1113), (0, u "java/lang/constant/ConstantDesc"), (2, u "serialVersionUID"), (0, u "J"), (3, u "REPL"), (0, u "C"), (2, u "LATIN1"), (1, u "UTF16"), (105, u "(Ljava/lang/StringBuilder;)V")] 217

def k7m0 : Method := { name := "<init>", desc := "()V", sig := { parameters := [], returnType := none }, accessFlags := 1, code := none }
def k7c1 : Code := { maxStack := 5, maxLocals := 2, code := jdk_42_method_3_code, exceptionTable := #[], attributes := #[] }
def k7m1 : Method := { name := "<init>", desc := "([C)V", sig := { parameters := [(.array .char)], returnType := none }, accessFlags := 1, code := some k7c1 }
def k7c2 : Code := { maxStack := 3, maxLocals := 2, code := jdk_42_method_53_code, exceptionTable := #[], attributes := #[] }
def k7m2 : Method := { name := "<init>", desc := "(Ljava/lang/StringBuilder;)V", sig := { parameters := [(.object "java/lang/StringBuilder")], returnType := none }, accessFlags := 1, code := some k7c2 }
def k7c3 : Code := { maxStack := 2, maxLocals := 1, code := jdk_42_method_54_code, exceptionTable := #[], attributes := #[] }
def k7m3 : Method := { name := "length", desc := "()I", sig := { parameters := [], returnType := some .int }, accessFlags := 1, code := some k7c3 }
def k7c4 : Code := { maxStack := 2, maxLocals := 3, code := jdk_42_method_66_code, exceptionTable := #[], attributes := #[] }
def k7m4 : Method := { name := "equals", desc := "(Ljava/lang/Object;)Z", sig := { parameters := [(.object "java/lang/Object")], returnType := some .boolean }, accessFlags := 1, code := some k7c4 }
def k7c5 : Code := { maxStack := 5, maxLocals := 4, code := jdk_42_method_147_code, exceptionTable := #[], attributes := #[] }
def k7m5 : Method := { name := "getBytes", desc := "([BIB)V", sig := { parameters := [(.array .byte), .int, .byte], returnType := none }, accessFlags := 0, code := some k7c5 }
def k7c6 : Code := { maxStack := 4, maxLocals := 6, code := jdk_42_method_149_code, exceptionTable := #[], attributes := #[] }
def k7m6 : Method := { name := "<init>", desc := "([CIILjava/lang/Void;)V", sig := { parameters := [(.array .char), .int, .int, (.object "java/lang/Void")], returnType := none }, accessFlags := 2, code := some k7c6 }
def k7c7 : Code := { maxStack := 5, maxLocals := 5, code := jdk_42_method_150_code, exceptionTable := #[], attributes := #[] }
def k7m7 : Method := { name := "<init>", desc := "(Ljava/lang/AbstractStringBuilder;Ljava/lang/Void;)V", sig := { parameters := [(.object "java/lang/AbstractStringBuilder"), (.object "java/lang/Void")], returnType := none }, accessFlags := 0, code := some k7c7 }
def k7c8 : Code := { maxStack := 1, maxLocals := 1, code := jdk_42_method_152_code, exceptionTable := #[], attributes := #[] }
def k7m8 : Method := { name := "coder", desc := "()B", sig := { parameters := [], returnType := some .byte }, accessFlags := 0, code := some k7c8 }
/-- java/lang/String -/
def k7 : Class := { plain "java/lang/String" (some 0) with
  accessFlags := 49
  interfaces := #[2, 3, 4, 5, 6]
  cf := some (fileOf pool7 10 #[.nestMembers #[1103]] #[{ accessFlags := 1, nameIndex := 5, descriptorIndex := 6, attributes := #[] }, { accessFlags := 1, nameIndex := 5, descriptorIndex := 1010, attributes := #[] }, { accessFlags := 1, nameIndex := 5, descriptorIndex := 1233, attributes := #[] }, { accessFlags := 1, nameIndex := 507, descriptorIndex := 334, attributes := #[] }, { accessFlags := 1, nameIndex := 543, descriptorIndex := 573, attributes := #[] }, { accessFlags := 0, nameIndex := 532, descriptorIndex := 821, attributes := #[] }, { accessFlags := 2, nameIndex := 5, descriptorIndex := 29, attributes := #[] }, { accessFlags := 0, nameIndex := 5, descriptorIndex := 491, attributes := #[] }, { accessFlags := 0, nameIndex := 17, descriptorIndex := 337, attributes := #[] }] 49 2 #[1106, 1108, 575, 1110, 1112] #[{ accessFlags := 18, nameIndex := 13, descriptorIndex := 14, attributes := #[] }, { accessFlags := 18, nameIndex := 17, descriptorIndex := 18, attributes := #[] }, { accessFlags := 2, nameIndex := 21, descriptorIndex := 22, attributes := #[] }, { accessFlags := 2, nameIndex := 25, descriptorIndex := 26, attributes := #[] }, { accessFlags := 26, nameIndex := 1116, descriptorIndex := 1117, attributes := #[] }, { accessFlags := 24, nameIndex := 40, descriptorIndex := 26, attributes := #[] }, { accessFlags := 26, nameIndex := 1101, descriptorIndex := 1102, attributes := #[] }, { accessFlags := 26, nameIndex := 1121, descriptorIndex := 1122, attributes := #[] }, { accessFlags := 25, nameIndex := 599, descriptorIndex := 600, attributes := #[] }, { accessFlags := 24, nameIndex := 1125, descriptorIndex := 18, attributes := #[] }, { accessFlags := 24, nameIndex := 1127, descriptorIndex := 18, attributes := #[] }])
  fields := #[{ name := "value", type := (.array .byte), accessFlags := 18, slot := 0, constantValue := 0 }, { name := "coder", type := .byte, accessFlags := 18, slot := 1, constantValue := 0 }, { name := "hash", type := .int, accessFlags := 2, slot := 2, constantValue := 0 }, { name := "hashIsZero", type := .boolean, accessFlags := 2, slot := 3, constantValue := 0 }, { name := "serialVersionUID", type := .long, accessFlags := 26, slot := 0, constantValue := 0 }, { name := "COMPACT_STRINGS", type := .boolean, accessFlags := 24, slot := 1, constantValue := 0 }, { name := "serialPersistentFields", type := (.array (.object "java/io/ObjectStreamField")), accessFlags := 26, slot := 2, constantValue := 0 }, { name := "REPL", type := .char, accessFlags := 26, slot := 3, constantValue := 0 }, { name := "CASE_INSENSITIVE_ORDER", type := (.object "java/util/Comparator"), accessFlags := 25, slot := 4, constantValue := 0 }, { name := "LATIN1", type := .byte, accessFlags := 24, slot := 5, constantValue := 0 }, { name := "UTF16", type := .byte, accessFlags := 24, slot := 6, constantValue := 0 }]
  methods := #[k7m0, k7m1, k7m2, k7m3, k7m4, k7m5, k7m6, k7m7, k7m8]
  instanceTypes := #[(.array .byte), .byte, .int, .boolean]
  staticTypes := #[.long, .boolean, (.array (.object "java/io/ObjectStreamField")), .char, (.object "java/util/Comparator"), .byte, .byte]
  resolved := Array.replicate 1451 none
  statics := some 0 }

def pool8 : Array CpInfo := pool [(6, .class_ 8), (1, u "java/lang/Object"), (0, u "<init>"), (0, u "()V"), (1, .class_ 14), (1, u "java/lang/StringUTF16"), (31, u "$assertionsDisabled"), (0, u "Z"), (13, u "HI_BYTE_SHIFT"), (0, u "I"), (2, u "LO_BYTE_SHIFT"), (49, .methodref 12 116), (0, .nameAndType 117 118), (0, u "compress"), (0, u "([CI[BII)I"), (3, u "([CII)[B"), (138, u "coderFromArrayLen"), (0, u "([BI)B"), (106, .class_ 371), (1, u "java/lang/StringUTF16$LinesSpliterator"), (58, u "MAX_LENGTH"), (196, .class_ 628), (0, u "java/lang/StringUTF16$CodePointsSpliterator"), (0, .class_ 630), (0, u "java/lang/StringUTF16$CharsSpliterator")] 4

def k8m0 : Method := { name := "<init>", desc := "()V", sig := { parameters := [], returnType := none }, accessFlags := 0, code := none }
def k8c1 : Code := { maxStack := 2, maxLocals := 2, code := jdk_52_method_15_code, exceptionTable := #[], attributes := #[] }
def k8m1 : Method := { name := "coderFromArrayLen", desc := "([BI)B", sig := { parameters := [(.array .byte), .int], returnType := some .byte }, accessFlags := 8, code := some k8c1 }
def k8c2 : Code := { maxStack := 5, maxLocals := 6, code := jdk_52_method_16_code, exceptionTable := #[], attributes := #[] }
def k8m2 : Method := { name := "compress", desc := "([CII)[B", sig := { parameters := [(.array .char), .int, .int], returnType := some (.array .byte) }, accessFlags := 9, code := some k8c2 }
def k8c3 : Code := { maxStack := 3, maxLocals := 7, code := jdk_52_method_21_code, exceptionTable := #[], attributes := #[] }
def k8m3 : Method := { name := "compress", desc := "([CI[BII)I", sig := { parameters := [(.array .char), .int, (.array .byte), .int, .int], returnType := some .int }, accessFlags := 9, code := some k8c3 }
/-- java/lang/StringUTF16 -/
def k8 : Class := { plain "java/lang/StringUTF16" (some 0) with
  accessFlags := 48
  interfaces := #[]
  cf := some (fileOf pool8 12 #[.nestMembers #[627, 629, 369]] #[{ accessFlags := 0, nameIndex := 9, descriptorIndex := 10, attributes := #[] }, { accessFlags := 8, nameIndex := 261, descriptorIndex := 262, attributes := #[] }, { accessFlags := 9, nameIndex := 117, descriptorIndex := 122, attributes := #[] }, { accessFlags := 9, nameIndex := 117, descriptorIndex := 118, attributes := #[] }] 48 6 #[] #[{ accessFlags := 26, nameIndex := 61, descriptorIndex := 62, attributes := #[] }, { accessFlags := 26, nameIndex := 65, descriptorIndex := 62, attributes := #[] }, { accessFlags := 24, nameIndex := 430, descriptorIndex := 62, attributes := #[] }, { accessFlags := 4120, nameIndex := 46, descriptorIndex := 47, attributes := #[] }])
  fields := #[{ name := "HI_BYTE_SHIFT", type := .int, accessFlags := 26, slot := 0, constantValue := 0 }, { name := "LO_BYTE_SHIFT", type := .int, accessFlags := 26, slot := 1, constantValue := 0 }, { name := "MAX_LENGTH", type := .int, accessFlags := 24, slot := 2, constantValue := 0 }, { name := "$assertionsDisabled", type := .boolean, accessFlags := 4120, slot := 3, constantValue := 0 }]
  methods := #[k8m0, k8m1, k8m2, k8m3]
  instanceTypes := #[]
  staticTypes := #[.int, .int, .int, .boolean]
  resolved := Array.replicate 635 none
  statics := none }

def pool9 : Array CpInfo := pool [(2, .class_ 4), (0, .nameAndType 5 6), (0, u "java/lang/Object"), (0, u "<init>"), (0, u "()V"), (0, .class_ 8), (0, u "com/example/basehome/basehome/internal/VariableProblems"), (0, .class_ 10), (0, u "java/lang/StringBuilder"), (0, .methodref 9 3), (0, .methodref 9 13), (0, .nameAndType 14 15), (0, u "append"), (0, u "(Ljava/lang/String;)Ljava/lang/StringBuilder;"), (2, .methodref 9 19), (0, .nameAndType 20 21), (0, u "toString"), (0, u "()Ljava/lang/String;"), (28, .class_ 51), (0, u "java/lang/IllegalArgumentException"), (0, .string 53), (0, u "The name \""), (0, .string 55), (0, u "\" "), (0, .methodref 50 57), (0, .nameAndType 5 58), (0, u "(Ljava/lang/String;)V"), (86, u "KEPT"), (0, u "I"), (2, u "UNSET"), (1, u "NOT_ABSOLUTE"), (1, u "NO_PATH"), (1, u "UNREPRESENTABLE"), (1, u "REPEATED"), (1, u "USER_NAME"), (0, u "Ljava/lang/String;"), (2, u "USER_HOME"), (6, u "nameRefusal"), (0, u "(Ljava/lang/String;Ljava/lang/String;)Ljava/lang/IllegalArgumentException;")] 4

def k9m0 : Method := { name := "<init>", desc := "()V", sig := { parameters := [], returnType := none }, accessFlags := 2, code := none }
def k9c1 : Code := { maxStack := 4, maxLocals := 2, code := prog_11_method_7_code, exceptionTable := #[], attributes := #[] }
def k9m1 : Method := { name := "nameRefusal", desc := "(Ljava/lang/String;Ljava/lang/String;)Ljava/lang/IllegalArgumentException;", sig := { parameters := [(.object "java/lang/String"), (.object "java/lang/String")], returnType := some (.object "java/lang/IllegalArgumentException") }, accessFlags := 9, code := some k9c1 }
/-- com/example/basehome/basehome/internal/VariableProblems -/
def k9 : Class := { plain "com/example/basehome/basehome/internal/VariableProblems" (some 0) with
  accessFlags := 33
  interfaces := #[]
  cf := some (fileOf pool9 7 #[] #[{ accessFlags := 2, nameIndex := 5, descriptorIndex := 6, attributes := #[] }, { accessFlags := 9, nameIndex := 170, descriptorIndex := 171, attributes := #[] }] 33 2 #[] #[{ accessFlags := 25, nameIndex := 145, descriptorIndex := 146, attributes := #[] }, { accessFlags := 25, nameIndex := 149, descriptorIndex := 146, attributes := #[] }, { accessFlags := 25, nameIndex := 151, descriptorIndex := 146, attributes := #[] }, { accessFlags := 25, nameIndex := 153, descriptorIndex := 146, attributes := #[] }, { accessFlags := 25, nameIndex := 155, descriptorIndex := 146, attributes := #[] }, { accessFlags := 25, nameIndex := 157, descriptorIndex := 146, attributes := #[] }, { accessFlags := 25, nameIndex := 159, descriptorIndex := 160, attributes := #[] }, { accessFlags := 26, nameIndex := 163, descriptorIndex := 160, attributes := #[] }])
  fields := #[{ name := "KEPT", type := .int, accessFlags := 25, slot := 0, constantValue := 0 }, { name := "UNSET", type := .int, accessFlags := 25, slot := 1, constantValue := 0 }, { name := "NOT_ABSOLUTE", type := .int, accessFlags := 25, slot := 2, constantValue := 0 }, { name := "NO_PATH", type := .int, accessFlags := 25, slot := 3, constantValue := 0 }, { name := "UNREPRESENTABLE", type := .int, accessFlags := 25, slot := 4, constantValue := 0 }, { name := "REPEATED", type := .int, accessFlags := 25, slot := 5, constantValue := 0 }, { name := "USER_NAME", type := (.object "java/lang/String"), accessFlags := 25, slot := 6, constantValue := 0 }, { name := "USER_HOME", type := (.object "java/lang/String"), accessFlags := 26, slot := 7, constantValue := 0 }]
  methods := #[k9m0, k9m1]
  instanceTypes := #[]
  staticTypes := #[.int, .int, .int, .int, .int, .int, (.object "java/lang/String"), (.object "java/lang/String")]
  resolved := Array.replicate 176 none
  statics := none }

def pool10 : Array CpInfo := pool [(1, .methodref 2 3), (0, .class_ 4), (0, .nameAndType 5 6), (0, u "java/lang/Object"), (0, u "<init>"), (0, u "()V"), (0, .fieldref 8 9), (0, .class_ 10), (0, .nameAndType 11 12), (0, u "java/lang/Throwable"), (0, u "cause"), (0, u "Ljava/lang/Throwable;"), (0, .fieldref 8 14), (0, .nameAndType 15 16), (0, u "UNASSIGNED_STACK"), (0, u "[Ljava/lang/StackTraceElement;"), (0, .fieldref 8 18), (0, .nameAndType 19 16), (0, u "stackTrace"), (0, .fieldref 8 21), (0, .nameAndType 22 23), (0, u "SUPPRESSED_SENTINEL"), (0, u "Ljava/util/List;"), (0, .fieldref 8 25), (0, .nameAndType 26 23), (0, u "suppressedExceptions"), (0, .methodref 8 28), (0, .nameAndType 29 30), (0, u "fillInStackTrace"), (0, u "()Ljava/lang/Throwable;"), (0, .fieldref 8 32), (0, .nameAndType 33 34), (0, u "detailMessage"), (0, u "Ljava/lang/String;"), (3, u "()Ljava/lang/String;"), (2, u "getMessage"), (51, .class_ 94), (0, u "java/lang/Throwable$WrappedPrintStream"), (6, .class_ 103), (1, u "java/lang/Throwable$PrintStreamOrWriter"), (61, u "$assertionsDisabled"), (0, u "Z"), (26, .class_ 194), (0, u "java/lang/Throwable$WrappedPrintWriter"), (3, .fieldref 8 199), (0, .nameAndType 200 201), (0, u "backtrace"), (0, u "Ljava/lang/Object;"), (0, .methodref 8 203), (0, .nameAndType 29 204), (0, u "(I)Ljava/lang/Throwable;"), (6, u "depth"), (0, u "I"), (10, u "(Ljava/lang/String;)V"), (45, .class_ 271), (1, u "java/lang/Throwable$SentinelHolder"), (32, u "EMPTY_THROWABLE_ARRAY"), (0, u "[Ljava/lang/Throwable;"), (12, .class_ 319), (0, u "java/io/Serializable"), (0, u "serialVersionUID"), (0, u "J"), (5, u "NULL_CAUSE_MESSAGE"), (0, u "SELF_SUPPRESSION_MESSAGE"), (0, u "CAUSE_CAPTION"), (0, u "SUPPRESSED_CAPTION")] 73

def k10c0 : Code := { maxStack := 2, maxLocals := 1, code := jdk_78_method_1_code, exceptionTable := #[], attributes := #[] }
def k10m0 : Method := { name := "<init>", desc := "()V", sig := { parameters := [], returnType := none }, accessFlags := 1, code := some k10c0 }
def k10c1 : Code := { maxStack := 2, maxLocals := 2, code := jdk_78_method_2_code, exceptionTable := #[], attributes := #[] }
def k10m1 : Method := { name := "<init>", desc := "(Ljava/lang/String;)V", sig := { parameters := [(.object "java/lang/String")], returnType := none }, accessFlags := 1, code := some k10c1 }
def k10c2 : Code := { maxStack := 1, maxLocals := 1, code := jdk_78_method_6_code, exceptionTable := #[], attributes := #[] }
def k10m2 : Method := { name := "getMessage", desc := "()Ljava/lang/String;", sig := { parameters := [], returnType := some (.object "java/lang/String") }, accessFlags := 1, code := some k10c2 }
def k10c3 : Code := { maxStack := 2, maxLocals := 1, code := jdk_78_method_18_code, exceptionTable := #[], attributes := #[] }
def k10m3 : Method := { name := "fillInStackTrace", desc := "()Ljava/lang/Throwable;", sig := { parameters := [], returnType := some (.object "java/lang/Throwable") }, accessFlags := 33, code := some k10c3 }
def k10m4 : Method := { name := "fillInStackTrace", desc := "(I)Ljava/lang/Throwable;", sig := { parameters := [.int], returnType := some (.object "java/lang/Throwable") }, accessFlags := 258, code := none }
/-- java/lang/Throwable -/
def k10 : Class := { plain "java/lang/Throwable" (some 0) with
  accessFlags := 33
  interfaces := #[2]
  cf := some (fileOf pool10 8 #[.nestMembers #[193, 93, 101, 269]] #[{ accessFlags := 1, nameIndex := 5, descriptorIndex := 6, attributes := #[] }, { accessFlags := 1, nameIndex := 5, descriptorIndex := 223, attributes := #[] }, { accessFlags := 1, nameIndex := 41, descriptorIndex := 38, attributes := #[] }, { accessFlags := 33, nameIndex := 29, descriptorIndex := 30, attributes := #[] }, { accessFlags := 258, nameIndex := 29, descriptorIndex := 204, attributes := #[] }] 33 2 #[318] #[{ accessFlags := 26, nameIndex := 320, descriptorIndex := 321, attributes := #[] }, { accessFlags := 130, nameIndex := 200, descriptorIndex := 201, attributes := #[] }, { accessFlags := 2, nameIndex := 33, descriptorIndex := 34, attributes := #[] }, { accessFlags := 26, nameIndex := 15, descriptorIndex := 16, attributes := #[] }, { accessFlags := 2, nameIndex := 11, descriptorIndex := 12, attributes := #[] }, { accessFlags := 2, nameIndex := 19, descriptorIndex := 16, attributes := #[] }, { accessFlags := 130, nameIndex := 211, descriptorIndex := 212, attributes := #[] }, { accessFlags := 26, nameIndex := 22, descriptorIndex := 23, attributes := #[] }, { accessFlags := 2, nameIndex := 26, descriptorIndex := 23, attributes := #[] }, { accessFlags := 26, nameIndex := 327, descriptorIndex := 34, attributes := #[] }, { accessFlags := 26, nameIndex := 328, descriptorIndex := 34, attributes := #[] }, { accessFlags := 26, nameIndex := 329, descriptorIndex := 34, attributes := #[] }, { accessFlags := 26, nameIndex := 330, descriptorIndex := 34, attributes := #[] }, { accessFlags := 26, nameIndex := 304, descriptorIndex := 305, attributes := #[] }, { accessFlags := 4120, nameIndex := 165, descriptorIndex := 166, attributes := #[] }])
  fields := #[{ name := "serialVersionUID", type := .long, accessFlags := 26, slot := 0, constantValue := 0 }, { name := "backtrace", type := (.object "java/lang/Object"), accessFlags := 130, slot := 0, constantValue := 0 }, { name := "detailMessage", type := (.object "java/lang/String"), accessFlags := 2, slot := 1, constantValue := 0 }, { name := "UNASSIGNED_STACK", type := (.array (.object "java/lang/StackTraceElement")), accessFlags := 26, slot := 1, constantValue := 0 }, { name := "cause", type := (.object "java/lang/Throwable"), accessFlags := 2, slot := 2, constantValue := 0 }, { name := "stackTrace", type := (.array (.object "java/lang/StackTraceElement")), accessFlags := 2, slot := 3, constantValue := 0 }, { name := "depth", type := .int, accessFlags := 130, slot := 4, constantValue := 0 }, { name := "SUPPRESSED_SENTINEL", type := (.object "java/util/List"), accessFlags := 26, slot := 2, constantValue := 0 }, { name := "suppressedExceptions", type := (.object "java/util/List"), accessFlags := 2, slot := 5, constantValue := 0 }, { name := "NULL_CAUSE_MESSAGE", type := (.object "java/lang/String"), accessFlags := 26, slot := 3, constantValue := 0 }, { name := "SELF_SUPPRESSION_MESSAGE", type := (.object "java/lang/String"), accessFlags := 26, slot := 4, constantValue := 0 }, { name := "CAUSE_CAPTION", type := (.object "java/lang/String"), accessFlags := 26, slot := 5, constantValue := 0 }, { name := "SUPPRESSED_CAPTION", type := (.object "java/lang/String"), accessFlags := 26, slot := 6, constantValue := 0 }, { name := "EMPTY_THROWABLE_ARRAY", type := (.array (.object "java/lang/Throwable")), accessFlags := 26, slot := 7, constantValue := 0 }, { name := "$assertionsDisabled", type := .boolean, accessFlags := 4120, slot := 8, constantValue := 0 }]
  methods := #[k10m0, k10m1, k10m2, k10m3, k10m4]
  instanceTypes := #[(.object "java/lang/Object"), (.object "java/lang/String"), (.object "java/lang/Throwable"), (.array (.object "java/lang/StackTraceElement")), .int, (.object "java/util/List")]
  staticTypes := #[.long, (.array (.object "java/lang/StackTraceElement")), (.object "java/util/List"), (.object "java/lang/String"), (.object "java/lang/String"), (.object "java/lang/String"), (.object "java/lang/String"), (.array (.object "java/lang/Throwable")), .boolean]
  resolved := Array.replicate 404 none
  statics := some 1 }

def pool11 : Array CpInfo := pool [(2, .class_ 4), (1, u "java/lang/Throwable"), (0, u "<init>"), (0, u "()V"), (0, .methodref 2 8), (0, .nameAndType 5 9), (0, u "(Ljava/lang/String;)V"), (9, .class_ 20), (0, u "java/lang/Exception"), (0, u "serialVersionUID"), (0, u "J")] 17

def k11m0 : Method := { name := "<init>", desc := "()V", sig := { parameters := [], returnType := none }, accessFlags := 1, code := none }
def k11c1 : Code := { maxStack := 2, maxLocals := 2, code := jdk_59_method_2_code, exceptionTable := #[], attributes := #[] }
def k11m1 : Method := { name := "<init>", desc := "(Ljava/lang/String;)V", sig := { parameters := [(.object "java/lang/String")], returnType := none }, accessFlags := 1, code := some k11c1 }
/-- java/lang/Exception -/
def k11 : Class := { plain "java/lang/Exception" (some 10) with
  accessFlags := 33
  interfaces := #[]
  cf := some (fileOf pool11 19 #[] #[{ accessFlags := 1, nameIndex := 5, descriptorIndex := 6, attributes := #[] }, { accessFlags := 1, nameIndex := 5, descriptorIndex := 9, attributes := #[] }] 33 2 #[] #[{ accessFlags := 24, nameIndex := 21, descriptorIndex := 22, attributes := #[] }])
  fields := #[{ name := "serialVersionUID", type := .long, accessFlags := 24, slot := 0, constantValue := 0 }]
  methods := #[k11m0, k11m1]
  instanceTypes := #[(.object "java/lang/Object"), (.object "java/lang/String"), (.object "java/lang/Throwable"), (.array (.object "java/lang/StackTraceElement")), .int, (.object "java/util/List")]
  staticTypes := #[.long]
  resolved := Array.replicate 40 none
  statics := none }

def pool12 : Array CpInfo := pool [(2, .class_ 4), (1, u "java/lang/Exception"), (0, u "<init>"), (0, u "()V"), (0, .methodref 2 8), (0, .nameAndType 5 9), (0, u "(Ljava/lang/String;)V"), (9, .class_ 20), (0, u "java/lang/RuntimeException"), (0, u "serialVersionUID"), (0, u "J")] 17

def k12m0 : Method := { name := "<init>", desc := "()V", sig := { parameters := [], returnType := none }, accessFlags := 1, code := none }
def k12c1 : Code := { maxStack := 2, maxLocals := 2, code := jdk_58_method_2_code, exceptionTable := #[], attributes := #[] }
def k12m1 : Method := { name := "<init>", desc := "(Ljava/lang/String;)V", sig := { parameters := [(.object "java/lang/String")], returnType := none }, accessFlags := 1, code := some k12c1 }
/-- java/lang/RuntimeException -/
def k12 : Class := { plain "java/lang/RuntimeException" (some 11) with
  accessFlags := 33
  interfaces := #[]
  cf := some (fileOf pool12 19 #[] #[{ accessFlags := 1, nameIndex := 5, descriptorIndex := 6, attributes := #[] }, { accessFlags := 1, nameIndex := 5, descriptorIndex := 9, attributes := #[] }] 33 2 #[] #[{ accessFlags := 24, nameIndex := 21, descriptorIndex := 22, attributes := #[] }])
  fields := #[{ name := "serialVersionUID", type := .long, accessFlags := 24, slot := 0, constantValue := 0 }]
  methods := #[k12m0, k12m1]
  instanceTypes := #[(.object "java/lang/Object"), (.object "java/lang/String"), (.object "java/lang/Throwable"), (.array (.object "java/lang/StackTraceElement")), .int, (.object "java/util/List")]
  staticTypes := #[.long]
  resolved := Array.replicate 40 none
  statics := none }

def pool13 : Array CpInfo := pool [(2, .class_ 4), (1, u "java/lang/RuntimeException"), (0, u "<init>"), (0, u "()V"), (0, .methodref 2 8), (0, .nameAndType 5 9), (0, u "(Ljava/lang/String;)V"), (6, .class_ 17), (0, u "java/lang/IllegalArgumentException"), (0, u "serialVersionUID"), (0, u "J")] 15

def k13m0 : Method := { name := "<init>", desc := "()V", sig := { parameters := [], returnType := none }, accessFlags := 1, code := none }
def k13c1 : Code := { maxStack := 2, maxLocals := 2, code := jdk_57_method_2_code, exceptionTable := #[], attributes := #[] }
def k13m1 : Method := { name := "<init>", desc := "(Ljava/lang/String;)V", sig := { parameters := [(.object "java/lang/String")], returnType := none }, accessFlags := 1, code := some k13c1 }
/-- java/lang/IllegalArgumentException -/
def k13 : Class := { plain "java/lang/IllegalArgumentException" (some 12) with
  accessFlags := 33
  interfaces := #[]
  cf := some (fileOf pool13 16 #[] #[{ accessFlags := 1, nameIndex := 5, descriptorIndex := 6, attributes := #[] }, { accessFlags := 1, nameIndex := 5, descriptorIndex := 9, attributes := #[] }] 33 2 #[] #[{ accessFlags := 26, nameIndex := 18, descriptorIndex := 19, attributes := #[] }])
  fields := #[{ name := "serialVersionUID", type := .long, accessFlags := 26, slot := 0, constantValue := 0 }]
  methods := #[k13m0, k13m1]
  instanceTypes := #[(.object "java/lang/Object"), (.object "java/lang/String"), (.object "java/lang/Throwable"), (.array (.object "java/lang/StackTraceElement")), .int, (.object "java/util/List")]
  staticTypes := #[.long]
  resolved := Array.replicate 35 none
  statics := none }

def pool14 : Array CpInfo := pool [(1, .class_ 2), (0, u "java/lang/Appendable"), (0, .class_ 4), (0, u "java/lang/Object")] 9

/-- java/lang/Appendable -/
def k14 : Class := { plain "java/lang/Appendable" (some 0) with
  accessFlags := 1537
  interfaces := #[]
  cf := some (fileOf pool14 1 #[] #[] 1537 3 #[] #[])
  fields := #[]
  methods := #[]
  instanceTypes := #[]
  staticTypes := #[]
  resolved := Array.replicate 14 none
  statics := none }

def pool15 : Array CpInfo := pool [(1, .class_ 2), (0, u "java/lang/String"), (0, .methodref 4 5), (0, .class_ 6), (0, .nameAndType 7 8), (0, u "java/lang/Object"), (0, u "<init>"), (0, u "()V"), (1, .class_ 12), (1, u "java/lang/AbstractStringBuilder"), (0, u "EMPTYVALUE"), (0, u "[B"), (0, .fieldref 10 16), (0, .nameAndType 17 14), (0, u "value"), (0, .fieldref 1 19), (0, .nameAndType 20 21), (0, u "COMPACT_STRINGS"), (0, u "Z"), (0, .fieldref 10 23), (0, .nameAndType 24 25), (0, u "coder"), (0, u "B"), (6, .methodref 1 33), (0, .nameAndType 34 35), (0, u "length"), (0, u "()I"), (4, .methodref 1 41), (0, .nameAndType 24 42), (0, u "()B"), (2, u "append"), (0, u "(Ljava/lang/String;)Ljava/lang/AbstractStringBuilder;"), (1, .class_ 49), (0, u "java/lang/CharSequence"), (19, u "(Ljava/lang/String;)V"), (5, u "maybeLatin1"), (3, .fieldref 10 80), (0, .nameAndType 81 82), (0, u "count"), (0, u "I"), (2, u "isLatin1"), (0, u "()Z"), (13, .methodref 10 101), (0, .nameAndType 102 103), (0, u "ensureCapacityInternal"), (0, u "(I)V"), (104, .methodref 10 209), (0, .nameAndType 210 211), (0, u "putStringAt"), (0, u "(ILjava/lang/String;)V"), (5, u "inflateIfNeededFor"), (2, .nameAndType 221 222), (0, u "getBytes"), (0, u "([BIB)V"), (174, .methodref 10 398), (0, .nameAndType 217 69), (0, .methodref 1 220), (3, u "()[B"), (40, .class_ 445), (0, u "java/lang/Appendable"), (106, u "getValue")] 56

def k15m0 : Method := { name := "<init>", desc := "()V", sig := { parameters := [], returnType := none }, accessFlags := 0, code := none }
def k15c1 : Code := { maxStack := 2, maxLocals := 2, code := jdk_68_method_2_code, exceptionTable := #[], attributes := #[] }
def k15m1 : Method := { name := "<init>", desc := "(I)V", sig := { parameters := [.int], returnType := none }, accessFlags := 0, code := some k15c1 }
def k15c2 : Code := { maxStack := 1, maxLocals := 1, code := jdk_68_method_6_code, exceptionTable := #[], attributes := #[] }
def k15m2 : Method := { name := "length", desc := "()I", sig := { parameters := [], returnType := some .int }, accessFlags := 1, code := some k15c2 }
def k15c3 : Code := { maxStack := 4, maxLocals := 3, code := jdk_68_method_9_code, exceptionTable := #[], attributes := #[] }
def k15m3 : Method := { name := "ensureCapacityInternal", desc := "(I)V", sig := { parameters := [.int], returnType := none }, accessFlags := 2, code := some k15c3 }
def k15c4 : Code := { maxStack := 3, maxLocals := 3, code := jdk_68_method_22_code, exceptionTable := #[], attributes := #[] }
def k15m4 : Method := { name := "append", desc := "(Ljava/lang/String;)Ljava/lang/AbstractStringBuilder;", sig := { parameters := [(.object "java/lang/String")], returnType := some (.object "java/lang/AbstractStringBuilder") }, accessFlags := 1, code := some k15c4 }
def k15c5 : Code := { maxStack := 1, maxLocals := 1, code := jdk_68_method_64_code, exceptionTable := #[], attributes := #[] }
def k15m5 : Method := { name := "getValue", desc := "()[B", sig := { parameters := [], returnType := some (.array .byte) }, accessFlags := 16, code := some k15c5 }
def k15c6 : Code := { maxStack := 1, maxLocals := 1, code := jdk_68_method_68_code, exceptionTable := #[], attributes := #[] }
def k15m6 : Method := { name := "isLatin1", desc := "()Z", sig := { parameters := [], returnType := some .boolean }, accessFlags := 16, code := some k15c6 }
def k15c7 : Code := { maxStack := 2, maxLocals := 2, code := jdk_68_method_71_code, exceptionTable := #[], attributes := #[] }
def k15m7 : Method := { name := "inflateIfNeededFor", desc := "(Ljava/lang/String;)V", sig := { parameters := [(.object "java/lang/String")], returnType := none }, accessFlags := 2, code := some k15c7 }
def k15c8 : Code := { maxStack := 4, maxLocals := 3, code := jdk_68_method_73_code, exceptionTable := #[], attributes := #[] }
def k15m8 : Method := { name := "putStringAt", desc := "(ILjava/lang/String;)V", sig := { parameters := [.int, (.object "java/lang/String")], returnType := none }, accessFlags := 2, code := some k15c8 }
/-- java/lang/AbstractStringBuilder -/
def k15 : Class := { plain "java/lang/AbstractStringBuilder" (some 0) with
  accessFlags := 1056
  interfaces := #[14, 4]
  cf := some (fileOf pool15 10 #[] #[{ accessFlags := 0, nameIndex := 7, descriptorIndex := 8, attributes := #[] }, { accessFlags := 0, nameIndex := 7, descriptorIndex := 103, attributes := #[] }, { accessFlags := 1, nameIndex := 34, descriptorIndex := 35, attributes := #[] }, { accessFlags := 2, nameIndex := 102, descriptorIndex := 103, attributes := #[] }, { accessFlags := 1, nameIndex := 45, descriptorIndex := 46, attributes := #[] }, { accessFlags := 16, nameIndex := 552, descriptorIndex := 403, attributes := #[] }, { accessFlags := 16, nameIndex := 85, descriptorIndex := 86, attributes := #[] }, { accessFlags := 2, nameIndex := 217, descriptorIndex := 69, attributes := #[] }, { accessFlags := 2, nameIndex := 210, descriptorIndex := 211, attributes := #[] }] 1056 4 #[444, 48] #[{ accessFlags := 0, nameIndex := 17, descriptorIndex := 14, attributes := #[] }, { accessFlags := 0, nameIndex := 24, descriptorIndex := 25, attributes := #[] }, { accessFlags := 0, nameIndex := 75, descriptorIndex := 21, attributes := #[] }, { accessFlags := 0, nameIndex := 81, descriptorIndex := 82, attributes := #[] }, { accessFlags := 26, nameIndex := 13, descriptorIndex := 14, attributes := #[] }])
  fields := #[{ name := "value", type := (.array .byte), accessFlags := 0, slot := 0, constantValue := 0 }, { name := "coder", type := .byte, accessFlags := 0, slot := 1, constantValue := 0 }, { name := "maybeLatin1", type := .boolean, accessFlags := 0, slot := 2, constantValue := 0 }, { name := "count", type := .int, accessFlags := 0, slot := 3, constantValue := 0 }, { name := "EMPTYVALUE", type := (.array .byte), accessFlags := 26, slot := 0, constantValue := 0 }]
  methods := #[k15m0, k15m1, k15m2, k15m3, k15m4, k15m5, k15m6, k15m7, k15m8]
  instanceTypes := #[(.array .byte), .byte, .boolean, .int]
  staticTypes := #[(.array .byte)]
  resolved := Array.replicate 609 none
  statics := none }

def pool16 : Array CpInfo := pool [(1, .methodref 2 3), (0, .class_ 4), (0, .nameAndType 5 6), (0, u "java/lang/AbstractStringBuilder"), (0, u "<init>"), (0, u "(I)V"), (11, .class_ 20), (1, u "java/lang/String"), (3, .class_ 26), (1, u "java/lang/StringBuilder"), (0, u "append"), (0, u "(Ljava/lang/String;)Ljava/lang/StringBuilder;"), (0, .methodref 2 30), (0, .nameAndType 27 31), (0, u "(Ljava/lang/String;)Ljava/lang/AbstractStringBuilder;"), (105, .methodref 18 138), (0, .nameAndType 5 139), (0, u "(Ljava/lang/StringBuilder;)V"), (5, u "()V"), (10, u "()I"), (186, .methodref 2 344), (0, .nameAndType 345 156), (0, u "length"), (3, .class_ 350), (0, u "java/lang/Appendable"), (0, .class_ 352), (0, u "java/io/Serializable"), (0, .class_ 354), (0, u "java/lang/Comparable"), (0, .class_ 356), (0, u "java/lang/CharSequence"), (0, u "serialVersionUID"), (0, u "J"), (40, u "toString"), (0, u "()Ljava/lang/String;")] 21

def k16c0 : Code := { maxStack := 2, maxLocals := 1, code := jdk_67_method_1_code, exceptionTable := #[], attributes := #[] }
def k16m0 : Method := { name := "<init>", desc := "()V", sig := { parameters := [], returnType := none }, accessFlags := 1, code := some k16c0 }
def k16c1 : Code := { maxStack := 2, maxLocals := 2, code := jdk_67_method_7_code, exceptionTable := #[], attributes := #[] }
def k16m1 : Method := { name := "append", desc := "(Ljava/lang/String;)Ljava/lang/StringBuilder;", sig := { parameters := [(.object "java/lang/String")], returnType := some (.object "java/lang/StringBuilder") }, accessFlags := 1, code := some k16c1 }
def k16c2 : Code := { maxStack := 3, maxLocals := 1, code := jdk_67_method_42_code, exceptionTable := #[], attributes := #[] }
def k16m2 : Method := { name := "toString", desc := "()Ljava/lang/String;", sig := { parameters := [], returnType := some (.object "java/lang/String") }, accessFlags := 1, code := some k16c2 }
def k16c3 : Code := { maxStack := 1, maxLocals := 1, code := jdk_67_method_93_code, exceptionTable := #[], attributes := #[] }
def k16m3 : Method := { name := "length", desc := "()I", sig := { parameters := [], returnType := some .int }, accessFlags := 4161, code := some k16c3 }
/-- java/lang/StringBuilder -/
def k16 : Class := { plain "java/lang/StringBuilder" (some 15) with
  accessFlags := 49
  interfaces := #[14, 2, 3, 4]
  cf := some (fileOf pool16 24 #[] #[{ accessFlags := 1, nameIndex := 5, descriptorIndex := 145, attributes := #[] }, { accessFlags := 1, nameIndex := 27, descriptorIndex := 28, attributes := #[] }, { accessFlags := 1, nameIndex := 399, descriptorIndex := 400, attributes := #[] }, { accessFlags := 4161, nameIndex := 345, descriptorIndex := 156, attributes := #[] }] 49 2 #[349, 351, 353, 355] #[{ accessFlags := 24, nameIndex := 357, descriptorIndex := 358, attributes := #[] }])
  fields := #[{ name := "serialVersionUID", type := .long, accessFlags := 24, slot := 0, constantValue := 0 }]
  methods := #[k16m0, k16m1, k16m2, k16m3]
  instanceTypes := #[(.array .byte), .byte, .boolean, .int]
  staticTypes := #[.long]
  resolved := Array.replicate 422 none
  statics := none }

def pool17 : Array CpInfo := pool [(2, .class_ 4), (1, u "java/lang/Object"), (0, u "<init>"), (0, u "()V"), (1, .class_ 10), (1, u "java/lang/System"), (0, u "allowSecurityManager"), (0, u "I"), (16, u "cons"), (0, u "Ljava/io/Console;"), (77, .class_ 110), (1, u "java/lang/System$CallersHolder"), (43, u "initialErrStream"), (0, u "Ljava/io/PrintStream;"), (19, u "security"), (0, u "Ljava/lang/SecurityManager;"), (31, .class_ 209), (0, u "java/lang/System$1"), (7, u "props"), (0, u "Ljava/util/Properties;"), (2, u "lineSeparator"), (0, u "Ljava/lang/String;"), (96, .class_ 321), (1, u "java/lang/System$LoggerFinder"), (5, .class_ 328), (0, u "java/lang/System$Logger"), (67, u "err"), (2, u "out"), (91, u "notSupportedJnuEncoding"), (15, u "in"), (17, u "initialIn"), (0, u "Ljava/io/InputStream;"), (35, u "bootLayer"), (0, u "Ljava/lang/ModuleLayer;"), (99, .class_ 664), (0, u "java/lang/System$2"), (9, u "NEVER"), (2, u "MAYBE"), (49, u "arraycopy"), (0, u "(Ljava/lang/Object;ILjava/lang/Object;II)V"), (72, .class_ 802), (0, u "java/lang/System$Logger$Level")] 31

def k17m0 : Method := { name := "<init>", desc := "()V", sig := { parameters := [], returnType := none }, accessFlags := 2, code := none }
def k17m1 : Method := { name := "arraycopy", desc := "(Ljava/lang/Object;ILjava/lang/Object;II)V", sig := { parameters := [(.object "java/lang/Object"), .int, (.object "java/lang/Object"), .int, .int], returnType := none }, accessFlags := 265, code := none }
/-- java/lang/System -/
def k17 : Class := { plain "java/lang/System" (some 0) with
  accessFlags := 49
  interfaces := #[]
  cf := some (fileOf pool17 8 #[.nestMembers #[319, 327, 801, 108, 663, 208]] #[{ accessFlags := 2, nameIndex := 5, descriptorIndex := 6, attributes := #[] }, { accessFlags := 265, nameIndex := 727, descriptorIndex := 728, attributes := #[] }] 49 2 #[] #[{ accessFlags := 25, nameIndex := 507, descriptorIndex := 526, attributes := #[] }, { accessFlags := 25, nameIndex := 399, descriptorIndex := 155, attributes := #[] }, { accessFlags := 25, nameIndex := 396, descriptorIndex := 155, attributes := #[] }, { accessFlags := 10, nameIndex := 525, descriptorIndex := 526, attributes := #[] }, { accessFlags := 26, nameIndex := 674, descriptorIndex := 12, attributes := #[] }, { accessFlags := 26, nameIndex := 677, descriptorIndex := 12, attributes := #[] }, { accessFlags := 10, nameIndex := 11, descriptorIndex := 12, attributes := #[] }, { accessFlags := 74, nameIndex := 175, descriptorIndex := 176, attributes := #[] }, { accessFlags := 10, nameIndex := 491, descriptorIndex := 222, attributes := #[] }, { accessFlags := 74, nameIndex := 29, descriptorIndex := 30, attributes := #[] }, { accessFlags := 74, nameIndex := 154, descriptorIndex := 155, attributes := #[] }, { accessFlags := 10, nameIndex := 217, descriptorIndex := 218, attributes := #[] }, { accessFlags := 10, nameIndex := 221, descriptorIndex := 222, attributes := #[] }, { accessFlags := 8, nameIndex := 562, descriptorIndex := 563, attributes := #[] }])
  fields := #[{ name := "in", type := (.object "java/io/InputStream"), accessFlags := 25, slot := 0, constantValue := 0 }, { name := "out", type := (.object "java/io/PrintStream"), accessFlags := 25, slot := 1, constantValue := 0 }, { name := "err", type := (.object "java/io/PrintStream"), accessFlags := 25, slot := 2, constantValue := 0 }, { name := "initialIn", type := (.object "java/io/InputStream"), accessFlags := 10, slot := 3, constantValue := 0 }, { name := "NEVER", type := .int, accessFlags := 26, slot := 4, constantValue := 0 }, { name := "MAYBE", type := .int, accessFlags := 26, slot := 5, constantValue := 0 }, { name := "allowSecurityManager", type := .int, accessFlags := 10, slot := 6, constantValue := 0 }, { name := "security", type := (.object "java/lang/SecurityManager"), accessFlags := 74, slot := 7, constantValue := 0 }, { name := "notSupportedJnuEncoding", type := (.object "java/lang/String"), accessFlags := 10, slot := 8, constantValue := 0 }, { name := "cons", type := (.object "java/io/Console"), accessFlags := 74, slot := 9, constantValue := 0 }, { name := "initialErrStream", type := (.object "java/io/PrintStream"), accessFlags := 74, slot := 10, constantValue := 0 }, { name := "props", type := (.object "java/util/Properties"), accessFlags := 10, slot := 11, constantValue := 0 }, { name := "lineSeparator", type := (.object "java/lang/String"), accessFlags := 10, slot := 12, constantValue := 0 }, { name := "bootLayer", type := (.object "java/lang/ModuleLayer"), accessFlags := 8, slot := 13, constantValue := 0 }]
  methods := #[k17m0, k17m1]
  instanceTypes := #[]
  staticTypes := #[(.object "java/io/InputStream"), (.object "java/io/PrintStream"), (.object "java/io/PrintStream"), (.object "java/io/InputStream"), .int, .int, .int, (.object "java/lang/SecurityManager"), (.object "java/lang/String"), (.object "java/io/Console"), (.object "java/io/PrintStream"), (.object "java/util/Properties"), (.object "java/lang/String"), (.object "java/lang/ModuleLayer")]
  resolved := Array.replicate 834 none
  statics := none }

def pool18 : Array CpInfo := pool [(2, .class_ 4), (1, u "java/lang/Object"), (0, u "<init>"), (0, u "()V"), (7, .class_ 16), (1, u "java/util/Arrays"), (57, .class_ 76), (1, u "java/util/Arrays$NaturalOrder"), (32, u "()Ljava/lang/Object;"), (3, .class_ 115), (1, u "java/util/Arrays$LegacyMergeSort"), (1, u "Z"), (10, .nameAndType 129 109), (0, u "clone"), (9, u "copyOfRange"), (10, .methodref 151 152), (0, .class_ 153), (0, .nameAndType 154 155), (0, u "java/lang/System"), (0, u "arraycopy"), (0, u "(Ljava/lang/Object;ILjava/lang/Object;II)V"), (148, .methodref 305 306), (0, .class_ 307), (0, .nameAndType 308 309), (0, u "java/lang/Math"), (0, u "min"), (0, u "(II)I"), (0, .methodref 311 128), (0, .class_ 312), (0, u "[B"), (26, .methodref 14 340), (0, .nameAndType 341 342), (0, u "copyOfRangeByte"), (0, u "([BII)[B"), (0, .methodref 14 344), (0, .nameAndType 345 346), (0, u "checkLength"), (0, u "(II)V"), (28, .class_ 376), (0, u "java/util/Arrays$ArrayList"), (68, u "$assertionsDisabled"), (269, u "MIN_ARRAY_SORT_GRAN"), (0, u "I"), (2, u "INSERTIONSORT_THRESHOLD"), (255, .class_ 976), (0, u "java/util/Arrays$ArrayItr")] 52

def k18m0 : Method := { name := "<init>", desc := "()V", sig := { parameters := [], returnType := none }, accessFlags := 2, code := none }
def k18c1 : Code := { maxStack := 4, maxLocals := 2, code := jdk_65_method_131_code, exceptionTable := #[], attributes := #[] }
def k18m1 : Method := { name := "checkLength", desc := "(II)V", sig := { parameters := [.int, .int], returnType := none }, accessFlags := 10, code := some k18c1 }
def k18c2 : Code := { maxStack := 3, maxLocals := 3, code := jdk_65_method_132_code, exceptionTable := #[], attributes := #[] }
def k18m2 : Method := { name := "copyOfRange", desc := "([BII)[B", sig := { parameters := [(.array .byte), .int, .int], returnType := some (.array .byte) }, accessFlags := 9, code := some k18c2 }
def k18c3 : Code := { maxStack := 6, maxLocals := 5, code := jdk_65_method_133_code, exceptionTable := #[], attributes := #[] }
def k18m3 : Method := { name := "copyOfRangeByte", desc := "([BII)[B", sig := { parameters := [(.array .byte), .int, .int], returnType := some (.array .byte) }, accessFlags := 10, code := some k18c3 }
/-- java/util/Arrays -/
def k18 : Class := { plain "java/util/Arrays" (some 0) with
  accessFlags := 49
  interfaces := #[]
  cf := some (fileOf pool18 14 #[.nestMembers #[975, 375, 113, 74]] #[{ accessFlags := 2, nameIndex := 5, descriptorIndex := 6, attributes := #[] }, { accessFlags := 10, nameIndex := 345, descriptorIndex := 346, attributes := #[] }, { accessFlags := 9, nameIndex := 139, descriptorIndex := 342, attributes := #[] }, { accessFlags := 10, nameIndex := 341, descriptorIndex := 342, attributes := #[] }] 49 2 #[] #[{ accessFlags := 26, nameIndex := 715, descriptorIndex := 716, attributes := #[] }, { accessFlags := 26, nameIndex := 719, descriptorIndex := 716, attributes := #[] }, { accessFlags := 4120, nameIndex := 445, descriptorIndex := 117, attributes := #[] }])
  fields := #[{ name := "MIN_ARRAY_SORT_GRAN", type := .int, accessFlags := 26, slot := 0, constantValue := 0 }, { name := "INSERTIONSORT_THRESHOLD", type := .int, accessFlags := 26, slot := 1, constantValue := 0 }, { name := "$assertionsDisabled", type := .boolean, accessFlags := 4120, slot := 2, constantValue := 0 }]
  methods := #[k18m0, k18m1, k18m2, k18m3]
  instanceTypes := #[]
  staticTypes := #[.int, .int, .boolean]
  resolved := Array.replicate 1029 none
  statics := none }

def pool19 : Array CpInfo := pool [(1, .class_ 2), (0, u "java/lang/Cloneable"), (0, .class_ 4), (0, u "java/lang/Object")] 2

/-- java/lang/Cloneable -/
def k19 : Class := { plain "java/lang/Cloneable" (some 0) with
  accessFlags := 1537
  interfaces := #[]
  cf := some (fileOf pool19 1 #[] #[] 1537 3 #[] #[])
  fields := #[]
  methods := #[]
  instanceTypes := #[]
  staticTypes := #[]
  resolved := Array.replicate 7 none
  statics := none }

def pool20 : Array CpInfo := pool [(4, .class_ 6), (1, u "java/lang/Object"), (0, u "<init>"), (0, u "()V"), (5, .class_ 16), (1, u "java/lang/StringLatin1"), (104, u "$assertionsDisabled"), (0, u "Z"), (98, .class_ 223), (1, u "java/lang/StringLatin1$LinesSpliterator"), (57, u "equals"), (0, u "([B[B)Z"), (107, .class_ 391), (0, u "java/lang/StringLatin1$CharsSpliterator")] 3

def k20m0 : Method := { name := "<init>", desc := "()V", sig := { parameters := [], returnType := none }, accessFlags := 0, code := none }
def k20c1 : Code := { maxStack := 3, maxLocals := 3, code := jdk_43_method_13_code, exceptionTable := #[], attributes := #[] }
def k20m1 : Method := { name := "equals", desc := "([B[B)Z", sig := { parameters := [(.array .byte), (.array .byte)], returnType := some .boolean }, accessFlags := 9, code := some k20c1 }
/-- java/lang/StringLatin1 -/
def k20 : Class := { plain "java/lang/StringLatin1" (some 0) with
  accessFlags := 48
  interfaces := #[]
  cf := some (fileOf pool20 14 #[.nestMembers #[390, 221]] #[{ accessFlags := 0, nameIndex := 7, descriptorIndex := 8, attributes := #[] }, { accessFlags := 9, nameIndex := 281, descriptorIndex := 282, attributes := #[] }] 48 4 #[] #[{ accessFlags := 4120, nameIndex := 121, descriptorIndex := 122, attributes := #[] }])
  fields := #[{ name := "$assertionsDisabled", type := .boolean, accessFlags := 4120, slot := 0, constantValue := 0 }]
  methods := #[k20m0, k20m1]
  instanceTypes := #[]
  staticTypes := #[.boolean]
  resolved := Array.replicate 395 none
  statics := none }

def pool21 : Array CpInfo := pool [(1, .class_ 2), (0, u "java/lang/Math"), (1, .class_ 6), (1, u "java/lang/Object"), (0, u "<init>"), (0, u "()V"), (89, .class_ 100), (1, u "java/lang/Math$RandomNumberGeneratorHolder"), (71, u "negativeZeroFloatBits"), (0, u "J"), (2, u "negativeZeroDoubleBits"), (24, u "min"), (43, u "$assertionsDisabled"), (0, u "Z"), (88, u "(II)I"), (2, u "twoToTheDoubleScaleDown"), (0, u "D"), (4, u "twoToTheDoubleScaleUp"), (9, u "E"), (3, u "PI"), (2, u "TAU"), (2, u "DEGREES_TO_RADIANS"), (0, u "RADIANS_TO_DEGREES")] 94

def k21m0 : Method := { name := "<init>", desc := "()V", sig := { parameters := [], returnType := none }, accessFlags := 2, code := none }
def k21c1 : Code := { maxStack := 2, maxLocals := 2, code := jdk_29_method_69_code, exceptionTable := #[], attributes := #[] }
def k21m1 : Method := { name := "min", desc := "(II)I", sig := { parameters := [.int, .int], returnType := some .int }, accessFlags := 9, code := some k21c1 }
/-- java/lang/Math -/
def k21 : Class := { plain "java/lang/Math" (some 0) with
  accessFlags := 49
  interfaces := #[]
  cf := some (fileOf pool21 1 #[.nestMembers #[98]] #[{ accessFlags := 2, nameIndex := 7, descriptorIndex := 8, attributes := #[] }, { accessFlags := 9, nameIndex := 201, descriptorIndex := 335, attributes := #[] }] 49 4 #[] #[{ accessFlags := 25, nameIndex := 354, descriptorIndex := 339, attributes := #[] }, { accessFlags := 25, nameIndex := 358, descriptorIndex := 339, attributes := #[] }, { accessFlags := 25, nameIndex := 361, descriptorIndex := 339, attributes := #[] }, { accessFlags := 26, nameIndex := 364, descriptorIndex := 339, attributes := #[] }, { accessFlags := 26, nameIndex := 365, descriptorIndex := 339, attributes := #[] }, { accessFlags := 26, nameIndex := 172, descriptorIndex := 173, attributes := #[] }, { accessFlags := 26, nameIndex := 176, descriptorIndex := 173, attributes := #[] }, { accessFlags := 8, nameIndex := 344, descriptorIndex := 339, attributes := #[] }, { accessFlags := 8, nameIndex := 338, descriptorIndex := 339, attributes := #[] }, { accessFlags := 4120, nameIndex := 245, descriptorIndex := 246, attributes := #[] }])
  fields := #[{ name := "E", type := .double, accessFlags := 25, slot := 0, constantValue := 0 }, { name := "PI", type := .double, accessFlags := 25, slot := 1, constantValue := 0 }, { name := "TAU", type := .double, accessFlags := 25, slot := 2, constantValue := 0 }, { name := "DEGREES_TO_RADIANS", type := .double, accessFlags := 26, slot := 3, constantValue := 0 }, { name := "RADIANS_TO_DEGREES", type := .double, accessFlags := 26, slot := 4, constantValue := 0 }, { name := "negativeZeroFloatBits", type := .long, accessFlags := 26, slot := 5, constantValue := 0 }, { name := "negativeZeroDoubleBits", type := .long, accessFlags := 26, slot := 6, constantValue := 0 }, { name := "twoToTheDoubleScaleUp", type := .double, accessFlags := 8, slot := 7, constantValue := 0 }, { name := "twoToTheDoubleScaleDown", type := .double, accessFlags := 8, slot := 8, constantValue := 0 }, { name := "$assertionsDisabled", type := .boolean, accessFlags := 4120, slot := 9, constantValue := 0 }]
  methods := #[k21m0, k21m1]
  instanceTypes := #[]
  staticTypes := #[.double, .double, .double, .double, .double, .long, .long, .double, .double, .boolean]
  resolved := Array.replicate 460 none
  statics := none }

def pool22 : Array CpInfo := pool [(2, .class_ 4), (1, u "java/lang/Object"), (0, u "<init>"), (0, u "()V"), (17, .class_ 26), (1, u "jdk/internal/util/Preconditions"), (28, .class_ 56), (0, u "jdk/internal/util/Preconditions$4"), (57, .class_ 115), (0, u "jdk/internal/util/Preconditions$1"), (7, u "SIOOBE_FORMATTER"), (0, u "Ljava/util/function/BiFunction;"), (0, .class_ 126), (0, u "jdk/internal/util/Preconditions$2"), (3, u "AIOOBE_FORMATTER"), (0, .class_ 132), (0, u "jdk/internal/util/Preconditions$3"), (3, u "IOOBE_FORMATTER")] 57

def k22m0 : Method := { name := "<init>", desc := "()V", sig := { parameters := [], returnType := none }, accessFlags := 1, code := none }
/-- jdk/internal/util/Preconditions -/
def k22 : Class := { plain "jdk/internal/util/Preconditions" (some 0) with
  accessFlags := 33
  interfaces := #[]
  cf := some (fileOf pool22 24 #[.nestMembers #[55, 131, 125, 114]] #[{ accessFlags := 1, nameIndex := 5, descriptorIndex := 6, attributes := #[] }] 33 2 #[] #[{ accessFlags := 25, nameIndex := 123, descriptorIndex := 124, attributes := #[] }, { accessFlags := 25, nameIndex := 130, descriptorIndex := 124, attributes := #[] }, { accessFlags := 25, nameIndex := 136, descriptorIndex := 124, attributes := #[] }])
  fields := #[{ name := "SIOOBE_FORMATTER", type := (.object "java/util/function/BiFunction"), accessFlags := 25, slot := 0, constantValue := 0 }, { name := "AIOOBE_FORMATTER", type := (.object "java/util/function/BiFunction"), accessFlags := 25, slot := 1, constantValue := 0 }, { name := "IOOBE_FORMATTER", type := (.object "java/util/function/BiFunction"), accessFlags := 25, slot := 2, constantValue := 0 }]
  methods := #[k22m0]
  instanceTypes := #[]
  staticTypes := #[(.object "java/util/function/BiFunction"), (.object "java/util/function/BiFunction"), (.object "java/util/function/BiFunction")]
  resolved := Array.replicate 194 none
  statics := some 2 }

def pool23 : Array CpInfo := pool [(9, u "<init>"), (6, .class_ 18), (1, u "java/lang/Object"), (0, u "()V"), (1, .class_ 23), (1, u "jdk/internal/util/ArraysSupport"), (0, u "LOG2_ARRAY_LONG_INDEX_SCALE"), (0, u "I"), (2, u "U"), (0, u "Ljdk/internal/misc/Unsafe;"), (8, u "BIG_ENDIAN"), (0, u "Z"), (8, u "LOG2_BYTE_BIT_SIZE"), (4, u "LOG2_ARRAY_INT_INDEX_SCALE"), (54, u "JLA"), (0, u "Ljdk/internal/access/JavaLangAccess;"), (11, u "LOG2_ARRAY_BOOLEAN_INDEX_SCALE"), (9, u "LOG2_ARRAY_BYTE_INDEX_SCALE"), (5, u "LOG2_ARRAY_CHAR_INDEX_SCALE"), (5, u "LOG2_ARRAY_SHORT_INDEX_SCALE"), (18, u "LOG2_ARRAY_FLOAT_INDEX_SCALE"), (24, u "LOG2_ARRAY_DOUBLE_INDEX_SCALE"), (89, u "T_BOOLEAN"), (2, u "T_CHAR"), (1, u "T_FLOAT"), (1, u "T_DOUBLE"), (1, u "T_BYTE"), (1, u "T_SHORT"), (1, u "T_INT"), (1, u "T_LONG"), (1, u "SOFT_MAX_ARRAY_LENGTH")] 83

def k23m0 : Method := { name := "<init>", desc := "()V", sig := { parameters := [], returnType := none }, accessFlags := 2, code := none }
/-- jdk/internal/util/ArraysSupport -/
def k23 : Class := { plain "jdk/internal/util/ArraysSupport" (some 0) with
  accessFlags := 33
  interfaces := #[]
  cf := some (fileOf pool23 21 #[] #[{ accessFlags := 2, nameIndex := 9, descriptorIndex := 19, attributes := #[] }] 33 16 #[] #[{ accessFlags := 24, nameIndex := 28, descriptorIndex := 29, attributes := #[] }, { accessFlags := 26, nameIndex := 38, descriptorIndex := 39, attributes := #[] }, { accessFlags := 25, nameIndex := 121, descriptorIndex := 25, attributes := #[] }, { accessFlags := 25, nameIndex := 131, descriptorIndex := 25, attributes := #[] }, { accessFlags := 25, nameIndex := 137, descriptorIndex := 25, attributes := #[] }, { accessFlags := 25, nameIndex := 143, descriptorIndex := 25, attributes := #[] }, { accessFlags := 25, nameIndex := 53, descriptorIndex := 25, attributes := #[] }, { accessFlags := 25, nameIndex := 24, descriptorIndex := 25, attributes := #[] }, { accessFlags := 25, nameIndex := 162, descriptorIndex := 25, attributes := #[] }, { accessFlags := 25, nameIndex := 187, descriptorIndex := 25, attributes := #[] }, { accessFlags := 26, nameIndex := 48, descriptorIndex := 25, attributes := #[] }, { accessFlags := 25, nameIndex := 277, descriptorIndex := 25, attributes := #[] }, { accessFlags := 25, nameIndex := 280, descriptorIndex := 25, attributes := #[] }, { accessFlags := 25, nameIndex := 282, descriptorIndex := 25, attributes := #[] }, { accessFlags := 25, nameIndex := 284, descriptorIndex := 25, attributes := #[] }, { accessFlags := 25, nameIndex := 286, descriptorIndex := 25, attributes := #[] }, { accessFlags := 25, nameIndex := 288, descriptorIndex := 25, attributes := #[] }, { accessFlags := 25, nameIndex := 290, descriptorIndex := 25, attributes := #[] }, { accessFlags := 25, nameIndex := 292, descriptorIndex := 25, attributes := #[] }, { accessFlags := 26, nameIndex := 108, descriptorIndex := 109, attributes := #[] }, { accessFlags := 25, nameIndex := 294, descriptorIndex := 25, attributes := #[] }])
  fields := #[{ name := "U", type := (.object "jdk/internal/misc/Unsafe"), accessFlags := 24, slot := 0, constantValue := 0 }, { name := "BIG_ENDIAN", type := .boolean, accessFlags := 26, slot := 1, constantValue := 0 }, { name := "LOG2_ARRAY_BOOLEAN_INDEX_SCALE", type := .int, accessFlags := 25, slot := 2, constantValue := 0 }, { name := "LOG2_ARRAY_BYTE_INDEX_SCALE", type := .int, accessFlags := 25, slot := 3, constantValue := 0 }, { name := "LOG2_ARRAY_CHAR_INDEX_SCALE", type := .int, accessFlags := 25, slot := 4, constantValue := 0 }, { name := "LOG2_ARRAY_SHORT_INDEX_SCALE", type := .int, accessFlags := 25, slot := 5, constantValue := 0 }, { name := "LOG2_ARRAY_INT_INDEX_SCALE", type := .int, accessFlags := 25, slot := 6, constantValue := 0 }, { name := "LOG2_ARRAY_LONG_INDEX_SCALE", type := .int, accessFlags := 25, slot := 7, constantValue := 0 }, { name := "LOG2_ARRAY_FLOAT_INDEX_SCALE", type := .int, accessFlags := 25, slot := 8, constantValue := 0 }, { name := "LOG2_ARRAY_DOUBLE_INDEX_SCALE", type := .int, accessFlags := 25, slot := 9, constantValue := 0 }, { name := "LOG2_BYTE_BIT_SIZE", type := .int, accessFlags := 26, slot := 10, constantValue := 0 }, { name := "T_BOOLEAN", type := .int, accessFlags := 25, slot := 11, constantValue := 0 }, { name := "T_CHAR", type := .int, accessFlags := 25, slot := 12, constantValue := 0 }, { name := "T_FLOAT", type := .int, accessFlags := 25, slot := 13, constantValue := 0 }, { name := "T_DOUBLE", type := .int, accessFlags := 25, slot := 14, constantValue := 0 }, { name := "T_BYTE", type := .int, accessFlags := 25, slot := 15, constantValue := 0 }, { name := "T_SHORT", type := .int, accessFlags := 25, slot := 16, constantValue := 0 }, { name := "T_INT", type := .int, accessFlags := 25, slot := 17, constantValue := 0 }, { name := "T_LONG", type := .int, accessFlags := 25, slot := 18, constantValue := 0 }, { name := "JLA", type := (.object "jdk/internal/access/JavaLangAccess"), accessFlags := 26, slot := 19, constantValue := 0 }, { name := "SOFT_MAX_ARRAY_LENGTH", type := .int, accessFlags := 25, slot := 20, constantValue := 0 }]
  methods := #[k23m0]
  instanceTypes := #[]
  staticTypes := #[(.object "jdk/internal/misc/Unsafe"), .boolean, .int, .int, .int, .int, .int, .int, .int, .int, .int, .int, .int, .int, .int, .int, .int, .int, .int, (.object "jdk/internal/access/JavaLangAccess"), .int]
  resolved := Array.replicate 378 none
  statics := none }

def pool24 : Array CpInfo := pool [(2, .class_ 4), (1, u "java/lang/Object"), (0, u "<init>"), (0, u "()V"), (12, .class_ 20), (0, u "java/util/Collections"), (63, u "r"), (0, u "Ljava/util/Random;"), (80, .class_ 167), (0, u "java/util/Collections$UnmodifiableCollection"), (6, .class_ 175), (0, u "java/util/Collections$UnmodifiableSequencedCollection"), (6, .class_ 183), (0, u "java/util/Collections$UnmodifiableSet"), (6, .class_ 191), (0, u "java/util/Collections$UnmodifiableSequencedSet"), (6, .class_ 199), (0, u "java/util/Collections$UnmodifiableSortedSet"), (6, .class_ 207), (0, u "java/util/Collections$UnmodifiableNavigableSet"), (4, .class_ 213), (0, u "java/util/Collections$UnmodifiableList"), (1, .class_ 216), (0, u "java/util/Collections$UnmodifiableRandomAccessList"), (6, .class_ 224), (0, u "java/util/Collections$UnmodifiableMap"), (6, .class_ 232), (0, u "java/util/Collections$UnmodifiableSequencedMap"), (4, .class_ 238), (0, u "java/util/Collections$UnmodifiableSortedMap"), (6, .class_ 246), (0, u "java/util/Collections$UnmodifiableNavigableMap"), (3, .class_ 251), (0, u "java/util/Collections$SynchronizedCollection"), (4, .class_ 257), (0, u "java/util/Collections$SynchronizedSet"), (4, .class_ 263), (0, u "java/util/Collections$SynchronizedSortedSet"), (1, .class_ 266), (0, u "java/util/Collections$SynchronizedNavigableSet"), (1, .class_ 269), (0, u "java/util/Collections$SynchronizedRandomAccessList"), (1, .class_ 272), (0, u "java/util/Collections$SynchronizedList"), (5, .class_ 279), (0, u "java/util/Collections$SynchronizedMap"), (1, .class_ 282), (0, u "java/util/Collections$SynchronizedSortedMap"), (1, .class_ 285), (0, u "java/util/Collections$SynchronizedNavigableMap"), (1, .class_ 288), (0, u "java/util/Collections$CheckedCollection"), (11, .class_ 301), (0, u "java/util/Collections$CheckedQueue"), (3, .class_ 306), (0, u "java/util/Collections$CheckedSet"), (3, .class_ 311), (0, u "java/util/Collections$CheckedSortedSet"), (3, .class_ 316), (0, u "java/util/Collections$CheckedNavigableSet"), (3, .class_ 321), (0, u "java/util/Collections$CheckedRandomAccessList"), (3, .class_ 326), (0, u "java/util/Collections$CheckedList"), (1, .class_ 329), (0, u "java/util/Collections$CheckedMap"), (3, .class_ 334), (0, u "java/util/Collections$CheckedSortedMap"), (3, .class_ 339), (0, u "java/util/Collections$CheckedNavigableMap"), (4, .class_ 346), (1, u "java/util/Collections$EmptyIterator"), (3, .class_ 352), (1, u "java/util/Collections$EmptyListIterator"), (2, .class_ 357), (1, u "java/util/Collections$EmptyEnumeration"), (4, u "EMPTY_SET"), (0, u "Ljava/util/Set;"), (6, u "EMPTY_LIST"), (0, u "Ljava/util/List;"), (2, u "EMPTY_MAP"), (0, u "Ljava/util/Map;"), (4, .class_ 381), (0, u "java/util/Collections$SingletonSet"), (2, .class_ 385), (0, u "java/util/Collections$1"), (1, .class_ 388), (0, u "java/util/Collections$2"), (1, .class_ 391), (0, u "java/util/Collections$SingletonList"), (1, .class_ 394), (0, u "java/util/Collections$SingletonMap"), (22, .class_ 418), (0, u "java/util/Collections$CopiesList"), (4, .class_ 425), (1, u "java/util/Collections$ReverseComparator"), (8, .class_ 435), (0, u "java/util/Collections$ReverseComparator2"), (6, .class_ 443), (0, u "java/util/Collections$3"), (25, .class_ 470), (0, u "java/util/Collections$SetFromMap"), (2, .class_ 474), (0, u "java/util/Collections$SequencedSetFromMap"), (3, .class_ 479), (0, u "java/util/Collections$AsLIFOQueue"), (11, .class_ 492), (0, u "java/util/Collections$EmptySet"), (1, .class_ 495), (0, u "java/util/Collections$EmptyList"), (1, .class_ 498), (0, u "java/util/Collections$EmptyMap"), (1, u "BINARYSEARCH_THRESHOLD"), (0, u "I"), (2, u "REVERSE_THRESHOLD"), (1, u "SHUFFLE_THRESHOLD"), (1, u "FILL_THRESHOLD"), (1, u "ROTATE_THRESHOLD"), (1, u "COPY_THRESHOLD"), (1, u "REPLACEALL_THRESHOLD"), (1, u "INDEXOFSUBLIST_THRESHOLD"), (333, .class_ 851), (0, u "java/util/Collections$CheckedMap$CheckedEntrySet"), (0, .class_ 853), (0, u "java/util/Collections$CheckedMap$CheckedEntrySet$CheckedEntry"), (0, .class_ 855), (0, u "java/util/Collections$CheckedMap$CheckedEntrySet$1"), (0, .class_ 857), (0, u "java/util/Collections$CheckedList$1"), (0, .class_ 859), (0, u "java/util/Collections$CheckedCollection$1"), (0, .class_ 861), (0, u "java/util/Collections$UnmodifiableNavigableMap$EmptyNavigableMap"), (0, .class_ 863), (0, u "java/util/Collections$UnmodifiableMap$UnmodifiableEntrySet"), (0, .class_ 865), (0, u "java/util/Collections$UnmodifiableMap$UnmodifiableEntrySet$UnmodifiableEntry"), (0, .class_ 867), (0, u "java/util/Collections$UnmodifiableMap$UnmodifiableEntrySet$UnmodifiableEntrySetSpliterator"), (0, .class_ 869), (0, u "java/util/Collections$UnmodifiableMap$UnmodifiableEntrySet$1"), (0, .class_ 871), (0, u "java/util/Collections$UnmodifiableList$1"), (0, .class_ 873), (0, u "java/util/Collections$UnmodifiableNavigableSet$EmptyNavigableSet"), (0, .class_ 875), (0, u "java/util/Collections$UnmodifiableCollection$1")] 57

def k24m0 : Method := { name := "<init>", desc := "()V", sig := { parameters := [], returnType := none }, accessFlags := 2, code := none }
/-- java/util/Collections -/
def k24 : Class := { plain "java/util/Collections" (some 0) with
  accessFlags := 33
  interfaces := #[]
  cf := some (fileOf pool24 19 #[.nestMembers #[478, 473, 469, 434, 423, 417, 393, 390, 380, 497, 494, 491, 355, 350, 344, 338, 333, 328, 850, 852, 854, 320, 325, 856, 315, 310, 305, 300, 287, 858, 284, 281, 278, 268, 271, 265, 262, 256, 250, 245, 860, 237, 231, 223, 862, 864, 866, 868, 215, 212, 870, 206, 872, 198, 190, 182, 174, 166, 874, 442, 387, 384]] #[{ accessFlags := 2, nameIndex := 5, descriptorIndex := 6, attributes := #[] }] 33 2 #[] #[{ accessFlags := 26, nameIndex := 500, descriptorIndex := 501, attributes := #[] }, { accessFlags := 26, nameIndex := 504, descriptorIndex := 501, attributes := #[] }, { accessFlags := 26, nameIndex := 506, descriptorIndex := 501, attributes := #[] }, { accessFlags := 26, nameIndex := 508, descriptorIndex := 501, attributes := #[] }, { accessFlags := 26, nameIndex := 510, descriptorIndex := 501, attributes := #[] }, { accessFlags := 26, nameIndex := 512, descriptorIndex := 501, attributes := #[] }, { accessFlags := 26, nameIndex := 514, descriptorIndex := 501, attributes := #[] }, { accessFlags := 26, nameIndex := 516, descriptorIndex := 501, attributes := #[] }, { accessFlags := 10, nameIndex := 84, descriptorIndex := 85, attributes := #[] }, { accessFlags := 25, nameIndex := 362, descriptorIndex := 363, attributes := #[] }, { accessFlags := 25, nameIndex := 370, descriptorIndex := 371, attributes := #[] }, { accessFlags := 25, nameIndex := 374, descriptorIndex := 375, attributes := #[] }])
  fields := #[{ name := "BINARYSEARCH_THRESHOLD", type := .int, accessFlags := 26, slot := 0, constantValue := 0 }, { name := "REVERSE_THRESHOLD", type := .int, accessFlags := 26, slot := 1, constantValue := 0 }, { name := "SHUFFLE_THRESHOLD", type := .int, accessFlags := 26, slot := 2, constantValue := 0 }, { name := "FILL_THRESHOLD", type := .int, accessFlags := 26, slot := 3, constantValue := 0 }, { name := "ROTATE_THRESHOLD", type := .int, accessFlags := 26, slot := 4, constantValue := 0 }, { name := "COPY_THRESHOLD", type := .int, accessFlags := 26, slot := 5, constantValue := 0 }, { name := "REPLACEALL_THRESHOLD", type := .int, accessFlags := 26, slot := 6, constantValue := 0 }, { name := "INDEXOFSUBLIST_THRESHOLD", type := .int, accessFlags := 26, slot := 7, constantValue := 0 }, { name := "r", type := (.object "java/util/Random"), accessFlags := 10, slot := 8, constantValue := 0 }, { name := "EMPTY_SET", type := (.object "java/util/Set"), accessFlags := 25, slot := 9, constantValue := 0 }, { name := "EMPTY_LIST", type := (.object "java/util/List"), accessFlags := 25, slot := 10, constantValue := 0 }, { name := "EMPTY_MAP", type := (.object "java/util/Map"), accessFlags := 25, slot := 11, constantValue := 0 }]
  methods := #[k24m0]
  instanceTypes := #[]
  staticTypes := #[.int, .int, .int, .int, .int, .int, .int, .int, (.object "java/util/Random"), (.object "java/util/Set"), (.object "java/util/List"), (.object "java/util/Map")]
  resolved := Array.replicate 933 none
  statics := some 3 }

def pool25 : Array CpInfo := pool [(8, .class_ 10), (1, u "java/lang/Iterable"), (24, .class_ 36), (0, u "java/lang/Object")] 25

/-- java/lang/Iterable -/
def k25 : Class := { plain "java/lang/Iterable" (some 0) with
  accessFlags := 1537
  interfaces := #[]
  cf := some (fileOf pool25 8 #[] #[] 1537 35 #[] #[])
  fields := #[]
  methods := #[]
  instanceTypes := #[]
  staticTypes := #[]
  resolved := Array.replicate 62 none
  statics := none }

def pool26 : Array CpInfo := pool [(10, .class_ 12), (1, u "java/util/Collection"), (47, .class_ 61), (0, u "java/lang/Object"), (0, .class_ 63), (0, u "java/lang/Iterable")] 51

/-- java/util/Collection -/
def k26 : Class := { plain "java/util/Collection" (some 0) with
  accessFlags := 1537
  interfaces := #[25]
  cf := some (fileOf pool26 10 #[] #[] 1537 60 #[62] #[])
  fields := #[]
  methods := #[]
  instanceTypes := #[]
  staticTypes := #[]
  resolved := Array.replicate 115 none
  statics := none }

def pool27 : Array CpInfo := pool [(2, .class_ 4), (1, u "java/lang/Object"), (0, u "<init>"), (0, u "()V"), (1, .class_ 10), (1, u "java/util/AbstractCollection"), (66, .class_ 78), (0, u "java/util/Collection")] 81

def k27m0 : Method := { name := "<init>", desc := "()V", sig := { parameters := [], returnType := none }, accessFlags := 4, code := none }
/-- java/util/AbstractCollection -/
def k27 : Class := { plain "java/util/AbstractCollection" (some 0) with
  accessFlags := 1057
  interfaces := #[26]
  cf := some (fileOf pool27 8 #[] #[{ accessFlags := 4, nameIndex := 5, descriptorIndex := 6, attributes := #[] }] 1057 2 #[77] #[])
  fields := #[]
  methods := #[k27m0]
  instanceTypes := #[]
  staticTypes := #[]
  resolved := Array.replicate 160 none
  statics := none }

def pool28 : Array CpInfo := pool [(8, .class_ 10), (1, u "java/util/SequencedCollection"), (15, .class_ 27), (0, u "java/lang/Object"), (0, .class_ 29), (0, u "java/util/Collection")] 27

/-- java/util/SequencedCollection -/
def k28 : Class := { plain "java/util/SequencedCollection" (some 0) with
  accessFlags := 1537
  interfaces := #[26]
  cf := some (fileOf pool28 8 #[] #[] 1537 26 #[28] #[])
  fields := #[]
  methods := #[]
  instanceTypes := #[]
  staticTypes := #[]
  resolved := Array.replicate 57 none
  statics := none }

def pool29 : Array CpInfo := pool [(8, .class_ 10), (1, u "java/util/List"), (92, .class_ 104), (0, u "java/lang/Object"), (15, .class_ 121), (0, u "java/util/SequencedCollection")] 129

/-- java/util/List -/
def k29 : Class := { plain "java/util/List" (some 0) with
  accessFlags := 1537
  interfaces := #[28]
  cf := some (fileOf pool29 8 #[] #[] 1537 103 #[120] #[])
  fields := #[]
  methods := #[]
  instanceTypes := #[]
  staticTypes := #[]
  resolved := Array.replicate 251 none
  statics := none }

def pool30 : Array CpInfo := pool [(2, .class_ 4), (1, u "java/util/AbstractCollection"), (0, u "<init>"), (0, u "()V"), (1, .class_ 10), (1, u "java/util/AbstractList"), (0, u "modCount"), (0, u "I"), (64, .class_ 78), (0, u "java/util/AbstractList$Itr"), (3, .class_ 83), (0, u "java/util/AbstractList$ListItr"), (9, .class_ 94), (0, u "java/util/AbstractList$RandomAccessSubList"), (3, .class_ 99), (0, u "java/util/AbstractList$SubList"), (33, .class_ 134), (0, u "java/util/List"), (73, .class_ 209), (0, u "java/util/AbstractList$SubList$1"), (0, .class_ 211), (0, u "java/util/AbstractList$RandomAccessSpliterator")] 6

def k30m0 : Method := { name := "<init>", desc := "()V", sig := { parameters := [], returnType := none }, accessFlags := 4, code := none }
/-- java/util/AbstractList -/
def k30 : Class := { plain "java/util/AbstractList" (some 27) with
  accessFlags := 1057
  interfaces := #[29]
  cf := some (fileOf pool30 8 #[.nestMembers #[93, 98, 208, 210, 82, 77]] #[{ accessFlags := 4, nameIndex := 5, descriptorIndex := 6, attributes := #[] }] 1057 2 #[133] #[{ accessFlags := 132, nameIndex := 11, descriptorIndex := 12, attributes := #[] }])
  fields := #[{ name := "modCount", type := .int, accessFlags := 132, slot := 0, constantValue := 0 }]
  methods := #[k30m0]
  instanceTypes := #[.int]
  staticTypes := #[]
  resolved := Array.replicate 218 none
  statics := none }

def pool31 : Array CpInfo := pool [(1, .class_ 2), (0, u "java/util/RandomAccess"), (0, .class_ 4), (0, u "java/lang/Object")] 2

/-- java/util/RandomAccess -/
def k31 : Class := { plain "java/util/RandomAccess" (some 0) with
  accessFlags := 1537
  interfaces := #[]
  cf := some (fileOf pool31 1 #[] #[] 1537 3 #[] #[])
  fields := #[]
  methods := #[]
  instanceTypes := #[]
  staticTypes := #[]
  resolved := Array.replicate 7 none
  statics := none }

def pool32 : Array CpInfo := pool [(2, .class_ 4), (1, u "java/util/AbstractList"), (0, u "<init>"), (0, u "()V"), (1, .class_ 10), (1, u "java/util/Collections"), (54, .class_ 66), (0, u "java/util/Collections$EmptyList"), (0, .class_ 68), (0, u "java/util/RandomAccess"), (0, .class_ 70), (0, u "java/io/Serializable"), (0, u "serialVersionUID"), (0, u "J")] 77

def k32m0 : Method := { name := "<init>", desc := "()V", sig := { parameters := [], returnType := none }, accessFlags := 2, code := none }
/-- java/util/Collections$EmptyList -/
def k32 : Class := { plain "java/util/Collections$EmptyList" (some 30) with
  accessFlags := 32
  interfaces := #[31, 2]
  cf := some (fileOf pool32 65 #[.nestHost 8] #[{ accessFlags := 2, nameIndex := 5, descriptorIndex := 6, attributes := #[] }] 32 2 #[67, 69] #[{ accessFlags := 26, nameIndex := 71, descriptorIndex := 72, attributes := #[] }])
  fields := #[{ name := "serialVersionUID", type := .long, accessFlags := 26, slot := 0, constantValue := 0 }]
  methods := #[k32m0]
  instanceTypes := #[.int]
  staticTypes := #[.long]
  resolved := Array.replicate 150 none
  statics := none }

def pool33 : Array CpInfo := pool [(2, .class_ 4), (1, u "java/lang/StackTraceElement"), (0, u "<init>"), (2, .class_ 10), (1, u "java/lang/Object"), (0, u "()V"), (2, u "format"), (0, u "B"), (2, u "classLoaderName"), (0, u "Ljava/lang/String;"), (2, u "moduleName"), (2, u "moduleVersion"), (12, u "declaringClass"), (4, u "methodName"), (2, u "fileName"), (2, u "lineNumber"), (0, u "I"), (65, u "declaringClassObject"), (0, u "Ljava/lang/Class;"), (33, .class_ 153), (1, u "java/lang/StackTraceElement$HashedModules"), (17, .class_ 172), (0, u "java/io/Serializable"), (0, u "NATIVE_METHOD"), (1, u "UNKNOWN_SOURCE"), (2, u "BUILTIN_CLASS_LOADER"), (1, u "JDK_NON_UPGRADEABLE_MODULE"), (1, u "serialVersionUID"), (0, u "J")] 51

def k33m0 : Method := { name := "<init>", desc := "()V", sig := { parameters := [], returnType := none }, accessFlags := 2, code := none }
/-- java/lang/StackTraceElement -/
def k33 : Class := { plain "java/lang/StackTraceElement" (some 0) with
  accessFlags := 49
  interfaces := #[2]
  cf := some (fileOf pool33 2 #[.nestMembers #[151]] #[{ accessFlags := 2, nameIndex := 5, descriptorIndex := 11, attributes := #[] }] 49 8 #[171] #[{ accessFlags := 26, nameIndex := 173, descriptorIndex := 19, attributes := #[] }, { accessFlags := 26, nameIndex := 175, descriptorIndex := 19, attributes := #[] }, { accessFlags := 130, nameIndex := 116, descriptorIndex := 117, attributes := #[] }, { accessFlags := 2, nameIndex := 18, descriptorIndex := 19, attributes := #[] }, { accessFlags := 2, nameIndex := 22, descriptorIndex := 19, attributes := #[] }, { accessFlags := 2, nameIndex := 25, descriptorIndex := 19, attributes := #[] }, { accessFlags := 2, nameIndex := 38, descriptorIndex := 19, attributes := #[] }, { accessFlags := 2, nameIndex := 43, descriptorIndex := 19, attributes := #[] }, { accessFlags := 2, nameIndex := 46, descriptorIndex := 19, attributes := #[] }, { accessFlags := 2, nameIndex := 49, descriptorIndex := 50, attributes := #[] }, { accessFlags := 2, nameIndex := 14, descriptorIndex := 15, attributes := #[] }, { accessFlags := 26, nameIndex := 178, descriptorIndex := 15, attributes := #[] }, { accessFlags := 26, nameIndex := 180, descriptorIndex := 15, attributes := #[] }, { accessFlags := 26, nameIndex := 182, descriptorIndex := 183, attributes := #[] }])
  fields := #[{ name := "NATIVE_METHOD", type := (.object "java/lang/String"), accessFlags := 26, slot := 0, constantValue := 0 }, { name := "UNKNOWN_SOURCE", type := (.object "java/lang/String"), accessFlags := 26, slot := 1, constantValue := 0 }, { name := "declaringClassObject", type := (.object "java/lang/Class"), accessFlags := 130, slot := 0, constantValue := 0 }, { name := "classLoaderName", type := (.object "java/lang/String"), accessFlags := 2, slot := 1, constantValue := 0 }, { name := "moduleName", type := (.object "java/lang/String"), accessFlags := 2, slot := 2, constantValue := 0 }, { name := "moduleVersion", type := (.object "java/lang/String"), accessFlags := 2, slot := 3, constantValue := 0 }, { name := "declaringClass", type := (.object "java/lang/String"), accessFlags := 2, slot := 4, constantValue := 0 }, { name := "methodName", type := (.object "java/lang/String"), accessFlags := 2, slot := 5, constantValue := 0 }, { name := "fileName", type := (.object "java/lang/String"), accessFlags := 2, slot := 6, constantValue := 0 }, { name := "lineNumber", type := .int, accessFlags := 2, slot := 7, constantValue := 0 }, { name := "format", type := .byte, accessFlags := 2, slot := 8, constantValue := 0 }, { name := "BUILTIN_CLASS_LOADER", type := .byte, accessFlags := 26, slot := 2, constantValue := 0 }, { name := "JDK_NON_UPGRADEABLE_MODULE", type := .byte, accessFlags := 26, slot := 3, constantValue := 0 }, { name := "serialVersionUID", type := .long, accessFlags := 26, slot := 4, constantValue := 0 }]
  methods := #[k33m0]
  instanceTypes := #[(.object "java/lang/Class"), (.object "java/lang/String"), (.object "java/lang/String"), (.object "java/lang/String"), (.object "java/lang/String"), (.object "java/lang/String"), (.object "java/lang/String"), .int, .byte]
  staticTypes := #[(.object "java/lang/String"), (.object "java/lang/String"), .byte, .byte, .long]
  resolved := Array.replicate 235 none
  statics := none }

/-- the primitive byte -/
def k34 : Class := { plain "byte" none with kind := .primitive 'B', accessFlags := 0x411 }
/-- [B -/
def k35 : Class := { plain "[B" (some 0) with kind := .array 34 .byte, interfaces := #[19, 2], accessFlags := 1041 }

/-- the primitive char -/
def k36 : Class := { plain "char" none with kind := .primitive 'C', accessFlags := 0x411 }
/-- [C -/
def k37 : Class := { plain "[C" (some 0) with kind := .array 36 .char, interfaces := #[19, 2], accessFlags := 1041 }

/-- the primitive int -/
def k38 : Class := { plain "int" none with kind := .primitive 'I', accessFlags := 0x411 }
/-- [I -/
def k39 : Class := { plain "[I" (some 0) with kind := .array 38 .int, interfaces := #[19, 2], accessFlags := 1041 }

/-- [Ljava/lang/Object; -/
def k40 : Class := { plain "[Ljava/lang/Object;" (some 0) with kind := .array 0 (.object "java/lang/Object"), interfaces := #[19, 2], accessFlags := 1041 }

/-- [Ljava/lang/StackTraceElement; -/
def k41 : Class := { plain "[Ljava/lang/StackTraceElement;" (some 0) with kind := .array 33 (.object "java/lang/StackTraceElement"), interfaces := #[19, 2], accessFlags := 1041 }

/-- [Ljava/lang/Throwable; -/
def k42 : Class := { plain "[Ljava/lang/Throwable;" (some 0) with kind := .array 10 (.object "java/lang/Throwable"), interfaces := #[19, 2], accessFlags := 1041 }

def heap : Heap := #[{ cls := 7, slots := #[.long 0, .int 1, .null, .int 0, .null, .int 0, .int 0], vm := .statics 7 },
  { cls := 10, slots := #[.long 0, .ref 4, .ref 5, .null, .null, .null, .null, .ref 6, .int 1], vm := .statics 10 },
  { cls := 22, slots := #[.null, .null, .null], vm := .statics 22 },
  { cls := 24, slots := #[.int 0, .int 0, .int 0, .int 0, .int 0, .int 0, .int 0, .int 0, .null, .null, .ref 5, .null], vm := .statics 24 },
  { cls := 41, slots := #[], vm := .none },
  { cls := 32, slots := #[.int 0], vm := .none },
  { cls := 42, slots := #[], vm := .none }]
def classes : Array Class := #[k0, k1, k2, k3, k4, k5, k6, k7, k8, k9, k10, k11, k12, k13, k14, k15, k16, k17, k18, k19, k20, k21, k22, k23, k24, k25, k26, k27, k28, k29, k30, k31, k32, k33, k34, k35, k36, k37, k38, k39, k40, k41, k42]
def interned : List (Array UInt16 × Addr) := []
def slotsUsed : Nat := 32
def theMethod : MethodId := ⟨1, 1⟩
def args0 : Array Value := #[.int 65, .int 66, .int 67, .int 68, .int 0]
def aboutOver (below : List Frame) : State where
  vm := { classes := classes, interned := interned.toArray }
  heap := heap
  slotsUsed := slotsUsed
  threads := #[{ frames := .invoking theMethod args0 :: below }]
def below0 : List Frame := [.native { method := ⟨0, 0⟩, args := #[] }]
def about1 : State := aboutOver below0
def p0 : Program := .bare "" "" ""
def e0 : Env := launch0.env 0 0 0
theorem w_frames : about1.frames = Frame.invoking theMethod args0 :: below0 := rfl
set_option maxRecDepth 65536 in
theorem w_args : argsFit about1.vm theMethod args0 = true := by decide +kernel
set_option maxRecDepth 65536 in
theorem w_heap : heapFits about1 = true := by decide +kernel
set_option maxRecDepth 65536 in
theorem w_runnable : about1.curStatus? = some .runnable := by decide +kernel
set_option maxRecDepth 65536 in
theorem w_alone : about1.alone = true := by decide +kernel
set_option maxRecDepth 65536 in
theorem w_named : about1.methodNamed? x = some theMethod := by decide +kernel
set_option maxRecDepth 65536 in
theorem w_hears : about1.hears theMethod below0 = true := by decide +kernel
set_option maxRecDepth 65536 in
theorem w_ripe : about1.ripe theMethod args0 below0 = true := by decide +kernel
theorem w_running : about1.status = .running := rfl
set_option maxRecDepth 65536 in
theorem w_room : about1.hasRoom e0.platform room_1 = true :=
  launch0.hasRoom_least _ room_1 (by decide +kernel) (by decide +kernel) (by decide +kernel) (by decide +kernel) (by decide +kernel) (by decide +kernel)
theorem allAtoms_all (ts : List Jvm.Cond) (a : Array Jvm.Value) (st : Jvm.State) : (allAtoms ts).before a st = ts.all (fun c => c.before a st) := by
  induction ts with
  | nil => rfl
  | cons c t ih =>
    show (Jvm.Cond.and c (allAtoms t)).before a st = _
    rw [Jvm.Cond.before_and, ih, List.all_cons]
def words1 : List Jvm.Cond := Jvm.Cond.code x code maxLocals ret :: tables_1
/-- a 'code' word, met by the world's own term for the bytes: nothing is compared byte by byte -/
theorem code_word {y : MethodName} {bytes : ByteArray} {mx : Nat} {rt : Option FieldType} {a : Array Value} {s : State} {m : MethodId} {meth : Method} {c : Code} (h1 : s.methodNamed? y = some m) (h2 : s.vm.method? m = some meth) (h3 : meth.code = some c) (h4 : c.code = bytes)
    (h5 : (c.maxLocals == mx && c.exceptionTable.isEmpty && decide (c.maxStack ≤ mostOperands) && decide (meth.sig.returnType = rt) && !meth.locks && decide (parseMethodDescriptor y.desc = some meth.sig)) = true) : (Jvm.Cond.code y bytes mx rt).before a s = true := by
  simp only [Bool.and_eq_true, beq_iff_eq, Bool.not_eq_true', decide_eq_true_eq] at h5
  obtain ⟨⟨⟨⟨⟨g1, g2⟩, g3⟩, g4⟩, g5⟩, g6⟩ := h5
  simp [Cond.before, Cond.holds, Cond.value, h1, h2, h3, h4, g1, g2, g3, g4, g5, g6]
def isCode : Jvm.Cond → Bool
  | .code _ _ _ _ => true
  | _ => false
theorem all_split {L : List Jvm.Cond} {P : Jvm.Cond → Bool} (h1 : L.all (fun c => isCode c || P c) = true) (h2 : ∀ c ∈ L.filter isCode, P c = true) : L.all P = true := by
  refine List.all_eq_true.mpr fun c hc => ?_
  have h := List.all_eq_true.mp h1 c hc
  rcases Bool.eq_false_or_eq_true (isCode c) with hi | hi
  · exact h2 c (List.mem_filter.mpr ⟨hc, hi⟩)
  · simpa [hi] using h
set_option maxRecDepth 65536 in
theorem w_c0 : (Jvm.Cond.code x code maxLocals ret).before args0 about1 = true := code_word (m := ⟨1, 1⟩) (meth := k1m1) (c := k1c1) (by decide +kernel) rfl rfl rfl (by decide +kernel)
set_option maxRecDepth 65536 in
theorem w_c1 : (Jvm.Cond.code ({ cls := "java/lang/String", name := "<init>", desc := "([C)V" } : Jvm.MethodName) jdk_42_method_3_code (2 : Nat) (Option.none : Option Jvm.ClassFile.FieldType)).before args0 about1 = true := code_word (m := ⟨7, 1⟩) (meth := k7m1) (c := k7c1) (by decide +kernel) rfl rfl rfl (by decide +kernel)
set_option maxRecDepth 65536 in
theorem w_c2 : (Jvm.Cond.code ({ cls := "java/lang/String", name := "<init>", desc := "([CIILjava/lang/Void;)V" } : Jvm.MethodName) jdk_42_method_149_code (6 : Nat) (Option.none : Option Jvm.ClassFile.FieldType)).before args0 about1 = true := code_word (m := ⟨7, 6⟩) (meth := k7m6) (c := k7c6) (by decide +kernel) rfl rfl rfl (by decide +kernel)
set_option maxRecDepth 65536 in
theorem w_c3 : (Jvm.Cond.code ({ cls := "java/lang/Object", name := "<init>", desc := "()V" } : Jvm.MethodName) object_method_1_code (1 : Nat) (Option.none : Option Jvm.ClassFile.FieldType)).before args0 about1 = true := code_word (m := ⟨0, 0⟩) (meth := k0m0) (c := k0c0) (by decide +kernel) rfl rfl rfl (by decide +kernel)
set_option maxRecDepth 65536 in
theorem w_c4 : (Jvm.Cond.code ({ cls := "java/lang/StringUTF16", name := "compress", desc := "([CII)[B" } : Jvm.MethodName) jdk_52_method_16_code (6 : Nat) (Option.some (Jvm.ClassFile.FieldType.array Jvm.ClassFile.FieldType.byte))).before args0 about1 = true := code_word (m := ⟨8, 2⟩) (meth := k8m2) (c := k8c2) (by decide +kernel) rfl rfl rfl (by decide +kernel)
set_option maxRecDepth 65536 in
theorem w_c5 : (Jvm.Cond.code ({ cls := "java/lang/StringUTF16", name := "compress", desc := "([CI[BII)I" } : Jvm.MethodName) jdk_52_method_21_code (7 : Nat) (Option.some Jvm.ClassFile.FieldType.int)).before args0 about1 = true := code_word (m := ⟨8, 3⟩) (meth := k8m3) (c := k8c3) (by decide +kernel) rfl rfl rfl (by decide +kernel)
set_option maxRecDepth 65536 in
theorem w_c6 : (Jvm.Cond.code ({ cls := "java/lang/StringUTF16", name := "coderFromArrayLen", desc := "([BI)B" } : Jvm.MethodName) jdk_52_method_15_code (2 : Nat) (Option.some Jvm.ClassFile.FieldType.byte)).before args0 about1 = true := code_word (m := ⟨8, 1⟩) (meth := k8m1) (c := k8c1) (by decide +kernel) rfl rfl rfl (by decide +kernel)
set_option maxRecDepth 65536 in
theorem w_c7 : (Jvm.Cond.code ({ cls := "com/example/basehome/basehome/internal/VariableProblems", name := "nameRefusal", desc := "(Ljava/lang/String;Ljava/lang/String;)Ljava/lang/IllegalArgumentException;" } : Jvm.MethodName) prog_11_method_7_code (2 : Nat) (Option.some (Jvm.ClassFile.FieldType.object "java/lang/IllegalArgumentException"))).before args0 about1 = true := code_word (m := ⟨9, 1⟩) (meth := k9m1) (c := k9c1) (by decide +kernel) rfl rfl rfl (by decide +kernel)
set_option maxRecDepth 65536 in
theorem w_c8 : (Jvm.Cond.code ({ cls := "java/lang/StringBuilder", name := "<init>", desc := "()V" } : Jvm.MethodName) jdk_67_method_1_code (1 : Nat) (Option.none : Option Jvm.ClassFile.FieldType)).before args0 about1 = true := code_word (m := ⟨16, 0⟩) (meth := k16m0) (c := k16c0) (by decide +kernel) rfl rfl rfl (by decide +kernel)
set_option maxRecDepth 65536 in
theorem w_c9 : (Jvm.Cond.code ({ cls := "java/lang/AbstractStringBuilder", name := "<init>", desc := "(I)V" } : Jvm.MethodName) jdk_68_method_2_code (2 : Nat) (Option.none : Option Jvm.ClassFile.FieldType)).before args0 about1 = true := code_word (m := ⟨15, 1⟩) (meth := k15m1) (c := k15c1) (by decide +kernel) rfl rfl rfl (by decide +kernel)
set_option maxRecDepth 65536 in
theorem w_c10 : (Jvm.Cond.code ({ cls := "java/lang/StringBuilder", name := "append", desc := "(Ljava/lang/String;)Ljava/lang/StringBuilder;" } : Jvm.MethodName) jdk_67_method_7_code (2 : Nat) (Option.some (Jvm.ClassFile.FieldType.object "java/lang/StringBuilder"))).before args0 about1 = true := code_word (m := ⟨16, 1⟩) (meth := k16m1) (c := k16c1) (by decide +kernel) rfl rfl rfl (by decide +kernel)
set_option maxRecDepth 65536 in
theorem w_c11 : (Jvm.Cond.code ({ cls := "java/lang/AbstractStringBuilder", name := "append", desc := "(Ljava/lang/String;)Ljava/lang/AbstractStringBuilder;" } : Jvm.MethodName) jdk_68_method_22_code (3 : Nat) (Option.some (Jvm.ClassFile.FieldType.object "java/lang/AbstractStringBuilder"))).before args0 about1 = true := code_word (m := ⟨15, 4⟩) (meth := k15m4) (c := k15c4) (by decide +kernel) rfl rfl rfl (by decide +kernel)
set_option maxRecDepth 65536 in
theorem w_c12 : (Jvm.Cond.code ({ cls := "java/lang/String", name := "length", desc := "()I" } : Jvm.MethodName) jdk_42_method_54_code (1 : Nat) (Option.some Jvm.ClassFile.FieldType.int)).before args0 about1 = true := code_word (m := ⟨7, 3⟩) (meth := k7m3) (c := k7c3) (by decide +kernel) rfl rfl rfl (by decide +kernel)
set_option maxRecDepth 65536 in
theorem w_c13 : (Jvm.Cond.code ({ cls := "java/lang/String", name := "coder", desc := "()B" } : Jvm.MethodName) jdk_42_method_152_code (1 : Nat) (Option.some Jvm.ClassFile.FieldType.byte)).before args0 about1 = true := code_word (m := ⟨7, 8⟩) (meth := k7m8) (c := k7c8) (by decide +kernel) rfl rfl rfl (by decide +kernel)
set_option maxRecDepth 65536 in
theorem w_c14 : (Jvm.Cond.code ({ cls := "java/lang/AbstractStringBuilder", name := "ensureCapacityInternal", desc := "(I)V" } : Jvm.MethodName) jdk_68_method_9_code (3 : Nat) (Option.none : Option Jvm.ClassFile.FieldType)).before args0 about1 = true := code_word (m := ⟨15, 3⟩) (meth := k15m3) (c := k15c3) (by decide +kernel) rfl rfl rfl (by decide +kernel)
set_option maxRecDepth 65536 in
theorem w_c15 : (Jvm.Cond.code ({ cls := "java/lang/AbstractStringBuilder", name := "putStringAt", desc := "(ILjava/lang/String;)V" } : Jvm.MethodName) jdk_68_method_73_code (3 : Nat) (Option.none : Option Jvm.ClassFile.FieldType)).before args0 about1 = true := code_word (m := ⟨15, 8⟩) (meth := k15m8) (c := k15c8) (by decide +kernel) rfl rfl rfl (by decide +kernel)
set_option maxRecDepth 65536 in
theorem w_c16 : (Jvm.Cond.code ({ cls := "java/lang/AbstractStringBuilder", name := "inflateIfNeededFor", desc := "(Ljava/lang/String;)V" } : Jvm.MethodName) jdk_68_method_71_code (2 : Nat) (Option.none : Option Jvm.ClassFile.FieldType)).before args0 about1 = true := code_word (m := ⟨15, 7⟩) (meth := k15m7) (c := k15c7) (by decide +kernel) rfl rfl rfl (by decide +kernel)
set_option maxRecDepth 65536 in
theorem w_c17 : (Jvm.Cond.code ({ cls := "java/lang/String", name := "getBytes", desc := "([BIB)V" } : Jvm.MethodName) jdk_42_method_147_code (4 : Nat) (Option.none : Option Jvm.ClassFile.FieldType)).before args0 about1 = true := code_word (m := ⟨7, 5⟩) (meth := k7m5) (c := k7c5) (by decide +kernel) rfl rfl rfl (by decide +kernel)
set_option maxRecDepth 65536 in
theorem w_c18 : (Jvm.Cond.code ({ cls := "java/lang/StringBuilder", name := "toString", desc := "()Ljava/lang/String;" } : Jvm.MethodName) jdk_67_method_42_code (1 : Nat) (Option.some (Jvm.ClassFile.FieldType.object "java/lang/String"))).before args0 about1 = true := code_word (m := ⟨16, 2⟩) (meth := k16m2) (c := k16c2) (by decide +kernel) rfl rfl rfl (by decide +kernel)
set_option maxRecDepth 65536 in
theorem w_c19 : (Jvm.Cond.code ({ cls := "java/lang/String", name := "<init>", desc := "(Ljava/lang/StringBuilder;)V" } : Jvm.MethodName) jdk_42_method_53_code (2 : Nat) (Option.none : Option Jvm.ClassFile.FieldType)).before args0 about1 = true := code_word (m := ⟨7, 2⟩) (meth := k7m2) (c := k7c2) (by decide +kernel) rfl rfl rfl (by decide +kernel)
set_option maxRecDepth 65536 in
theorem w_c20 : (Jvm.Cond.code ({ cls := "java/lang/String", name := "<init>", desc := "(Ljava/lang/AbstractStringBuilder;Ljava/lang/Void;)V" } : Jvm.MethodName) jdk_42_method_150_code (5 : Nat) (Option.none : Option Jvm.ClassFile.FieldType)).before args0 about1 = true := code_word (m := ⟨7, 7⟩) (meth := k7m7) (c := k7c7) (by decide +kernel) rfl rfl rfl (by decide +kernel)
set_option maxRecDepth 65536 in
theorem w_c21 : (Jvm.Cond.code ({ cls := "java/lang/AbstractStringBuilder", name := "getValue", desc := "()[B" } : Jvm.MethodName) jdk_68_method_64_code (1 : Nat) (Option.some (Jvm.ClassFile.FieldType.array Jvm.ClassFile.FieldType.byte))).before args0 about1 = true := code_word (m := ⟨15, 5⟩) (meth := k15m5) (c := k15c5) (by decide +kernel) rfl rfl rfl (by decide +kernel)
set_option maxRecDepth 65536 in
theorem w_c22 : (Jvm.Cond.code ({ cls := "java/lang/StringBuilder", name := "length", desc := "()I" } : Jvm.MethodName) jdk_67_method_93_code (1 : Nat) (Option.some Jvm.ClassFile.FieldType.int)).before args0 about1 = true := code_word (m := ⟨16, 3⟩) (meth := k16m3) (c := k16c3) (by decide +kernel) rfl rfl rfl (by decide +kernel)
set_option maxRecDepth 65536 in
theorem w_c23 : (Jvm.Cond.code ({ cls := "java/lang/AbstractStringBuilder", name := "length", desc := "()I" } : Jvm.MethodName) jdk_68_method_6_code (1 : Nat) (Option.some Jvm.ClassFile.FieldType.int)).before args0 about1 = true := code_word (m := ⟨15, 2⟩) (meth := k15m2) (c := k15c2) (by decide +kernel) rfl rfl rfl (by decide +kernel)
set_option maxRecDepth 65536 in
theorem w_c24 : (Jvm.Cond.code ({ cls := "java/lang/AbstractStringBuilder", name := "isLatin1", desc := "()Z" } : Jvm.MethodName) jdk_68_method_68_code (1 : Nat) (Option.some Jvm.ClassFile.FieldType.boolean)).before args0 about1 = true := code_word (m := ⟨15, 6⟩) (meth := k15m6) (c := k15c6) (by decide +kernel) rfl rfl rfl (by decide +kernel)
set_option maxRecDepth 65536 in
theorem w_c25 : (Jvm.Cond.code ({ cls := "java/util/Arrays", name := "copyOfRange", desc := "([BII)[B" } : Jvm.MethodName) jdk_65_method_132_code (3 : Nat) (Option.some (Jvm.ClassFile.FieldType.array Jvm.ClassFile.FieldType.byte))).before args0 about1 = true := code_word (m := ⟨18, 2⟩) (meth := k18m2) (c := k18c2) (by decide +kernel) rfl rfl rfl (by decide +kernel)
set_option maxRecDepth 65536 in
theorem w_c26 : (Jvm.Cond.code ({ cls := "java/lang/IllegalArgumentException", name := "<init>", desc := "(Ljava/lang/String;)V" } : Jvm.MethodName) jdk_57_method_2_code (2 : Nat) (Option.none : Option Jvm.ClassFile.FieldType)).before args0 about1 = true := code_word (m := ⟨13, 1⟩) (meth := k13m1) (c := k13c1) (by decide +kernel) rfl rfl rfl (by decide +kernel)
set_option maxRecDepth 65536 in
theorem w_c27 : (Jvm.Cond.code ({ cls := "java/lang/RuntimeException", name := "<init>", desc := "(Ljava/lang/String;)V" } : Jvm.MethodName) jdk_58_method_2_code (2 : Nat) (Option.none : Option Jvm.ClassFile.FieldType)).before args0 about1 = true := code_word (m := ⟨12, 1⟩) (meth := k12m1) (c := k12c1) (by decide +kernel) rfl rfl rfl (by decide +kernel)
set_option maxRecDepth 65536 in
theorem w_c28 : (Jvm.Cond.code ({ cls := "java/lang/Exception", name := "<init>", desc := "(Ljava/lang/String;)V" } : Jvm.MethodName) jdk_59_method_2_code (2 : Nat) (Option.none : Option Jvm.ClassFile.FieldType)).before args0 about1 = true := code_word (m := ⟨11, 1⟩) (meth := k11m1) (c := k11c1) (by decide +kernel) rfl rfl rfl (by decide +kernel)
set_option maxRecDepth 65536 in
theorem w_c29 : (Jvm.Cond.code ({ cls := "java/lang/Throwable", name := "<init>", desc := "(Ljava/lang/String;)V" } : Jvm.MethodName) jdk_78_method_2_code (2 : Nat) (Option.none : Option Jvm.ClassFile.FieldType)).before args0 about1 = true := code_word (m := ⟨10, 1⟩) (meth := k10m1) (c := k10c1) (by decide +kernel) rfl rfl rfl (by decide +kernel)
set_option maxRecDepth 65536 in
theorem w_c30 : (Jvm.Cond.code ({ cls := "java/lang/Throwable", name := "<init>", desc := "()V" } : Jvm.MethodName) jdk_78_method_1_code (1 : Nat) (Option.none : Option Jvm.ClassFile.FieldType)).before args0 about1 = true := code_word (m := ⟨10, 0⟩) (meth := k10m0) (c := k10c0) (by decide +kernel) rfl rfl rfl (by decide +kernel)
set_option maxRecDepth 65536 in
theorem w_c31 : (Jvm.Cond.code ({ cls := "java/lang/Throwable", name := "getMessage", desc := "()Ljava/lang/String;" } : Jvm.MethodName) jdk_78_method_6_code (1 : Nat) (Option.some (Jvm.ClassFile.FieldType.object "java/lang/String"))).before args0 about1 = true := code_word (m := ⟨10, 2⟩) (meth := k10m2) (c := k10c2) (by decide +kernel) rfl rfl rfl (by decide +kernel)
set_option maxRecDepth 65536 in
theorem w_c32 : (Jvm.Cond.code ({ cls := "java/lang/String", name := "equals", desc := "(Ljava/lang/Object;)Z" } : Jvm.MethodName) jdk_42_method_66_code (3 : Nat) (Option.some Jvm.ClassFile.FieldType.boolean)).before args0 about1 = true := code_word (m := ⟨7, 4⟩) (meth := k7m4) (c := k7c4) (by decide +kernel) rfl rfl rfl (by decide +kernel)
set_option maxRecDepth 65536 in
theorem w_c33 : (Jvm.Cond.code ({ cls := "java/lang/StringLatin1", name := "equals", desc := "([B[B)Z" } : Jvm.MethodName) jdk_43_method_13_code (3 : Nat) (Option.some Jvm.ClassFile.FieldType.boolean)).before args0 about1 = true := code_word (m := ⟨20, 1⟩) (meth := k20m1) (c := k20c1) (by decide +kernel) rfl rfl rfl (by decide +kernel)
set_option maxRecDepth 65536 in
theorem w_c34 : (Jvm.Cond.code ({ cls := "java/util/Arrays", name := "copyOfRangeByte", desc := "([BII)[B" } : Jvm.MethodName) jdk_65_method_133_code (5 : Nat) (Option.some (Jvm.ClassFile.FieldType.array Jvm.ClassFile.FieldType.byte))).before args0 about1 = true := code_word (m := ⟨18, 3⟩) (meth := k18m3) (c := k18c3) (by decide +kernel) rfl rfl rfl (by decide +kernel)
set_option maxRecDepth 65536 in
theorem w_c35 : (Jvm.Cond.code ({ cls := "java/util/Arrays", name := "checkLength", desc := "(II)V" } : Jvm.MethodName) jdk_65_method_131_code (2 : Nat) (Option.none : Option Jvm.ClassFile.FieldType)).before args0 about1 = true := code_word (m := ⟨18, 1⟩) (meth := k18m1) (c := k18c1) (by decide +kernel) rfl rfl rfl (by decide +kernel)
set_option maxRecDepth 65536 in
theorem w_c36 : (Jvm.Cond.code ({ cls := "java/lang/Math", name := "min", desc := "(II)I" } : Jvm.MethodName) jdk_29_method_69_code (2 : Nat) (Option.some Jvm.ClassFile.FieldType.int)).before args0 about1 = true := code_word (m := ⟨21, 1⟩) (meth := k21m1) (c := k21c1) (by decide +kernel) rfl rfl rfl (by decide +kernel)
def codes1 : List Jvm.Cond := [Jvm.Cond.code x code maxLocals ret, Jvm.Cond.code ({ cls := "java/lang/String", name := "<init>", desc := "([C)V" } : Jvm.MethodName) jdk_42_method_3_code (2 : Nat) (Option.none : Option Jvm.ClassFile.FieldType), Jvm.Cond.code ({ cls := "java/lang/String", name := "<init>", desc := "([CIILjava/lang/Void;)V" } : Jvm.MethodName) jdk_42_method_149_code (6 : Nat) (Option.none : Option Jvm.ClassFile.FieldType), Jvm.Cond.code ({ cls := "java/lang/Object", name := "<init>", desc := "()V" } : Jvm.MethodName) object_method_1_code (1 : Nat) (Option.none : Option Jvm.ClassFile.FieldType), Jvm.Cond.code ({ cls := "java/lang/StringUTF16", name := "compress", desc := "([CII)[B" } : Jvm.MethodName) jdk_52_method_16_code (6 : Nat) (Option.some (Jvm.ClassFile.FieldType.array Jvm.ClassFile.FieldType.byte)), Jvm.Cond.code ({ cls := "java/lang/StringUTF16", name := "compress", desc := "([CI[BII)I" } : Jvm.MethodName) jdk_52_method_21_code (7 : Nat) (Option.some Jvm.ClassFile.FieldType.int), Jvm.Cond.code ({ cls := "java/lang/StringUTF16", name := "coderFromArrayLen", desc := "([BI)B" } : Jvm.MethodName) jdk_52_method_15_code (2 : Nat) (Option.some Jvm.ClassFile.FieldType.byte), Jvm.Cond.code ({ cls := "com/example/basehome/basehome/internal/VariableProblems", name := "nameRefusal", desc := "(Ljava/lang/String;Ljava/lang/String;)Ljava/lang/IllegalArgumentException;" } : Jvm.MethodName) prog_11_method_7_code (2 : Nat) (Option.some (Jvm.ClassFile.FieldType.object "java/lang/IllegalArgumentException")), Jvm.Cond.code ({ cls := "java/lang/StringBuilder", name := "<init>", desc := "()V" } : Jvm.MethodName) jdk_67_method_1_code (1 : Nat) (Option.none : Option Jvm.ClassFile.FieldType), Jvm.Cond.code ({ cls := "java/lang/AbstractStringBuilder", name := "<init>", desc := "(I)V" } : Jvm.MethodName) jdk_68_method_2_code (2 : Nat) (Option.none : Option Jvm.ClassFile.FieldType), Jvm.Cond.code ({ cls := "java/lang/StringBuilder", name := "append", desc := "(Ljava/lang/String;)Ljava/lang/StringBuilder;" } : Jvm.MethodName) jdk_67_method_7_code (2 : Nat) (Option.some (Jvm.ClassFile.FieldType.object "java/lang/StringBuilder")), Jvm.Cond.code ({ cls := "java/lang/AbstractStringBuilder", name := "append", desc := "(Ljava/lang/String;)Ljava/lang/AbstractStringBuilder;" } : Jvm.MethodName) jdk_68_method_22_code (3 : Nat) (Option.some (Jvm.ClassFile.FieldType.object "java/lang/AbstractStringBuilder")), Jvm.Cond.code ({ cls := "java/lang/String", name := "length", desc := "()I" } : Jvm.MethodName) jdk_42_method_54_code (1 : Nat) (Option.some Jvm.ClassFile.FieldType.int), Jvm.Cond.code ({ cls := "java/lang/String", name := "coder", desc := "()B" } : Jvm.MethodName) jdk_42_method_152_code (1 : Nat) (Option.some Jvm.ClassFile.FieldType.byte), Jvm.Cond.code ({ cls := "java/lang/AbstractStringBuilder", name := "ensureCapacityInternal", desc := "(I)V" } : Jvm.MethodName) jdk_68_method_9_code (3 : Nat) (Option.none : Option Jvm.ClassFile.FieldType), Jvm.Cond.code ({ cls := "java/lang/AbstractStringBuilder", name := "putStringAt", desc := "(ILjava/lang/String;)V" } : Jvm.MethodName) jdk_68_method_73_code (3 : Nat) (Option.none : Option Jvm.ClassFile.FieldType), Jvm.Cond.code ({ cls := "java/lang/AbstractStringBuilder", name := "inflateIfNeededFor", desc := "(Ljava/lang/String;)V" } : Jvm.MethodName) jdk_68_method_71_code (2 : Nat) (Option.none : Option Jvm.ClassFile.FieldType), Jvm.Cond.code ({ cls := "java/lang/String", name := "getBytes", desc := "([BIB)V" } : Jvm.MethodName) jdk_42_method_147_code (4 : Nat) (Option.none : Option Jvm.ClassFile.FieldType), Jvm.Cond.code ({ cls := "java/lang/StringBuilder", name := "toString", desc := "()Ljava/lang/String;" } : Jvm.MethodName) jdk_67_method_42_code (1 : Nat) (Option.some (Jvm.ClassFile.FieldType.object "java/lang/String")), Jvm.Cond.code ({ cls := "java/lang/String", name := "<init>", desc := "(Ljava/lang/StringBuilder;)V" } : Jvm.MethodName) jdk_42_method_53_code (2 : Nat) (Option.none : Option Jvm.ClassFile.FieldType), Jvm.Cond.code ({ cls := "java/lang/String", name := "<init>", desc := "(Ljava/lang/AbstractStringBuilder;Ljava/lang/Void;)V" } : Jvm.MethodName) jdk_42_method_150_code (5 : Nat) (Option.none : Option Jvm.ClassFile.FieldType), Jvm.Cond.code ({ cls := "java/lang/AbstractStringBuilder", name := "getValue", desc := "()[B" } : Jvm.MethodName) jdk_68_method_64_code (1 : Nat) (Option.some (Jvm.ClassFile.FieldType.array Jvm.ClassFile.FieldType.byte)), Jvm.Cond.code ({ cls := "java/lang/StringBuilder", name := "length", desc := "()I" } : Jvm.MethodName) jdk_67_method_93_code (1 : Nat) (Option.some Jvm.ClassFile.FieldType.int), Jvm.Cond.code ({ cls := "java/lang/AbstractStringBuilder", name := "length", desc := "()I" } : Jvm.MethodName) jdk_68_method_6_code (1 : Nat) (Option.some Jvm.ClassFile.FieldType.int), Jvm.Cond.code ({ cls := "java/lang/AbstractStringBuilder", name := "isLatin1", desc := "()Z" } : Jvm.MethodName) jdk_68_method_68_code (1 : Nat) (Option.some Jvm.ClassFile.FieldType.boolean), Jvm.Cond.code ({ cls := "java/util/Arrays", name := "copyOfRange", desc := "([BII)[B" } : Jvm.MethodName) jdk_65_method_132_code (3 : Nat) (Option.some (Jvm.ClassFile.FieldType.array Jvm.ClassFile.FieldType.byte)), Jvm.Cond.code ({ cls := "java/lang/IllegalArgumentException", name := "<init>", desc := "(Ljava/lang/String;)V" } : Jvm.MethodName) jdk_57_method_2_code (2 : Nat) (Option.none : Option Jvm.ClassFile.FieldType), Jvm.Cond.code ({ cls := "java/lang/RuntimeException", name := "<init>", desc := "(Ljava/lang/String;)V" } : Jvm.MethodName) jdk_58_method_2_code (2 : Nat) (Option.none : Option Jvm.ClassFile.FieldType), Jvm.Cond.code ({ cls := "java/lang/Exception", name := "<init>", desc := "(Ljava/lang/String;)V" } : Jvm.MethodName) jdk_59_method_2_code (2 : Nat) (Option.none : Option Jvm.ClassFile.FieldType), Jvm.Cond.code ({ cls := "java/lang/Throwable", name := "<init>", desc := "(Ljava/lang/String;)V" } : Jvm.MethodName) jdk_78_method_2_code (2 : Nat) (Option.none : Option Jvm.ClassFile.FieldType), Jvm.Cond.code ({ cls := "java/lang/Throwable", name := "<init>", desc := "()V" } : Jvm.MethodName) jdk_78_method_1_code (1 : Nat) (Option.none : Option Jvm.ClassFile.FieldType), Jvm.Cond.code ({ cls := "java/lang/Throwable", name := "getMessage", desc := "()Ljava/lang/String;" } : Jvm.MethodName) jdk_78_method_6_code (1 : Nat) (Option.some (Jvm.ClassFile.FieldType.object "java/lang/String")), Jvm.Cond.code ({ cls := "java/lang/String", name := "equals", desc := "(Ljava/lang/Object;)Z" } : Jvm.MethodName) jdk_42_method_66_code (3 : Nat) (Option.some Jvm.ClassFile.FieldType.boolean), Jvm.Cond.code ({ cls := "java/lang/StringLatin1", name := "equals", desc := "([B[B)Z" } : Jvm.MethodName) jdk_43_method_13_code (3 : Nat) (Option.some Jvm.ClassFile.FieldType.boolean), Jvm.Cond.code ({ cls := "java/util/Arrays", name := "copyOfRangeByte", desc := "([BII)[B" } : Jvm.MethodName) jdk_65_method_133_code (5 : Nat) (Option.some (Jvm.ClassFile.FieldType.array Jvm.ClassFile.FieldType.byte)), Jvm.Cond.code ({ cls := "java/util/Arrays", name := "checkLength", desc := "(II)V" } : Jvm.MethodName) jdk_65_method_131_code (2 : Nat) (Option.none : Option Jvm.ClassFile.FieldType), Jvm.Cond.code ({ cls := "java/lang/Math", name := "min", desc := "(II)I" } : Jvm.MethodName) jdk_29_method_69_code (2 : Nat) (Option.some Jvm.ClassFile.FieldType.int)]
set_option maxRecDepth 65536 in
theorem codes_eq : words1.filter isCode = codes1 := rfl
theorem w_codes : ∀ c ∈ words1.filter isCode, c.before args0 about1 = true := by
  rw [codes_eq]
  intro c hc
  simp only [codes1, List.mem_cons, List.not_mem_nil, or_false] at hc
  rcases hc with rfl | rfl | rfl | rfl | rfl | rfl | rfl | rfl | rfl | rfl | rfl | rfl | rfl | rfl | rfl | rfl | rfl | rfl | rfl | rfl | rfl | rfl | rfl | rfl | rfl | rfl | rfl | rfl | rfl | rfl | rfl | rfl | rfl | rfl | rfl | rfl | rfl
  · exact w_c0
  · exact w_c1
  · exact w_c2
  · exact w_c3
  · exact w_c4
  · exact w_c5
  · exact w_c6
  · exact w_c7
  · exact w_c8
  · exact w_c9
  · exact w_c10
  · exact w_c11
  · exact w_c12
  · exact w_c13
  · exact w_c14
  · exact w_c15
  · exact w_c16
  · exact w_c17
  · exact w_c18
  · exact w_c19
  · exact w_c20
  · exact w_c21
  · exact w_c22
  · exact w_c23
  · exact w_c24
  · exact w_c25
  · exact w_c26
  · exact w_c27
  · exact w_c28
  · exact w_c29
  · exact w_c30
  · exact w_c31
  · exact w_c32
  · exact w_c33
  · exact w_c34
  · exact w_c35
  · exact w_c36
set_option maxRecDepth 65536 in
theorem w_t1 : (words1.take 24).all (fun c => isCode c || c.before args0 about1) = true := by decide +kernel
set_option maxRecDepth 65536 in
theorem w_t2 : ((words1.drop 24).take 24).all (fun c => isCode c || c.before args0 about1) = true := by decide +kernel
set_option maxRecDepth 65536 in
theorem w_t3 : (((words1.drop 24).drop 24).take 24).all (fun c => isCode c || c.before args0 about1) = true := by decide +kernel
set_option maxRecDepth 65536 in
theorem w_t4 : ((((words1.drop 24).drop 24).drop 24).take 24).all (fun c => isCode c || c.before args0 about1) = true := by decide +kernel
set_option maxRecDepth 65536 in
theorem w_t5 : (((((words1.drop 24).drop 24).drop 24).drop 24).take 24).all (fun c => isCode c || c.before args0 about1) = true := by decide +kernel
set_option maxRecDepth 65536 in
theorem w_t6 : ((((((words1.drop 24).drop 24).drop 24).drop 24).drop 24).take 24).all (fun c => isCode c || c.before args0 about1) = true := by decide +kernel
set_option maxRecDepth 65536 in
theorem w_t7 : (((((((words1.drop 24).drop 24).drop 24).drop 24).drop 24).drop 24).take 24).all (fun c => isCode c || c.before args0 about1) = true := by decide +kernel
set_option maxRecDepth 65536 in
theorem w_t8 : ((((((((words1.drop 24).drop 24).drop 24).drop 24).drop 24).drop 24).drop 24).take 24).all (fun c => isCode c || c.before args0 about1) = true := by decide +kernel
set_option maxRecDepth 65536 in
theorem w_t9 : (((((((((words1.drop 24).drop 24).drop 24).drop 24).drop 24).drop 24).drop 24).drop 24).take 24).all (fun c => isCode c || c.before args0 about1) = true := by decide +kernel
set_option maxRecDepth 65536 in
theorem w_t10 : (((((((((words1.drop 24).drop 24).drop 24).drop 24).drop 24).drop 24).drop 24).drop 24).drop 24).all (fun c => isCode c || c.before args0 about1) = true := by decide +kernel
theorem w_tables : (allAtoms (Jvm.Cond.code x code maxLocals ret :: tables_1)).before args0 about1 = true := by
  rw [allAtoms_all]
  show words1.all (fun c => c.before args0 about1) = true
  refine all_split ?_ w_codes
  rw [← List.take_append_drop 24 words1, List.all_append, w_t1, ← List.take_append_drop 24 (words1.drop 24), List.all_append, w_t2, ← List.take_append_drop 24 ((words1.drop 24).drop 24), List.all_append, w_t3, ← List.take_append_drop 24 (((words1.drop 24).drop 24).drop 24), List.all_append, w_t4, ← List.take_append_drop 24 ((((words1.drop 24).drop 24).drop 24).drop 24), List.all_append, w_t5, ← List.take_append_drop 24 (((((words1.drop 24).drop 24).drop 24).drop 24).drop 24), List.all_append, w_t6, ← List.take_append_drop 24 ((((((words1.drop 24).drop 24).drop 24).drop 24).drop 24).drop 24), List.all_append, w_t7, ← List.take_append_drop 24 (((((((words1.drop 24).drop 24).drop 24).drop 24).drop 24).drop 24).drop 24), List.all_append, w_t8, ← List.take_append_drop 24 ((((((((words1.drop 24).drop 24).drop 24).drop 24).drop 24).drop 24).drop 24).drop 24), List.all_append, w_t9, w_t10]
  rfl
set_option maxRecDepth 65536 in
theorem w_rest : rest_1_c.before args0 about1 = true := by decide +kernel
set_option maxRecDepth 65536 in
theorem w_case : (Jvm.Cond.and given_1 narrow_1).before args0 about1 = true := by decide +kernel
set_option maxRecDepth 65536 in
theorem w_consts : constsHeld consts_1 about1 := Jvm.Lit.constsHeldB_iff.mp (by decide +kernel)
theorem w_applies : (headSpec (Jvm.Cond.code x code maxLocals ret :: tables_1) room_1).applies x e0.platform about1 = true :=
  (Spec.applies_iff w_frames).mpr ⟨w_running, w_runnable, w_alone, w_named, w_hears, w_ripe, w_room, w_tables⟩
theorem atStart : AtStart classFile x code maxLocals ret World_1 tables_1 room_1 Calls_1 rest_1 Pre_1 launch0 p0 e0 about1 theMethod args0 below0 :=
  ⟨lists_1, trivial, launch0.admits_env _ _ _, launch0.least_env, fairChoices_fair.cas, fairChoices_fair.clock, w_frames, w_args, w_heap, w_applies, ⟨(by decide +kernel : framesKnown about1 = true), ⟨(by decide +kernel : tablesKnown about1 = true), ⟨w_consts, trivial⟩⟩⟩, w_rest, w_case⟩
end start1
theorem witness_1 : WitnessClaimed_1 := ⟨start1.p0, start1.e0, start1.about1, start1.theMethod, start1.args0, start1.below0, start1.atStart⟩
end Jvm.Pilot.@@N@@
