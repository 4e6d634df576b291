import JvmDerived
import JvmDerived.Pilot.@@N@@Statement
import JvmDerived.Pilot.@@N@@Code
set_option linter.unusedVariables false
set_option linter.unusedSimpArgs false
namespace Jvm.RoadKit
open Sem ClassFile Op Lib Jvm.Stand Jvm.Free Jvm.LawKit
section New
variable {p : Program} {l : Launch} {e : Env} {R : Room} {s : State} {m : MethodId} {args : Array Value} {below : List Frame} {meth : Method} {c : Code} {T : State} {locs : List Loc} {cells slots : Nat}
theorem retI (X : Stand p l e R s m args below meth c T locs cells slots) (hx : p.tables.exec = Jvm.exec) {pc : Nat} {Ls : Array Slot} {z : Int32} {rest : List Value} (hret : meth.sig.returnType = some .int) (hd : decode c.code pc = .ok (.ireturn, 1)) {fs : List Frame}
    (hl : ∀ (f : JFrame) (acts : List Action), f.method = m → f.locked = none → f.entered = [] → (doReturn e (T.setTop f) acts (some (.int z))).1 = T.setFrames fs) : Steps p.tables e below (T.setTop (mkF m pc Ls (.int z :: rest))) (T.setFrames fs) := by
  have hm' : T.vm.method? m = some meth := X.method'
  have hn : narrow .int (.int z) = .int z := rfl
  show Steps p.tables e below (T.setTop { method := m, pc := pc, locals := Ls, stack := _ :: rest, locked := none }) _
  jvm_step X.here [X.here.top, hx, hd, hm', hret, hn]
  first | (intro acts; rw [hl _ acts rfl rfl rfl]) | rw [hl _ _ rfl rfl rfl]
  exact Steps.refl _
theorem retL (X : Stand p l e R s m args below meth c T locs cells slots) (hx : p.tables.exec = Jvm.exec) {pc : Nat} {Ls : Array Slot} {z : Int64} {rest : List Value} (hret : meth.sig.returnType = some .long) (hd : decode c.code pc = .ok (.lreturn, 1)) {fs : List Frame}
    (hl : ∀ (f : JFrame) (acts : List Action), f.method = m → f.locked = none → f.entered = [] → (doReturn e (T.setTop f) acts (some (.long z))).1 = T.setFrames fs) : Steps p.tables e below (T.setTop (mkF m pc Ls (.long z :: rest))) (T.setFrames fs) := by
  have hm' : T.vm.method? m = some meth := X.method'
  have hn : narrow .long (.long z) = .long z := rfl
  show Steps p.tables e below (T.setTop { method := m, pc := pc, locals := Ls, stack := _ :: rest, locked := none }) _
  jvm_step X.here [X.here.top, hx, hd, hm', hret, hn]
  first | (intro acts; rw [hl _ acts rfl rfl rfl]) | rw [hl _ _ rfl rfl rfl]
  exact Steps.refl _
theorem retR (X : Stand p l e R s m args below meth c T locs cells slots) (hx : p.tables.exec = Jvm.exec) {pc : Nat} {Ls : Array Slot} {w : Value} {t : FieldType} {rest : List Value} (hret : meth.sig.returnType = some t) (hn : narrow t w = w) (ht : t.isReference = true) (hw : w.isRef = true) (hd : decode c.code pc = .ok (.areturn, 1)) {fs : List Frame}
    (hl : ∀ (f : JFrame) (acts : List Action), f.method = m → f.locked = none → f.entered = [] → (doReturn e (T.setTop f) acts (some w)).1 = T.setFrames fs) : Steps p.tables e below (T.setTop (mkF m pc Ls (w :: rest))) (T.setFrames fs) := by
  have hm' : T.vm.method? m = some meth := X.method'
  show Steps p.tables e below (T.setTop { method := m, pc := pc, locals := Ls, stack := _ :: rest, locked := none }) _
  jvm_step X.here [X.here.top, hx, hd, hm', hret, hn, hw]
  try (refine ⟨ht, ?_⟩)
  first | (intro acts; rw [hl _ acts rfl rfl rfl]) | rw [hl _ _ rfl rfl rfl]
  exact Steps.refl _
end New
end Jvm.RoadKit
namespace Jvm.Pilot.@@N@@
open Jvm Jvm.ClassFile Sem Op Lib Jvm.Free Jvm.Stand Jvm.LawKit Jvm.RoadKit Bundle Jvm.Pilot.@@N@@.Jvm.D
/-- what a walk of one body knows of its method, and how it ends -/
def Ctx (p : Program) (s : State) (m : MethodId) (meth : Method) (c : Code) (Z : State) (own : String) (bs : ByteArray) (ml : Nat) (ret : Option FieldType) (nm : String) (R : Room) (F : Outcome → State → List Loc → Prop) (B : Nat) : Prop :=
  p.tables.exec = Jvm.exec ∧ Z.Warmed39 s.vm ∧ s.vm.findClass own = some m.cls ∧ c.code = bs ∧ c.maxLocals = ml ∧ meth.sig.returnType = ret ∧ meth.name = nm ∧ meth.locks = false ∧
    ∀ (t : State) (v : Option Value) (L : List Loc) (k n : Nat), s.WarmedH t.vm → s.sameButNew ({ t with vm := s.vm } : State) L k n → B ≤ t.heap.size → k ≤ R.cells → n ≤ R.slots → F (.returned v) t L
/-- from the frame g, in any state that stands so with the heap h, the body runs to its end and leaves Q -/
def Go (p : Program) (l : Launch) (e : Env) (R : Room) (s : State) (m : MethodId) (args : Array Value) (below : List Frame) (meth : Method) (c : Code) (n0 : Nat) (Q : Option Value → Vm → Heap → Prop) (F : Outcome → State → List Loc → Prop) (B : Nat) (h : Heap) (k n : Nat) (g : JFrame) : Prop :=
  ∀ (T : State) (locs : List Loc), Stand p l e R s m args below meth c T locs k n → T.heap = h → Fr n0 locs → B ≤ h.size →
    ∃ s₂ o, Steps p.tables e below (T.setTop g) s₂ ∧ s₂.status = .running ∧ Ended s₂ below o ∧ ∃ v L, o = .returned v ∧ (Q v s₂.vm s₂.heap ∧ Fr n0 L) ∧ F o s₂ L
/-- who pays a call: what it asks and what it leaves -/
def Pays (l : Launch) (R : Room) (p : Program) (e : Env) (below : List Frame) (s : State) (args : Array Value) (y : MethodName) (len W : Nat) (as' : Array Value) (h : Heap) (kc nc : Nat) (Qc : Option Value → Heap → List Loc → Prop) : Prop :=
  Back l R p e below s args y len W (fun A a => a = as' ∧ A.U.heap = h ∧ A.cells + kc ≤ R.cells ∧ A.slots + nc ≤ R.slots)
    (fun A _ v B => ∃ L, Qc v B.U.heap L ∧ B.locs = A.locs ++ L ∧ B.cells = A.cells + kc ∧ B.slots = A.slots + nc)
/-- the same of a callee that may load String constants -/
def PaysW (l : Launch) (R : Room) (p : Program) (e : Env) (below : List Frame) (s : State) (vm0 : Vm) (args : Array Value) (y : MethodName) (len W : Nat) (as' : Array Value) (h : Heap) (kc nc : Nat) (Z : State) (EL : List (String × Nat)) (Qc : Option Value → Heap → List Loc → Prop) : Prop :=
  BackS l R p e below (s.setVm vm0) args y len W (fun A a => a = as' ∧ A.U.heap = h ∧ A.cells + kc ≤ R.cells ∧ A.slots + nc ≤ R.slots)
    (fun A _ v B => ∃ L, Qc v B.U.heap L ∧ B.locs = A.locs ++ L ∧ B.cells = A.cells + kc ∧ B.slots = A.slots + nc ∧ CHr Z EL vm0 h B.U.vm B.U.heap)
/-- a method's contract: at the heap h0, with these arguments, it returns and leaves Q; nothing below n0 is written -/
def Met (l : Launch) (Z : State) (ws : List Jvm.Cond) (y : MethodName) (bs : ByteArray) (ml : Nat) (ret : Option FieldType) (rm : Room) (as' : Array Value) (h0 : Heap) (n0 : Nat) (Q : Option Value → Heap → Prop) : Prop :=
  MetFree l y (head1 (Jvm.Cond.code y bs ml ret :: ws) rm) (fun a U => a = as' ∧ Z.Warmed39 U.vm ∧ U.heap = h0) (fun _ _ _ _ _ => True) (fun _ U o U' => ∃ v L, o = .returned v ∧ ((Q v U'.heap ∧ Fr n0 L) ∧ h0.size ≤ U'.heap.size) ∧ FrameEnd U o U' L rm.cells rm.slots)
/-- the same, where a stack trace is filled in beneath it -/
def MetK (l : Launch) (Z : State) (ws : List Jvm.Cond) (y : MethodName) (bs : ByteArray) (ml : Nat) (ret : Option FieldType) (rm : Room) (as' : Array Value) (h0 : Heap) (n0 : Nat) (Q : Option Value → Heap → Prop) : Prop :=
  MetFree l y (head1 (Jvm.Cond.code y bs ml ret :: ws) rm) (fun a U => a = as' ∧ Z.Warmed39 U.vm ∧ U.heap = h0) (fun _ _ bl s _ => s.vm.MethodsKnown ∧ s.vm.FramesKnown bl) (fun _ U o U' => ∃ v L, o = .returned v ∧ ((Q v U'.heap ∧ Fr n0 L) ∧ h0.size ≤ U'.heap.size) ∧ FrameEnd U o U' L rm.cells rm.slots)
/-- the same, where String constants may be loaded; EL: the constants that are read -/
def MetW (l : Launch) (Z : State) (ws : List Jvm.Cond) (EL : List (String × Nat)) (y : MethodName) (bs : ByteArray) (ml : Nat) (ret : Option FieldType) (rm : Room) (as' : Array Value) (h0 : Heap) (n0 : Nat) (Q : Option Value → Heap → Prop) : Prop :=
  MetFree l y (head1 (Jvm.Cond.code y bs ml ret :: ws) rm) (fun a U => a = as' ∧ Z.Warmed39 U.vm ∧ U.heap = h0 ∧ CHv Z EL U.vm h0) (fun _ _ _ _ _ => True) (fun _ U o U' => ∃ v L, o = .returned v ∧ ((Q v U'.heap ∧ Fr n0 L) ∧ h0.size ≤ U'.heap.size) ∧ CHr Z EL U.vm U.heap U'.vm U'.heap ∧ ReturnedEndW U o U' L rm.cells rm.slots)
/-- both -/
def MetWK (l : Launch) (Z : State) (ws : List Jvm.Cond) (EL : List (String × Nat)) (y : MethodName) (bs : ByteArray) (ml : Nat) (ret : Option FieldType) (rm : Room) (as' : Array Value) (h0 : Heap) (n0 : Nat) (Q : Option Value → Heap → Prop) : Prop :=
  MetFree l y (head1 (Jvm.Cond.code y bs ml ret :: ws) rm) (fun a U => a = as' ∧ Z.Warmed39 U.vm ∧ U.heap = h0 ∧ CHv Z EL U.vm h0) (fun _ _ bl s _ => s.vm.MethodsKnown ∧ s.vm.FramesKnown bl) (fun _ U o U' => ∃ v L, o = .returned v ∧ ((Q v U'.heap ∧ Fr n0 L) ∧ h0.size ≤ U'.heap.size) ∧ CHr Z EL U.vm U.heap U'.vm U'.heap ∧ ReturnedEndW U o U' L rm.cells rm.slots)
section GoKit
variable {p : Program} {l : Launch} {e : Env} {R : Room} {s : State} {m : MethodId} {args : Array Value} {below : List Frame} {meth : Method} {c : Code} {n0 : Nat} {Q : Option Value → Vm → Heap → Prop} {F : Outcome → State → List Loc → Prop} {B : Nat} {h : Heap} {k n : Nat}
variable {Z : State} {own : String} {bs : ByteArray} {ml : Nat} {ret : Option FieldType} {nm : String} {a0 : Array Value}
variable {pc pc' : Nat} {Ls Ls' : Array Slot} {st rest : List Value}
theorem Ctx.cx (K : Ctx p s m meth c Z own bs ml ret nm R F B) : p.tables.exec = Jvm.exec := K.1
theorem Ctx.cz (K : Ctx p s m meth c Z own bs ml ret nm R F B) : Z.Warmed39 s.vm := K.2.1
theorem Ctx.co (K : Ctx p s m meth c Z own bs ml ret nm R F B) : s.vm.findClass own = some m.cls := K.2.2.1
theorem Ctx.cb (K : Ctx p s m meth c Z own bs ml ret nm R F B) : c.code = bs := K.2.2.2.1
theorem Ctx.cl (K : Ctx p s m meth c Z own bs ml ret nm R F B) : c.maxLocals = ml := K.2.2.2.2.1
theorem Ctx.cr (K : Ctx p s m meth c Z own bs ml ret nm R F B) : meth.sig.returnType = ret := K.2.2.2.2.2.1
theorem Ctx.cn (K : Ctx p s m meth c Z own bs ml ret nm R F B) : meth.name = nm := K.2.2.2.2.2.2.1
theorem Ctx.ck (K : Ctx p s m meth c Z own bs ml ret nm R F B) : meth.locks = false := K.2.2.2.2.2.2.2.1
theorem Ctx.ce (K : Ctx p s m meth c Z own bs ml ret nm R F B) : ∀ (t : State) (v : Option Value) (L : List Loc) (k n : Nat), s.WarmedH t.vm → s.sameButNew ({ t with vm := s.vm } : State) L k n → B ≤ t.heap.size → k ≤ R.cells → n ≤ R.slots → F (.returned v) t L := K.2.2.2.2.2.2.2.2
/-- a step that leaves heap and counts alone -/
theorem Go.by {g g' : JFrame} (H : Go p l e R s m args below meth c n0 Q F B h k n g')
    (q : ∀ (T : State) (locs : List Loc), Stand p l e R s m args below meth c T locs k n → T.heap = h → ∀ t, Steps p.tables e below (T.setTop g') t → Steps p.tables e below (T.setTop g) t) : Go p l e R s m args below meth c n0 Q F B h k n g :=
  fun T locs X eT N hB => by
    obtain ⟨s₂, o, a, b⟩ := H T locs X eT N hB
    exact ⟨s₂, o, q T locs X eT _ a, b⟩
theorem Go.iload (K : Ctx p s m meth c Z own bs ml ret nm R F B) {j : Nat} {v : Int32} (hd : decode bs pc = .ok (.iload j, 2)) (hl : Ls[j]? = some (.val (.int v))) (hp : pc + 2 = pc') (H : Go p l e R s m args below meth c n0 Q F B h k n (mkF m pc' Ls (.int v :: st))) : Go p l e R s m args below meth c n0 Q F B h k n (mkF m pc Ls st) := by
  subst hp
  exact H.by fun T _ X _ t q => XS.iload X.here K.cx rfl (hb K.cb hd) hl q
theorem Go.iloadN (K : Ctx p s m meth c Z own bs ml ret nm R F B) {j : Fin 4} {v : Int32} (hd : decode bs pc = .ok (.iload_n j, 1)) (hl : Ls[j.val]? = some (.val (.int v))) (hp : pc + 1 = pc') (H : Go p l e R s m args below meth c n0 Q F B h k n (mkF m pc' Ls (.int v :: st))) : Go p l e R s m args below meth c n0 Q F B h k n (mkF m pc Ls st) := by
  subst hp
  exact H.by fun T _ X _ t q => XS.iloadN X.here K.cx rfl (hb K.cb hd) hl q
theorem Go.lload (K : Ctx p s m meth c Z own bs ml ret nm R F B) {j : Nat} {v : Int64} (hd : decode bs pc = .ok (.lload j, 2)) (hl : Ls[j]? = some (.val (.long v))) (hp : pc + 2 = pc') (H : Go p l e R s m args below meth c n0 Q F B h k n (mkF m pc' Ls (.long v :: st))) : Go p l e R s m args below meth c n0 Q F B h k n (mkF m pc Ls st) := by
  subst hp
  exact H.by fun T _ X _ t q => XS.lload X.here K.cx rfl (hb K.cb hd) hl q
theorem Go.lloadN (K : Ctx p s m meth c Z own bs ml ret nm R F B) {j : Fin 4} {v : Int64} (hd : decode bs pc = .ok (.lload_n j, 1)) (hl : Ls[j.val]? = some (.val (.long v))) (hp : pc + 1 = pc') (H : Go p l e R s m args below meth c n0 Q F B h k n (mkF m pc' Ls (.long v :: st))) : Go p l e R s m args below meth c n0 Q F B h k n (mkF m pc Ls st) := by
  subst hp
  exact H.by fun T _ X _ t q => XS.lloadN X.here K.cx rfl (hb K.cb hd) hl q
theorem Go.aload (K : Ctx p s m meth c Z own bs ml ret nm R F B) {j : Nat} {v : Value} (hd : decode bs pc = .ok (.aload j, 2)) (hl : Ls[j]? = some (.val v)) (hv : v.isRef = true) (hp : pc + 2 = pc') (H : Go p l e R s m args below meth c n0 Q F B h k n (mkF m pc' Ls (v :: st))) : Go p l e R s m args below meth c n0 Q F B h k n (mkF m pc Ls st) := by
  subst hp
  exact H.by fun T _ X _ t q => XS.aload X.here K.cx rfl (hb K.cb hd) hl hv q
theorem Go.aloadN (K : Ctx p s m meth c Z own bs ml ret nm R F B) {j : Fin 4} {v : Value} (hd : decode bs pc = .ok (.aload_n j, 1)) (hl : Ls[j.val]? = some (.val v)) (hv : v.isRef = true) (hp : pc + 1 = pc') (H : Go p l e R s m args below meth c n0 Q F B h k n (mkF m pc' Ls (v :: st))) : Go p l e R s m args below meth c n0 Q F B h k n (mkF m pc Ls st) := by
  subst hp
  exact H.by fun T _ X _ t q => XS.aloadN X.here K.cx rfl (hb K.cb hd) hl hv q
theorem Go.istore (K : Ctx p s m meth c Z own bs ml ret nm R F B) {j : Nat} {v : Int32} (hd : decode bs pc = .ok (.istore j, 2)) (hl : storeLocals Ls j (.int v) = some Ls') (hp : pc + 2 = pc') (H : Go p l e R s m args below meth c n0 Q F B h k n (mkF m pc' Ls' st)) : Go p l e R s m args below meth c n0 Q F B h k n (mkF m pc Ls (.int v :: st)) := by
  subst hp
  exact H.by fun T _ X _ t q => XS.istore X.here K.cx rfl (hb K.cb hd) rfl hl q
theorem Go.istoreN (K : Ctx p s m meth c Z own bs ml ret nm R F B) {j : Fin 4} {v : Int32} (hd : decode bs pc = .ok (.istore_n j, 1)) (hl : storeLocals Ls j.val (.int v) = some Ls') (hp : pc + 1 = pc') (H : Go p l e R s m args below meth c n0 Q F B h k n (mkF m pc' Ls' st)) : Go p l e R s m args below meth c n0 Q F B h k n (mkF m pc Ls (.int v :: st)) := by
  subst hp
  exact H.by fun T _ X _ t q => XS.istoreN X.here K.cx rfl (hb K.cb hd) rfl hl q
theorem Go.astore (K : Ctx p s m meth c Z own bs ml ret nm R F B) {j : Nat} {v : Value} (hd : decode bs pc = .ok (.astore j, 2)) (hv : v.isRef = true) (hl : storeLocals Ls j v = some Ls') (hp : pc + 2 = pc') (H : Go p l e R s m args below meth c n0 Q F B h k n (mkF m pc' Ls' st)) : Go p l e R s m args below meth c n0 Q F B h k n (mkF m pc Ls (v :: st)) := by
  subst hp
  exact H.by fun T _ X _ t q => XS.astore X.here K.cx rfl (hb K.cb hd) rfl hv hl q
theorem Go.astoreN (K : Ctx p s m meth c Z own bs ml ret nm R F B) {j : Fin 4} {v : Value} (hd : decode bs pc = .ok (.astore_n j, 1)) (hv : v.isRef = true) (hl : storeLocals Ls j.val v = some Ls') (hp : pc + 1 = pc') (H : Go p l e R s m args below meth c n0 Q F B h k n (mkF m pc' Ls' st)) : Go p l e R s m args below meth c n0 Q F B h k n (mkF m pc Ls (v :: st)) := by
  subst hp
  exact H.by fun T _ X _ t q => XS.astoreN X.here K.cx rfl (hb K.cb hd) rfl hv hl q
theorem Go.iconst (K : Ctx p s m meth c Z own bs ml ret nm R F B) {i : Int} {v : Int32} (hd : decode bs pc = .ok (.iconst i, 1)) (hv : Int32.ofInt i = v) (hp : pc + 1 = pc') (H : Go p l e R s m args below meth c n0 Q F B h k n (mkF m pc' Ls (.int v :: st))) : Go p l e R s m args below meth c n0 Q F B h k n (mkF m pc Ls st) := by
  subst hp hv
  exact H.by fun T _ X _ t q => XS.iconst X.here K.cx rfl (hb K.cb hd) q
theorem Go.bipush (K : Ctx p s m meth c Z own bs ml ret nm R F B) {i : Int} {v : Int32} (hd : decode bs pc = .ok (.bipush i, 2)) (hv : (Int8.ofInt i).toInt32 = v) (hp : pc + 2 = pc') (H : Go p l e R s m args below meth c n0 Q F B h k n (mkF m pc' Ls (.int v :: st))) : Go p l e R s m args below meth c n0 Q F B h k n (mkF m pc Ls st) := by
  subst hp hv
  exact H.by fun T _ X _ t q => XS.bipush X.here K.cx rfl (hb K.cb hd) q
theorem Go.sipush (K : Ctx p s m meth c Z own bs ml ret nm R F B) {i : Int} {v : Int32} (hd : decode bs pc = .ok (.sipush i, 3)) (hv : (Int16.ofInt i).toInt32 = v) (hp : pc + 3 = pc') (H : Go p l e R s m args below meth c n0 Q F B h k n (mkF m pc' Ls (.int v :: st))) : Go p l e R s m args below meth c n0 Q F B h k n (mkF m pc Ls st) := by
  subst hp hv
  exact H.by fun T _ X _ t q => XS.sipush X.here K.cx rfl (hb K.cb hd) q
theorem Go.aconstNull (K : Ctx p s m meth c Z own bs ml ret nm R F B) (hd : decode bs pc = .ok (.aconst_null, 1)) (hp : pc + 1 = pc') (H : Go p l e R s m args below meth c n0 Q F B h k n (mkF m pc' Ls (.null :: st))) : Go p l e R s m args below meth c n0 Q F B h k n (mkF m pc Ls st) := by
  subst hp
  exact H.by fun T _ X _ t q => XS.aconstNull X.here K.cx rfl (hb K.cb hd) q
theorem Go.lconst (K : Ctx p s m meth c Z own bs ml ret nm R F B) {j : Fin 2} {v : Int64} (hd : decode bs pc = .ok (.lconst j, 1)) (hv : Int64.ofNat j = v) (hp : pc + 1 = pc') (H : Go p l e R s m args below meth c n0 Q F B h k n (mkF m pc' Ls (.long v :: st))) : Go p l e R s m args below meth c n0 Q F B h k n (mkF m pc Ls st) := by
  subst hp hv
  exact H.by fun T _ X _ t q => XS.lconst X.here K.cx rfl (hb K.cb hd) q
theorem Go.ldcInt (K : Ctx p s m meth c Z own bs ml ret nm R F B) {j : Nat} {v : Int32} (w : (Jvm.Cond.constant own j v).before args s = true) (hd : decode bs pc = .ok (.ldc j, 2)) (hp : pc + 2 = pc') (H : Go p l e R s m args below meth c n0 Q F B h k n (mkF m pc' Ls (.int v :: st))) : Go p l e R s m args below meth c n0 Q F B h k n (mkF m pc Ls st) := by
  subst hp
  exact H.by fun T _ X _ t q => X.ldcInt K.cx K.co w (g := mkF m pc Ls st) rfl (hb K.cb hd) t q
theorem Go.ldcLong (K : Ctx p s m meth c Z own bs ml ret nm R F B) {j : Nat} {v : Int64} (w : (Jvm.Cond.constantLong own j v).before args s = true) (hd : decode bs pc = .ok (.ldc2_w j, 3)) (hp : pc + 3 = pc') (H : Go p l e R s m args below meth c n0 Q F B h k n (mkF m pc' Ls (.long v :: st))) : Go p l e R s m args below meth c n0 Q F B h k n (mkF m pc Ls st) := by
  subst hp
  exact H.by fun T _ X _ t q => X.ldc2Long K.cx K.co w (g := mkF m pc Ls st) rfl (hb K.cb hd) t q
theorem Go.ldcR (K : Ctx p s m meth c Z own bs ml ret nm R F B) {j : Nat} {a : Addr} {text : String} (w : (Jvm.Cond.stringRef own j text).before a0 Z = true) (L : Lit Z own j a) (hd : decode bs pc = .ok (.ldc j, 2)) (hp : pc + 2 = pc') (H : Go p l e R s m args below meth c n0 Q F B h k n (mkF m pc' Ls (.ref a :: st))) : Go p l e R s m args below meth c n0 Q F B h k n (mkF m pc Ls st) := by
  subst hp
  exact H.by fun T _ X _ t q => Jvm.RoadKit.ldcR X K.cx K.cz K.co w L (g := mkF m pc Ls st) rfl (hb K.cb hd) t q
theorem Go.iadd (K : Ctx p s m meth c Z own bs ml ret nm R F B) {x y : Int32} (hd : decode bs pc = .ok (.iadd, 1)) (hp : pc + 1 = pc') (H : Go p l e R s m args below meth c n0 Q F B h k n (mkF m pc' Ls (.int (x + y) :: st))) : Go p l e R s m args below meth c n0 Q F B h k n (mkF m pc Ls (.int y :: .int x :: st)) := by
  subst hp
  exact H.by fun T _ X _ t q => XS.iadd X.here K.cx rfl (hb K.cb hd) rfl q
theorem Go.isub (K : Ctx p s m meth c Z own bs ml ret nm R F B) {x y : Int32} (hd : decode bs pc = .ok (.isub, 1)) (hp : pc + 1 = pc') (H : Go p l e R s m args below meth c n0 Q F B h k n (mkF m pc' Ls (.int (x - y) :: st))) : Go p l e R s m args below meth c n0 Q F B h k n (mkF m pc Ls (.int y :: .int x :: st)) := by
  subst hp
  exact H.by fun T _ X _ t q => XS.isub X.here K.cx rfl (hb K.cb hd) rfl q
theorem Go.imul (K : Ctx p s m meth c Z own bs ml ret nm R F B) {x y : Int32} (hd : decode bs pc = .ok (.imul, 1)) (hp : pc + 1 = pc') (H : Go p l e R s m args below meth c n0 Q F B h k n (mkF m pc' Ls (.int (x * y) :: st))) : Go p l e R s m args below meth c n0 Q F B h k n (mkF m pc Ls (.int y :: .int x :: st)) := by
  subst hp
  exact H.by fun T _ X _ t q => XS.imul X.here K.cx rfl (hb K.cb hd) rfl q
theorem Go.iand (K : Ctx p s m meth c Z own bs ml ret nm R F B) {x y : Int32} (hd : decode bs pc = .ok (.iand, 1)) (hp : pc + 1 = pc') (H : Go p l e R s m args below meth c n0 Q F B h k n (mkF m pc' Ls (.int (x &&& y) :: st))) : Go p l e R s m args below meth c n0 Q F B h k n (mkF m pc Ls (.int y :: .int x :: st)) := by
  subst hp
  exact H.by fun T _ X _ t q => XS.iand X.here K.cx rfl (hb K.cb hd) rfl q
theorem Go.ior (K : Ctx p s m meth c Z own bs ml ret nm R F B) {x y : Int32} (hd : decode bs pc = .ok (.ior, 1)) (hp : pc + 1 = pc') (H : Go p l e R s m args below meth c n0 Q F B h k n (mkF m pc' Ls (.int (x ||| y) :: st))) : Go p l e R s m args below meth c n0 Q F B h k n (mkF m pc Ls (.int y :: .int x :: st)) := by
  subst hp
  exact H.by fun T _ X _ t q => XS.ior X.here K.cx rfl (hb K.cb hd) rfl q
theorem Go.ixor (K : Ctx p s m meth c Z own bs ml ret nm R F B) {x y : Int32} (hd : decode bs pc = .ok (.ixor, 1)) (hp : pc + 1 = pc') (H : Go p l e R s m args below meth c n0 Q F B h k n (mkF m pc' Ls (.int (x ^^^ y) :: st))) : Go p l e R s m args below meth c n0 Q F B h k n (mkF m pc Ls (.int y :: .int x :: st)) := by
  subst hp
  exact H.by fun T _ X _ t q => XS.ixor X.here K.cx rfl (hb K.cb hd) rfl q
theorem Go.ishl (K : Ctx p s m meth c Z own bs ml ret nm R F B) {x y : Int32} (hd : decode bs pc = .ok (.ishl, 1)) (hp : pc + 1 = pc') (H : Go p l e R s m args below meth c n0 Q F B h k n (mkF m pc' Ls (.int (x <<< (y &&& 31)) :: st))) : Go p l e R s m args below meth c n0 Q F B h k n (mkF m pc Ls (.int y :: .int x :: st)) := by
  subst hp
  exact H.by fun T _ X _ t q => XS.ishl X.here K.cx rfl (hb K.cb hd) rfl q
theorem Go.ishr (K : Ctx p s m meth c Z own bs ml ret nm R F B) {x y : Int32} (hd : decode bs pc = .ok (.ishr, 1)) (hp : pc + 1 = pc') (H : Go p l e R s m args below meth c n0 Q F B h k n (mkF m pc' Ls (.int (x >>> (y &&& 31)) :: st))) : Go p l e R s m args below meth c n0 Q F B h k n (mkF m pc Ls (.int y :: .int x :: st)) := by
  subst hp
  exact H.by fun T _ X _ t q => XS.ishr X.here K.cx rfl (hb K.cb hd) rfl q
theorem Go.iushr (K : Ctx p s m meth c Z own bs ml ret nm R F B) {x y : Int32} (hd : decode bs pc = .ok (.iushr, 1)) (hp : pc + 1 = pc') (H : Go p l e R s m args below meth c n0 Q F B h k n (mkF m pc' Ls (.int ((x.toUInt32 >>> (y &&& 31).toUInt32).toInt32) :: st))) : Go p l e R s m args below meth c n0 Q F B h k n (mkF m pc Ls (.int y :: .int x :: st)) := by
  subst hp
  exact H.by fun T _ X _ t q => XS.iushr X.here K.cx rfl (hb K.cb hd) rfl q
theorem Go.idiv (K : Ctx p s m meth c Z own bs ml ret nm R F B) {x y : Int32} (hd : decode bs pc = .ok (.idiv, 1)) (hy : y ≠ 0) (hp : pc + 1 = pc') (H : Go p l e R s m args below meth c n0 Q F B h k n (mkF m pc' Ls (.int (x / y) :: st))) : Go p l e R s m args below meth c n0 Q F B h k n (mkF m pc Ls (.int y :: .int x :: st)) := by
  subst hp
  exact H.by fun T _ X _ t q => XS.idiv X.here K.cx rfl (hb K.cb hd) rfl hy q
theorem Go.irem (K : Ctx p s m meth c Z own bs ml ret nm R F B) {x y : Int32} (hd : decode bs pc = .ok (.irem, 1)) (hy : y ≠ 0) (hp : pc + 1 = pc') (H : Go p l e R s m args below meth c n0 Q F B h k n (mkF m pc' Ls (.int (x % y) :: st))) : Go p l e R s m args below meth c n0 Q F B h k n (mkF m pc Ls (.int y :: .int x :: st)) := by
  subst hp
  exact H.by fun T _ X _ t q => iremM X K.cx rfl (hb K.cb hd) rfl hy q
theorem Go.ladd (K : Ctx p s m meth c Z own bs ml ret nm R F B) {x y : Int64} (hd : decode bs pc = .ok (.ladd, 1)) (hp : pc + 1 = pc') (H : Go p l e R s m args below meth c n0 Q F B h k n (mkF m pc' Ls (.long (x + y) :: st))) : Go p l e R s m args below meth c n0 Q F B h k n (mkF m pc Ls (.long y :: .long x :: st)) := by
  subst hp
  exact H.by fun T _ X _ t q => XS.ladd X.here K.cx rfl (hb K.cb hd) rfl q
theorem Go.lsub (K : Ctx p s m meth c Z own bs ml ret nm R F B) {x y : Int64} (hd : decode bs pc = .ok (.lsub, 1)) (hp : pc + 1 = pc') (H : Go p l e R s m args below meth c n0 Q F B h k n (mkF m pc' Ls (.long (x - y) :: st))) : Go p l e R s m args below meth c n0 Q F B h k n (mkF m pc Ls (.long y :: .long x :: st)) := by
  subst hp
  exact H.by fun T _ X _ t q => XS.lsub X.here K.cx rfl (hb K.cb hd) rfl q
theorem Go.land (K : Ctx p s m meth c Z own bs ml ret nm R F B) {x y : Int64} (hd : decode bs pc = .ok (.land, 1)) (hp : pc + 1 = pc') (H : Go p l e R s m args below meth c n0 Q F B h k n (mkF m pc' Ls (.long (x &&& y) :: st))) : Go p l e R s m args below meth c n0 Q F B h k n (mkF m pc Ls (.long y :: .long x :: st)) := by
  subst hp
  exact H.by fun T _ X _ t q => XS.land X.here K.cx rfl (hb K.cb hd) rfl q
theorem Go.lor (K : Ctx p s m meth c Z own bs ml ret nm R F B) {x y : Int64} (hd : decode bs pc = .ok (.lor, 1)) (hp : pc + 1 = pc') (H : Go p l e R s m args below meth c n0 Q F B h k n (mkF m pc' Ls (.long (x ||| y) :: st))) : Go p l e R s m args below meth c n0 Q F B h k n (mkF m pc Ls (.long y :: .long x :: st)) := by
  subst hp
  exact H.by fun T _ X _ t q => XS.lor X.here K.cx rfl (hb K.cb hd) rfl q
theorem Go.lcmp (K : Ctx p s m meth c Z own bs ml ret nm R F B) {x y : Int64} (hd : decode bs pc = .ok (.lcmp, 1)) (hp : pc + 1 = pc') (H : Go p l e R s m args below meth c n0 Q F B h k n (mkF m pc' Ls (.int (lcmpW x y) :: st))) : Go p l e R s m args below meth c n0 Q F B h k n (mkF m pc Ls (.long y :: .long x :: st)) := by
  subst hp
  exact H.by fun T _ X _ t q => XS.lcmp X.here K.cx rfl (hb K.cb hd) rfl q
theorem Go.i2c (K : Ctx p s m meth c Z own bs ml ret nm R F B) {x : Int32} (hd : decode bs pc = .ok (.i2c, 1)) (hp : pc + 1 = pc') (H : Go p l e R s m args below meth c n0 Q F B h k n (mkF m pc' Ls (.int (x.toUInt32.toUInt16.toUInt32.toInt32) :: st))) : Go p l e R s m args below meth c n0 Q F B h k n (mkF m pc Ls (.int x :: st)) := by
  subst hp
  exact H.by fun T _ X _ t q => XS.i2c X.here K.cx rfl (hb K.cb hd) rfl q
theorem Go.i2b (K : Ctx p s m meth c Z own bs ml ret nm R F B) {x : Int32} (hd : decode bs pc = .ok (.i2b, 1)) (hp : pc + 1 = pc') (H : Go p l e R s m args below meth c n0 Q F B h k n (mkF m pc' Ls (.int (x.toInt8.toInt32) :: st))) : Go p l e R s m args below meth c n0 Q F B h k n (mkF m pc Ls (.int x :: st)) := by
  subst hp
  exact H.by fun T _ X _ t q => XS.i2b X.here K.cx rfl (hb K.cb hd) rfl q
theorem Go.i2l (K : Ctx p s m meth c Z own bs ml ret nm R F B) {x : Int32} (hd : decode bs pc = .ok (.i2l, 1)) (hp : pc + 1 = pc') (H : Go p l e R s m args below meth c n0 Q F B h k n (mkF m pc' Ls (.long (x.toInt64) :: st))) : Go p l e R s m args below meth c n0 Q F B h k n (mkF m pc Ls (.int x :: st)) := by
  subst hp
  exact H.by fun T _ X _ t q => XS.i2l X.here K.cx rfl (hb K.cb hd) rfl q
theorem Go.ineg (K : Ctx p s m meth c Z own bs ml ret nm R F B) {x : Int32} (hd : decode bs pc = .ok (.ineg, 1)) (hp : pc + 1 = pc') (H : Go p l e R s m args below meth c n0 Q F B h k n (mkF m pc' Ls (.int (-x) :: st))) : Go p l e R s m args below meth c n0 Q F B h k n (mkF m pc Ls (.int x :: st)) := by
  subst hp
  exact H.by fun T _ X _ t q => XS.ineg X.here K.cx rfl (hb K.cb hd) rfl q
theorem Go.dup (K : Ctx p s m meth c Z own bs ml ret nm R F B) {v : Value} (hd : decode bs pc = .ok (.dup, 1)) (hc : v.category = 1) (hp : pc + 1 = pc') (H : Go p l e R s m args below meth c n0 Q F B h k n (mkF m pc' Ls (v :: v :: st))) : Go p l e R s m args below meth c n0 Q F B h k n (mkF m pc Ls (v :: st)) := by
  subst hp
  exact H.by fun T _ X _ t q => XS.dup X.here K.cx rfl (hb K.cb hd) rfl hc q
theorem Go.pop (K : Ctx p s m meth c Z own bs ml ret nm R F B) {v : Value} (hd : decode bs pc = .ok (.pop, 1)) (hc : v.category = 1) (hp : pc + 1 = pc') (H : Go p l e R s m args below meth c n0 Q F B h k n (mkF m pc' Ls st)) : Go p l e R s m args below meth c n0 Q F B h k n (mkF m pc Ls (v :: st)) := by
  subst hp
  exact H.by fun T _ X _ t q => XS.pop X.here K.cx rfl (hb K.cb hd) rfl hc q
theorem Go.iinc (K : Ctx p s m meth c Z own bs ml ret nm R F B) {j : Nat} {cst : Int} {x : Int32} (hd : decode bs pc = .ok (.iinc j cst, 3)) (hl : Ls[j]? = some (.val (.int x))) (hl' : storeLocals Ls j (.int (x + Int32.ofInt cst)) = some Ls') (hp : pc + 3 = pc') (H : Go p l e R s m args below meth c n0 Q F B h k n (mkF m pc' Ls' st)) : Go p l e R s m args below meth c n0 Q F B h k n (mkF m pc Ls st) := by
  subst hp
  exact H.by fun T _ X _ t q => XS.iinc X.here K.cx rfl (hb K.cb hd) hl hl' q
theorem Go.goto (K : Ctx p s m meth c Z own bs ml ret nm R F B) {o : Int} (hd : decode bs pc = .ok (.goto o, 3)) (ho : 0 ≤ (pc : Int) + o) (hp : ((pc : Int) + o).toNat = pc') (H : Go p l e R s m args below meth c n0 Q F B h k n (mkF m pc' Ls st)) : Go p l e R s m args below meth c n0 Q F B h k n (mkF m pc Ls st) :=
  H.by fun T _ X _ t q => XS.goto X.here K.cx rfl rfl (hb K.cb hd) ho hp q
/-- a comparison as a proposition -/
def CmpP : ClassFile.Cond → Int32 → Int32 → Prop
  | .eq, x, y => x = y
  | .ne, x, y => ¬ x = y
  | .lt, x, y => x < y
  | .ge, x, y => ¬ x < y
  | .gt, x, y => y < x
  | .le, x, y => ¬ y < x
theorem cmp_holds (cd : ClassFile.Cond) (x y : Int32) : (if_icmp.holds cd x y = true → CmpP cd x y) ∧ (if_icmp.holds cd x y = false → ¬ CmpP cd x y) := by
  cases cd <;> simp only [CmpP]
  · by_cases h : x = y
    · exact ⟨fun _ => h, fun q => (by rw [(teq h).1] at q; cases q)⟩
    · exact ⟨fun q => (by rw [(feq h).1] at q; cases q), fun _ => h⟩
  · by_cases h : x = y
    · exact ⟨fun q => (by rw [(teq h).2] at q; cases q), fun _ q => q h⟩
    · exact ⟨fun _ => h, fun q => (by rw [(feq h).2] at q; cases q)⟩
  · by_cases h : x < y
    · exact ⟨fun _ => h, fun q => (by rw [(tlt h).1] at q; cases q)⟩
    · exact ⟨fun q => (by rw [(flt h).1] at q; cases q), fun _ => h⟩
  · by_cases h : x < y
    · exact ⟨fun q => (by rw [(tlt h).2.1] at q; cases q), fun _ q => q h⟩
    · exact ⟨fun _ => h, fun q => (by rw [(flt h).2.1] at q; cases q)⟩
  · by_cases h : y < x
    · exact ⟨fun _ => h, fun q => (by rw [(tlt h).2.2.1] at q; cases q)⟩
    · exact ⟨fun q => (by rw [(flt h).2.2.1] at q; cases q), fun _ => h⟩
  · by_cases h : y < x
    · exact ⟨fun q => (by rw [(tlt h).2.2.2] at q; cases q), fun _ q => q h⟩
    · exact ⟨fun _ => h, fun q => (by rw [(flt h).2.2.2] at q; cases q)⟩
theorem Go.icmp (K : Ctx p s m meth c Z own bs ml ret nm R F B) {cd : ClassFile.Cond} {x y : Int32} {o : Int} {pcT pcF : Nat} (hd : decode bs pc = .ok (.if_icmp cd o, 3)) (ho : 0 ≤ (pc : Int) + o) (hT : ((pc : Int) + o).toNat = pcT) (hF : pc + 3 = pcF)
    (HT : CmpP cd x y → Go p l e R s m args below meth c n0 Q F B h k n (mkF m pcT Ls st)) (HF : ¬ CmpP cd x y → Go p l e R s m args below meth c n0 Q F B h k n (mkF m pcF Ls st)) : Go p l e R s m args below meth c n0 Q F B h k n (mkF m pc Ls (.int y :: .int x :: st)) := by
  subst hF
  cases q : if_icmp.holds cd x y with
  | true => exact (HT ((cmp_holds cd x y).1 q)).by fun T _ X _ t r => XS.icmpYes X.here K.cx rfl rfl (hb K.cb hd) rfl q ho hT r
  | false => exact (HF ((cmp_holds cd x y).2 q)).by fun T _ X _ t r => XS.icmpNo X.here K.cx rfl (hb K.cb hd) rfl q r
theorem Go.ifc (K : Ctx p s m meth c Z own bs ml ret nm R F B) {cd : ClassFile.Cond} {x : Int32} {o : Int} {pcT pcF : Nat} (hd : decode bs pc = .ok (.ifCond cd o, 3)) (ho : 0 ≤ (pc : Int) + o) (hT : ((pc : Int) + o).toNat = pcT) (hF : pc + 3 = pcF)
    (HT : CmpP cd x 0 → Go p l e R s m args below meth c n0 Q F B h k n (mkF m pcT Ls st)) (HF : ¬ CmpP cd x 0 → Go p l e R s m args below meth c n0 Q F B h k n (mkF m pcF Ls st)) : Go p l e R s m args below meth c n0 Q F B h k n (mkF m pc Ls (.int x :: st)) := by
  subst hF
  cases q : if_icmp.holds cd x 0 with
  | true => exact (HT ((cmp_holds cd x 0).1 q)).by fun T _ X _ t r => XS.ifYes X.here K.cx rfl rfl (hb K.cb hd) rfl ((if0 _ _).trans q) ho hT r
  | false => exact (HF ((cmp_holds cd x 0).2 q)).by fun T _ X _ t r => XS.ifNo X.here K.cx rfl (hb K.cb hd) rfl ((if0 _ _).trans q) r
theorem Go.ifnullN (K : Ctx p s m meth c Z own bs ml ret nm R F B) {o : Int} (hd : decode bs pc = .ok (.ifnull o, 3)) (ho : 0 ≤ (pc : Int) + o) (hT : ((pc : Int) + o).toNat = pc') (H : Go p l e R s m args below meth c n0 Q F B h k n (mkF m pc' Ls st)) : Go p l e R s m args below meth c n0 Q F B h k n (mkF m pc Ls (.null :: st)) :=
  H.by fun T _ X _ t r => XS.ifnullYes X.here K.cx rfl rfl (hb K.cb hd) rfl ho hT r
theorem Go.ifnullR (K : Ctx p s m meth c Z own bs ml ret nm R F B) {o : Int} {a : Addr} (hd : decode bs pc = .ok (.ifnull o, 3)) (hp : pc + 3 = pc') (H : Go p l e R s m args below meth c n0 Q F B h k n (mkF m pc' Ls st)) : Go p l e R s m args below meth c n0 Q F B h k n (mkF m pc Ls (.ref a :: st)) := by
  subst hp
  exact H.by fun T _ X _ t r => XS.ifnullNo X.here K.cx rfl (hb K.cb hd) rfl r
theorem Go.ifnonnullR (K : Ctx p s m meth c Z own bs ml ret nm R F B) {o : Int} {a : Addr} (hd : decode bs pc = .ok (.ifnonnull o, 3)) (ho : 0 ≤ (pc : Int) + o) (hT : ((pc : Int) + o).toNat = pc') (H : Go p l e R s m args below meth c n0 Q F B h k n (mkF m pc' Ls st)) : Go p l e R s m args below meth c n0 Q F B h k n (mkF m pc Ls (.ref a :: st)) :=
  H.by fun T _ X _ t r => XS.ifnonnullYes X.here K.cx rfl rfl (hb K.cb hd) rfl ho hT r
theorem Go.ifnonnullN (K : Ctx p s m meth c Z own bs ml ret nm R F B) {o : Int} (hd : decode bs pc = .ok (.ifnonnull o, 3)) (hp : pc + 3 = pc') (H : Go p l e R s m args below meth c n0 Q F B h k n (mkF m pc' Ls st)) : Go p l e R s m args below meth c n0 Q F B h k n (mkF m pc Ls (.null :: st)) := by
  subst hp
  exact H.by fun T _ X _ t r => XS.ifnonnullNo X.here K.cx rfl (hb K.cb hd) rfl r
/-- if_acmp whose answer is known -/
theorem Go.acmp (K : Ctx p s m meth c Z own bs ml ret nm R F B) {cd : ACond} {x y : Value} {o : Int} {same : Bool} (hd : decode bs pc = .ok (.if_acmp cd o, 3)) (h1 : x.isRef = true) (h2 : y.isRef = true) (hq : decide (x = y) = same) (ho : 0 ≤ (pc : Int) + o) (hp : pc' = if acV cd same = true then ((pc : Int) + o).toNat else pc + 3)
    (H : Go p l e R s m args below meth c n0 Q F B h k n (mkF m pc' Ls st)) : Go p l e R s m args below meth c n0 Q F B h k n (mkF m pc Ls (y :: x :: st)) :=
  H.by fun T _ X _ t r => Jvm.RoadKit.acmp (g := mkF m pc Ls (y :: x :: st)) X K.cx rfl h1 h2 rfl (hb K.cb hd) rfl hq ho hp r
theorem Go.cast {g g' : JFrame} (q : g = g') (H : Go p l e R s m args below meth c n0 Q F B h k n g') : Go p l e R s m args below meth c n0 Q F B h k n g := q ▸ H
/-! the heap -/
theorem Go.getF (K : Ctx p s m meth c Z own bs ml ret nm R F B) {R0 O f d host : String} {j : Nat} {a : Addr} {v : Value} (w : (Jvm.Cond.fieldLink own j R0 f d).before a0 Z = true ∨ (Jvm.Cond.fieldLinkNest own j R0 f d host).before a0 Z = true) (via : Via Z R0 O f d) (Fa : Fld Z h a O f d v) (hd : decode bs pc = .ok (.getfield j, 3)) (hp : pc + 3 = pc')
    (H : Go p l e R s m args below meth c n0 Q F B h k n (mkF m pc' Ls (v :: st))) : Go p l e R s m args below meth c n0 Q F B h k n (mkF m pc Ls (.ref a :: st)) := by
  subst hp
  intro T locs X eT N hB
  obtain ⟨T', X', e', q⟩ := Jvm.RoadKit.getF X K.cx K.cz K.co w via eT Fa (g := mkF m pc Ls (.ref a :: st)) rfl rfl (hb K.cb hd)
  obtain ⟨s₂, o, r1, r2⟩ := H T' locs X' e' N hB
  exact ⟨s₂, o, q _ r1, r2⟩
theorem Go.getS (K : Ctx p s m meth c Z own bs ml ret nm R F B) {R0 O f d host : String} {j : Nat} {v : Value} (w : (Jvm.Cond.fieldLink own j R0 f d).before a0 Z = true ∨ (Jvm.Cond.fieldLinkNest own j R0 f d host).before a0 Z = true) (via : Via Z R0 O f d) (Fa : Sta Z h O f d v) (hd : decode bs pc = .ok (.getstatic j, 3)) (hp : pc + 3 = pc')
    (H : Go p l e R s m args below meth c n0 Q F B h k n (mkF m pc' Ls (v :: st))) : Go p l e R s m args below meth c n0 Q F B h k n (mkF m pc Ls st) := by
  subst hp
  intro T locs X eT N hB
  obtain ⟨T', X', e', q⟩ := Jvm.RoadKit.getS2 X K.cx K.cz K.co w via eT Fa (g := mkF m pc Ls st) rfl (hb K.cb hd)
  obtain ⟨s₂, o, r1, r2⟩ := H T' locs X' e' N hB
  exact ⟨s₂, o, q _ r1, r2⟩
theorem Go.putF (K : Ctx p s m meth c Z own bs ml ret nm R F B) {R0 O f d host C : String} {j kk : Nat} {ty : FieldType} {a : Addr} {v old : Value} (w : (Jvm.Cond.fieldLink own j R0 f d).before a0 Z = true ∨ (Jvm.Cond.fieldLinkNest own j R0 f d host).before a0 Z = true) (via : Via Z R0 O f d) (Fa : Fld Z h a O f d old) (E : Exa Z h a C)
    (L : (Jvm.Cond.lays C O f d).before a0 Z = true ∨ ((Jvm.Cond.laysFinal C O f d).before a0 Z = true ∧ own = O ∧ nm = "<init>")) (wi : (Jvm.Cond.instantiable C kk).before a0 Z = true) (hty : parseFieldDescriptor d = some ty) (hn : narrow ty v = v) (hf : fits ty v = true) (ha : n0 ≤ a) (hd : decode bs pc = .ok (.putfield j, 3)) (hp : pc + 3 = pc')
    (H : ∀ h', Wr h h' a (Jvm.RoadKit.slotOf Z O f d) v → Fld Z h' a O f d v → Go p l e R s m args below meth c n0 Q F B h' k n (mkF m pc' Ls st)) : Go p l e R s m args below meth c n0 Q F B h k n (mkF m pc Ls (v :: .ref a :: st)) := by
  subst hp
  intro T locs X eT N hB
  obtain ⟨T', h', X', e', W, q⟩ := Jvm.RoadKit.putF X K.cx K.cz K.co w via eT Fa E (L.imp id fun r => ⟨r.1, r.2.1, K.cn.trans r.2.2⟩) wi hty hn hf (g := mkF m pc Ls (v :: .ref a :: st)) rfl rfl (hb K.cb hd)
  obtain ⟨s₂, o, r1, r2⟩ := H h' W (Fa.same W) T' _ X' e' (Fr.snoc X' N ha) (Nat.le_trans hB (Keep.of_wr W).1)
  exact ⟨s₂, o, q _ r1, r2⟩
theorem Go.putFN (K : Ctx p s m meth c Z own bs ml ret nm R F B) {R0 O f d C : String} {j kk : Nat} {ty : FieldType} {a : Addr} {v v' old : Value} (w : (Jvm.Cond.fieldLink own j R0 f d).before a0 Z = true) (via : Via Z R0 O f d) (Fa : Fld Z h a O f d old) (E : Exa Z h a C)
    (L : (Jvm.Cond.lays C O f d).before a0 Z = true ∨ ((Jvm.Cond.laysFinal C O f d).before a0 Z = true ∧ own = O ∧ nm = "<init>")) (wi : (Jvm.Cond.instantiable C kk).before a0 Z = true) (hty : parseFieldDescriptor d = some ty) (hn : narrow ty v = v') (hf : fits ty v' = true) (ha : n0 ≤ a) (hd : decode bs pc = .ok (.putfield j, 3)) (hp : pc + 3 = pc')
    (H : ∀ h', Wr h h' a (Jvm.RoadKit.slotOf Z O f d) v' → Fld Z h' a O f d v' → Go p l e R s m args below meth c n0 Q F B h' k n (mkF m pc' Ls st)) : Go p l e R s m args below meth c n0 Q F B h k n (mkF m pc Ls (v :: .ref a :: st)) := by
  subst hp
  intro T locs X eT N hB
  obtain ⟨T', h', X', e', W, q⟩ := Jvm.RoadKit.putFN X K.cx K.cz K.co w via eT Fa E (L.imp id fun r => ⟨r.1, r.2.1, K.cn.trans r.2.2⟩) wi hty hn hf (g := mkF m pc Ls (v :: .ref a :: st)) rfl rfl (hb K.cb hd)
  obtain ⟨s₂, o, r1, r2⟩ := H h' W (Fa.same W) T' _ X' e' (Fr.snoc X' N ha) (Nat.le_trans hB (Keep.of_wr W).1)
  exact ⟨s₂, o, q _ r1, r2⟩
theorem Go.newO (K : Ctx p s m meth c Z own bs ml ret nm R F B) {C : String} {j i : Nat} (w : (Jvm.Cond.classLink own j C).before a0 Z = true) (wi : (Jvm.Cond.instantiable C i).before a0 Z = true) (wz : (Jvm.Cond.initialized C).before a0 Z = true) (hc : k + 1 ≤ R.cells) (hl : n + i ≤ R.slots) (hd : decode bs pc = .ok (.new j, 3)) (hp : pc + 3 = pc')
    (H : ∀ h' a, a = h.size → Ext h h' → Exa Z h' a C → (∀ {O f d : String} {ty : FieldType}, Laid Z a0 C O f d → parseFieldDescriptor d = some ty → Fld Z h' a O f d (defaultValue ty)) → Go p l e R s m args below meth c n0 Q F B h' (k + 1) (n + i) (mkF m pc' Ls (.ref a :: st))) : Go p l e R s m args below meth c n0 Q F B h k n (mkF m pc Ls st) := by
  subst hp
  intro T locs X eT N hB
  obtain ⟨T', h', X', e', E, A, D, -, q⟩ := Jvm.RoadKit.newO X K.cx K.cz K.co w wi wz eT (g := mkF m pc Ls st) rfl (hb K.cb hd) hc hl
  obtain ⟨s₂, o, r1, r2⟩ := H h' h.size rfl E A D T' locs X' e' N (Nat.le_trans hB E.1)
  exact ⟨s₂, o, q _ r1, r2⟩
theorem Go.newP (K : Ctx p s m meth c Z own bs ml ret nm R F B) {aty : ArrayType} {z : Int32} (w : (Jvm.Cond.arrayClass (newarray.typeOf aty)).before a0 Z = true) (hz : ¬ z < 0) (cap : Nat) (hcap : z.toNatClampNeg ≤ cap) (hb8 : cap * 8 ≤ 536870912) (hc : k + 1 ≤ R.cells) (hl : n + cap ≤ R.slots) (hd : decode bs pc = .ok (.newarray aty, 2)) (hp : pc + 2 = pc')
    (H : ∀ h' a kA, a = h.size → Ext h h' → Arv Z h' a kA (newarray.typeOf aty) z [] (defaultValue (newarray.typeOf aty)) → Go p l e R s m args below meth c n0 Q F B h' (k + 1) (n + cap) (mkF m pc' Ls (.ref a :: st))) : Go p l e R s m args below meth c n0 Q F B h k n (mkF m pc Ls (.int z :: st)) := by
  subst hp
  intro T locs X eT N hB
  obtain ⟨T', h', kA, X', e', E, A, q⟩ := Jvm.RoadKit.newP X K.cx K.cz w eT (g := mkF m pc Ls (.int z :: st)) rfl (hb K.cb hd) rfl hz hcap hb8 hc hl
  obtain ⟨s₂, o, r1, r2⟩ := H h' h.size kA rfl E (Arv.new A hz) T' locs X' e' N (Nat.le_trans hB E.1)
  exact ⟨s₂, o, q _ r1, r2⟩
theorem Go.newR (K : Ctx p s m meth c Z own bs ml ret nm R F B) {C : String} {j : Nat} {z : Int32} (w : (Jvm.Cond.classLink own j C).before a0 Z = true) (w2 : (Jvm.Cond.arrayOver (.object C)).before a0 Z = true) (hz : ¬ z < 0) (cap : Nat) (hcap : z.toNatClampNeg ≤ cap) (hb8 : cap * 8 ≤ 536870912) (hc : k + 1 ≤ R.cells) (hl : n + cap ≤ R.slots) (hd : decode bs pc = .ok (.anewarray j, 3)) (hp : pc + 3 = pc')
    (H : ∀ h' a kA, a = h.size → Ext h h' → Arv Z h' a kA (.object C) z [] .null → Ovr Z kA C → Go p l e R s m args below meth c n0 Q F B h' (k + 1) (n + cap) (mkF m pc' Ls (.ref a :: st))) : Go p l e R s m args below meth c n0 Q F B h k n (mkF m pc Ls (.int z :: st)) := by
  subst hp
  intro T locs X eT N hB
  obtain ⟨T', h', kA, X', e', E, A, O, q⟩ := Jvm.RoadKit.newR X K.cx K.cz K.co w w2 eT (g := mkF m pc Ls (.int z :: st)) rfl (hb K.cb hd) rfl hz hcap hb8 hc hl
  obtain ⟨s₂, o, r1, r2⟩ := H h' h.size kA rfl E (Arv.new A hz) O T' locs X' e' N (Nat.le_trans hB E.1)
  exact ⟨s₂, o, q _ r1, r2⟩
/-- castore at the known place i of an array whose first places are said -/
theorem Go.castore (K : Ctx p s m meth c Z own bs ml ret nm R F B) {a : Addr} {kA : ClassId} {z j x : Int32} {vs : List Value} {dv : Value} (V : Arv Z h a kA .char z vs dv) (i : Nat) (hj : j.toNatClampNeg = i) (hi : i < vs.length) (hin : ¬ j < 0 ∧ j < z) (ha : n0 ≤ a) (hd : decode bs pc = .ok (.castore, 1)) (hp : pc + 1 = pc')
    (H : ∀ h', Keep h h' [a] → Arv Z h' a kA .char z (vs.set i (.int (nar .char x))) dv → Go p l e R s m args below meth c n0 Q F B h' k n (mkF m pc' Ls st)) : Go p l e R s m args below meth c n0 Q F B h k n (mkF m pc Ls (.int x :: .int j :: .ref a :: st)) := by
  subst hp
  intro T locs X eT N hB
  obtain ⟨cl, A, q1, S, q3, Hs, G⟩ := V
  obtain ⟨T', h', X', e', W, q⟩ := stC X K.cx K.cz eT A (j := j) (inb_of S hin) (g := mkF m pc Ls (.int x :: .int j :: .ref a :: st)) rfl rfl (hb K.cb hd)
  obtain ⟨s₂, o, r1, r2⟩ := H h' (Keep.of_wr W) (Arv.set A q1 S q3 Hs G (fits_nar_char _) W i hj hi) T' _ X' e' (Fr.snoc X' N ha) (Nat.le_trans hB (Keep.of_wr W).1)
  exact ⟨s₂, o, q _ r1, r2⟩
theorem Go.iastore (K : Ctx p s m meth c Z own bs ml ret nm R F B) {a : Addr} {kA : ClassId} {z j x : Int32} {vs : List Value} {dv : Value} (V : Arv Z h a kA .int z vs dv) (i : Nat) (hj : j.toNatClampNeg = i) (hi : i < vs.length) (hin : ¬ j < 0 ∧ j < z) (ha : n0 ≤ a) (hd : decode bs pc = .ok (.iastore, 1)) (hp : pc + 1 = pc')
    (H : ∀ h', Keep h h' [a] → Arv Z h' a kA .int z (vs.set i (.int x)) dv → Go p l e R s m args below meth c n0 Q F B h' k n (mkF m pc' Ls st)) : Go p l e R s m args below meth c n0 Q F B h k n (mkF m pc Ls (.int x :: .int j :: .ref a :: st)) := by
  subst hp
  intro T locs X eT N hB
  obtain ⟨cl, A, q1, S, q3, Hs, G⟩ := V
  obtain ⟨T', h', X', e', W, q⟩ := stI X K.cx K.cz eT A (j := j) (inb_of S hin) (g := mkF m pc Ls (.int x :: .int j :: .ref a :: st)) rfl rfl (hb K.cb hd)
  obtain ⟨s₂, o, r1, r2⟩ := H h' (Keep.of_wr W) (Arv.set A q1 S q3 Hs G rfl W i hj hi) T' _ X' e' (Fr.snoc X' N ha) (Nat.le_trans hB (Keep.of_wr W).1)
  exact ⟨s₂, o, q _ r1, r2⟩
theorem Go.bastore (K : Ctx p s m meth c Z own bs ml ret nm R F B) {a : Addr} {kA : ClassId} {z j x : Int32} {vs : List Value} {dv : Value} (V : Arv Z h a kA .byte z vs dv) (i : Nat) (hj : j.toNatClampNeg = i) (hi : i < vs.length) (hin : ¬ j < 0 ∧ j < z) (ha : n0 ≤ a) (hd : decode bs pc = .ok (.bastore, 1)) (hp : pc + 1 = pc')
    (H : ∀ h', Keep h h' [a] → Arv Z h' a kA .byte z (vs.set i (.int (nar .byte x))) dv → Go p l e R s m args below meth c n0 Q F B h' k n (mkF m pc' Ls st)) : Go p l e R s m args below meth c n0 Q F B h k n (mkF m pc Ls (.int x :: .int j :: .ref a :: st)) := by
  subst hp
  intro T locs X eT N hB
  obtain ⟨cl, A, q1, S, q3, Hs, G⟩ := V
  obtain ⟨T', h', X', e', W, q⟩ := stB X K.cx K.cz eT A (j := j) (inb_of S hin) (g := mkF m pc Ls (.int x :: .int j :: .ref a :: st)) rfl rfl (hb K.cb hd)
  obtain ⟨s₂, o, r1, r2⟩ := H h' (Keep.of_wr W) (Arv.set A q1 S q3 Hs G (fits_nar_byte _) W i hj hi) T' _ X' e' (Fr.snoc X' N ha) (Nat.le_trans hB (Keep.of_wr W).1)
  exact ⟨s₂, o, q _ r1, r2⟩
theorem Go.bzstore (K : Ctx p s m meth c Z own bs ml ret nm R F B) {a : Addr} {kA : ClassId} {z j x : Int32} {vs : List Value} {dv : Value} (V : Arv Z h a kA .boolean z vs dv) (i : Nat) (hj : j.toNatClampNeg = i) (hi : i < vs.length) (hin : ¬ j < 0 ∧ j < z) (ha : n0 ≤ a) (hd : decode bs pc = .ok (.bastore, 1)) (hp : pc + 1 = pc')
    (H : ∀ h', Keep h h' [a] → Arv Z h' a kA .boolean z (vs.set i (.int (nar .boolean x))) dv → Go p l e R s m args below meth c n0 Q F B h' k n (mkF m pc' Ls st)) : Go p l e R s m args below meth c n0 Q F B h k n (mkF m pc Ls (.int x :: .int j :: .ref a :: st)) := by
  subst hp
  intro T locs X eT N hB
  obtain ⟨cl, A, q1, S, q3, Hs, G⟩ := V
  obtain ⟨T', h', X', e', W, q⟩ := stZ X K.cx K.cz eT A (j := j) (inb_of S hin) (g := mkF m pc Ls (.int x :: .int j :: .ref a :: st)) rfl rfl (hb K.cb hd)
  obtain ⟨s₂, o, r1, r2⟩ := H h' (Keep.of_wr W) (Arv.set A q1 S q3 Hs G (fits_nar_bool _) W i hj hi) T' _ X' e' (Fr.snoc X' N ha) (Nat.le_trans hB (Keep.of_wr W).1)
  exact ⟨s₂, o, q _ r1, r2⟩
theorem Go.aastore (K : Ctx p s m meth c Z own bs ml ret nm R F B) {a : Addr} {kA : ClassId} {C : String} {z j : Int32} {v : Value} {vs : List Value} {dv : Value} (V : Arv Z h a kA (.object C) z vs dv) (S0 : v = .null ∨ ∃ y, v = .ref y ∧ Ovr Z kA C ∧ Ins Z h y C true) (i : Nat) (hj : j.toNatClampNeg = i) (hi : i < vs.length) (hin : ¬ j < 0 ∧ j < z) (ha : n0 ≤ a) (hd : decode bs pc = .ok (.aastore, 1)) (hp : pc + 1 = pc')
    (H : ∀ h', Keep h h' [a] → Arv Z h' a kA (.object C) z (vs.set i v) dv → Go p l e R s m args below meth c n0 Q F B h' k n (mkF m pc' Ls st)) : Go p l e R s m args below meth c n0 Q F B h k n (mkF m pc Ls (v :: .int j :: .ref a :: st)) := by
  subst hp
  intro T locs X eT N hB
  obtain ⟨cl, A, q1, S, q3, Hs, G⟩ := V
  have Fs : Sto Z h a v := by
    rcases S0 with rfl | ⟨y, rfl, O, I⟩
    · exact Or.inl rfl
    · exact Sto.ofV A q1 O I
  have hf : fits (.object C) v = true := by
    rcases S0 with rfl | ⟨y, rfl, O, I⟩ <;> rfl
  obtain ⟨T', h', X', e', W, q⟩ := stR X K.cx K.cz eT A (j := j) (inb_of S hin) rfl Fs (g := mkF m pc Ls (v :: .int j :: .ref a :: st)) rfl rfl (hb K.cb hd)
  obtain ⟨s₂, o, r1, r2⟩ := H h' (Keep.of_wr W) (Arv.set A q1 S q3 Hs G hf W i hj hi) T' _ X' e' (Fr.snoc X' N ha) (Nat.le_trans hB (Keep.of_wr W).1)
  exact ⟨s₂, o, q _ r1, r2⟩
theorem Go.arraylength (K : Ctx p s m meth c Z own bs ml ret nm R F B) {a : Addr} {kA : ClassId} {ty : FieldType} {z : Int32} {vs : List Value} {dv : Value} (V : Arv Z h a kA ty z vs dv) (hd : decode bs pc = .ok (.arraylength, 1)) (hp : pc + 1 = pc')
    (H : Go p l e R s m args below meth c n0 Q F B h k n (mkF m pc' Ls (.int z :: st))) : Go p l e R s m args below meth c n0 Q F B h k n (mkF m pc Ls (.ref a :: st)) := by
  subst hp
  obtain ⟨cl, A, q1, S, q3, Hs, G⟩ := V
  refine H.by fun T _ X eT t q => X.arraylength K.cx (by rw [eT]; exact A.1) (State.isArrayOf_alike K.cz.alike A.2.1) (g := mkF m pc Ls (.ref a :: st)) rfl rfl (hb K.cb hd) t ?_
  rw [len_of S q3]
  exact q
theorem Go.caload (K : Ctx p s m meth c Z own bs ml ret nm R F B) {a : Addr} {kA : ClassId} {z j : Int32} {vs : List Value} {dv v : Value} (V : Arv Z h a kA .char z vs dv) (hin : ¬ j < 0 ∧ j < z) (hv : vs.getD j.toNatClampNeg dv = v) (hd : decode bs pc = .ok (.caload, 1)) (hp : pc + 1 = pc')
    (H : Go p l e R s m args below meth c n0 Q F B h k n (mkF m pc' Ls (v :: st))) : Go p l e R s m args below meth c n0 Q F B h k n (mkF m pc Ls (.int j :: .ref a :: st)) := by
  subst hp
  obtain ⟨cl, A, q1, S, q3, Hs, G⟩ := V
  exact H.by fun T _ X eT t q => X.caload K.cx (by rw [eT]; exact A.1) (State.isArrayOf_alike K.cz.alike A.2.1) A.2.2 (inb_of S hin) (Hs.at (inb_of S hin) hv) (g := mkF m pc Ls (.int j :: .ref a :: st)) rfl rfl (hb K.cb hd) t q
theorem Go.iaload (K : Ctx p s m meth c Z own bs ml ret nm R F B) {a : Addr} {kA : ClassId} {z j : Int32} {vs : List Value} {dv v : Value} (V : Arv Z h a kA .int z vs dv) (hin : ¬ j < 0 ∧ j < z) (hv : vs.getD j.toNatClampNeg dv = v) (hd : decode bs pc = .ok (.iaload, 1)) (hp : pc + 1 = pc')
    (H : Go p l e R s m args below meth c n0 Q F B h k n (mkF m pc' Ls (v :: st))) : Go p l e R s m args below meth c n0 Q F B h k n (mkF m pc Ls (.int j :: .ref a :: st)) := by
  subst hp
  obtain ⟨cl, A, q1, S, q3, Hs, G⟩ := V
  exact H.by fun T _ X eT t q => X.iaload K.cx (by rw [eT]; exact A.1) (State.isArrayOf_alike K.cz.alike A.2.1) A.2.2 (inb_of S hin) (Hs.at (inb_of S hin) hv) (g := mkF m pc Ls (.int j :: .ref a :: st)) rfl rfl (hb K.cb hd) t q
theorem Go.baload (K : Ctx p s m meth c Z own bs ml ret nm R F B) {a : Addr} {kA : ClassId} {z j : Int32} {vs : List Value} {dv v : Value} (V : Arv Z h a kA .byte z vs dv) (hin : ¬ j < 0 ∧ j < z) (hv : vs.getD j.toNatClampNeg dv = v) (hd : decode bs pc = .ok (.baload, 1)) (hp : pc + 1 = pc')
    (H : Go p l e R s m args below meth c n0 Q F B h k n (mkF m pc' Ls (v :: st))) : Go p l e R s m args below meth c n0 Q F B h k n (mkF m pc Ls (.int j :: .ref a :: st)) := by
  subst hp
  obtain ⟨cl, A, q1, S, q3, Hs, G⟩ := V
  exact H.by fun T _ X eT t q => X.baloadBytes K.cx (by rw [eT]; exact A.1) (State.isArrayOf_alike K.cz.alike A.2.1) A.2.2 (inb_of S hin) (Hs.at (inb_of S hin) hv) (g := mkF m pc Ls (.int j :: .ref a :: st)) rfl rfl (hb K.cb hd) t q
theorem Go.aaload (K : Ctx p s m meth c Z own bs ml ret nm R F B) {a : Addr} {kA : ClassId} {C : String} {z j : Int32} {vs : List Value} {dv v : Value} (V : Arv Z h a kA (.object C) z vs dv) (hin : ¬ j < 0 ∧ j < z) (hv : vs.getD j.toNatClampNeg dv = v) (hd : decode bs pc = .ok (.aaload, 1)) (hp : pc + 1 = pc')
    (H : Go p l e R s m args below meth c n0 Q F B h k n (mkF m pc' Ls (v :: st))) : Go p l e R s m args below meth c n0 Q F B h k n (mkF m pc Ls (.int j :: .ref a :: st)) := by
  subst hp
  obtain ⟨cl, A, q1, S, q3, Hs, G⟩ := V
  exact H.by fun T _ X eT t q => X.aaload K.cx (by rw [eT]; exact A.1) (State.isArrayOf_alike K.cz.alike A.2.1) rfl A.2.2 (inb_of S hin) (Hs.at (inb_of S hin) hv) (g := mkF m pc Ls (.int j :: .ref a :: st)) rfl rfl (hb K.cb hd) t q
theorem Go.castY (K : Ctx p s m meth c Z own bs ml ret nm R F B) {C : String} {j : Nat} {a : Addr} (w : (Jvm.Cond.classLink own j C).before a0 Z = true) (Fa : Ins Z h a C true) (hd : decode bs pc = .ok (.checkcast j, 3)) (hp : pc + 3 = pc')
    (H : Go p l e R s m args below meth c n0 Q F B h k n (mkF m pc' Ls (.ref a :: st))) : Go p l e R s m args below meth c n0 Q F B h k n (mkF m pc Ls (.ref a :: st)) := by
  subst hp
  intro T locs X eT N hB
  obtain ⟨T', X', e', q⟩ := Jvm.RoadKit.castY X K.cx K.cz K.co w eT Fa (g := mkF m pc Ls (.ref a :: st)) rfl rfl (hb K.cb hd)
  obtain ⟨s₂, o, r1, r2⟩ := H T' locs X' e' N hB
  exact ⟨s₂, o, q _ r1, r2⟩
theorem Go.instY (K : Ctx p s m meth c Z own bs ml ret nm R F B) {C : String} {j : Nat} {a : Addr} (w : (Jvm.Cond.classLink own j C).before a0 Z = true) (Fa : Ins Z h a C true) (hd : decode bs pc = .ok (.instanceof j, 3)) (hp : pc + 3 = pc')
    (H : Go p l e R s m args below meth c n0 Q F B h k n (mkF m pc' Ls (.int 1 :: st))) : Go p l e R s m args below meth c n0 Q F B h k n (mkF m pc Ls (.ref a :: st)) := by
  subst hp
  intro T locs X eT N hB
  obtain ⟨T', X', e', q⟩ := Jvm.RoadKit.instY X K.cx K.cz K.co w eT Fa (g := mkF m pc Ls (.ref a :: st)) rfl rfl (hb K.cb hd)
  obtain ⟨s₂, o, r1, r2⟩ := H T' locs X' e' N hB
  exact ⟨s₂, o, q _ r1, r2⟩
theorem Go.initO (K : Ctx p s m meth c Z own bs ml ret nm R F B) {j : Nat} {a : Addr} (w1 : (Jvm.Cond.methodLink own j Lib.objectInit).before a0 Z = true) (w2 : (Jvm.Cond.instanceMethod Lib.objectInit).before a0 Z = true) (w3 : (Jvm.Cond.code Lib.objectInit ⟨#[0xb1]⟩ 1 none).before a0 Z = true) (hml : Ls.size = ml) (hf : 1 ≤ R.frames) (W : Nat) (hW : (st.map fun v => v.category).sum ≤ W) (hl : W + 12 ≤ R.locals) (hd : decode bs pc = .ok (.invokespecial j, 3)) (hp : pc + 3 = pc')
    (H : Go p l e R s m args below meth c n0 Q F B h k n (mkF m pc' Ls st)) : Go p l e R s m args below meth c n0 Q F B h k n (mkF m pc Ls (.ref a :: st)) := by
  subst hp
  intro T locs X eT N hB
  obtain ⟨T', X', e', q⟩ := Jvm.RoadKit.initO X K.cx K.cz K.co w1 w2 w3 eT (g := mkF m pc Ls (.ref a :: st)) rfl (hml.trans K.cl.symm) rfl (hb K.cb hd) hf (W := W) (by show 2 * 0 + _ ≤ _; omega) hl
  obtain ⟨s₂, o, r1, r2⟩ := H T' locs X' e' N hB
  exact ⟨s₂, o, q _ r1, r2⟩
/-! calls -/
theorem Go.callS (K : Ctx p s m meth c Z own bs ml ret nm R F B) {j : Nat} {y : MethodName} {bytes : ByteArray} {maxL : Nat} {rt : Option FieldType} {W kc nc : Nat} {Qc : Option Value → Heap → List Loc → Prop} {argsL : List Value}
    (w1 : (Jvm.Cond.methodLink own j y).before args s = true) (w2 : (Jvm.Cond.static y).before args s = true) (w3 : (Jvm.Cond.initialized y.cls).before args s = true) (w4 : (Jvm.Cond.code y bytes maxL rt).before args s = true) (hy : y.cls ≠ "java/lang/invoke/MethodHandle" ∧ y.cls ≠ "java/lang/invoke/VarHandle")
    (hK : Pays l R p e below s args y 3 W argsL.toArray h kc nc Qc) (hml : Ls.size = ml) (hlen : ∀ sig, parseMethodDescriptor y.desc = some sig → argsL.length = sig.parameters.length) (hst : st = argsL.reverse ++ rest) (hW : (rest.map fun v => v.category).sum ≤ W) (hc : k + kc ≤ R.cells) (hs : n + nc ≤ R.slots) (hfr : ∀ v h' L, Qc v h' L → Fr n0 L) (hgr : ∀ v h' L, Qc v h' L → h.size ≤ h'.size) (hd : decode bs pc = .ok (.invokestatic j, 3)) (hp : pc + 3 = pc')
    (H : ∀ v h' L, Qc v h' L → Go p l e R s m args below meth c n0 Q F B h' (k + kc) (n + nc) (mkF m pc' Ls (v.toList ++ rest))) : Go p l e R s m args below meth c n0 Q F B h k n (mkF m pc Ls st) := by
  subst hp hst
  intro T locs X eT N hB
  obtain ⟨v, vm₁, ⟨T', L', k', n'⟩, -, X', ⟨L, hq, l1, y1, z1⟩, q⟩ := Jvm.LawKit.callS X K.cx (y := y) (bytes := bytes) (maxL := maxL) (ret := rt) K.co w1 w2 w3 w4 hy hK (g := mkF m pc Ls (argsL.reverse ++ rest)) rfl (hml.trans K.cl.symm) (argsL := argsL) (rest := rest) hlen rfl (by show 2 * 0 + _ ≤ _; omega) (hb K.cb hd) (fun _ _ => ⟨rfl, eT, hc, hs⟩)
  dsimp only [Pt.U, Pt.locs, Pt.cells, Pt.slots] at X' l1 y1 z1 q hq
  subst l1 y1 z1
  obtain ⟨s₂, o, r1, r2⟩ := H v _ L hq T' _ X' rfl (N.app (hfr _ _ _ hq)) (Nat.le_trans hB (hgr _ _ _ hq))
  exact ⟨s₂, o, q _ r1, r2⟩
theorem Go.callC (K : Ctx p s m meth c Z own bs ml ret nm R F B) {j : Nat} {y : MethodName} {bytes : ByteArray} {maxL : Nat} {W kc nc : Nat} {a : Addr} {Qc : Option Value → Heap → List Loc → Prop} {argsL : List Value} (hy1 : y.name = "<init>")
    (w1 : (Jvm.Cond.methodLink own j y).before args s = true) (w2 : (Jvm.Cond.instanceMethod y).before args s = true) (w4 : (Jvm.Cond.code y bytes maxL none).before args s = true) (hy : y.cls ≠ "java/lang/invoke/MethodHandle" ∧ y.cls ≠ "java/lang/invoke/VarHandle")
    (hK : Pays l R p e below s args y 3 W (.ref a :: argsL).toArray h kc nc Qc) (hml : Ls.size = ml) (hlen : ∀ sig, parseMethodDescriptor y.desc = some sig → argsL.length = sig.parameters.length) (hst : st = argsL.reverse ++ .ref a :: rest) (hW : (rest.map fun v => v.category).sum ≤ W) (hc : k + kc ≤ R.cells) (hs : n + nc ≤ R.slots) (hfr : ∀ v h' L, Qc v h' L → Fr n0 L) (hgr : ∀ v h' L, Qc v h' L → h.size ≤ h'.size) (hd : decode bs pc = .ok (.invokespecial j, 3)) (hp : pc + 3 = pc')
    (H : ∀ v h' L, Qc v h' L → Go p l e R s m args below meth c n0 Q F B h' (k + kc) (n + nc) (mkF m pc' Ls (v.toList ++ rest))) : Go p l e R s m args below meth c n0 Q F B h k n (mkF m pc Ls st) := by
  subst hp hst
  intro T locs X eT N hB
  obtain ⟨v, vm₁, ⟨T', L', k', n'⟩, -, X', ⟨L, hq, l1, y1, z1⟩, q⟩ := X.specialBack K.cx (y := y) (bytes := bytes) (maxL := maxL) hy1 K.co w1 w2 w4 hy hK (g := mkF m pc Ls (argsL.reverse ++ .ref a :: rest)) rfl (hml.trans K.cl.symm) (Steps.refl _) (a := a) (argsL := argsL) (rest := rest) hlen rfl (by show 2 * 0 + _ ≤ _; omega) (hb K.cb hd) (fun _ _ => ⟨rfl, eT, hc, hs⟩)
  dsimp only [Pt.U, Pt.locs, Pt.cells, Pt.slots] at X' l1 y1 z1 q hq
  subst l1 y1 z1
  obtain ⟨s₂, o, r1, r2⟩ := H v _ L hq T' _ X' rfl (N.app (hfr _ _ _ hq)) (Nat.le_trans hB (hgr _ _ _ hq))
  exact ⟨s₂, o, q.trans r1, r2⟩
theorem Go.callV (K : Ctx p s m meth c Z own bs ml ret nm R F B) {j : Nat} {C : String} {y z : MethodName} {W kc nc : Nat} {a : Addr} {Qc : Option Value → Heap → List Loc → Prop} {argsL : List Value}
    (w1 : (Jvm.Cond.methodLink own j y).before args s = true) (w2 : (Jvm.Cond.declares y).before args s = true) (hnf : NotFace s y) (w3 : (Jvm.Cond.selects C y z).before args s = true) (w4 : (Jvm.Cond.instanceMethod z).before args s = true) (hy : y.cls ≠ "java/lang/invoke/MethodHandle" ∧ y.cls ≠ "java/lang/invoke/VarHandle") (E : Exa Z h a C)
    (hK : Pays l R p e below s args z 3 W (.ref a :: argsL).toArray h kc nc Qc) (hml : Ls.size = ml) (hlen : ∀ sig, parseMethodDescriptor y.desc = some sig → argsL.length = sig.parameters.length) (hst : st = argsL.reverse ++ .ref a :: rest) (hW : (rest.map fun v => v.category).sum ≤ W) (hc : k + kc ≤ R.cells) (hs : n + nc ≤ R.slots) (hfr : ∀ v h' L, Qc v h' L → Fr n0 L) (hgr : ∀ v h' L, Qc v h' L → h.size ≤ h'.size) (hd : decode bs pc = .ok (.invokevirtual j, 3)) (hp : pc + 3 = pc')
    (H : ∀ v h' L, Qc v h' L → Go p l e R s m args below meth c n0 Q F B h' (k + kc) (n + nc) (mkF m pc' Ls (v.toList ++ rest))) : Go p l e R s m args below meth c n0 Q F B h k n (mkF m pc Ls st) := by
  subst hp hst
  intro T locs X eT N hB
  obtain ⟨cq, kq, qa, qb, qc⟩ := isOf K.cz eT E
  obtain ⟨v, vm₁, ⟨T', L', k', n'⟩, -, X', ⟨L, hq, l1, y1, z1⟩, q⟩ := X.virtualBack K.cx (y := y) (z := z) K.co w1 w2 hnf w3 w4 hy hK qa qc (g := mkF m pc Ls (argsL.reverse ++ .ref a :: rest)) rfl (hml.trans K.cl.symm) (Steps.refl _) (argsL := argsL) (rest := rest) hlen rfl (by show 2 * 0 + _ ≤ _; omega) (hb K.cb hd) (fun _ _ => ⟨rfl, eT, hc, hs⟩)
  dsimp only [Pt.U, Pt.locs, Pt.cells, Pt.slots] at X' l1 y1 z1 q hq
  subst l1 y1 z1
  obtain ⟨s₂, o, r1, r2⟩ := H v _ L hq T' _ X' rfl (N.app (hfr _ _ _ hq)) (Nat.le_trans hB (hgr _ _ _ hq))
  exact ⟨s₂, o, q.trans r1, r2⟩
theorem nar_ref {C : String} {v : Value} (h : v.isRef = true) : narrow (.object C) v = v := by cases v <;> first | rfl | simp [Value.isRef] at h
theorem fit_ref {C : String} {v : Value} (h : v.isRef = true) : fits (.object C) v = true := by cases v <;> first | rfl | simp [Value.isRef] at h
/-! the ends -/
theorem Go.retN {t : FieldType} (K : Ctx p s m meth c Z own bs ml (some t) nm R F B) {x : Int32} (ht : t = .boolean ∨ t = .byte ∨ t = .char ∨ t = .short) (hk : k ≤ R.cells) (hn : n ≤ R.slots) (hd : decode bs pc = .ok (.ireturn, 1)) (q : ∀ (T : State) (locs : List Loc), Stand p l e R s m args below meth c T locs k n → T.heap = h → Q (some (.int (nar t x))) T.vm h) : Go p l e R s m args below meth c n0 Q F B h k n (mkF m pc Ls (.int x :: st)) := by
  intro T locs X eT N hB
  obtain ⟨fs, hr, hrun, hended, hW, hsame⟩ := X.leave (v := some (.int (nar t x))) (fun h => by rw [K.cr] at h; cases h) K.ck
  exact ⟨_, _, Jvm.RoadKit.retN X K.cx K.cr ht (hb K.cb hd) hr, hrun, hended, _, _, rfl, ⟨(show Q _ T.vm T.heap by rw [eT]; exact q T locs X eT), N⟩, K.ce _ _ _ _ _ hW hsame (by show B ≤ T.heap.size; rw [eT]; exact hB) hk hn⟩
theorem Go.retI (K : Ctx p s m meth c Z own bs ml (some .int) nm R F B) {x : Int32} (hk : k ≤ R.cells) (hn : n ≤ R.slots) (hd : decode bs pc = .ok (.ireturn, 1)) (q : ∀ (T : State) (locs : List Loc), Stand p l e R s m args below meth c T locs k n → T.heap = h → Q (some (.int x)) T.vm h) : Go p l e R s m args below meth c n0 Q F B h k n (mkF m pc Ls (.int x :: st)) := by
  intro T locs X eT N hB
  obtain ⟨fs, hr, hrun, hended, hW, hsame⟩ := X.leave (v := some (.int x)) (fun h => by rw [K.cr] at h; cases h) K.ck
  exact ⟨_, _, Jvm.RoadKit.retI X K.cx K.cr (hb K.cb hd) hr, hrun, hended, _, _, rfl, ⟨(show Q _ T.vm T.heap by rw [eT]; exact q T locs X eT), N⟩, K.ce _ _ _ _ _ hW hsame (by show B ≤ T.heap.size; rw [eT]; exact hB) hk hn⟩
theorem Go.retA {t : FieldType} (K : Ctx p s m meth c Z own bs ml (some t) nm R F B) {v : Value} (hnn : narrow t v = v) (ht : t.isReference = true) (hv : v.isRef = true) (hk : k ≤ R.cells) (hn : n ≤ R.slots) (hd : decode bs pc = .ok (.areturn, 1)) (q : ∀ (T : State) (locs : List Loc), Stand p l e R s m args below meth c T locs k n → T.heap = h → Q (some v) T.vm h) : Go p l e R s m args below meth c n0 Q F B h k n (mkF m pc Ls (v :: st)) := by
  intro T locs X eT N hB
  obtain ⟨fs, hr, hrun, hended, hW, hsame⟩ := X.leave (v := some v) (fun h => by rw [K.cr] at h; cases h) K.ck
  exact ⟨_, _, Jvm.RoadKit.retR X K.cx K.cr hnn ht hv (hb K.cb hd) hr, hrun, hended, _, _, rfl, ⟨(show Q _ T.vm T.heap by rw [eT]; exact q T locs X eT), N⟩, K.ce _ _ _ _ _ hW hsame (by show B ≤ T.heap.size; rw [eT]; exact hB) hk hn⟩
theorem Go.retJ (K : Ctx p s m meth c Z own bs ml (some .long) nm R F B) {x : Int64} (hk : k ≤ R.cells) (hn : n ≤ R.slots) (hd : decode bs pc = .ok (.lreturn, 1)) (q : ∀ (T : State) (locs : List Loc), Stand p l e R s m args below meth c T locs k n → T.heap = h → Q (some (.long x)) T.vm h) : Go p l e R s m args below meth c n0 Q F B h k n (mkF m pc Ls (.long x :: st)) := by
  intro T locs X eT N hB
  obtain ⟨fs, hr, hrun, hended, hW, hsame⟩ := X.leave (v := some (.long x)) (fun h => by rw [K.cr] at h; cases h) K.ck
  exact ⟨_, _, Jvm.RoadKit.retL X K.cx K.cr (hb K.cb hd) hr, hrun, hended, _, _, rfl, ⟨(show Q _ T.vm T.heap by rw [eT]; exact q T locs X eT), N⟩, K.ce _ _ _ _ _ hW hsame (by show B ≤ T.heap.size; rw [eT]; exact hB) hk hn⟩
theorem Go.retV (K : Ctx p s m meth c Z own bs ml none nm R F B) (hk : k ≤ R.cells) (hn : n ≤ R.slots) (hd : decode bs pc = .ok (.return_, 1)) (q : ∀ (T : State) (locs : List Loc), Stand p l e R s m args below meth c T locs k n → T.heap = h → Q none T.vm h) : Go p l e R s m args below meth c n0 Q F B h k n (mkF m pc Ls []) := by
  intro T locs X eT N hB
  obtain ⟨fs, hr, hrun, hended, hW, hsame⟩ := X.leave (v := none) (fun _ => rfl) K.ck
  exact ⟨_, _, X.returnOut K.cx K.cr (hb K.cb hd) hr, hrun, hended, _, _, rfl, ⟨(show Q _ T.vm T.heap by rw [eT]; exact q T locs X eT), N⟩, K.ce _ _ _ _ _ hW hsame (by show B ≤ T.heap.size; rw [eT]; exact hB) hk hn⟩
/-- a contract out of a walk -/
theorem Met.of {ws : List Jvm.Cond} {y : MethodName} {rm : Room} {as' : Array Value} {h0 : Heap} {Qm : Option Value → Heap → Prop} (hpl : plainFor y = true)
    (H : ∀ (p : Program) (e : Env) (s : State) (m : MethodId) (below : List Frame) (meth : Method) (c : Code) (F : Outcome → State → List Loc → Prop), Ctx p s m meth c Z y.cls bs ml ret y.name rm F 0 → Go p l e rm s m as' below meth c n0 (fun v _ h => Qm v h) F 0 h0 0 0 (entryFrame m as' ml)) : Met l Z ws y bs ml ret rm as' h0 n0 Qm := by
  refine MetFree.of_bodySF hpl hisR ?_
  intro p e s m args below meth c s₁ Bd hml0 hP hK
  obtain ⟨rfl, hZ, hh⟩ := hP
  have X0 : Stand p l e rm s m args below meth c s₁ [] 0 0 := Stand.of_body Bd
  have e0 : s₁.heap = h0 := by rw [← hh, Bd.state]; rfl
  obtain ⟨s₂, o, r1, r2, r3, v, L, rfl, ⟨q1, q2⟩, q3⟩ := H p e s m below meth c (fun o t L => FrameEnd s o t L rm.cells rm.slots) ⟨Bd.exec, hZ, findClass_of_methodNamed Bd.named, Bd.bytes, hml0, Bd.returns, (name_of_methodNamed Bd.named Bd.method).1, Bd.notSynchronized, fun t v L k n hW hs _ hk hn => ⟨⟨v, rfl⟩, hW, hs.mono hk hn⟩⟩ s₁ [] X0 e0 (Fr.nil n0) (Nat.zero_le _)
  exact ⟨s₂, _, r1, r2, r3, v, L, rfl, ⟨⟨q1, q2⟩, by have := q3.2.2.2.1; rw [← hh]; exact this⟩, q3⟩
theorem MetK.of {ws : List Jvm.Cond} {y : MethodName} {rm : Room} {as' : Array Value} {h0 : Heap} {Qm : Option Value → Heap → Prop} (hpl : plainFor y = true)
    (H : ∀ (p : Program) (e : Env) (s : State) (m : MethodId) (below : List Frame) (meth : Method) (c : Code) (F : Outcome → State → List Loc → Prop), s.heap = h0 → s.vm.MethodsKnown → s.vm.FramesKnown below → Ctx p s m meth c Z y.cls bs ml ret y.name rm F 0 → Go p l e rm s m as' below meth c n0 (fun v _ h => Qm v h) F 0 h0 0 0 (entryFrame m as' ml)) : MetK l Z ws y bs ml ret rm as' h0 n0 Qm := by
  refine MetFree.of_bodySF hpl hisR ?_
  intro p e s m args below meth c s₁ Bd hml0 hP hK
  obtain ⟨rfl, hZ, hh⟩ := hP
  have X0 : Stand p l e rm s m args below meth c s₁ [] 0 0 := Stand.of_body Bd
  have e0 : s₁.heap = h0 := by rw [← hh, Bd.state]; rfl
  obtain ⟨s₂, o, r1, r2, r3, v, L, rfl, ⟨q1, q2⟩, q3⟩ := H p e s m below meth c (fun o t L => FrameEnd s o t L rm.cells rm.slots) hh hK.1 hK.2 ⟨Bd.exec, hZ, findClass_of_methodNamed Bd.named, Bd.bytes, hml0, Bd.returns, (name_of_methodNamed Bd.named Bd.method).1, Bd.notSynchronized, fun t v L k n hW hs _ hk hn => ⟨⟨v, rfl⟩, hW, hs.mono hk hn⟩⟩ s₁ [] X0 e0 (Fr.nil n0) (Nat.zero_le _)
  exact ⟨s₂, _, r1, r2, r3, v, L, rfl, ⟨⟨q1, q2⟩, by have := q3.2.2.2.1; rw [← hh]; exact this⟩, q3⟩
theorem Met.pays {y : MethodName} {rm : Room} {as' : Array Value} {h0 : Heap} {len W : Nat} {Qm : Option Value → Heap → Prop} (M : Met l Z [] y bs ml ret rm as' h0 n0 Qm) (hZ : Z.Warmed39 s.vm) (wc : (Jvm.Cond.code y bs ml ret).before a0 Z = true) (wz : (Jvm.Cond.initialized y.cls).before a0 Z = true) (hf : rm.frames + 1 ≤ R.frames) (hl : W + (ml + 11) + rm.locals ≤ R.locals) :
    Pays l R p e below s args y len W as' h0 rm.cells rm.slots (fun v h L => (Qm v h ∧ Fr n0 L) ∧ h0.size ≤ h.size) :=
  backOf (Q := fun v h L => (Qm v h ∧ Fr n0 L) ∧ h0.size ≤ h.size) M hZ wc wz hf hl
theorem MetK.pays {y : MethodName} {rm : Room} {as' : Array Value} {h0 : Heap} {len W : Nat} {Qm : Option Value → Heap → Prop} (M : MetK l Z [] y bs ml ret rm as' h0 n0 Qm) (hZ : Z.Warmed39 s.vm) (wc : (Jvm.Cond.code y bs ml ret).before a0 Z = true) (wz : (Jvm.Cond.initialized y.cls).before a0 Z = true) (hf : rm.frames + 1 ≤ R.frames) (hl : W + (ml + 11) + rm.locals ≤ R.locals) (hTK : s.vm.MethodsKnown) (hBelow : s.vm.FramesKnown below) :
    Pays l R p e below s args y len W as' h0 rm.cells rm.slots (fun v h L => (Qm v h ∧ Fr n0 L) ∧ h0.size ≤ h.size) :=
  backOfKL (Q := fun v h L => (Qm v h ∧ Fr n0 L) ∧ h0.size ≤ h.size) M hZ wc wz hf hl hTK hBelow
theorem frOf {n0 N : Nat} {Q : Option Value → Heap → Prop} : ∀ (v : Option Value) (h' : Heap) (L : List Loc), ((Q v h' ∧ Fr n0 L) ∧ N ≤ h'.size) → Fr n0 L := fun _ _ _ q => q.1.2
theorem grOf {n0 N : Nat} {Q : Option Value → Heap → Prop} : ∀ (v : Option Value) (h' : Heap) (L : List Loc), ((Q v h' ∧ Fr n0 L) ∧ N ≤ h'.size) → N ≤ h'.size := fun _ _ _ q => q.2
/-! String constants, and callees that load them -/
section Wide
variable {vm0 : Vm} {EL : List (String × Nat)}
abbrev FW (s : State) (R : Room) : Outcome → State → List Loc → Prop := fun o t L => ReturnedEndW s o t L R.cells R.slots
theorem Ctx.wide {B1 : Nat} {vm1 : Vm} (hS : s.Since vm1 B1) (hx : p.tables.exec = Jvm.exec) (hZ : Z.Warmed39 vm1) (ho : vm1.findClass own = some m.cls) (hby : c.code = bs) (hml : c.maxLocals = ml) (hr : meth.sig.returnType = ret) (hn : meth.name = nm) (hk : meth.locks = false) : Ctx p (s.setVm vm1) m meth c Z own bs ml ret nm R (FW s R) B1 :=
  ⟨hx, hZ, ho, hby, hml, hr, hn, hk, fun t v L k n hW hs hB h1 h2 => by
    obtain ⟨a, b, c'⟩ := hS.ended (U := t) hW hB hs
    exact ⟨⟨v, rfl⟩, a, b, c'.mono h1 h2⟩⟩
/-- ldc of a String constant of which nothing is asked -/
theorem Go.ldcO (K : Ctx p (s.setVm vm0) m meth c Z own bs ml ret nm R (FW s R) B) (hS : s.Since vm0 B) {text : String} {j i : Nat} (w : (Jvm.Cond.stringLink own j text).before a0 Z = true) (wS : ∀ a ∈ Bundle.stringAtoms, a.before a0 Z = true) (hEL : EW Z a0 EL) (HC : CHv Z EL vm0 h) (hi : 4 * text.toList.length ≤ i) (hbig : i ≤ 536870912) (hc : k + 2 ≤ R.cells) (hl : n + (i + 4) ≤ R.slots) (hd : decode bs pc = .ok (.ldc j, 2)) (hp : pc + 2 = pc')
    (H : ∀ a vm1 h' B1, Ext h h' → CHr Z EL vm0 h vm1 h' → s.Since vm1 B1 → Ctx p (s.setVm vm1) m meth c Z own bs ml ret nm R (FW s R) B1 → Go p l e R (s.setVm vm1) m args below meth c n0 Q (FW s R) B1 h' (k + 2) (n + (i + 4)) (mkF m pc' Ls (.ref a :: st))) : Go p l e R (s.setVm vm0) m args below meth c n0 Q (FW s R) B h k n (mkF m pc Ls st) := by
  subst hp
  intro T locs X eT N hB
  obtain ⟨a, T', h', k1, X', e', E, hS', hk', hZ', ho', hr', -, q⟩ := ldcOH X K.cx K.cz K.co w wS eT hS hB hEL HC (g := mkF m pc Ls st) rfl (hb K.cb hd) hi hbig hc hl
  obtain ⟨s₂, o, r1, r2⟩ := H a T'.vm h' k1 E hr' hS' (Ctx.wide hS' K.cx hZ' ho' K.cb K.cl K.cr K.cn K.ck) T' locs X' e' N hk'
  exact ⟨s₂, o, q _ r1, r2⟩
/-- ldc of a String constant that is read -/
theorem Go.ldcV (K : Ctx p (s.setVm vm0) m meth c Z own bs ml ret nm R (FW s R) B) (hS : s.Since vm0 B) {text : String} {j i : Nat} (w : (Jvm.Cond.stringLink own j text).before a0 Z = true) (wS : ∀ a ∈ Bundle.stringAtoms, a.before a0 Z = true) (hEL : EW Z a0 EL) (hmem : (own, j) ∈ EL) (HC : CHv Z EL vm0 h)
    {vs : List Value} {z : Int32} (ht : (∀ c ∈ text.toList, c.toNat < 256) ∧ text.toList.map (fun c => Value.int (Jvm.Lit.byteI c.toNat.toUInt16)) = vs) (hz : ¬ z < 0) (hlz : z.toNatClampNeg = vs.length)
    (hi : 4 * text.toList.length ≤ i) (hbig : i ≤ 536870912) (hc : k + 2 ≤ R.cells) (hl : n + (i + 4) ≤ R.slots) (hd : decode bs pc = .ok (.ldc j, 2)) (hp : pc + 2 = pc')
    (H : ∀ a b kb vm1 h' B1, Ext h h' → CHr Z EL vm0 h vm1 h' → s.Since vm1 B1 → Exa Z h' a "java/lang/String" → Fld Z h' a "java/lang/String" "coder" "B" (.int 0) → Fld Z h' a "java/lang/String" "value" "[B" (.ref b) → Arv Z h' b kb .byte z vs (.int 0) → (∀ x, Safe Z EL vm1 h' x → x ≠ a ∧ x ≠ b) → Ctx p (s.setVm vm1) m meth c Z own bs ml ret nm R (FW s R) B1 →
      Go p l e R (s.setVm vm1) m args below meth c n0 Q (FW s R) B1 h' (k + 2) (n + (i + 4)) (mkF m pc' Ls (.ref a :: st))) : Go p l e R (s.setVm vm0) m args below meth c n0 Q (FW s R) B h k n (mkF m pc Ls st) := by
  subst hp
  intro T locs X eT N hB
  obtain ⟨a, T', h', k1, b, kb, X', e', E, hS', hk', hZ', ho', x1, x2, x3, x4, -, -, hr', -, hsf, q⟩ := ldcCH X K.cx K.cz K.co w wS eT hS hB hEL hmem HC ht hz hlz (g := mkF m pc Ls st) rfl (hb K.cb hd) hi hbig hc hl
  obtain ⟨s₂, o, r1, r2⟩ := H a b kb T'.vm h' k1 E hr' hS' x1 x2 x3 x4 hsf (Ctx.wide hS' K.cx hZ' ho' K.cb K.cl K.cr K.cn K.ck) T' locs X' e' N hk'
  exact ⟨s₂, o, q _ r1, r2⟩
theorem Go.callSW (K : Ctx p (s.setVm vm0) m meth c Z own bs ml ret nm R (FW s R) B) (hS : s.Since vm0 B) {j : Nat} {y : MethodName} {bytes : ByteArray} {maxL : Nat} {rt : Option FieldType} {W kc nc : Nat} {Qc : Option Value → Heap → List Loc → Prop} {argsL : List Value}
    (w1 : (Jvm.Cond.methodLink own j y).before args (s.setVm vm0) = true) (w2 : (Jvm.Cond.static y).before args (s.setVm vm0) = true) (w3 : (Jvm.Cond.initialized y.cls).before args (s.setVm vm0) = true) (w4 : (Jvm.Cond.code y bytes maxL rt).before args (s.setVm vm0) = true) (hy : y.cls ≠ "java/lang/invoke/MethodHandle" ∧ y.cls ≠ "java/lang/invoke/VarHandle")
    (hK : PaysW l R p e below s vm0 args y 3 W argsL.toArray h kc nc Z EL Qc) (hml : Ls.size = ml) (hlen : ∀ sig, parseMethodDescriptor y.desc = some sig → argsL.length = sig.parameters.length) (hst : st = argsL.reverse ++ rest) (hW : (rest.map fun v => v.category).sum ≤ W) (hc : k + kc ≤ R.cells) (hs : n + nc ≤ R.slots) (hfr : ∀ v h' L, Qc v h' L → Fr n0 L) (hd : decode bs pc = .ok (.invokestatic j, 3)) (hp : pc + 3 = pc')
    (H : ∀ v h' L vm1 B1, Qc v h' L → CHr Z EL vm0 h vm1 h' → s.Since vm1 B1 → Ctx p (s.setVm vm1) m meth c Z own bs ml ret nm R (FW s R) B1 → Go p l e R (s.setVm vm1) m args below meth c n0 Q (FW s R) B1 h' (k + kc) (n + nc) (mkF m pc' Ls (v.toList ++ rest))) : Go p l e R (s.setVm vm0) m args below meth c n0 Q (FW s R) B h k n (mkF m pc Ls st) := by
  subst hp hst
  intro T locs X eT N hB
  obtain ⟨v, vm₁, ⟨T', L', k', n'⟩, -, X', hs2, hg, ⟨L, hq, l1, y1, z1, hr⟩, q⟩ := callSS X K.cx (y := y) (bytes := bytes) (maxL := maxL) (ret := rt) K.co w1 w2 w3 w4 hy hK (g := mkF m pc Ls (argsL.reverse ++ rest)) rfl (hml.trans K.cl.symm) (argsL := argsL) (rest := rest) hlen rfl (by show 2 * 0 + _ ≤ _; omega) (hb K.cb hd) (fun _ _ => ⟨rfl, eT, hc, hs⟩)
  dsimp only [Pt.U, Pt.locs, Pt.cells, Pt.slots] at X' l1 y1 z1 q hq hr hs2 hg
  subst l1 y1 z1
  obtain ⟨X2, hS2, hZ2, ho2⟩ := rebS hS (Nat.le_trans hB (Nat.le_of_eq (congrArg Array.size eT.symm))) X' hs2 hg K.cz K.co
  obtain ⟨s₂, o, r1, r2⟩ := H v _ L _ _ hq hr hS2 (Ctx.wide hS2 K.cx hZ2 ho2 K.cb K.cl K.cr K.cn K.ck) T' _ X2 rfl (N.app (hfr _ _ _ hq)) (Nat.le_refl _)
  exact ⟨s₂, o, q.trans r1, r2⟩
theorem Go.callCW (K : Ctx p (s.setVm vm0) m meth c Z own bs ml ret nm R (FW s R) B) (hS : s.Since vm0 B) {j : Nat} {y : MethodName} {bytes : ByteArray} {maxL : Nat} {W kc nc : Nat} {a : Addr} {Qc : Option Value → Heap → List Loc → Prop} {argsL : List Value} (hy1 : y.name = "<init>")
    (w1 : (Jvm.Cond.methodLink own j y).before args (s.setVm vm0) = true) (w2 : (Jvm.Cond.instanceMethod y).before args (s.setVm vm0) = true) (w4 : (Jvm.Cond.code y bytes maxL none).before args (s.setVm vm0) = true) (hy : y.cls ≠ "java/lang/invoke/MethodHandle" ∧ y.cls ≠ "java/lang/invoke/VarHandle")
    (hK : PaysW l R p e below s vm0 args y 3 W (.ref a :: argsL).toArray h kc nc Z EL Qc) (hml : Ls.size = ml) (hlen : ∀ sig, parseMethodDescriptor y.desc = some sig → argsL.length = sig.parameters.length) (hst : st = argsL.reverse ++ .ref a :: rest) (hW : (rest.map fun v => v.category).sum ≤ W) (hc : k + kc ≤ R.cells) (hs : n + nc ≤ R.slots) (hfr : ∀ v h' L, Qc v h' L → Fr n0 L) (hd : decode bs pc = .ok (.invokespecial j, 3)) (hp : pc + 3 = pc')
    (H : ∀ v h' L vm1 B1, Qc v h' L → CHr Z EL vm0 h vm1 h' → s.Since vm1 B1 → Ctx p (s.setVm vm1) m meth c Z own bs ml ret nm R (FW s R) B1 → Go p l e R (s.setVm vm1) m args below meth c n0 Q (FW s R) B1 h' (k + kc) (n + nc) (mkF m pc' Ls (v.toList ++ rest))) : Go p l e R (s.setVm vm0) m args below meth c n0 Q (FW s R) B h k n (mkF m pc Ls st) := by
  subst hp hst
  intro T locs X eT N hB
  obtain ⟨v, vm₁, ⟨T', L', k', n'⟩, -, X', hs2, hg, ⟨L, hq, l1, y1, z1, hr⟩, q⟩ := X.specialBackS K.cx (y := y) (bytes := bytes) (maxL := maxL) hy1 K.co w1 w2 w4 hy hK (g := mkF m pc Ls (argsL.reverse ++ .ref a :: rest)) rfl (hml.trans K.cl.symm) (Steps.refl _) (a := a) (argsL := argsL) (rest := rest) hlen rfl (by show 2 * 0 + _ ≤ _; omega) (hb K.cb hd) (fun _ _ => ⟨rfl, eT, hc, hs⟩)
  dsimp only [Pt.U, Pt.locs, Pt.cells, Pt.slots] at X' l1 y1 z1 q hq hr hs2 hg
  subst l1 y1 z1
  obtain ⟨X2, hS2, hZ2, ho2⟩ := rebS hS (Nat.le_trans hB (Nat.le_of_eq (congrArg Array.size eT.symm))) X' hs2 hg K.cz K.co
  obtain ⟨s₂, o, r1, r2⟩ := H v _ L _ _ hq hr hS2 (Ctx.wide hS2 K.cx hZ2 ho2 K.cb K.cl K.cr K.cn K.ck) T' _ X2 rfl (N.app (hfr _ _ _ hq)) (Nat.le_refl _)
  exact ⟨s₂, o, q.trans r1, r2⟩
theorem Go.callVW (K : Ctx p (s.setVm vm0) m meth c Z own bs ml ret nm R (FW s R) B) (hS : s.Since vm0 B) {j : Nat} {C : String} {y z : MethodName} {W kc nc : Nat} {a : Addr} {Qc : Option Value → Heap → List Loc → Prop} {argsL : List Value}
    (w1 : (Jvm.Cond.methodLink own j y).before args (s.setVm vm0) = true) (w2 : (Jvm.Cond.declares y).before args (s.setVm vm0) = true) (hnf : NotFace (s.setVm vm0) y) (w3 : (Jvm.Cond.selects C y z).before args (s.setVm vm0) = true) (w4 : (Jvm.Cond.instanceMethod z).before args (s.setVm vm0) = true) (hy : y.cls ≠ "java/lang/invoke/MethodHandle" ∧ y.cls ≠ "java/lang/invoke/VarHandle") (E : Exa Z h a C)
    (hK : PaysW l R p e below s vm0 args z 3 W (.ref a :: argsL).toArray h kc nc Z EL Qc) (hml : Ls.size = ml) (hlen : ∀ sig, parseMethodDescriptor y.desc = some sig → argsL.length = sig.parameters.length) (hst : st = argsL.reverse ++ .ref a :: rest) (hW : (rest.map fun v => v.category).sum ≤ W) (hc : k + kc ≤ R.cells) (hs : n + nc ≤ R.slots) (hfr : ∀ v h' L, Qc v h' L → Fr n0 L) (hd : decode bs pc = .ok (.invokevirtual j, 3)) (hp : pc + 3 = pc')
    (H : ∀ v h' L vm1 B1, Qc v h' L → CHr Z EL vm0 h vm1 h' → s.Since vm1 B1 → Ctx p (s.setVm vm1) m meth c Z own bs ml ret nm R (FW s R) B1 → Go p l e R (s.setVm vm1) m args below meth c n0 Q (FW s R) B1 h' (k + kc) (n + nc) (mkF m pc' Ls (v.toList ++ rest))) : Go p l e R (s.setVm vm0) m args below meth c n0 Q (FW s R) B h k n (mkF m pc Ls st) := by
  subst hp hst
  intro T locs X eT N hB
  obtain ⟨cq, kq, qa, qb, qc⟩ := isOf K.cz eT E
  obtain ⟨v, vm₁, ⟨T', L', k', n'⟩, -, X', hs2, hg, ⟨L, hq, l1, y1, z1, hr⟩, q⟩ := X.virtualBackS K.cx (y := y) (z := z) K.co w1 w2 hnf w3 w4 hy hK qa qc (g := mkF m pc Ls (argsL.reverse ++ .ref a :: rest)) rfl (hml.trans K.cl.symm) (Steps.refl _) (argsL := argsL) (rest := rest) hlen rfl (by show 2 * 0 + _ ≤ _; omega) (hb K.cb hd) (fun _ _ => ⟨rfl, eT, hc, hs⟩)
  dsimp only [Pt.U, Pt.locs, Pt.cells, Pt.slots] at X' l1 y1 z1 q hq hr hs2 hg
  subst l1 y1 z1
  obtain ⟨X2, hS2, hZ2, ho2⟩ := rebS hS (Nat.le_trans hB (Nat.le_of_eq (congrArg Array.size eT.symm))) X' hs2 hg K.cz K.co
  obtain ⟨s₂, o, r1, r2⟩ := H v _ L _ _ hq hr hS2 (Ctx.wide hS2 K.cx hZ2 ho2 K.cb K.cl K.cr K.cn K.ck) T' _ X2 rfl (N.app (hfr _ _ _ hq)) (Nat.le_refl _)
  exact ⟨s₂, o, q.trans r1, r2⟩
theorem MetW.of {ws : List Jvm.Cond} {y : MethodName} {rm : Room} {as' : Array Value} {h0 : Heap} {Qm : Option Value → Heap → Prop} (hpl : plainFor y = true)
    (H : ∀ (p : Program) (e : Env) (s : State) (m : MethodId) (below : List Frame) (meth : Method) (c : Code) (vm0 : Vm) (B : Nat), s.Since vm0 B → CHv Z EL vm0 h0 → Ctx p (s.setVm vm0) m meth c Z y.cls bs ml ret y.name rm (FW s rm) B → Go p l e rm (s.setVm vm0) m as' below meth c n0 (fun v vm h => Qm v h ∧ CHr Z EL vm0 h0 vm h) (FW s rm) B h0 0 0 (entryFrame m as' ml)) : MetW l Z ws EL y bs ml ret rm as' h0 n0 Qm := by
  refine MetFree.of_bodySF hpl hisR ?_
  intro p e s m args below meth c s₁ Bd hml0 hP hK
  obtain ⟨rfl, hZ, hh, hC⟩ := hP
  have X0 : Stand p l e rm (s.setVm s.vm) m args below meth c s₁ [] 0 0 := Stand.of_body Bd
  have e0 : s₁.heap = h0 := by rw [← hh, Bd.state]; rfl
  have hS : s.Since s.vm 0 := (State.WarmedH.refl s).since 0
  obtain ⟨s₂, o, r1, r2, r3, v, L, rfl, ⟨⟨q1, q1'⟩, q2⟩, q3⟩ := H p e s m below meth c s.vm 0 hS hC (Ctx.wide hS Bd.exec hZ (findClass_of_methodNamed Bd.named) Bd.bytes hml0 Bd.returns (name_of_methodNamed Bd.named Bd.method).1 Bd.notSynchronized) s₁ [] X0 e0 (Fr.nil n0) (Nat.zero_le _)
  exact ⟨s₂, _, r1, r2, r3, v, L, rfl, ⟨⟨q1, q2⟩, q1'.2.1⟩, by rw [hh]; exact q1', q3⟩
theorem MetWK.of {ws : List Jvm.Cond} {y : MethodName} {rm : Room} {as' : Array Value} {h0 : Heap} {Qm : Option Value → Heap → Prop} (hpl : plainFor y = true)
    (H : ∀ (p : Program) (e : Env) (s : State) (m : MethodId) (below : List Frame) (meth : Method) (c : Code) (vm0 : Vm) (B : Nat), s.heap = h0 → s.vm.MethodsKnown → s.vm.FramesKnown below → s.Since vm0 B → CHv Z EL vm0 h0 → Ctx p (s.setVm vm0) m meth c Z y.cls bs ml ret y.name rm (FW s rm) B → Go p l e rm (s.setVm vm0) m as' below meth c n0 (fun v vm h => Qm v h ∧ CHr Z EL vm0 h0 vm h) (FW s rm) B h0 0 0 (entryFrame m as' ml)) : MetWK l Z ws EL y bs ml ret rm as' h0 n0 Qm := by
  refine MetFree.of_bodySF hpl hisR ?_
  intro p e s m args below meth c s₁ Bd hml0 hP hK
  obtain ⟨rfl, hZ, hh, hC⟩ := hP
  have X0 : Stand p l e rm (s.setVm s.vm) m args below meth c s₁ [] 0 0 := Stand.of_body Bd
  have e0 : s₁.heap = h0 := by rw [← hh, Bd.state]; rfl
  have hS : s.Since s.vm 0 := (State.WarmedH.refl s).since 0
  obtain ⟨s₂, o, r1, r2, r3, v, L, rfl, ⟨⟨q1, q1'⟩, q2⟩, q3⟩ := H p e s m below meth c s.vm 0 hh hK.1 hK.2 hS hC (Ctx.wide hS Bd.exec hZ (findClass_of_methodNamed Bd.named) Bd.bytes hml0 Bd.returns (name_of_methodNamed Bd.named Bd.method).1 Bd.notSynchronized) s₁ [] X0 e0 (Fr.nil n0) (Nat.zero_le _)
  exact ⟨s₂, _, r1, r2, r3, v, L, rfl, ⟨⟨q1, q2⟩, q1'.2.1⟩, by rw [hh]; exact q1', q3⟩
theorem MetW.pays {y : MethodName} {rm : Room} {as' : Array Value} {h0 : Heap} {len W : Nat} {Qm : Option Value → Heap → Prop} (M : MetW l Z [] EL y bs ml ret rm as' h0 n0 Qm) (hZ : Z.Warmed39 vm0) (wc : (Jvm.Cond.code y bs ml ret).before a0 Z = true) (wz : (Jvm.Cond.initialized y.cls).before a0 Z = true) (hf : rm.frames + 1 ≤ R.frames) (hl : W + (ml + 11) + rm.locals ≤ R.locals) (hEL : EW Z a0 EL) (HC : CHv Z EL vm0 h0) :
    PaysW l R p e below s vm0 args y len W as' h0 rm.cells rm.slots Z EL (fun v h L => (Qm v h ∧ Fr n0 L) ∧ h0.size ≤ h.size) :=
  backOfSH (Q := fun v h L => (Qm v h ∧ Fr n0 L) ∧ h0.size ≤ h.size) M hZ wc wz hf hl hEL HC
theorem MetWK.pays {y : MethodName} {rm : Room} {as' : Array Value} {h0 : Heap} {len W : Nat} {Qm : Option Value → Heap → Prop} (M : MetWK l Z [] EL y bs ml ret rm as' h0 n0 Qm) (hZ : Z.Warmed39 vm0) (wc : (Jvm.Cond.code y bs ml ret).before a0 Z = true) (wz : (Jvm.Cond.initialized y.cls).before a0 Z = true) (hf : rm.frames + 1 ≤ R.frames) (hl : W + (ml + 11) + rm.locals ≤ R.locals) (hEL : EW Z a0 EL) (HC : CHv Z EL vm0 h0) (hTK : vm0.MethodsKnown) (hBelow : vm0.FramesKnown below) :
    PaysW l R p e below s vm0 args y len W as' h0 rm.cells rm.slots Z EL (fun v h L => (Qm v h ∧ Fr n0 L) ∧ h0.size ≤ h.size) :=
  backOfSKH (Q := fun v h L => (Qm v h ∧ Fr n0 L) ∧ h0.size ≤ h.size) M hZ wc wz hf hl hEL HC hTK hBelow
/-- what a wide walk says at its return -/
theorem own_end {Z : State} {EL : List (String × Nat)} {vmS vm0 : Vm} {hS h : Heap} {P : Prop} (hEL : EW Z a0 EL) (hZ : Z.Warmed39 vm0) (CR : CHr Z EL vmS hS vm0 h) (q : P) : ∀ (T : State) (locs : List Loc), Stand p l e R (s.setVm vm0) m args below meth c T locs k n → T.heap = h → P ∧ CHr Z EL vmS hS T.vm h :=
  fun T locs X eT => ⟨q, CR.trans (CHv.at X hZ hEL CR.1)⟩
end Wide
theorem own_ne {a b : Nat} {h : Heap} (h1 : a < h.size) (h2 : h.size ≤ b) : a ≠ b := Nat.ne_of_lt (Nat.lt_of_lt_of_le h1 h2)
end GoKit
end Jvm.Pilot.@@N@@
/- laws to paste: Road.backV, Road.eqW, Road.codOf (cut by pick.py; bodies as the Statement names them) -/
namespace Jvm.Pilot.@@N@@
namespace StrChars
open Jvm Sem ClassFile Op Lib Jvm.Stand Jvm.Free.XT Jvm.Free.ALB Jvm.Free.JM Jvm.Free
open Jvm.Lib.Cold (StaticIs)
/-- a char array whose places are chars -/
def Ch (a : Addr) (A : Cell) (U : State) : Prop := Arr .char a A U ∧ Typed .char A
theorem Ch.mv {a : Addr} {A : Cell} {U U' : State} (h : Ch a A U) (hal : U.vm.Alike U'.vm) (hh : U'.heap = U.heap) : Ch a A U' := ⟨h.1.mv hal hh, h.2⟩
theorem Ch.keep {a : Addr} {A : Cell} {U U' : State} (h : Ch a A U) (hal : U.vm.Alike U'.vm) (hk : U'.heap[a]? = some A) : Ch a A U' := ⟨h.1.keep hal hk, h.2⟩
/-- what place i of a char[]'s cell holds -/
def cv (A : Cell) (i : Nat) : Int32 := match A.slots[i]? with | some (.int x) => x | _ => 0
theorem Ch.get {a : Addr} {A : Cell} {U : State} (h : Ch a A U) {i : Nat} (hi : i < A.slots.size) : A.slots[i]? = some (.int (cv A i)) := by
  have e := Array.getElem?_eq_getElem hi
  have f := h.2 i _ e
  unfold cv; rw [e]
  generalize A.slots[i] = v at f
  cases v <;> simp [fits] at f ⊢
/-- the byte that i2b leaves of a char -/
def lo8 (x : Int32) : Int32 := x.toInt8.toInt32
theorem fits_lo8 (y : Int32) : fits .byte (.int (lo8 y)) = true := by
  have h1 := y.toInt8.le_toInt
  have h2 := y.toInt8.toInt_lt
  simp only [lo8, fits, Bool.and_eq_true, decide_eq_true_eq, Int32.le_iff_toInt_le, Int8.toInt_toInt32, show (-128 : Int32).toInt = -128 from by decide, show (127 : Int32).toInt = 127 from by decide]
  omega
/-- A' is A but that each place j of lo .. hi - 1 holds f j -/
def Laid (A A' : Cell) (lo hi : Nat) (f : Nat → Value) : Prop := A'.cls = A.cls ∧ A'.vm = A.vm ∧ A'.slots.size = A.slots.size ∧ ∀ i, A'.slots[i]? = if lo ≤ i ∧ i < hi then some (f i) else A.slots[i]?
theorem Laid.zero (A : Cell) (lo : Nat) (f : Nat → Value) : Laid A A lo (lo + 0) f := ⟨rfl, rfl, rfl, fun i => by rw [if_neg (by omega)]⟩
theorem Laid.step {A Ak : Cell} {lo k : Nat} {f : Nat → Value} {v : Value} (h : Laid A Ak lo k f) (hlo : lo ≤ k) (hk : k < Ak.slots.size) (hv : v = f k) : Laid A (Ak.setSlot k v) lo (k + 1) f := by
  refine ⟨h.1, h.2.1, by simpa [Cell.setSlot] using h.2.2.1, fun i => ?_⟩
  by_cases e : k = i
  · subst e; rw [Cell.slots_setSlot_self v hk, if_pos (by omega), hv]
  · rw [Cell.slots_setSlot_ne v e, h.2.2.2 i]
    by_cases q : lo ≤ i ∧ i < k
    · rw [if_pos q, if_pos (by omega)]
    · rw [if_neg q, if_neg (by omega)]
def U16 : String := "java/lang/StringUTF16"
namespace Cmp5
def yN : MethodName := ⟨"java/lang/StringUTF16", "compress", "([CI[BII)I"⟩
abbrev yB : ByteArray := jdk_52_method_21_code
theorem d0 : decode yB 0 = .ok (.iconst 0, 1) := by decide +kernel
theorem d1 : decode yB 1 = .ok (.istore 5, 2) := by decide +kernel
theorem d3 : decode yB 3 = .ok (.iload 5, 2) := by decide +kernel
theorem d5 : decode yB 5 = .ok (.iload 4, 2) := by decide +kernel
theorem d7 : decode yB 7 = .ok (.if_icmp (.ge) 37, 3) := by decide +kernel
theorem d10 : decode yB 10 = .ok (.aload_n 0, 1) := by decide +kernel
theorem d11 : decode yB 11 = .ok (.iload_n 1, 1) := by decide +kernel
theorem d12 : decode yB 12 = .ok (.caload, 1) := by decide +kernel
theorem d13 : decode yB 13 = .ok (.istore 6, 2) := by decide +kernel
theorem d15 : decode yB 15 = .ok (.iload 6, 2) := by decide +kernel
theorem d17 : decode yB 17 = .ok (.sipush 255, 3) := by decide +kernel
theorem d20 : decode yB 20 = .ok (.if_icmp (.le) 6, 3) := by decide +kernel
theorem d26 : decode yB 26 = .ok (.aload_n 2, 1) := by decide +kernel
theorem d27 : decode yB 27 = .ok (.iload_n 3, 1) := by decide +kernel
theorem d28 : decode yB 28 = .ok (.iload 6, 2) := by decide +kernel
theorem d30 : decode yB 30 = .ok (.i2b, 1) := by decide +kernel
theorem d31 : decode yB 31 = .ok (.bastore, 1) := by decide +kernel
theorem d32 : decode yB 32 = .ok (.iinc 1 1, 3) := by decide +kernel
theorem d35 : decode yB 35 = .ok (.iinc 3 1, 3) := by decide +kernel
theorem d38 : decode yB 38 = .ok (.iinc 5 1, 3) := by decide +kernel
theorem d41 : decode yB 41 = .ok (.goto (-38), 3) := by decide +kernel
theorem d44 : decode yB 44 = .ok (.iload 4, 2) := by decide +kernel
theorem d46 : decode yB 46 = .ok (.ireturn, 1) := by decide +kernel
def site : List Cond := []
def tab : Cond := tabOf yN yB 7 (some .int) site
def P (b : Addr) (A : Cell) (d : Addr) (B : Cell) (o q len : Nat) (args : Array Value) (s : State) : Prop := args = #[.ref b, .int (Int32.ofNat o), .ref d, .int (Int32.ofNat q), .int (Int32.ofNat len)] ∧ Ch b A s ∧ Arr .byte d B s ∧ b ≠ d ∧ o + len ≤ A.slots.size ∧ q + len ≤ B.slots.size ∧ ∀ i, i < len → ¬ 255 < cv A (o + i)
def E (b : Addr) (A : Cell) (d : Addr) (B : Cell) (o q len : Nat) (r : Option Value) (s u : State) : Prop := r = some (.int (Int32.ofNat len)) ∧ ∃ B', Put d B' s u ∧ Laid B B' q (q + len) (fun j => Value.int (lo8 (cv A (o + (j - q)))))
/-- no char of the range above 255: len; the places written hold each char's low byte -/
theorem law (l : Launch) (b : Addr) (A : Cell) (d : Addr) (B : Cell) (o q len : Nat) : Law l yN 5 5 0 0 yB 7 (some .int) site (P b A d B o q len) (E b A d B o q len) (copyLocs d q len) 0 0 := by
  refine Law.of_walk (plainFor_of_name (by decide +kernel)) (by decide +kernel) (by decide +kernel) (by decide) (fun _ _ h => by rw [h.1]; rfl) (fun _ U U' hal hh h => ⟨h.1, h.2.1.mv hal hh, h.2.2.1.mv hal hh, h.2.2.2⟩) (fun r U U' V V' h1 hal h2 h => ⟨h.1, h.2.elim fun B' q => ⟨B', q.1.mv h1 h2, q.2⟩⟩) ?_
  intro p e s m args below meth c s₁ X0 hexec hbytes hml hret hlk hnm hown hh0 W hP
  obtain ⟨rfl, hA, hB, hne, l1, l2, hp⟩ := hP
  have c1 : Steps p.tables e below (s₁.setTop (entryFrame m #[.ref b, .int (Int32.ofNat o), .ref d, .int (Int32.ofNat q), .int (Int32.ofNat len)] 7)) (s₁.setTop (mkF m 0 #[.val (.ref b), .val (.int (Int32.ofNat o)), .val (.ref d), .val (.int (Int32.ofNat q)), .val (.int (Int32.ofNat len)), .unset, .unset] [])) := entry rfl
  have hA0 := hA.1.mv X0.warmed.alike hh0
  have hB0 := hB.mv X0.warmed.alike hh0
  have a31 := hA.1.2.2.2
  have c2 : Steps p.tables e below (s₁.setTop (entryFrame m #[.ref b, .int (Int32.ofNat o), .ref d, .int (Int32.ofNat q), .int (Int32.ofNat len)] 7)) (s₁.setTop (mkF m 3 #[.val (.ref b), .val (.int (Int32.ofNat o)), .val (.ref d), .val (.int (Int32.ofNat q)), .val (.int (Int32.ofNat len)), .val (.int 0), .unset] [])) := c1.trans (by
    refine iconstV X0.here hexec rfl 0 (hb hbytes d0) (by decide) ?_
    refine XS.istore X0.here hexec rfl (hb hbytes d1) rfl rfl ?_
    exact Steps.refl _)
  have loop : ∀ (r i : Nat), i + r = len → ∀ (z : Slot), (z = .unset ∨ ∃ w, z = .val w ∧ w.category = 1) → ∀ (Tl : State) (Bk : Cell), Stand p l e { frames := 0, locals := 0, cells := 0, slots := 0 } s m #[.ref b, .int (Int32.ofNat o), .ref d, .int (Int32.ofNat q), .int (Int32.ofNat len)] below meth c Tl ([] ++ copyLocs d q i) 0 0 → Put d Bk s₁ Tl → Laid B Bk q (q + i) (fun j => Value.int (lo8 (cv A (o + (j - q))))) →
      Steps p.tables e below (s₁.setTop (entryFrame m #[.ref b, .int (Int32.ofNat o), .ref d, .int (Int32.ofNat q), .int (Int32.ofNat len)] 7)) (Tl.setTop (mkF m 3 #[.val (.ref b), .val (.int (Int32.ofNat (o + i))), .val (.ref d), .val (.int (Int32.ofNat (q + i))), .val (.int (Int32.ofNat len)), .val (.int (Int32.ofNat i)), z] [])) → ∃ (T' : State) (B' : Cell) (z' : Slot), Stand p l e { frames := 0, locals := 0, cells := 0, slots := 0 } s m #[.ref b, .int (Int32.ofNat o), .ref d, .int (Int32.ofNat q), .int (Int32.ofNat len)] below meth c T' ([] ++ copyLocs d q len) 0 0 ∧ Put d B' s₁ T' ∧ Laid B B' q (q + len) (fun j => Value.int (lo8 (cv A (o + (j - q))))) ∧
      Steps p.tables e below (s₁.setTop (entryFrame m #[.ref b, .int (Int32.ofNat o), .ref d, .int (Int32.ofNat q), .int (Int32.ofNat len)] 7)) (T'.setTop (mkF m 3 #[.val (.ref b), .val (.int (Int32.ofNat (o + len))), .val (.ref d), .val (.int (Int32.ofNat (q + len))), .val (.int (Int32.ofNat len)), .val (.int (Int32.ofNat len)), z'] [])) := by
    intro r
    induction r with
    | zero =>
      intro i hi z hz Tl Bk Xl pl fl cl
      have hil : i = len := by omega
      rw [hil] at Xl fl cl
      exact ⟨Tl, Bk, z, Xl, pl, fl, cl⟩
    | succ r ih =>
      intro i hi z hz Tl Bk Xl pl fl cl
      have all := X0.warmed.alike.symm.trans Xl.warmed.alike
      have hAl := hA0.keep all (pl.other hne hA0.1)
      have hBk := hB0.like all pl.1 fl.1 fl.2.1 fl.2.2.1
      have hlt : q + i < Bk.slots.size := by rw [fl.2.2.1]; omega
      have c3 : Steps p.tables e below (s₁.setTop (entryFrame m #[.ref b, .int (Int32.ofNat o), .ref d, .int (Int32.ofNat q), .int (Int32.ofNat len)] 7)) (Tl.setTop (mkF m 12 #[.val (.ref b), .val (.int (Int32.ofNat (o + i))), .val (.ref d), .val (.int (Int32.ofNat (q + i))), .val (.int (Int32.ofNat len)), .val (.int (Int32.ofNat i)), z] [.int (Int32.ofNat (o + i)), .ref b])) := cl.trans (by
        refine XS.iload Xl.here hexec rfl (hb hbytes d3) rfl ?_
        refine XS.iload Xl.here hexec rfl (hb hbytes d5) rfl ?_
        refine XS.icmpNo Xl.here hexec rfl (hb hbytes d7) rfl (ii_ge_f (lt32 (by omega) (by omega))) ?_
        refine XS.aloadN Xl.here hexec rfl (hb hbytes d10) rfl rfl ?_
        refine XS.iloadN Xl.here hexec rfl (hb hbytes d11) rfl ?_
        exact Steps.refl _)
      have c4 : Steps p.tables e below (s₁.setTop (entryFrame m #[.ref b, .int (Int32.ofNat o), .ref d, .int (Int32.ofNat q), .int (Int32.ofNat len)] 7)) (Tl.setTop (mkF m 13 #[.val (.ref b), .val (.int (Int32.ofNat (o + i))), .val (.ref d), .val (.int (Int32.ofNat (q + i))), .val (.int (Int32.ofNat len)), .val (.int (Int32.ofNat i)), z] [.int (cv A (o + i))])) := c3.trans (by
        refine Xl.aget hexec hAl rfl (hA.get (i := o + i) (by omega)) rfl rfl (hb hbytes d12) ?_
        exact Steps.refl _)
      have c5 : Steps p.tables e below (s₁.setTop (entryFrame m #[.ref b, .int (Int32.ofNat o), .ref d, .int (Int32.ofNat q), .int (Int32.ofNat len)] 7)) (Tl.setTop (mkF m 15 #[.val (.ref b), .val (.int (Int32.ofNat (o + i))), .val (.ref d), .val (.int (Int32.ofNat (q + i))), .val (.int (Int32.ofNat len)), .val (.int (Int32.ofNat i)), .val (.int (cv A (o + i)))] [])) := c4.trans (by
        refine XS.istoreS Xl.here hexec rfl (hb hbytes d13) rfl rfl hz ?_
        exact Steps.refl _)
      have c6 : Steps p.tables e below (s₁.setTop (entryFrame m #[.ref b, .int (Int32.ofNat o), .ref d, .int (Int32.ofNat q), .int (Int32.ofNat len)] 7)) (Tl.setTop (mkF m 31 #[.val (.ref b), .val (.int (Int32.ofNat (o + i))), .val (.ref d), .val (.int (Int32.ofNat (q + i))), .val (.int (Int32.ofNat len)), .val (.int (Int32.ofNat i)), .val (.int (cv A (o + i)))] [.int (lo8 (cv A (o + i))), .int (Int32.ofNat (q + i)), .ref d])) := c5.trans (by
        refine XS.iload Xl.here hexec rfl (hb hbytes d15) rfl ?_
        refine sipushV Xl.here hexec rfl 255 (hb hbytes d17) (by decide) ?_
        refine XS.icmpYes Xl.here hexec rfl (pc0 := 20) rfl (hb hbytes d20) rfl (ii_le_t (hp i (by omega))) (by decide) rfl ?_
        refine XS.aloadN Xl.here hexec rfl (hb hbytes d26) rfl rfl ?_
        refine XS.iloadN Xl.here hexec rfl (hb hbytes d27) rfl ?_
        refine XS.iload Xl.here hexec rfl (hb hbytes d28) rfl ?_
        refine i2b Xl.here hexec rfl (hb hbytes d30) rfl ?_
        exact Steps.refl _)
      obtain ⟨T7, X7, p7, st7⟩ := Xl.aput hexec hBk rfl hlt rfl (fits_lo8 (cv A (o + i))) (g := (mkF m 31 #[.val (.ref b), .val (.int (Int32.ofNat (o + i))), .val (.ref d), .val (.int (Int32.ofNat (q + i))), .val (.int (Int32.ofNat len)), .val (.int (Int32.ofNat i)), .val (.int (cv A (o + i)))] [.int (lo8 (cv A (o + i))), .int (Int32.ofNat (q + i)), .ref d])) rfl (rest := []) rfl (hb hbytes d31)
      have c8 : Steps p.tables e below (s₁.setTop (entryFrame m #[.ref b, .int (Int32.ofNat o), .ref d, .int (Int32.ofNat q), .int (Int32.ofNat len)] 7)) (T7.setTop (mkF m 32 #[.val (.ref b), .val (.int (Int32.ofNat (o + i))), .val (.ref d), .val (.int (Int32.ofNat (q + i))), .val (.int (Int32.ofNat len)), .val (.int (Int32.ofNat i)), .val (.int (cv A (o + i)))] [])) := c6.trans (st7 _ (Steps.refl _))
      have c9 : Steps p.tables e below (s₁.setTop (entryFrame m #[.ref b, .int (Int32.ofNat o), .ref d, .int (Int32.ofNat q), .int (Int32.ofNat len)] 7)) (T7.setTop (mkF m 3 #[.val (.ref b), .val (.int (Int32.ofNat (o + i) + 1)), .val (.ref d), .val (.int (Int32.ofNat (q + i) + 1)), .val (.int (Int32.ofNat len)), .val (.int (Int32.ofNat i + 1)), .val (.int (cv A (o + i)))] [])) := c8.trans (by
        refine iincV X7.here hexec rfl 1 (hb hbytes d32) (by decide) rfl rfl ?_
        refine iincV X7.here hexec rfl 1 (hb hbytes d35) (by decide) rfl rfl ?_
        refine iincV X7.here hexec rfl 1 (hb hbytes d38) (by decide) rfl rfl ?_
        refine XS.goto X7.here hexec rfl (pc0 := 41) rfl (hb hbytes d41) (by decide) rfl ?_
        exact Steps.refl _)
      have c10 : Steps p.tables e below (s₁.setTop (entryFrame m #[.ref b, .int (Int32.ofNat o), .ref d, .int (Int32.ofNat q), .int (Int32.ofNat len)] 7)) (T7.setTop (mkF m 3 #[.val (.ref b), .val (.int (Int32.ofNat (o + (i + 1)))), .val (.ref d), .val (.int (Int32.ofNat (q + (i + 1)))), .val (.int (Int32.ofNat len)), .val (.int (Int32.ofNat (i + 1))), .val (.int (cv A (o + i)))] [])) := by
        have := c9
        rw [succ32, succ32, succ32] at this
        exact this
      exact ih (i + 1) (by omega) _ (Or.inr ⟨_, rfl, rfl⟩) T7 _ (by rw [copyLocs_step, ← List.append_assoc]; exact X7) (pl.trans p7) (fl.step (by omega) hlt (by simp)) c10
  obtain ⟨T9, B9, z9, X9, p9, f9, g9⟩ := loop len 0 (by omega) .unset (Or.inl rfl) s₁ B (by simpa [copyLocs] using X0) ⟨hB0.1, fun _ _ => rfl, rfl⟩ (Laid.zero _ _ _) c2
  have c11 : Steps p.tables e below (s₁.setTop (entryFrame m #[.ref b, .int (Int32.ofNat o), .ref d, .int (Int32.ofNat q), .int (Int32.ofNat len)] 7)) (T9.setTop (mkF m 46 #[.val (.ref b), .val (.int (Int32.ofNat (o + len))), .val (.ref d), .val (.int (Int32.ofNat (q + len))), .val (.int (Int32.ofNat len)), .val (.int (Int32.ofNat len)), z9] [.int (Int32.ofNat len)])) := g9.trans (by
    refine XS.iload X9.here hexec rfl (hb hbytes d3) rfl ?_
    refine XS.iload X9.here hexec rfl (hb hbytes d5) rfl ?_
    refine XS.icmpYes X9.here hexec rfl (pc0 := 7) rfl (hb hbytes d7) rfl (ii_ge_t (nlt32 (by omega) (Nat.le_refl _))) (by decide) rfl ?_
    refine XS.iload X9.here hexec rfl (hb hbytes d44) rfl ?_
    exact Steps.refl _)
  exact ⟨T9, some (.int (Int32.ofNat len)), _, _, _, X9, by simp, rfl, rfl, (fun h => by cases h), ⟨rfl, B9, p9.from hh0, f9⟩, fun fs hl => c11.trans (X9.ireturnOut hexec hret rfl (Or.inl rfl) (hb hbytes d46) hl)⟩
end Cmp5
namespace Cmp3
def yN : MethodName := ⟨"java/lang/StringUTF16", "compress", "([CII)[B"⟩
abbrev yB : ByteArray := jdk_52_method_16_code
theorem d0 : decode yB 0 = .ok (.iload_n 2, 1) := by decide +kernel
theorem d1 : decode yB 1 = .ok (.newarray .byte, 2) := by decide +kernel
theorem d3 : decode yB 3 = .ok (.astore_n 3, 1) := by decide +kernel
theorem d4 : decode yB 4 = .ok (.aload_n 0, 1) := by decide +kernel
theorem d5 : decode yB 5 = .ok (.iload_n 1, 1) := by decide +kernel
theorem d6 : decode yB 6 = .ok (.aload_n 3, 1) := by decide +kernel
theorem d7 : decode yB 7 = .ok (.iconst 0, 1) := by decide +kernel
theorem d8 : decode yB 8 = .ok (.iload_n 2, 1) := by decide +kernel
theorem d9 : decode yB 9 = .ok (.invokestatic 115, 3) := by decide +kernel
theorem d12 : decode yB 12 = .ok (.istore 4, 2) := by decide +kernel
theorem d14 : decode yB 14 = .ok (.iload 4, 2) := by decide +kernel
theorem d16 : decode yB 16 = .ok (.iload_n 2, 1) := by decide +kernel
theorem d17 : decode yB 17 = .ok (.if_icmp (.eq) 40, 3) := by decide +kernel
theorem d57 : decode yB 57 = .ok (.aload_n 3, 1) := by decide +kernel
theorem d58 : decode yB 58 = .ok (.areturn, 1) := by decide +kernel
def site : List Cond := [.arrayClass .byte, Cmp5.tab] ++ staticW U16 115 Cmp5.yN
def tab : Cond := tabOf yN yB 6 (some (.array .byte)) site
def P (b : Addr) (A : Cell) (o len : Nat) (args : Array Value) (s : State) : Prop := args = #[.ref b, .int (Int32.ofNat o), .int (Int32.ofNat len)] ∧ Ch b A s ∧ o + len ≤ A.slots.size ∧ len ≤ 536870912 ∧ ∀ i, i < len → ¬ 255 < cv A (o + i)
def E (b : Addr) (A : Cell) (o len : Nat) (r : Option Value) (s u : State) : Prop := NewArr .byte "[B" len (fun j => .int (lo8 (cv A (o + j)))) r s u ∧ u.heap.size = s.heap.size + 1
/-- no char of the range above 255: a new byte[] of their low bytes -/
theorem law (l : Launch) (b : Addr) (A : Cell) (o len : Nat) : Law l yN 3 3 1 18 yB 6 (some (.array .byte)) site (P b A o len) (E b A o len) [] 1 len := by
  refine Law.of_walk (plainFor_of_name (by decide +kernel)) (by decide +kernel) (by decide +kernel) (by decide) (fun _ _ h => by rw [h.1]; rfl) (fun _ U U' hal hh h => ⟨h.1, h.2.1.mv hal hh, h.2.2⟩) (fun r U U' V V' h1 hal h2 h => ⟨NewArr.mv r U U' V V' h1 hal h2 h.1, by rw [h1, h2]; exact h.2⟩) ?_
  intro p e s m args below meth c s₁ X0 hexec hbytes hml hret hlk hnm hown hh0 W hP
  obtain ⟨rfl, hA, l1, l2, hp⟩ := hP
  have a31 := hA.1.2.2.2
  have c1 : Steps p.tables e below (s₁.setTop (entryFrame m #[.ref b, .int (Int32.ofNat o), .int (Int32.ofNat len)] 6)) (s₁.setTop (mkF m 0 #[.val (.ref b), .val (.int (Int32.ofNat o)), .val (.int (Int32.ofNat len)), .unset, .unset, .unset] [])) := entry rfl
  have c2 : Steps p.tables e below (s₁.setTop (entryFrame m #[.ref b, .int (Int32.ofNat o), .int (Int32.ofNat len)] 6)) (s₁.setTop (mkF m 1 #[.val (.ref b), .val (.int (Int32.ofNat o)), .val (.int (Int32.ofNat len)), .unset, .unset, .unset] [.int (Int32.ofNat len)])) := c1.trans (by
    refine XS.iloadN X0.here hexec rfl (hb hbytes d0) rfl ?_
    exact Steps.refl _)
  obtain ⟨T3, B3, X3, ba3, bs3, bv3, bh3, bf3, st3⟩ := X0.anew hexec (atype := .byte) (wk W (.arrayClass .byte)) rfl (by show len * 1 ≤ _; omega) (by omega) (g := (mkF m 1 #[.val (.ref b), .val (.int (Int32.ofNat o)), .val (.int (Int32.ofNat len)), .unset, .unset, .unset] [.int (Int32.ofNat len)])) rfl (hb hbytes d1) (rest := []) rfl (Nat.le_refl _) (by show 0 + len ≤ len; omega)
  rw [hh0] at ba3 st3
  have kp3 : XT.Kept s T3 := (XT.Kept.of_eq hh0).push bh3
  have hA3 := hA.keep X3.warmed.alike (kp3 _ _ hA.1.1)
  have hne : b ≠ s.heap.size := hA.1.ne
  have c4 : Steps p.tables e below (s₁.setTop (entryFrame m #[.ref b, .int (Int32.ofNat o), .int (Int32.ofNat len)] 6)) (T3.setTop (mkF m 3 #[.val (.ref b), .val (.int (Int32.ofNat o)), .val (.int (Int32.ofNat len)), .unset, .unset, .unset] [.ref s.heap.size])) := c2.trans (st3 _ (Steps.refl _))
  have c5 : Steps p.tables e below (s₁.setTop (entryFrame m #[.ref b, .int (Int32.ofNat o), .int (Int32.ofNat len)] 6)) (T3.setTop (mkF m 9 #[.val (.ref b), .val (.int (Int32.ofNat o)), .val (.int (Int32.ofNat len)), .val (.ref s.heap.size), .unset, .unset] [.int (Int32.ofNat len), .int 0, .ref s.heap.size, .int (Int32.ofNat o), .ref b])) := c4.trans (by
    refine XS.astoreN X3.here hexec rfl (hb hbytes d3) rfl rfl rfl ?_
    refine XS.aloadN X3.here hexec rfl (hb hbytes d4) rfl rfl ?_
    refine XS.iloadN X3.here hexec rfl (hb hbytes d5) rfl ?_
    refine XS.aloadN X3.here hexec rfl (hb hbytes d6) rfl rfl ?_
    refine iconstV X3.here hexec rfl 0 (hb hbytes d7) (by decide) ?_
    refine XS.iloadN X3.here hexec rfl (hb hbytes d8) rfl ?_
    exact Steps.refl _)
  obtain ⟨v6, T6, X6, E6, g6⟩ := X3.callS hexec (Cmp5.law l b A s.heap.size B3 o 0 len) hown (wks W (staticW U16 115 Cmp5.yN)) (wk W Cmp5.tab) (W := 0) (Nat.le_of_ble_eq_true rfl) (Nat.le_of_ble_eq_true rfl) (Nat.le_refl _) (by show 0 + len + 0 ≤ len; omega) (g := (mkF m 9 #[.val (.ref b), .val (.int (Int32.ofNat o)), .val (.int (Int32.ofNat len)), .val (.ref s.heap.size), .unset, .unset] [.int (Int32.ofNat len), .int (Int32.ofNat 0), .ref s.heap.size, .int (Int32.ofNat o), .ref b])) rfl (by rw [hml]; rfl) c5 (argsL := [.ref b, .int (Int32.ofNat o), .ref s.heap.size, .int (Int32.ofNat 0), .int (Int32.ofNat len)]) (rest := []) rfl rfl (by show 2 * 0 + 0 ≤ _; decide) (hb hbytes d9) (⟨rfl, hA3, ba3, hne, l1, by rw [bs3]; simp, hp⟩)
  obtain ⟨rfl, B6, p6, f6⟩ := E6
  have c7 : Steps p.tables e below (s₁.setTop (entryFrame m #[.ref b, .int (Int32.ofNat o), .int (Int32.ofNat len)] 6)) (T6.setTop (mkF m 12 #[.val (.ref b), .val (.int (Int32.ofNat o)), .val (.int (Int32.ofNat len)), .val (.ref s.heap.size), .unset, .unset] [.int (Int32.ofNat len)])) := g6
  have c8 : Steps p.tables e below (s₁.setTop (entryFrame m #[.ref b, .int (Int32.ofNat o), .int (Int32.ofNat len)] 6)) (T6.setTop (mkF m 58 #[.val (.ref b), .val (.int (Int32.ofNat o)), .val (.int (Int32.ofNat len)), .val (.ref s.heap.size), .val (.int (Int32.ofNat len)), .unset] [.ref s.heap.size])) := c7.trans (by
    refine XS.istore X6.here hexec rfl (hb hbytes d12) rfl rfl ?_
    refine XS.iload X6.here hexec rfl (hb hbytes d14) rfl ?_
    refine XS.iloadN X6.here hexec rfl (hb hbytes d16) rfl ?_
    refine XS.icmpYes X6.here hexec rfl (pc0 := 17) rfl (hb hbytes d17) rfl (ii_eq_t rfl) (by decide) rfl ?_
    refine XS.aloadN X6.here hexec rfl (hb hbytes d57) rfl rfl ?_
    exact Steps.refl _)
  have X8 := X6.wide (L' := []) (cells' := 1) (slots' := len) (fun x hx hlt => by
    simp only [List.nil_append, copyLocs, List.mem_map, List.mem_range] at hx
    obtain ⟨i, -, rfl⟩ := hx
    exact absurd hlt (Nat.lt_irrefl _)) (Nat.le_refl _) (by omega)
  exact ⟨T6, some (.ref s.heap.size), _, _, _, X8, rfl, rfl, rfl, (fun h => by cases h), ⟨⟨rfl, B6, ba3.like (X3.warmed.alike.symm.trans X6.warmed.alike) p6.1 f6.1 f6.2.1 f6.2.2.1, f6.2.1.trans bv3, by rw [X6.warmed.alike.findClass, f6.1]; exact bf3, by rw [f6.2.2.1, bs3]; simp, fun j hj => by rw [f6.2.2.2 j, if_pos (by omega)]; rfl, kp3.put p6 (Nat.le_refl _)⟩, by rw [p6.2.2, bh3, hh0]; simp⟩, fun fs hl => c8.trans (X8.areturnOut hexec rfl hret rfl (hb hbytes d58) hl)⟩
end Cmp3
namespace CodL
def yN : MethodName := ⟨"java/lang/StringUTF16", "coderFromArrayLen", "([BI)B"⟩
abbrev yB : ByteArray := jdk_52_method_15_code
theorem d0 : decode yB 0 = .ok (.iload_n 1, 1) := by decide +kernel
theorem d1 : decode yB 1 = .ok (.aload_n 0, 1) := by decide +kernel
theorem d2 : decode yB 2 = .ok (.arraylength, 1) := by decide +kernel
theorem d3 : decode yB 3 = .ok (.isub, 1) := by decide +kernel
theorem d4 : decode yB 4 = .ok (.bipush 31, 2) := by decide +kernel
theorem d6 : decode yB 6 = .ok (.iushr, 1) := by decide +kernel
theorem d7 : decode yB 7 = .ok (.i2b, 1) := by decide +kernel
theorem d8 : decode yB 8 = .ok (.ireturn, 1) := by decide +kernel
def site : List Cond := []
def tab : Cond := tabOf yN yB 2 (some .byte) site
def P (d : Addr) (B : Cell) (args : Array Value) (s : State) : Prop := args = #[.ref d, .int (Int32.ofNat B.slots.size)] ∧ Arr .byte d B s
def E (r : Option Value) (s u : State) : Prop := XT.PureE (some (.int 0)) r s u
/-- an array as long as the number of chars: LATIN1 -/
theorem law (l : Launch) (d : Addr) (B : Cell) : Law l yN 2 2 0 0 yB 2 (some .byte) site (P d B) E [] 0 0 := by
  refine Law.of_walk (plainFor_of_name (by decide +kernel)) (by decide +kernel) (by decide +kernel) (by decide) (fun _ _ h => by rw [h.1]; rfl) (fun _ U U' hal hh h => ⟨h.1, h.2.mv hal hh⟩) (fun r U U' V V' h1 hal h2 h => XT.PureE.mv r U U' V V' h1 hal h2 h) ?_
  intro p e s m args below meth c s₁ X0 hexec hbytes hml hret hlk hnm hown hh0 W hP
  obtain ⟨rfl, hB⟩ := hP
  have hB0 := hB.mv X0.warmed.alike hh0
  have c1 : Steps p.tables e below (s₁.setTop (entryFrame m #[.ref d, .int (Int32.ofNat B.slots.size)] 2)) (s₁.setTop (mkF m 0 #[.val (.ref d), .val (.int (Int32.ofNat B.slots.size))] [])) := entry rfl
  have c2 : Steps p.tables e below (s₁.setTop (entryFrame m #[.ref d, .int (Int32.ofNat B.slots.size)] 2)) (s₁.setTop (mkF m 2 #[.val (.ref d), .val (.int (Int32.ofNat B.slots.size))] [.ref d, .int (Int32.ofNat B.slots.size)])) := c1.trans (by
    refine XS.iloadN X0.here hexec rfl (hb hbytes d0) rfl ?_
    refine XS.aloadN X0.here hexec rfl (hb hbytes d1) rfl rfl ?_
    exact Steps.refl _)
  have c3 : Steps p.tables e below (s₁.setTop (entryFrame m #[.ref d, .int (Int32.ofNat B.slots.size)] 2)) (s₁.setTop (mkF m 8 #[.val (.ref d), .val (.int (Int32.ofNat B.slots.size))] [.int (lo8 (ushr (Int32.ofNat B.slots.size - Int32.ofNat B.slots.size) 31))])) := c2.trans (by
    refine X0.alen hexec hB0 rfl rfl (hb hbytes d2) ?_
    refine XS.isub X0.here hexec rfl (hb hbytes d3) rfl ?_
    refine bipushV X0.here hexec rfl 31 (hb hbytes d4) (by decide) ?_
    refine iushr X0.here hexec rfl (hb hbytes d6) rfl ?_
    refine i2b X0.here hexec rfl (hb hbytes d7) rfl ?_
    exact Steps.refl _)
  have e0 : lo8 (ushr (Int32.ofNat B.slots.size - Int32.ofNat B.slots.size) 31) = 0 := by rw [Int32.sub_self]; decide
  rw [e0] at c3
  exact ⟨s₁, some (.int 0), _, _, _, X0, rfl, rfl, rfl, (fun h => by cases h), ⟨rfl, hh0⟩, fun fs hl => c3.trans (X0.ireturnOut hexec hret rfl (Or.inr (Or.inr (Or.inl rfl))) (hb hbytes d8) hl)⟩
end CodL
/-- the String at a is Latin-1 over a new byte[] (the heap's one new cell): the low bytes of the len chars of A from o on; every cell but a is kept -/
def Got (a : Addr) (D : Cell) (fV fC : Field) (A : Cell) (o len : Nat) (r : Option Value) (s u : State) : Prop := r = none ∧ ∃ D' V : Cell, Blank "java/lang/String" a D' u ∧ Same D D' [fV.slot, fC.slot] ∧ D'.slots[fV.slot]? = some (.ref s.heap.size) ∧ D'.slots[fC.slot]? = some (.int 0) ∧ Arr .byte s.heap.size V u ∧ V.vm = .none ∧ u.vm.findClass "[B" = some V.cls ∧ V.slots.size = len ∧ (∀ j, j < len → V.slots[j]? = some (.int (lo8 (cv A (o + j))))) ∧ (∀ (y : Addr) (c : Cell), y ≠ a → s.heap[y]? = some c → u.heap[y]? = some c) ∧ u.heap.size = s.heap.size + 1
theorem Got.mv {a : Addr} {D A : Cell} {fV fC : Field} {o len : Nat} : ∀ r (U U' V V' : State), U'.heap = U.heap → V.vm.Alike V'.vm → V'.heap = V.heap → Got a D fV fC A o len r U V → Got a D fV fC A o len r U' V' :=
  fun r U U' V V' h1 hal h2 ⟨e0, D', X, a1, a2, a3, a4, a5, a6, a7, a8, a9, a10, a11⟩ => ⟨e0, D', X, a1.mv hal h2, a2, by rw [h1]; exact a3, a4, by rw [h1]; exact a5.mv hal h2, a6, by rw [hal.findClass]; exact a7, a8, a9, by rw [h1, h2]; exact a10, by rw [h1, h2]; exact a11⟩
namespace New4
def yN : MethodName := ⟨"java/lang/String", "<init>", "([CIILjava/lang/Void;)V"⟩
abbrev yB : ByteArray := jdk_42_method_149_code
theorem d0 : decode yB 0 = .ok (.aload_n 0, 1) := by decide +kernel
theorem d1 : decode yB 1 = .ok (.invokespecial 1, 3) := by decide +kernel
theorem d4 : decode yB 4 = .ok (.iload_n 3, 1) := by decide +kernel
theorem d5 : decode yB 5 = .ok (.ifCond (.ne) 22, 3) := by decide +kernel
theorem d27 : decode yB 27 = .ok (.getstatic 38, 3) := by decide +kernel
theorem d30 : decode yB 30 = .ok (.ifCond (.eq) 28, 3) := by decide +kernel
theorem d33 : decode yB 33 = .ok (.aload_n 1, 1) := by decide +kernel
theorem d34 : decode yB 34 = .ok (.iload_n 2, 1) := by decide +kernel
theorem d35 : decode yB 35 = .ok (.iload_n 3, 1) := by decide +kernel
theorem d36 : decode yB 36 = .ok (.invokestatic 177, 3) := by decide +kernel
theorem d39 : decode yB 39 = .ok (.astore 5, 2) := by decide +kernel
theorem d41 : decode yB 41 = .ok (.aload_n 0, 1) := by decide +kernel
theorem d42 : decode yB 42 = .ok (.aload 5, 2) := by decide +kernel
theorem d44 : decode yB 44 = .ok (.iload_n 3, 1) := by decide +kernel
theorem d45 : decode yB 45 = .ok (.invokestatic 47, 3) := by decide +kernel
theorem d48 : decode yB 48 = .ok (.putfield 15, 3) := by decide +kernel
theorem d51 : decode yB 51 = .ok (.aload_n 0, 1) := by decide +kernel
theorem d52 : decode yB 52 = .ok (.aload 5, 2) := by decide +kernel
theorem d54 : decode yB 54 = .ok (.putfield 9, 3) := by decide +kernel
theorem d57 : decode yB 57 = .ok (.return_, 1) := by decide +kernel
def site : List Cond := [.fieldLink "java/lang/String" 38 "java/lang/String" "COMPACT_STRINGS" "Z", Cmp3.tab, CodL.tab, .laysFinal "java/lang/String" "java/lang/String" "value" "[B", .fieldLink "java/lang/String" 9 "java/lang/String" "value" "[B", .laysFinal "java/lang/String" "java/lang/String" "coder" "B", .fieldLink "java/lang/String" 15 "java/lang/String" "coder" "B"] ++ objW "java/lang/String" 1 ++ staticW "java/lang/String" 177 Cmp3.yN ++ staticW "java/lang/String" 47 CodL.yN
def tab : Cond := tabOf yN yB 6 none site
def P (a : Addr) (D : Cell) (fV fC : Field) (b : Addr) (A : Cell) (z : Int32) (o len : Nat) (args : Array Value) (s : State) : Prop := args = #[.ref a, .ref b, .int (Int32.ofNat o), .int (Int32.ofNat len), .null] ∧ Blank "java/lang/String" a D s ∧ Found "java/lang/String" "value" "[B" fV s ∧ Found "java/lang/String" "coder" "B" fC s ∧ Ch b A s ∧ StaticIs s "java/lang/String" "COMPACT_STRINGS" "Z" (.int z) ∧ ¬ z = 0 ∧ 0 < len ∧ o + len ≤ A.slots.size ∧ len ≤ 536870912 ∧ ∀ i, i < len → ¬ 255 < cv A (o + i)
def E (a : Addr) (D : Cell) (fV fC : Field) (A : Cell) (o len : Nat) (r : Option Value) (s u : State) : Prop := Got a D fV fC A o len r s u
/-- len > 0, no char of the range above 255: a Latin-1 String of their low bytes -/
theorem law (l : Launch) (a : Addr) (D : Cell) (fV fC : Field) (b : Addr) (A : Cell) (z : Int32) (o len : Nat) : Law l yN 5 4 2 35 yB 6 none site (P a D fV fC b A z o len) (E a D fV fC A o len) [⟨a, fC.slot⟩, ⟨a, fV.slot⟩] 1 len := by
  refine Law.of_walk (plainFor_of_name (by decide +kernel)) (by decide +kernel) (by decide +kernel) (by decide) (fun _ _ h => by rw [h.1]; rfl) (fun _ U U' hal hh h => ⟨h.1, h.2.1.mv hal hh, h.2.2.1.al hal, h.2.2.2.1.al hal, h.2.2.2.2.1.mv hal hh, h.2.2.2.2.2.1.there hal hh, h.2.2.2.2.2.2⟩) (fun r U U' V V' h1 hal h2 h => Got.mv r U U' V V' h1 hal h2 h) ?_
  intro p e s m args below meth c s₁ X0 hexec hbytes hml hret hlk hnm hown hh0 W hP
  obtain ⟨rfl, hB, f1, f2, hA, s1, hz, l0, l1, l2, hp⟩ := hP
  have a31 := hA.1.2.2.2
  have c1 : Steps p.tables e below (s₁.setTop (entryFrame m #[.ref a, .ref b, .int (Int32.ofNat o), .int (Int32.ofNat len), .null] 6)) (s₁.setTop (mkF m 0 #[.val (.ref a), .val (.ref b), .val (.int (Int32.ofNat o)), .val (.int (Int32.ofNat len)), .val .null, .unset] [])) := entry rfl
  have c2 : Steps p.tables e below (s₁.setTop (entryFrame m #[.ref a, .ref b, .int (Int32.ofNat o), .int (Int32.ofNat len), .null] 6)) (s₁.setTop (mkF m 1 #[.val (.ref a), .val (.ref b), .val (.int (Int32.ofNat o)), .val (.int (Int32.ofNat len)), .val .null, .unset] [.ref a])) := c1.trans (by
    refine XS.aloadN X0.here hexec rfl (hb hbytes d0) rfl rfl ?_
    exact Steps.refl _)
  obtain ⟨T3, X3, q3, st3⟩ := X0.oinit hexec hown (wks W (objW "java/lang/String" 1)) (g := (mkF m 1 #[.val (.ref a), .val (.ref b), .val (.int (Int32.ofNat o)), .val (.int (Int32.ofNat len)), .val .null, .unset] [.ref a])) rfl (by rw [hml]; rfl) (rest := []) rfl (hb hbytes d1) (W := 0) (by show 2 * 0 + 0 ≤ _; decide) (Nat.le_of_ble_eq_true rfl) (Nat.le_of_ble_eq_true rfl)
  have hh3 := q3.trans hh0
  have c4 : Steps p.tables e below (s₁.setTop (entryFrame m #[.ref a, .ref b, .int (Int32.ofNat o), .int (Int32.ofNat len), .null] 6)) (T3.setTop (mkF m 27 #[.val (.ref a), .val (.ref b), .val (.int (Int32.ofNat o)), .val (.int (Int32.ofNat len)), .val .null, .unset] [])) := (c2.trans (st3 _ (Steps.refl _))).trans (by
    refine XS.iloadN X3.here hexec rfl (hb hbytes d4) rfl ?_
    refine XS.ifYes X3.here hexec rfl (pc0 := 5) rfl (hb hbytes d5) rfl (i0_ne_t (nz32 (by omega) l0)) (by decide) rfl ?_
    exact Steps.refl _)
  obtain ⟨T5, X5, q5, st5⟩ := X3.sget hexec hown (wk W (.fieldLink "java/lang/String" 38 "java/lang/String" "COMPACT_STRINGS" "Z")) s1 (fun _ _ h => by rw [hh3]; exact h) (g := (mkF m 27 #[.val (.ref a), .val (.ref b), .val (.int (Int32.ofNat o)), .val (.int (Int32.ofNat len)), .val .null, .unset] [])) rfl (hb hbytes d27)
  have hh5 := q5.trans hh3
  have c6 : Steps p.tables e below (s₁.setTop (entryFrame m #[.ref a, .ref b, .int (Int32.ofNat o), .int (Int32.ofNat len), .null] 6)) (T5.setTop (mkF m 30 #[.val (.ref a), .val (.ref b), .val (.int (Int32.ofNat o)), .val (.int (Int32.ofNat len)), .val .null, .unset] [.int z])) := c4.trans (st5 _ (Steps.refl _))
  have c7 : Steps p.tables e below (s₁.setTop (entryFrame m #[.ref a, .ref b, .int (Int32.ofNat o), .int (Int32.ofNat len), .null] 6)) (T5.setTop (mkF m 36 #[.val (.ref a), .val (.ref b), .val (.int (Int32.ofNat o)), .val (.int (Int32.ofNat len)), .val .null, .unset] [.int (Int32.ofNat len), .int (Int32.ofNat o), .ref b])) := c6.trans (by
    refine XS.ifNo X5.here hexec rfl (hb hbytes d30) rfl (i0_eq_f hz) ?_
    refine XS.aloadN X5.here hexec rfl (hb hbytes d33) rfl rfl ?_
    refine XS.iloadN X5.here hexec rfl (hb hbytes d34) rfl ?_
    refine XS.iloadN X5.here hexec rfl (hb hbytes d35) rfl ?_
    exact Steps.refl _)
  obtain ⟨v8, T8, X8, E8, g8⟩ := X5.callS hexec (Cmp3.law l b A o len) hown (wks W (staticW "java/lang/String" 177 Cmp3.yN)) (wk W Cmp3.tab) (W := 0) (Nat.le_of_ble_eq_true rfl) (Nat.le_of_ble_eq_true rfl) (Nat.le_refl _) (by show 0 + len ≤ len; omega) (g := (mkF m 36 #[.val (.ref a), .val (.ref b), .val (.int (Int32.ofNat o)), .val (.int (Int32.ofNat len)), .val .null, .unset] [.int (Int32.ofNat len), .int (Int32.ofNat o), .ref b])) rfl (by rw [hml]; rfl) c7 (argsL := [.ref b, .int (Int32.ofNat o), .int (Int32.ofNat len)]) (rest := []) rfl rfl (by show 2 * 0 + 0 ≤ _; decide) (hb hbytes d36) (⟨rfl, hA.mv X5.warmed.alike hh5, l1, l2, hp⟩)
  obtain ⟨e8, z8⟩ := E8
  obtain ⟨rfl, N, n1, n2, n3, n4, n5, n6⟩ := NewArr.mv _ T5 s _ _ hh5.symm (Vm.Alike.refl _) rfl e8
  rw [hh5] at z8
  have hB1 := hB.keep X8.warmed.alike (n6 _ _ hB.1)
  have hne : s.heap.size ≠ a := (Nat.ne_of_lt (Array.getElem?_eq_some_iff.mp hB.1).1).symm
  have c9 : Steps p.tables e below (s₁.setTop (entryFrame m #[.ref a, .ref b, .int (Int32.ofNat o), .int (Int32.ofNat len), .null] 6)) (T8.setTop (mkF m 39 #[.val (.ref a), .val (.ref b), .val (.int (Int32.ofNat o)), .val (.int (Int32.ofNat len)), .val .null, .unset] [.ref s.heap.size])) := g8
  have c10 : Steps p.tables e below (s₁.setTop (entryFrame m #[.ref a, .ref b, .int (Int32.ofNat o), .int (Int32.ofNat len), .null] 6)) (T8.setTop (mkF m 45 #[.val (.ref a), .val (.ref b), .val (.int (Int32.ofNat o)), .val (.int (Int32.ofNat len)), .val .null, .val (.ref s.heap.size)] [.int (Int32.ofNat N.slots.size), .ref s.heap.size, .ref a])) := by
    have hc : Steps p.tables e below (s₁.setTop (entryFrame m #[.ref a, .ref b, .int (Int32.ofNat o), .int (Int32.ofNat len), .null] 6)) (T8.setTop (mkF m 45 #[.val (.ref a), .val (.ref b), .val (.int (Int32.ofNat o)), .val (.int (Int32.ofNat len)), .val .null, .val (.ref s.heap.size)] [.int (Int32.ofNat len), .ref s.heap.size, .ref a])) := c9.trans (by
      refine XS.astore X8.here hexec rfl (hb hbytes d39) rfl rfl rfl ?_
      refine XS.aloadN X8.here hexec rfl (hb hbytes d41) rfl rfl ?_
      refine XS.aload X8.here hexec rfl (hb hbytes d42) rfl rfl ?_
      refine XS.iloadN X8.here hexec rfl (hb hbytes d44) rfl ?_
      exact Steps.refl _)
    rw [n4]; exact hc
  obtain ⟨v11, T11, X11, E11, g11⟩ := X8.callS hexec (CodL.law l s.heap.size N) hown (wks W (staticW "java/lang/String" 47 CodL.yN)) (wk W CodL.tab) (W := 1) (Nat.le_of_ble_eq_true rfl) (Nat.le_of_ble_eq_true rfl) (Nat.le_refl _) (by show 0 + len + 0 ≤ len; omega) (g := (mkF m 45 #[.val (.ref a), .val (.ref b), .val (.int (Int32.ofNat o)), .val (.int (Int32.ofNat len)), .val .null, .val (.ref s.heap.size)] [.int (Int32.ofNat N.slots.size), .ref s.heap.size, .ref a])) rfl (by rw [hml]; rfl) c10 (argsL := [.ref s.heap.size, .int (Int32.ofNat N.slots.size)]) (rest := [.ref a]) rfl rfl (by show 2 * 0 + (1 + 0) ≤ _; decide) (hb hbytes d45) (⟨rfl, n1⟩)
  obtain ⟨rfl, q11⟩ := E11
  have hB11 := hB1.mv (X8.warmed.alike.symm.trans X11.warmed.alike) q11
  have c12 : Steps p.tables e below (s₁.setTop (entryFrame m #[.ref a, .ref b, .int (Int32.ofNat o), .int (Int32.ofNat len), .null] 6)) (T11.setTop (mkF m 48 #[.val (.ref a), .val (.ref b), .val (.int (Int32.ofNat o)), .val (.int (Int32.ofNat len)), .val .null, .val (.ref s.heap.size)] [.int 0, .ref a])) := g11
  obtain ⟨T13, X13, p13, bl13, sl13, st13⟩ := X11.finit hexec hown (wk W (.fieldLink "java/lang/String" 15 "java/lang/String" "coder" "B")) (Or.inr ⟨_, (wk W (.laysFinal "java/lang/String" "java/lang/String" "coder" "B"))⟩) (Or.inl ⟨rfl, hnm⟩) f2 (Or.inl rfl) hB11 (t := .byte) (by decide +kernel) rfl (g := (mkF m 48 #[.val (.ref a), .val (.ref b), .val (.int (Int32.ofNat o)), .val (.int (Int32.ofNat len)), .val .null, .val (.ref s.heap.size)] [.int 0, .ref a])) rfl (rest := []) rfl (hb hbytes d48)
  have c14 : Steps p.tables e below (s₁.setTop (entryFrame m #[.ref a, .ref b, .int (Int32.ofNat o), .int (Int32.ofNat len), .null] 6)) (T13.setTop (mkF m 54 #[.val (.ref a), .val (.ref b), .val (.int (Int32.ofNat o)), .val (.int (Int32.ofNat len)), .val .null, .val (.ref s.heap.size)] [.ref s.heap.size, .ref a])) := (c12.trans (st13 _ (Steps.refl _))).trans (by
    refine XS.aloadN X13.here hexec rfl (hb hbytes d51) rfl rfl ?_
    refine XS.aload X13.here hexec rfl (hb hbytes d52) rfl rfl ?_
    exact Steps.refl _)
  obtain ⟨T15, X15, p15, bl15, sl15, st15⟩ := X13.finit hexec hown (wk W (.fieldLink "java/lang/String" 9 "java/lang/String" "value" "[B")) (Or.inr ⟨_, (wk W (.laysFinal "java/lang/String" "java/lang/String" "value" "[B"))⟩) (Or.inl ⟨rfl, hnm⟩) f1 (Or.inl rfl) bl13 (t := (.array .byte)) (by decide +kernel) rfl (g := (mkF m 54 #[.val (.ref a), .val (.ref b), .val (.int (Int32.ofNat o)), .val (.int (Int32.ofNat len)), .val .null, .val (.ref s.heap.size)] [.ref s.heap.size, .ref a])) rfl (rest := []) rfl (hb hbytes d54)
  have c16 : Steps p.tables e below (s₁.setTop (entryFrame m #[.ref a, .ref b, .int (Int32.ofNat o), .int (Int32.ofNat len), .null] 6)) (T15.setTop (mkF m 57 #[.val (.ref a), .val (.ref b), .val (.int (Int32.ofNat o)), .val (.int (Int32.ofNat len)), .val .null, .val (.ref s.heap.size)] [])) := c14.trans (st15 _ (Steps.refl _))
  have ap := apart (Or.inr ⟨_, (wk W (.laysFinal "java/lang/String" "java/lang/String" "value" "[B"))⟩) (Or.inr ⟨_, (wk W (.laysFinal "java/lang/String" "java/lang/String" "coder" "B"))⟩) f1 f2 (t₁ := .array .byte) (t₂ := .byte) (by decide +kernel) (by decide +kernel) (by decide)
  have al := X8.warmed.alike.symm.trans X15.warmed.alike
  have n7 : T11.heap[s.heap.size]? = some N := by rw [q11]; exact n1.1
  exact ⟨T15, none, _, _, _, X15, by simp, rfl, by omega, (fun _ => rfl), ⟨rfl, _, N, bl15, ((Same.refl D _).set _ (by simp)).set _ (by simp), sl15, (Cell.slots_setSlot_ne _ ap).trans sl13, n1.keep al (p15.other hne (p13.other hne n7)), n2, by rw [al.findClass]; exact n3, n4, n5, fun y c h1 h2 => p15.other h1 (p13.other h1 (by rw [q11]; exact n6 y c h2)), by rw [p15.2.2, p13.2.2, q11]; exact z8⟩, fun fs hl => c16.trans (X15.returnOut hexec hret (hb hbytes d57) hl)⟩
end New4
namespace New1
def yN : MethodName := ⟨"java/lang/String", "<init>", "([C)V"⟩
abbrev yB : ByteArray := jdk_42_method_3_code
theorem d0 : decode yB 0 = .ok (.aload_n 0, 1) := by decide +kernel
theorem d1 : decode yB 1 = .ok (.aload_n 1, 1) := by decide +kernel
theorem d2 : decode yB 2 = .ok (.iconst 0, 1) := by decide +kernel
theorem d3 : decode yB 3 = .ok (.aload_n 1, 1) := by decide +kernel
theorem d4 : decode yB 4 = .ok (.arraylength, 1) := by decide +kernel
theorem d5 : decode yB 5 = .ok (.aconst_null, 1) := by decide +kernel
theorem d6 : decode yB 6 = .ok (.invokespecial 27, 3) := by decide +kernel
theorem d9 : decode yB 9 = .ok (.return_, 1) := by decide +kernel
def site : List Cond := [New4.tab] ++ initW "java/lang/String" 27 New4.yN
def tab : Cond := tabOf yN yB 2 none site
def P (a : Addr) (D : Cell) (fV fC : Field) (b : Addr) (A : Cell) (z : Int32) (args : Array Value) (s : State) : Prop := args = #[.ref a, .ref b] ∧ Blank "java/lang/String" a D s ∧ Found "java/lang/String" "value" "[B" fV s ∧ Found "java/lang/String" "coder" "B" fC s ∧ Ch b A s ∧ StaticIs s "java/lang/String" "COMPACT_STRINGS" "Z" (.int z) ∧ ¬ z = 0 ∧ 0 < A.slots.size ∧ A.slots.size ≤ 536870912 ∧ ∀ i, i < A.slots.size → ¬ 255 < cv A i
def E (a : Addr) (D : Cell) (fV fC : Field) (A : Cell) (r : Option Value) (s u : State) : Prop := Got a D fV fC A 0 A.slots.size r s u
/-- new String(chars), not empty, no char above 255: a Latin-1 String of their low bytes -/
theorem law (l : Launch) (a : Addr) (D : Cell) (fV fC : Field) (b : Addr) (A : Cell) (z : Int32) : Law l yN 2 1 3 52 yB 2 none site (P a D fV fC b A z) (E a D fV fC A) [⟨a, fC.slot⟩, ⟨a, fV.slot⟩] 1 A.slots.size := by
  refine Law.of_walk (plainFor_of_name (by decide +kernel)) (by decide +kernel) (by decide +kernel) (by decide) (fun _ _ h => by rw [h.1]; rfl) (fun _ U U' hal hh h => ⟨h.1, h.2.1.mv hal hh, h.2.2.1.al hal, h.2.2.2.1.al hal, h.2.2.2.2.1.mv hal hh, h.2.2.2.2.2.1.there hal hh, h.2.2.2.2.2.2⟩) (fun r U U' V V' h1 hal h2 h => Got.mv r U U' V V' h1 hal h2 h) ?_
  intro p e s m args below meth c s₁ X0 hexec hbytes hml hret hlk hnm hown hh0 W hP
  obtain ⟨rfl, hB, f1, f2, hA, s1, hz, l0, l2, hp⟩ := hP
  have c1 : Steps p.tables e below (s₁.setTop (entryFrame m #[.ref a, .ref b] 2)) (s₁.setTop (mkF m 0 #[.val (.ref a), .val (.ref b)] [])) := entry rfl
  have c2 : Steps p.tables e below (s₁.setTop (entryFrame m #[.ref a, .ref b] 2)) (s₁.setTop (mkF m 6 #[.val (.ref a), .val (.ref b)] [.null, .int (Int32.ofNat A.slots.size), .int 0, .ref b, .ref a])) := c1.trans (by
    refine XS.aloadN X0.here hexec rfl (hb hbytes d0) rfl rfl ?_
    refine XS.aloadN X0.here hexec rfl (hb hbytes d1) rfl rfl ?_
    refine iconstV X0.here hexec rfl 0 (hb hbytes d2) (by decide) ?_
    refine XS.aloadN X0.here hexec rfl (hb hbytes d3) rfl rfl ?_
    refine X0.alen hexec (hA.1.mv X0.warmed.alike hh0) rfl rfl (hb hbytes d4) ?_
    refine XS.aconstNull X0.here hexec rfl (hb hbytes d5) ?_
    exact Steps.refl _)
  obtain ⟨v3, T3, X3, E3, g3⟩ := X0.callN hexec (New4.law l a D fV fC b A z 0 A.slots.size) rfl hown (wks W (initW "java/lang/String" 27 New4.yN)) (W New4.tab (by simp only [site, List.mem_cons, List.mem_append, true_or, or_true])) (W := 0) (Nat.le_of_ble_eq_true rfl) (Nat.le_of_ble_eq_true rfl) (Nat.le_refl _) (by show 0 + A.slots.size ≤ A.slots.size; omega) (g := (mkF m 6 #[.val (.ref a), .val (.ref b)] [.null, .int (Int32.ofNat A.slots.size), .int (Int32.ofNat 0), .ref b, .ref a])) rfl (by rw [hml]; rfl) c2 (argsL := [.ref b, .int (Int32.ofNat 0), .int (Int32.ofNat A.slots.size), .null]) (rest := []) rfl rfl (by show 2 * 0 + 0 ≤ _; decide) (hb hbytes d6) (⟨rfl, hB.mv X0.warmed.alike hh0, f1.al X0.warmed.alike, f2.al X0.warmed.alike, hA.mv X0.warmed.alike hh0, s1.there X0.warmed.alike hh0, hz, l0, by omega, l2, fun i hi => by rw [Nat.zero_add]; exact hp i hi⟩)
  have e0 := Got.mv _ s₁ s _ _ hh0.symm (Vm.Alike.refl _) rfl E3
  obtain rfl := e0.1
  have c4 : Steps p.tables e below (s₁.setTop (entryFrame m #[.ref a, .ref b] 2)) (T3.setTop (mkF m 9 #[.val (.ref a), .val (.ref b)] [])) := g3
  exact ⟨T3, none, _, _, _, X3, by simp, rfl, by omega, (fun _ => rfl), e0, fun fs hl => c4.trans (X3.returnOut hexec hret (hb hbytes d9) hl)⟩
theorem pays {l : Launch} {R : Room} {p : Program} {e : Env} {below : List Frame} {s : State} {sargs : Array Value} {len W : Nat} (a : Addr) (D : Cell) (fV fC : Field) (b : Addr) (A : Cell) (z : Int32) (htab : tab.before sargs s = true) (hfr : 4 ≤ R.frames) (hlo : W + 65 ≤ R.locals) :
    Back l R p e below s sargs yN len W (fun A₁ a₁ => A₁.cells + 1 ≤ R.cells ∧ A₁.slots + A.slots.size ≤ R.slots ∧ P a D fV fC b A z a₁ A₁.U) (fun A₁ _ v₁ B₁ => E a D fV fC A v₁ A₁.U B₁.U ∧ B₁.locs = A₁.locs ++ [⟨a, fC.slot⟩, ⟨a, fV.slot⟩] ∧ B₁.cells = A₁.cells + 1 ∧ B₁.slots = A₁.slots + A.slots.size) :=
  (law l a D fV fC b A z).pays htab hfr (by omega)
end New1
/-- the byte, read back as charAt reads it, is the char -/
theorem lo8_mask {x : Int32} (h0 : ¬ x < 0) (h1 : ¬ 255 < x) : lo8 x &&& 255 = x := by
  have t : ∀ k : Fin 256, lo8 (Int32.ofNat k.val) &&& 255 = Int32.ofNat k.val := by decide +kernel
  rw [Int32.lt_iff_toInt_lt] at h0 h1
  have e0 : (0 : Int32).toInt = 0 := rfl
  have e1 : (255 : Int32).toInt = 255 := rfl
  obtain ⟨k, hk⟩ : ∃ k : Nat, x.toInt = k := ⟨x.toInt.toNat, by omega⟩
  have hx : x = Int32.ofNat k := Int32.toInt_inj.mp (by rw [hk, Int32.toInt_ofNat_small (by omega)])
  rw [hx]
  exact t ⟨k, by omega⟩
end StrChars
namespace StrChars.Road
open Jvm Sem ClassFile Op Lib Jvm.Stand Jvm.Free Jvm.Free.XT
open Jvm.Lib.Cold (StaticIs)
abbrev ST : String := "java/lang/String"
/-- every table word that New1's law asks, flat -/
abbrev words : List Jvm.Cond := [.code New1.yN New1.yB 2 none, .initialized ST, .methodLink ST 27 New4.yN, .instanceMethod New4.yN,
  .code New4.yN New4.yB 6 none, .fieldLink ST 38 ST "COMPACT_STRINGS" "Z", .laysFinal ST ST "value" "[B", .fieldLink ST 9 ST "value" "[B", .laysFinal ST ST "coder" "B", .fieldLink ST 15 ST "coder" "B",
  .methodLink ST 1 Lib.objectInit, .instanceMethod Lib.objectInit, .code Lib.objectInit ⟨#[0xb1]⟩ 1 none, .methodLink ST 177 Cmp3.yN, .static Cmp3.yN, .methodLink ST 47 CodL.yN, .static CodL.yN,
  .code Cmp3.yN Cmp3.yB 6 (some (.array .byte)), .initialized U16, .arrayClass .byte, .methodLink U16 115 Cmp5.yN, .static Cmp5.yN, .code Cmp5.yN Cmp5.yB 7 (some .int), .code CodL.yN CodL.yB 2 (some .byte)]
theorem tab_of {a : Array Value} {s : State} (h : ∀ w ∈ words, w.before a s = true) : New1.tab.before a s = true := by
  have h5 : Cmp5.tab.before a s = true := unparts (wk h (.code Cmp5.yN Cmp5.yB 7 (some .int))) (wks h (.initialized Cmp5.yN.cls :: Cmp5.site))
  have hc : CodL.tab.before a s = true := unparts (wk h (.code CodL.yN CodL.yB 2 (some .byte))) (wks h (.initialized CodL.yN.cls :: CodL.site))
  have q5 : ∀ w ∈ Cmp5.tab :: words, w.before a s = true := fun w hw => (List.mem_cons.mp hw).elim (fun e => e ▸ h5) (h w)
  have h3 : Cmp3.tab.before a s = true := unparts (wk q5 (.code Cmp3.yN Cmp3.yB 6 (some (.array .byte)))) (wks q5 (.initialized Cmp3.yN.cls :: Cmp3.site))
  have q3 : ∀ w ∈ Cmp3.tab :: CodL.tab :: words, w.before a s = true := fun w hw => (List.mem_cons.mp hw).elim (fun e => e ▸ h3) fun hw => (List.mem_cons.mp hw).elim (fun e => e ▸ hc) (h w)
  have h4 : New4.tab.before a s = true := unparts (wk q3 (.code New4.yN New4.yB 6 none)) (wks q3 (.initialized New4.yN.cls :: New4.site))
  have q4 : ∀ w ∈ New4.tab :: words, w.before a s = true := fun w hw => (List.mem_cons.mp hw).elim (fun e => e ▸ h4) (h w)
  exact unparts (wk q4 (.code New1.yN New1.yB 2 none)) (wks q4 (.initialized New1.yN.cls :: New1.site))
/-- the words ride from the start Z to the walk's own state -/
theorem moved {Z s : State} {a0 args : Array Value} (hZ : Z.Warmed39 s.vm) (hw : ∀ d ∈ words, d.before a0 Z = true) : ∀ d ∈ words, d.before args s = true := fun d hd => by
  have q := hw d hd
  have t : ∀ d ∈ words, d = .arrayClass .byte ∨ (d.onTables && d.keepsFace) = true := by decide +kernel
  rcases t d hd with rfl | t
  · exact RoadKit.mvA hZ q
  · exact RoadKit.mv hZ q t
/-- WHAT COMES BACK, over the tables of the start Z: h the heap at the call, h' behind it -/
def Q (Z : State) (x : Addr) (A : Cell) (h : Heap) (v : Option Value) (h' : Heap) (L : List Loc) : Prop := v = none ∧ (∀ y ∈ L, y.base = x) ∧ RoadKit.Keep h h' [x] ∧ h'.size = h.size + 1 ∧ RoadKit.Exa Z h' x ST ∧ RoadKit.Fld Z h' x ST "value" "[B" (.ref h.size) ∧ RoadKit.Fld Z h' x ST "coder" "B" (.int 0) ∧
  (∃ V : Cell, RoadKit.Arr Z h' h.size V .byte ∧ V.vm = .none ∧ Z.vm.findClass "[B" = some V.cls ∧ V.slots.size = A.slots.size ∧ ∀ j, j < A.slots.size → V.slots[j]? = some (.int (lo8 (cv A j)))) ∧
  ∀ (O n d : String) (w : Value), RoadKit.Fld Z h x O n d w → RoadKit.slotOf Z O n d ≠ RoadKit.slotOf Z ST "value" "[B" → RoadKit.slotOf Z O n d ≠ RoadKit.slotOf Z ST "coder" "B" → RoadKit.Fld Z h' x O n d w
/-- **new String(chars) AT A CALL, IN THE ROAD'S FORM**: for specialBack behind newO: x the fresh String, b the char[] with the cell A -/
theorem back {p : Program} {l : Launch} {e : Env} {R : Room} {s : State} {args : Array Value} {below : List Frame} {len W : Nat} {Z : State} {a0 : Array Value} {h : Heap} (hZ : Z.Warmed39 s.vm) (hw : ∀ d ∈ words, d.before a0 Z = true) {kI : Nat} (wi : (Jvm.Cond.instantiable ST kI).before a0 Z = true)
    {x b : Addr} {A : Cell} {z : Int32} {v0 c0 : Value} (E : RoadKit.Exa Z h x ST) (V : RoadKit.Fld Z h x ST "value" "[B" v0) (C : RoadKit.Fld Z h x ST "coder" "B" c0) (K : RoadKit.Arr Z h b A .char) (hty : Typed .char A) (S : RoadKit.Sta Z h ST "COMPACT_STRINGS" "Z" (.int z)) (hz : ¬ z = 0)
    (l0 : 0 < A.slots.size) (l2 : A.slots.size ≤ 536870912) (hp : ∀ i, i < A.slots.size → ¬ 255 < cv A i) (hfr : 4 ≤ R.frames) (hlo : W + 65 ≤ R.locals) :
    Back l R p e below s args New1.yN len W (fun P a => a = #[.ref x, .ref b] ∧ P.U.heap = h ∧ P.cells + 1 ≤ R.cells ∧ P.slots + A.slots.size ≤ R.slots)
      (fun P _ v B => ∃ L, Q Z x A h v B.U.heap L ∧ B.locs = P.locs ++ L ∧ B.cells = P.cells + 1 ∧ B.slots = P.slots + A.slots.size) := by
  intro m meth c P g ig mk a X hg hsize hdg hW hn hp'
  obtain ⟨rfl, rfl, r1, r2⟩ := hp'
  have al : Z.vm.Alike P.U.vm := hZ.alike.trans X.warmed.alike
  obtain ⟨D, cfV, kV, iV, fV, hD, gV, stV, knV, obV, asV, slV⟩ := id V
  obtain ⟨D', cfC, kC, iC, fC, hD', gC, stC, -, -, asC, slC⟩ := id C
  cases hD.symm.trans hD'
  obtain ⟨D2, kD, e1, e2, e3, e4, e5⟩ := id E
  cases hD.symm.trans e1
  obtain ⟨c2, k2, i1, i2, i3, -⟩ := Cond.instantiable_spec wi
  cases e2.symm.trans i1
  cases e3.symm.trans i2
  obtain ⟨kU, u1, u2⟩ := al.2.2 _ _ e3
  have hB : Blank ST x D P.U := ⟨hD, ⟨knV, fun q hq => by rw [hq] at obV; cases obV⟩, by rw [al.findClass]; exact e2, kU, u1, by rw [u2]; exact i3, by rw [u2]; exact e5 i3⟩
  have F1 : Found ST "value" "[B" fV P.U := ⟨SBG.found_only al ⟨cfV, kV, iV, gV⟩, stV⟩
  have F2 : Found ST "coder" "B" fC P.U := ⟨SBG.found_only al ⟨cfC, kC, iC, gC⟩, stC⟩
  have hA : Ch b A P.U := ⟨⟨K.1, State.isArrayOf_alike al K.2.1, K.2.2, by omega⟩, hty⟩
  have hS : StaticIs P.U ST "COMPACT_STRINGS" "Z" (.int z) := by
    obtain ⟨cfS, iS, kS, fS, st, cS, t1, t2, t3, t4, t5, t6, t7⟩ := S
    exact StaticIs.there (s := { Z with heap := P.U.heap }) ⟨cfS, iS, kS, fS, st, cS, t1, t2, t3, t4, t5, (fun q => by rw [q] at t6; cases t6), t7⟩ al rfl
  obtain ⟨v, B, X', ⟨⟨hv, E', V', q1, q2, q3, q4, q5, q6, q7, q8, q9, q10, q11⟩, hl, hc, hs⟩, st⟩ := New1.pays x D fV fC b A z (tab_of (moved hZ hw)) hfr hlo m meth c P g ig mk _ X hg hsize hdg hW hn ⟨r1, r2, rfl, hB, F1, F2, hA, hS, hz, l0, l2, hp⟩
  have al' : Z.vm.Alike B.U.vm := hZ.alike.trans X'.warmed.alike
  have hsz : E'.slots.size = D.slots.size := by
    obtain ⟨-, -, -, kB, w1, w2, w3⟩ := q1
    obtain ⟨kB', y1, y2⟩ := al'.2.2 _ _ e3
    rw [q2.2.1] at w1
    cases w1.symm.trans y1
    rw [w3, e5 i3, y2]
  refine ⟨v, B, X', ⟨_, ⟨hv, ?_, ⟨by omega, fun y cy hy hn' => q10 y cy (by simpa using hn') hy, fun y cy hy => ?_⟩, q11, ⟨E', _, q1.1, by rw [q2.2.1]; exact e2, by rw [q2.2.1]; exact e3, by rw [q2.1]; exact obV, fun _ => by rw [hsz]; exact e5 i3⟩,
    ⟨E', cfV, kV, iV, fV, q1.1, gV, stV, by rw [q2.1]; exact knV, by rw [q2.1]; exact obV, by rw [q2.2.1]; exact asV, q3⟩, ⟨E', cfC, kC, iC, fC, q1.1, gC, stC, by rw [q2.1]; exact knV, by rw [q2.1]; exact obV, by rw [q2.2.1]; exact asC, q4⟩,
    ⟨V', ⟨q5.1, State.isArrayOf_alike al'.symm q5.2.1, q5.2.2.1⟩, q6, by rw [← al'.findClass]; exact q7, q8, fun j hj => by have := q9 j hj; rwa [Nat.zero_add] at this⟩, fun O n d w F n1 n2 => ?_⟩, hl, hc, hs⟩, st⟩
  · intro y hy
    simp only [List.mem_cons, List.not_mem_nil, or_false] at hy
    rcases hy with rfl | rfl <;> rfl
  · by_cases q : y = x
    · subst q
      cases hD.symm.trans hy
      exact ⟨E', q1.1, q2.2.1, q2.1, hsz⟩
    · exact ⟨cy, q10 y cy q hy, rfl, rfl, rfl⟩
  · obtain ⟨D3, cf, k, i, f, g1, g2, g3, g4, g5, g6, g7⟩ := F
    cases hD.symm.trans g1
    simp only [RoadKit.slotOf, g2, gV, gC, Option.map_some, Option.getD_some] at n1 n2
    exact ⟨E', cf, k, i, f, q1.1, g2, g3, by rw [q2.1]; exact g4, by rw [q2.1]; exact g5, by rw [q2.2.1]; exact g6, by rw [q2.2.2 f.slot (by simp [n1, n2])]; exact g7⟩
end StrChars.Road
namespace StrChars.Road
open Jvm Sem ClassFile Op Lib Jvm.Stand Jvm.Free Jvm.Free.XT
/-- WHAT COMES BACK, the byte[] as a list of values -/
def QA (Z : State) (x : Addr) (zn : Int32) (cs : List Int32) (h : Heap) (v : Option Value) (h' : Heap) (L : List Loc) : Prop := v = none ∧ (∀ y ∈ L, y.base = x) ∧ RoadKit.Keep h h' [x] ∧ h'.size = h.size + 1 ∧ RoadKit.Exa Z h' x ST ∧ RoadKit.Fld Z h' x ST "value" "[B" (.ref h.size) ∧ RoadKit.Fld Z h' x ST "coder" "B" (.int 0) ∧
  (∃ kb, Z.vm.findClass "[B" = some kb ∧ RoadKit.Arv Z h' h.size kb .byte zn (cs.map fun c => .int (lo8 c)) (.int 0)) ∧
  ∀ (O n d : String) (w : Value), RoadKit.Fld Z h x O n d w → RoadKit.slotOf Z O n d ≠ RoadKit.slotOf Z ST "value" "[B" → RoadKit.slotOf Z O n d ≠ RoadKit.slotOf Z ST "coder" "B" → RoadKit.Fld Z h' x O n d w
/-- **new String(chars) AT A CALL, THE ARRAYS AS LISTS**: the char[] at b holds cs, not empty, no char above 255 -/
theorem backArv {p : Program} {l : Launch} {e : Env} {R : Room} {s : State} {args : Array Value} {below : List Frame} {len W : Nat} {Z : State} {a0 : Array Value} {h : Heap} (hZ : Z.Warmed39 s.vm) (hw : ∀ d ∈ words, d.before a0 Z = true) {kI : Nat} (wi : (Jvm.Cond.instantiable ST kI).before a0 Z = true)
    {x b : Addr} {k : ClassId} {zn z : Int32} {cs : List Int32} {dv v0 c0 : Value} (E : RoadKit.Exa Z h x ST) (V : RoadKit.Fld Z h x ST "value" "[B" v0) (C : RoadKit.Fld Z h x ST "coder" "B" c0) (K : RoadKit.Arv Z h b k .char zn (cs.map Value.int) dv) (S : RoadKit.Sta Z h ST "COMPACT_STRINGS" "Z" (.int z)) (hz : ¬ z = 0)
    (hlen : zn.toNatClampNeg = cs.length) (h0 : 0 < cs.length) (hbig : cs.length ≤ 536870912) (hall : ∀ c ∈ cs, ¬ 255 < c) (hfr : 4 ≤ R.frames) (hlo : W + 65 ≤ R.locals) :
    Back l R p e below s args New1.yN len W (fun P a => a = #[.ref x, .ref b] ∧ P.U.heap = h ∧ P.cells + 1 ≤ R.cells ∧ P.slots + cs.length ≤ R.slots)
      (fun P _ v B => ∃ L, QA Z x zn cs h v B.U.heap L ∧ B.locs = P.locs ++ L ∧ B.cells = P.cells + 1 ∧ B.slots = P.slots + cs.length) := by
  obtain ⟨A, K1, K2, K3, K4, K5, K6⟩ := K
  have e : A.slots.size = cs.length := K3.trans hlen
  have hat : ∀ (i : Nat) (hi : i < cs.length), A.slots[i]? = some (.int cs[i]) := fun i hi => by rw [K5 i (by omega)]; simp [List.getD_eq_getElem?_getD, hi]
  have hcv : ∀ (i : Nat) (hi : i < cs.length), cv A i = cs[i] := fun i hi => by unfold cv; rw [hat i hi]
  have hty : Typed .char A := fun i v hv => by
    have hi : i < A.slots.size := (Array.getElem?_eq_some_iff.mp hv).1
    have q := K5 i hi
    rw [hv] at q
    rw [Option.some.inj q]
    exact K6 i hi
  refine Back.mono (back hZ hw wi E V C K1 hty S hz (by omega) (by omega) (fun i hi => by rw [hcv i (by omega)]; exact hall _ (List.getElem_mem _)) hfr hlo) (fun P a hp => ⟨hp.1, hp.2.1, hp.2.2.1, by rw [e]; exact hp.2.2.2⟩) (fun P a v B hp hq => ?_)
  obtain ⟨L, ⟨q1, q2, q3, q4, q5, q6, q7, ⟨V', v1, v2, v3, v4, v5⟩, q9⟩, hl, hc, hs⟩ := hq
  refine ⟨L, ⟨q1, q2, q3, q4, q5, q6, q7, ⟨V'.cls, v3, V', v1, rfl, by rw [v4, e, hlen], K4, fun i hi => ?_, fun i hi => ?_⟩, q9⟩, hl, hc, by rw [hs, e]⟩
  · have hi' : i < cs.length := by omega
    rw [v5 i (by omega), hcv i hi']; simp [List.getD_eq_getElem?_getD, hi']
  · have hi' : i < cs.length := by omega
    simp only [List.getD_eq_getElem?_getD, List.getElem?_map, List.getElem?_eq_getElem hi', Option.map_some, Option.getD_some]
    exact fits_lo8 _
end StrChars.Road
namespace StrChars.Road
open Jvm Sem ClassFile Op Lib Jvm.Stand Jvm.Free Jvm.Free.XT
/-- WHAT COMES BACK, in the writer's own shape -/
def QV (Z : State) (x : Addr) (N : Int32) (bs : List Int32) (h : Heap) (n0 : Nat) (v : Option Value) (h' : Heap) (L : List Loc) : Prop := v = none ∧ RoadKit.Fr n0 L ∧ RoadKit.Keep h h' [x] ∧ RoadKit.Exa Z h' x ST ∧ RoadKit.Fld Z h' x ST "coder" "B" (.int 0) ∧
  ∃ (t : Addr) (kb : ClassId), n0 ≤ t ∧ h.size ≤ t ∧ ¬ t = x ∧ RoadKit.Fld Z h' x ST "value" "[B" (.ref t) ∧ RoadKit.Arv Z h' t kb .byte N (bs.map Value.int) (.int 0)
/-- **new String(chars) AT A CALL, FOR THE WRITER**: a char[] of n known ints, each 0 to 255 -/
theorem backV {p : Program} {l : Launch} {e : Env} {R : Room} {s : State} {args : Array Value} {below : List Frame} {len W : Nat} {Z : State} {a0 : Array Value} {h : Heap} (hZ : Z.Warmed39 s.vm) (hw : ∀ d ∈ words, d.before a0 Z = true) {kI : Nat} (wi : (Jvm.Cond.instantiable ST kI).before a0 Z = true)
    {x b : Addr} {kC : ClassId} {cs bs : List Int32} {d v0 c0 : Value} {z N : Int32} {n n0 : Nat} (hx0 : n0 ≤ x) (hh0 : n0 ≤ h.size) (E : RoadKit.Exa Z h x ST) (V : RoadKit.Fld Z h x ST "value" "[B" v0) (C : RoadKit.Fld Z h x ST "coder" "B" c0) (K : RoadKit.Arv Z h b kC .char N (cs.map Value.int) d) (S : RoadKit.Sta Z h ST "COMPACT_STRINGS" "Z" (.int z)) (hz : ¬ z = 0)
    (hn : cs.length = n) (hN : N = Int32.ofNat n) (l0 : 0 < n) (l2 : n ≤ 4000) (hp : ∀ c ∈ cs, ¬ c < 0 ∧ ¬ (255 : Int32) < c) (hb : bs = cs.map (fun c => c.toInt8.toInt32)) (hfr : 4 ≤ R.frames) (hlo : W + 65 ≤ R.locals) :
    Back l R p e below s args (⟨"java/lang/String", "<init>", "([C)V"⟩ : MethodName) len W (fun P a => a = #[.ref x, .ref b] ∧ P.U.heap = h ∧ P.cells + 1 ≤ R.cells ∧ P.slots + n ≤ R.slots)
      (fun P _ v B => ∃ L, QV Z x N bs h n0 v B.U.heap L ∧ B.locs = P.locs ++ L ∧ B.cells = P.cells + 1 ∧ B.slots = P.slots + n) := by
  subst hn hN hb
  refine Back.mono (backArv hZ hw wi E V C K S hz (n32 (by omega)) l0 (by omega) (fun c hc => (hp c hc).2) hfr hlo) (fun P a hp => hp) (fun P a v B hp hq => ?_)
  obtain ⟨L, ⟨q1, q2, q3, q4, q5, q6, q7, ⟨kb, v1, v2⟩, q9⟩, hl, hc, hs⟩ := hq
  exact ⟨L, ⟨q1, fun y hy => by rw [q2 y hy]; exact hx0, q3, q5, q7, h.size, kb, hh0, Nat.le_refl _, Nat.ne_of_gt E.lt, q6, by rw [List.map_map]; exact v2⟩, hl, hc, hs⟩
end StrChars.Road
namespace StrChars
open Jvm Sem ClassFile Op Lib Jvm.Stand Jvm.Free.XT Jvm.Free.ALB Jvm.Free.JM Jvm.Free
open Jvm.Lib.Cold (StaticIs)
def hi8 (x : Int32) : Int32 := lo8 (x >>> ((8 : Int32) &&& 31))
/-- what StringUTF16.getChar makes of two bytes -/
def pairCh (u v : Int32) : Int32 := (((u &&& 255) <<< ((0 : Int32) &&& 31)) ||| ((v &&& 255) <<< ((8 : Int32) &&& 31))).toUInt32.toUInt16.toUInt32.toInt32
theorem lo8_and (x : Int32) : (lo8 x &&& 255).toBitVec.toNat = x.toBitVec.toNat % 256 := by
  have h : (lo8 x).toBitVec = (x.toBitVec.signExtend 8).signExtend 32 := by rw [lo8, Int8.toBitVec_toInt32, Int32.toBitVec_toInt8]
  rw [Int32.toBitVec_and, BitVec.toNat_and, h]
  have e : ((x.toBitVec.signExtend 8).signExtend 32).toNat % 256 = x.toBitVec.toNat % 256 := by
    rw [BitVec.toNat_signExtend]
    have hlt := x.toBitVec.isLt
    simp only [BitVec.toNat_setWidth, BitVec.toNat_signExtend]
    split <;> split <;> omega
  rw [← e]
  exact Nat.and_two_pow_sub_one_eq_mod _ 8
theorem pair_says {c : Int32} (h0 : ¬ c < 0) (h1 : ¬ 65535 < c) : pairCh (lo8 c) (hi8 c) = c := by
  rw [Int32.lt_iff_toInt_lt] at h0 h1
  have e0 : (0 : Int32).toInt = 0 := rfl
  have e1 : (65535 : Int32).toInt = 65535 := rfl
  have hc : c.toInt = c.toBitVec.toNat := by
    have := c.toBitVec.isLt
    have e : c.toInt = c.toBitVec.toInt := rfl
    rw [e] at h0 h1
    rw [e]
    rw [BitVec.toInt_eq_toNat_cond] at h0 h1 ⊢
    split at h0 <;> split <;> omega
  have hn : c.toBitVec.toNat < 65536 := by omega
  have a1 := lo8_and c
  have a2 : (hi8 c &&& 255).toBitVec.toNat = c.toBitVec.toNat / 256 := by
    rw [hi8, lo8_and]
    have e : ((8 : Int32) &&& 31) = 8 := by decide
    rw [e, Int32.toBitVec_shiftRight]
    have e2 : ((8 : Int32).toBitVec.smod 32) = 8#32 := by decide
    rw [e2, BitVec.sshiftRight_eq', BitVec.toNat_sshiftRight_of_msb_false (by rw [BitVec.msb_eq_false_iff_two_mul_lt]; omega)]
    show c.toBitVec.toNat >>> 8 % 256 = _
    rw [Nat.shiftRight_eq_div_pow]
    omega
  unfold pairCh
  apply Int32.toBitVec_inj.mp
  apply BitVec.eq_of_toNat_eq
  have f0 : ((0 : Int32) &&& 31) = 0 := by decide
  have f8 : ((8 : Int32) &&& 31) = 8 := by decide
  rw [f0, f8]
  have g : (((lo8 c &&& 255) <<< (0 : Int32)) ||| ((hi8 c &&& 255) <<< (8 : Int32))).toBitVec.toNat = c.toBitVec.toNat := by
    rw [Int32.toBitVec_or, Int32.toBitVec_shiftLeft, Int32.toBitVec_shiftLeft]
    have s0 : ((0 : Int32).toBitVec.smod 32) = 0#32 := by decide
    have s8 : ((8 : Int32).toBitVec.smod 32) = 8#32 := by decide
    rw [s0, s8, BitVec.toNat_or]
    simp only [BitVec.shiftLeft_eq', BitVec.toNat_shiftLeft, a1, a2]
    show (c.toBitVec.toNat % 256) <<< 0 % 2 ^ 32 ||| (c.toBitVec.toNat / 256) <<< 8 % 2 ^ 32 = _
    rw [Nat.shiftLeft_zero, Nat.mod_eq_of_lt (show c.toBitVec.toNat % 256 < 2 ^ 32 by omega), Nat.mod_eq_of_lt (show (c.toBitVec.toNat / 256) <<< 8 < 2 ^ 32 by rw [Nat.shiftLeft_eq]; omega), Nat.or_comm, ← Nat.shiftLeft_add_eq_or_of_lt (by omega), Nat.shiftLeft_eq]
    omega
  show BitVec.toNat (((((lo8 c &&& 255) <<< (0 : Int32)) ||| ((hi8 c &&& 255) <<< (8 : Int32))).toBitVec.setWidth 16).setWidth 32) = _
  rw [BitVec.toNat_setWidth, BitVec.toNat_setWidth, g]
  omega
end StrChars
namespace StrChars
open Jvm Sem ClassFile Op Lib Jvm.Stand Jvm.Free.XT Jvm.Free.ALB Jvm.Free.JM Jvm.Free
open Jvm.Lib.Cold (StaticIs)
/-- the array's cell V codes the n chars f 0 .. f (n - 1) by the coder cd, as the JDK does: coder 1 just where some char is above 255 -/
def Cod (cd : Int32) (n : Nat) (f : Nat → Int32) (V : Cell) : Prop := (cd = 0 ∧ V.slots.size = n ∧ ∀ j, j < n → V.slots[j]? = some (.int (lo8 (f j))) ∧ ¬ 255 < f j) ∨ (cd = 1 ∧ V.slots.size = 2 * n ∧ (∀ j, j < n → V.slots[2 * j]? = some (.int (lo8 (f j))) ∧ V.slots[2 * j + 1]? = some (.int (hi8 (f j)))) ∧ ∃ j, j < n ∧ 255 < f j)
/-- **x is a String of the n chars f 0 .. f (n - 1)**, Latin-1 or UTF-16; its array at t has the cell V -/
def Txt (x t : Addr) (V : Cell) (cd : Int32) (n : Nat) (f : Nat → Int32) (U : State) : Prop := Exact "java/lang/String" x U ∧ Has x "java/lang/String" "value" "[B" (.ref t) U ∧ Has x "java/lang/String" "coder" "B" (.int cd) U ∧ XT.Arr .byte t V U ∧ Cod cd n f V ∧ ∀ j, j < n → ¬ f j < 0 ∧ ¬ 65535 < f j
theorem Txt.mv {x t : Addr} {V : Cell} {cd : Int32} {n : Nat} {f : Nat → Int32} {U U' : State} (h : Txt x t V cd n f U) (hal : U.vm.Alike U'.vm) (hh : U'.heap = U.heap) : Txt x t V cd n f U' := ⟨h.1.mv hal hh, h.2.1.mv hal hh, h.2.2.1.mv hal hh, h.2.2.2.1.mv hal hh, h.2.2.2.2⟩
end StrChars
namespace StrChars.Road
open Jvm Sem ClassFile Op Lib Jvm.Stand Jvm.Free Jvm.Free.XT
open Jvm.Lib.Cold (StaticIs)
theorem consq {a : Array Value} {s : State} {c : Jvm.Cond} {L : List Jvm.Cond} (h0 : c.before a s = true) (h : ∀ w ∈ L, w.before a s = true) : ∀ w ∈ c :: L, w.before a s = true := fun w hw => (List.mem_cons.mp hw).elim (fun e => e ▸ h0) (h w)
/-- the bytes of the chars cs, low before high -/
def wideBytes : List Int32 → List Value
  | [] => []
  | c :: cs => .int (lo8 c) :: .int (hi8 c) :: wideBytes cs
theorem wide_lo (d : Value) : ∀ (cs : List Int32) (j : Nat), j < cs.length → (wideBytes cs).getD (2 * j) d = .int (lo8 (cs.getD j 0))
  | [], j, h => absurd h (Nat.not_lt_zero j)
  | c :: cs, 0, _ => rfl
  | c :: cs, j + 1, h => by
    have q := wide_lo d cs j (by simpa using h)
    rw [show 2 * (j + 1) = 2 * j + 1 + 1 from by omega]
    simpa [wideBytes] using q
theorem wide_hi (d : Value) : ∀ (cs : List Int32) (j : Nat), j < cs.length → (wideBytes cs).getD (2 * j + 1) d = .int (hi8 (cs.getD j 0))
  | [], j, h => absurd h (Nat.not_lt_zero j)
  | c :: cs, 0, _ => rfl
  | c :: cs, j + 1, h => by
    have q := wide_hi d cs j (by simpa using h)
    rw [show 2 * (j + 1) + 1 = 2 * j + 1 + 1 + 1 from by omega]
    simpa [wideBytes] using q
theorem low_at (d : Value) (cs : List Int32) (j : Nat) (h : j < cs.length) : (cs.map fun c => Value.int (lo8 c)).getD j d = .int (lo8 (cs.getD j 0)) := by
  simp [List.getD_eq_getElem?_getD, h]
/-- an array of N2 bytes vs codes the chars cs by the coder cd -/
def CodA (cs : List Int32) (cd N2 : Int32) (vs : List Value) : Prop := (cd = 0 ∧ N2 = Int32.ofNat cs.length ∧ vs = (cs.map fun c => Value.int (lo8 c)) ∧ ∀ c ∈ cs, ¬ 255 < c) ∨ (cd = 1 ∧ N2 = Int32.ofNat (2 * cs.length) ∧ vs = wideBytes cs ∧ ∃ c ∈ cs, 255 < c)
theorem CodA.cod {cs : List Int32} {cd N2 : Int32} {vs : List Value} {V : Cell} (h : CodA cs cd N2 vs) (hn : 2 * cs.length < 2 ^ 31) (hs : V.slots.size = N2.toNatClampNeg) (hv : RoadKit.Has V vs (.int 0)) : Cod cd cs.length (fun j => cs.getD j 0) V := by
  rcases h with ⟨rfl, rfl, rfl, h⟩ | ⟨rfl, rfl, rfl, c, hc, hw⟩
  · rw [n32 (by omega)] at hs
    exact Or.inl ⟨rfl, hs, fun j hj => ⟨by rw [hv j (by omega), low_at _ _ _ hj], by
      have e : cs.getD j 0 = cs[j] := by simp [List.getD_eq_getElem?_getD, hj]
      show ¬ 255 < cs.getD j 0
      rw [e]; exact h _ (List.getElem_mem _)⟩⟩
  · rw [n32 (by omega)] at hs
    obtain ⟨j, hj, rfl⟩ := List.getElem_of_mem hc
    exact Or.inr ⟨rfl, hs, fun j hj => ⟨by rw [hv _ (by omega), wide_lo _ _ _ hj], by rw [hv _ (by omega), wide_hi _ _ _ hj]⟩, j, hj, by
      have e : cs.getD j 0 = cs[j] := by simp [List.getD_eq_getElem?_getD, hj]
      show 255 < cs.getD j 0
      rw [e]; exact hw⟩
/-- an object of exactly java/lang/String, its two fields found: as the laws ask it -/
theorem strObj {Z U : State} {a0 : Array Value} {kI : Nat} (wi : (Jvm.Cond.instantiable ST kI).before a0 Z = true) (al : Z.vm.Alike U.vm) {x : Addr} {v0 c0 : Value} (E : RoadKit.Exa Z U.heap x ST) (V : RoadKit.Fld Z U.heap x ST "value" "[B" v0) (C : RoadKit.Fld Z U.heap x ST "coder" "B" c0) :
    ∃ (D : Cell) (fV fC : Field), Blank ST x D U ∧ Found ST "value" "[B" fV U ∧ Found ST "coder" "B" fC U ∧ D.slots[fV.slot]? = some v0 ∧ D.slots[fC.slot]? = some c0 ∧ RoadKit.slotOf Z ST "value" "[B" = fV.slot ∧ RoadKit.slotOf Z ST "coder" "B" = fC.slot := by
  obtain ⟨D, cfV, kV, iV, fV, hD, gV, stV, knV, obV, asV, slV⟩ := V
  obtain ⟨D', cfC, kC, iC, fC, hD', gC, stC, -, -, asC, slC⟩ := C
  cases hD.symm.trans hD'
  obtain ⟨D2, kD, e1, e2, e3, e4, e5⟩ := E
  cases hD.symm.trans e1
  obtain ⟨c2, k2, i1, i2, i3, -⟩ := Cond.instantiable_spec wi
  cases e2.symm.trans i1
  cases e3.symm.trans i2
  obtain ⟨kU, u1, u2⟩ := al.2.2 _ _ e3
  exact ⟨D, fV, fC, ⟨hD, ⟨knV, fun q hq => by rw [hq] at obV; cases obV⟩, by rw [al.findClass]; exact e2, kU, u1, by rw [u2]; exact i3, by rw [u2]; exact e5 i3⟩, ⟨SBG.found_only al ⟨cfV, kV, iV, gV⟩, stV⟩, ⟨SBG.found_only al ⟨cfC, kC, iC, gC⟩, stC⟩, slV, slC, by simp [RoadKit.slotOf, gV], by simp [RoadKit.slotOf, gC]⟩
theorem sta_is {Z U : State} (al : Z.vm.Alike U.vm) {C n d : String} {v : Value} (S : RoadKit.Sta Z U.heap C n d v) : StaticIs U C n d v := by
  obtain ⟨cfS, iS, kS, fS, st, cS, t1, t2, t3, t4, t5, t6, t7⟩ := S
  exact StaticIs.there (s := { Z with heap := U.heap }) ⟨cfS, iS, kS, fS, st, cS, t1, t2, t3, t4, t5, (fun q => by rw [q] at t6; cases t6), t7⟩ al rfl
end StrChars.Road
namespace StrChars
open Jvm Sem ClassFile Op Lib Jvm.Stand Jvm.Free.XT Jvm.Free.ALB Jvm.Free.JM Jvm.Free
open Jvm.Lib.Cold (StaticIs)
/-- what place i of a byte[]'s cell holds -/
def yv (A : Cell) (i : Nat) : Int32 := match A.slots[i]? with | some (.int x) => x | _ => 0
theorem yv_get {a : Addr} {A : Cell} {U : State} (h : XT.Arr .byte a A U) (ht : Typed .byte A) {i : Nat} (hi : i < A.slots.size) : A.slots[i]? = some (.int (yv A i)) := by
  have e := Array.getElem?_eq_getElem hi
  have f := ht i _ e
  unfold yv; rw [e]
  generalize A.slots[i] = v at f
  cases v <;> simp [fits] at f ⊢
/-- the two arrays are equal, place for place -/
def EqC (A B : Cell) : Prop := A.slots.size = B.slots.size ∧ ∀ i, i < A.slots.size → yv A i = yv B i
/-- a boolean that says whether p -/
def Says01 (q : Prop) (r : Option Value) (s u : State) : Prop := ∃ v : Int32, r = some (.int v) ∧ u.heap = s.heap ∧ ((v = 1 ∧ q) ∨ (v = 0 ∧ ¬ q))
theorem Says01.mv {q : Prop} : ∀ r (U U' V V' : State), U'.heap = U.heap → V.vm.Alike V'.vm → V'.heap = V.heap → Says01 q r U V → Says01 q r U' V' :=
  fun r U U' V V' h1 _ h2 ⟨v, a, b, c⟩ => ⟨v, a, by rw [h1, h2]; exact b, c⟩
namespace LEq
def yN : MethodName := ⟨"java/lang/StringLatin1", "equals", "([B[B)Z"⟩
abbrev yB : ByteArray := jdk_43_method_13_code
theorem d0 : decode yB 0 = .ok (.aload_n 0, 1) := by decide +kernel
theorem d1 : decode yB 1 = .ok (.arraylength, 1) := by decide +kernel
theorem d2 : decode yB 2 = .ok (.aload_n 1, 1) := by decide +kernel
theorem d3 : decode yB 3 = .ok (.arraylength, 1) := by decide +kernel
theorem d4 : decode yB 4 = .ok (.if_icmp (.ne) 30, 3) := by decide +kernel
theorem d7 : decode yB 7 = .ok (.iconst 0, 1) := by decide +kernel
theorem d8 : decode yB 8 = .ok (.istore_n 2, 1) := by decide +kernel
theorem d9 : decode yB 9 = .ok (.iload_n 2, 1) := by decide +kernel
theorem d10 : decode yB 10 = .ok (.aload_n 0, 1) := by decide +kernel
theorem d11 : decode yB 11 = .ok (.arraylength, 1) := by decide +kernel
theorem d12 : decode yB 12 = .ok (.if_icmp (.ge) 20, 3) := by decide +kernel
theorem d15 : decode yB 15 = .ok (.aload_n 0, 1) := by decide +kernel
theorem d16 : decode yB 16 = .ok (.iload_n 2, 1) := by decide +kernel
theorem d17 : decode yB 17 = .ok (.baload, 1) := by decide +kernel
theorem d18 : decode yB 18 = .ok (.aload_n 1, 1) := by decide +kernel
theorem d19 : decode yB 19 = .ok (.iload_n 2, 1) := by decide +kernel
theorem d20 : decode yB 20 = .ok (.baload, 1) := by decide +kernel
theorem d21 : decode yB 21 = .ok (.if_icmp (.eq) 5, 3) := by decide +kernel
theorem d24 : decode yB 24 = .ok (.iconst 0, 1) := by decide +kernel
theorem d25 : decode yB 25 = .ok (.ireturn, 1) := by decide +kernel
theorem d26 : decode yB 26 = .ok (.iinc 2 1, 3) := by decide +kernel
theorem d29 : decode yB 29 = .ok (.goto (-20), 3) := by decide +kernel
theorem d32 : decode yB 32 = .ok (.iconst 1, 1) := by decide +kernel
theorem d33 : decode yB 33 = .ok (.ireturn, 1) := by decide +kernel
theorem d34 : decode yB 34 = .ok (.iconst 0, 1) := by decide +kernel
theorem d35 : decode yB 35 = .ok (.ireturn, 1) := by decide +kernel
def site : List Cond := []
def tab : Cond := tabOf yN yB 3 (some .boolean) site
def P (a : Addr) (A : Cell) (b : Addr) (B : Cell) (args : Array Value) (s : State) : Prop := args = #[.ref a, .ref b] ∧ XT.Arr .byte a A s ∧ Typed .byte A ∧ XT.Arr .byte b B s ∧ Typed .byte B
/-- whether two byte[] are equal, place for place -/
theorem law (l : Launch) (a : Addr) (A : Cell) (b : Addr) (B : Cell) : Law l yN 2 2 0 0 yB 3 (some .boolean) site (P a A b B) (Says01 (EqC A B)) [] 0 0 := by
  refine Law.of_walk (plainFor_of_name (by decide +kernel)) (by decide +kernel) (by decide +kernel) (by decide) (fun _ _ h => by rw [h.1]; rfl) (fun _ U U' hal hh h => ⟨h.1, h.2.1.mv hal hh, h.2.2.1, h.2.2.2.1.mv hal hh, h.2.2.2.2⟩) (fun r U U' V V' h1 hal h2 h => Says01.mv r U U' V V' h1 hal h2 h) ?_
  intro p e s m args below meth c s₁ X0 hexec hbytes hml hret hlk hnm hown hh0 W hP
  obtain ⟨rfl, hA, tA, hB, tB⟩ := hP
  have a31 := hA.2.2.2
  have b31 := hB.2.2.2
  have hA0 := hA.mv X0.warmed.alike hh0
  have hB0 := hB.mv X0.warmed.alike hh0
  have c1 : Steps p.tables e below (s₁.setTop (entryFrame m #[.ref a, .ref b] 3)) (s₁.setTop (mkF m 0 #[.val (.ref a), .val (.ref b), .unset] [])) := entry rfl
  have c2 : Steps p.tables e below (s₁.setTop (entryFrame m #[.ref a, .ref b] 3)) (s₁.setTop (mkF m 4 #[.val (.ref a), .val (.ref b), .unset] [.int (Int32.ofNat B.slots.size), .int (Int32.ofNat A.slots.size)])) := c1.trans (by
    refine XS.aloadN X0.here hexec rfl (hb hbytes d0) rfl rfl ?_
    refine X0.alen hexec hA0 rfl rfl (hb hbytes d1) ?_
    refine XS.aloadN X0.here hexec rfl (hb hbytes d2) rfl rfl ?_
    refine X0.alen hexec hB0 rfl rfl (hb hbytes d3) ?_
    exact Steps.refl _)
  by_cases hs : A.slots.size = B.slots.size
  · have c3 : Steps p.tables e below (s₁.setTop (entryFrame m #[.ref a, .ref b] 3)) (s₁.setTop (mkF m 9 #[.val (.ref a), .val (.ref b), .val (.int 0)] [])) := c2.trans (by
      refine XS.icmpNo X0.here hexec rfl (hb hbytes d4) rfl (ii_ne_f (by rw [hs])) ?_
      refine iconstV X0.here hexec rfl 0 (hb hbytes d7) (by decide) ?_
      refine XS.istoreN X0.here hexec rfl (hb hbytes d8) rfl rfl ?_
      exact Steps.refl _)
    have loop : ∀ (r i : Nat), i + r = A.slots.size → (∀ j, j < i → yv A j = yv B j) → Steps p.tables e below (s₁.setTop (entryFrame m #[.ref a, .ref b] 3)) (s₁.setTop (mkF m 9 #[.val (.ref a), .val (.ref b), .val (.int (Int32.ofNat i))] [])) → ∃ (pc : Nat) (Ls : Array Slot) (v : Int32), (pc = 25 ∨ pc = 33) ∧ ((v = 1 ∧ EqC A B) ∨ (v = 0 ∧ ¬ EqC A B)) ∧ Steps p.tables e below (s₁.setTop (entryFrame m #[.ref a, .ref b] 3)) (s₁.setTop (mkF m pc Ls [.int v])) := by
      intro r
      induction r with
      | zero =>
        intro i hi he cl
        exact ⟨33, _, 1, Or.inr rfl, Or.inl ⟨rfl, hs, fun j hj => he j (by omega)⟩, cl.trans (by
          refine XS.iloadN X0.here hexec rfl (hb hbytes d9) rfl ?_
          refine XS.aloadN X0.here hexec rfl (hb hbytes d10) rfl rfl ?_
          refine X0.alen hexec hA0 rfl rfl (hb hbytes d11) ?_
          refine XS.icmpYes X0.here hexec rfl (pc0 := 12) rfl (hb hbytes d12) rfl (ii_ge_t (nlt32 (by omega) (by omega))) (by decide) rfl ?_
          refine iconstV X0.here hexec rfl 1 (hb hbytes d32) (by decide) ?_
          exact Steps.refl _)⟩
      | succ r ih =>
        intro i hi he cl
        have c4 : Steps p.tables e below (s₁.setTop (entryFrame m #[.ref a, .ref b] 3)) (s₁.setTop (mkF m 21 #[.val (.ref a), .val (.ref b), .val (.int (Int32.ofNat i))] [.int (yv B i), .int (yv A i)])) := cl.trans (by
          refine XS.iloadN X0.here hexec rfl (hb hbytes d9) rfl ?_
          refine XS.aloadN X0.here hexec rfl (hb hbytes d10) rfl rfl ?_
          refine X0.alen hexec hA0 rfl rfl (hb hbytes d11) ?_
          refine XS.icmpNo X0.here hexec rfl (hb hbytes d12) rfl (ii_ge_f (lt32 (by omega) (by omega))) ?_
          refine XS.aloadN X0.here hexec rfl (hb hbytes d15) rfl rfl ?_
          refine XS.iloadN X0.here hexec rfl (hb hbytes d16) rfl ?_
          refine X0.aget hexec hA0 rfl (yv_get hA tA (i := i) (by omega)) rfl rfl (hb hbytes d17) ?_
          refine XS.aloadN X0.here hexec rfl (hb hbytes d18) rfl rfl ?_
          refine XS.iloadN X0.here hexec rfl (hb hbytes d19) rfl ?_
          refine X0.aget hexec hB0 rfl (yv_get hB tB (i := i) (by omega)) rfl rfl (hb hbytes d20) ?_
          exact Steps.refl _)
        by_cases hv : yv A i = yv B i
        · have c5 : Steps p.tables e below (s₁.setTop (entryFrame m #[.ref a, .ref b] 3)) (s₁.setTop (mkF m 9 #[.val (.ref a), .val (.ref b), .val (.int (Int32.ofNat i + 1))] [])) := c4.trans (by
            refine XS.icmpYes X0.here hexec rfl (pc0 := 21) rfl (hb hbytes d21) rfl (ii_eq_t hv) (by decide) rfl ?_
            refine iincV X0.here hexec rfl 1 (hb hbytes d26) (by decide) rfl rfl ?_
            refine XS.goto X0.here hexec rfl (pc0 := 29) rfl (hb hbytes d29) (by decide) rfl ?_
            exact Steps.refl _)
          rw [succ32] at c5
          exact ih (i + 1) (by omega) (fun j hj => by
            by_cases e : j = i
            · rw [e]; exact hv
            · exact he j (by omega)) c5
        · exact ⟨25, _, 0, Or.inl rfl, Or.inr ⟨rfl, fun q => hv (q.2 i (by omega))⟩, c4.trans (by
            refine XS.icmpNo X0.here hexec rfl (hb hbytes d21) rfl (ii_eq_f hv) ?_
            refine iconstV X0.here hexec rfl 0 (hb hbytes d24) (by decide) ?_
            exact Steps.refl _)⟩
    obtain ⟨pc, Ls, v, hpc, hv, cz⟩ := loop A.slots.size 0 (by omega) (fun j hj => absurd hj (Nat.not_lt_zero j)) c3
    have nv : narrow .boolean (.int v) = .int v := by rcases hv with ⟨rfl, -⟩ | ⟨rfl, -⟩ <;> rfl
    rcases hpc with rfl | rfl
    · exact ⟨s₁, some (.int v), _, _, _, X0, rfl, rfl, rfl, (fun h => by cases h), ⟨v, rfl, hh0, hv⟩, fun fs hl => cz.trans (X0.ireturnOut hexec hret nv (Or.inr (Or.inl rfl)) (hb hbytes d25) hl)⟩
    · exact ⟨s₁, some (.int v), _, _, _, X0, rfl, rfl, rfl, (fun h => by cases h), ⟨v, rfl, hh0, hv⟩, fun fs hl => cz.trans (X0.ireturnOut hexec hret nv (Or.inr (Or.inl rfl)) (hb hbytes d33) hl)⟩
  · have c3 : Steps p.tables e below (s₁.setTop (entryFrame m #[.ref a, .ref b] 3)) (s₁.setTop (mkF m 35 #[.val (.ref a), .val (.ref b), .unset] [.int 0])) := c2.trans (by
      refine XS.icmpYes X0.here hexec rfl (pc0 := 4) rfl (hb hbytes d4) rfl (ii_ne_t (ne32 a31 b31 hs)) (by decide) rfl ?_
      refine iconstV X0.here hexec rfl 0 (hb hbytes d34) (by decide) ?_
      exact Steps.refl _)
    exact ⟨s₁, some (.int 0), _, _, _, X0, rfl, rfl, rfl, (fun h => by cases h), ⟨0, rfl, hh0, Or.inr ⟨rfl, fun q => hs q.1⟩⟩, fun fs hl => c3.trans (X0.ireturnOut hexec hret rfl (Or.inr (Or.inl rfl)) (hb hbytes d35) hl)⟩
end LEq
theorem Cod.ty {cd : Int32} {n : Nat} {f : Nat → Int32} {V : Cell} (h : Cod cd n f V) : Typed .byte V := fun i v hv => by
  have hi : i < V.slots.size := (Array.getElem?_eq_some_iff.mp hv).1
  rcases h with ⟨-, k1, k2⟩ | ⟨-, k1, k2, -⟩
  · rw [(k2 i (by omega)).1] at hv; cases hv; exact fits_lo8 _
  · rcases Nat.mod_two_eq_zero_or_one i with e | e
    · obtain ⟨j, rfl⟩ : ∃ j, i = 2 * j := ⟨i / 2, by omega⟩
      rw [(k2 j (by omega)).1] at hv; cases hv; exact fits_lo8 _
    · obtain ⟨j, rfl⟩ : ∃ j, i = 2 * j + 1 := ⟨i / 2, by omega⟩
      rw [(k2 j (by omega)).2] at hv; cases hv; exact fits_lo8 _
/-- the same text -/
def SameT (n : Nat) (f : Nat → Int32) (k : Nat) (g : Nat → Int32) : Prop := n = k ∧ ∀ j, j < n → f j = g j
theorem lo8_inj {x y : Int32} (h0 : ¬ x < 0) (h1 : ¬ 255 < x) (k0 : ¬ y < 0) (k1 : ¬ 255 < y) (h : lo8 x = lo8 y) : x = y := by
  rw [← lo8_mask h0 h1, ← lo8_mask k0 k1, h]
/-- arrays coded by one coder are equal just where the texts are -/
theorem Cod.eqv {cd : Int32} {n k : Nat} {f g : Nat → Int32} {V V' : Cell} (h : Cod cd n f V) (h' : Cod cd k g V') (hf : ∀ j, j < n → ¬ f j < 0 ∧ ¬ 65535 < f j) (hg : ∀ j, j < k → ¬ g j < 0 ∧ ¬ 65535 < g j) : EqC V V' ↔ SameT n f k g := by
  have yvv : ∀ {W : Cell} {i : Nat} {x : Int32}, W.slots[i]? = some (.int x) → yv W i = x := fun q => by unfold yv; rw [q]
  rcases h with ⟨rfl, k1, k2⟩ | ⟨rfl, k1, k2, -⟩
  · rcases h' with ⟨-, m1, m2⟩ | ⟨e, -⟩
    · constructor
      · rintro ⟨e1, e2⟩
        refine ⟨by omega, fun j hj => ?_⟩
        have q := e2 j (by omega)
        rw [yvv (k2 j hj).1, yvv (m2 j (by omega)).1] at q
        exact lo8_inj (hf j hj).1 (k2 j hj).2 (hg j (by omega)).1 (m2 j (by omega)).2 q
      · rintro ⟨rfl, e2⟩
        refine ⟨by omega, fun j hj => ?_⟩
        rw [yvv (k2 j (by omega)).1, yvv (m2 j (by omega)).1, e2 j (by omega)]
    · exact absurd e (by decide)
  · rcases h' with ⟨e, -⟩ | ⟨-, m1, m2, -⟩
    · exact absurd e (by decide)
    · constructor
      · rintro ⟨e1, e2⟩
        refine ⟨by omega, fun j hj => ?_⟩
        have q1 := e2 (2 * j) (by omega)
        have q2 := e2 (2 * j + 1) (by omega)
        rw [yvv (k2 j hj).1, yvv (m2 j (by omega)).1] at q1
        rw [yvv (k2 j hj).2, yvv (m2 j (by omega)).2] at q2
        rw [← pair_says (hf j hj).1 (hf j hj).2, ← pair_says (hg j (by omega)).1 (hg j (by omega)).2, q1, q2]
      · rintro ⟨rfl, e2⟩
        refine ⟨by omega, fun i hi => ?_⟩
        rcases Nat.mod_two_eq_zero_or_one i with e | e
        · obtain ⟨j, rfl⟩ : ∃ j, i = 2 * j := ⟨i / 2, by omega⟩
          rw [yvv (k2 j (by omega)).1, yvv (m2 j (by omega)).1, e2 j (by omega)]
        · obtain ⟨j, rfl⟩ : ∃ j, i = 2 * j + 1 := ⟨i / 2, by omega⟩
          rw [yvv (k2 j (by omega)).2, yvv (m2 j (by omega)).2, e2 j (by omega)]
/-- two codings differ: so do the texts -/
theorem Cod.dif {cd cd' : Int32} {n k : Nat} {f g : Nat → Int32} {V V' : Cell} (h : Cod cd n f V) (h' : Cod cd' k g V') (hne : ¬ cd = cd') : ¬ SameT n f k g := by
  rintro ⟨rfl, e⟩
  rcases h with ⟨rfl, -, k2⟩ | ⟨rfl, -, -, j, hj, hw⟩
  · rcases h' with ⟨rfl, -⟩ | ⟨-, -, -, j, hj, hw⟩
    · exact hne rfl
    · exact (k2 j hj).2 (by rw [e j hj]; exact hw)
  · rcases h' with ⟨-, -, m2⟩ | ⟨rfl, -⟩
    · exact (m2 j hj).2 (by rw [← e j hj]; exact hw)
    · exact hne rfl
/-- an object of exactly C is an instance of C -/
theorem cinst {p : Program} {l : Launch} {e : Env} {R : Room} {s : State} {m : MethodId} {args : Array Value} {below : List Frame} {meth : Method} {c : Code} {T : State} {locs : List Loc} {cells slots : Nat} (X : Stand p l e R s m args below meth c T locs cells slots) (hexec : p.tables.exec = Jvm.exec) {own C : String} {index : Nat} (hown : s.vm.findClass own = some m.cls) (hlink : (Cond.classLink own index C).before args s = true) {a : Addr} (hE : Exact C a T)
    {g : JFrame} (hg : g.method = m) {rest : List Value} (hstack : g.stack = .ref a :: rest) (hdg : decode c.code g.pc = .ok (.instanceof index, 3)) :
    ∃ T', Stand p l e R s m args below meth c T' locs cells slots ∧ T'.heap = T.heap ∧ ∀ target, Steps p.tables e below (T'.setTop { g with pc := g.pc + 3, stack := .int 1 :: rest }) target → Steps p.tables e below (T.setTop g) target := by
  obtain ⟨cB, h1, D, h2, h3, h4⟩ := hE
  have h1' : s.vm.findClass C = some cB := by rw [← X.warmed.alike.findClass]; exact h1
  obtain ⟨vm', X', st⟩ := X.instanceofYes hexec hown hlink h2 h4 h1' (by rw [h3]; exact Jvm.Free.SB.assignable_self _ _) hg hstack hdg
  exact ⟨_, X', rfl, st⟩
theorem cself {p : Program} {l : Launch} {e : Env} {R : Room} {s : State} {m : MethodId} {args : Array Value} {below : List Frame} {meth : Method} {c : Code} {T : State} {locs : List Loc} {cells slots : Nat} (X : Stand p l e R s m args below meth c T locs cells slots) (hexec : p.tables.exec = Jvm.exec) {own C : String} {index : Nat} (hown : s.vm.findClass own = some m.cls) (hlink : (Cond.classLink own index C).before args s = true) {a : Addr} (hE : Exact C a T)
    {g : JFrame} (hg : g.method = m) {rest : List Value} (hstack : g.stack = .ref a :: rest) (hdg : decode c.code g.pc = .ok (.checkcast index, 3)) :
    ∃ T', Stand p l e R s m args below meth c T' locs cells slots ∧ T'.heap = T.heap ∧ ∀ target, Steps p.tables e below (T'.setTop { g with pc := g.pc + 3, stack := .ref a :: rest }) target → Steps p.tables e below (T.setTop g) target := by
  obtain ⟨cB, h1, D, h2, h3, h4⟩ := hE
  have h1' : s.vm.findClass C = some cB := by rw [← X.warmed.alike.findClass]; exact h1
  obtain ⟨vm', X', st⟩ := X.checkcastYes hexec hown hlink h2 h4 h1' (by rw [h3]; exact Jvm.Free.SB.assignable_self _ _) hg hstack hdg
  exact ⟨_, X', rfl, fun t h => st t (by rw [← hstack] at h; exact h)⟩
namespace SEq
def yN : MethodName := ⟨"java/lang/String", "equals", "(Ljava/lang/Object;)Z"⟩
abbrev yB : ByteArray := jdk_42_method_66_code
theorem d0 : decode yB 0 = .ok (.aload_n 0, 1) := by decide +kernel
theorem d1 : decode yB 1 = .ok (.aload_n 1, 1) := by decide +kernel
theorem d2 : decode yB 2 = .ok (.if_acmp (.ne) 5, 3) := by decide +kernel
theorem d5 : decode yB 5 = .ok (.iconst 1, 1) := by decide +kernel
theorem d6 : decode yB 6 = .ok (.ireturn, 1) := by decide +kernel
theorem d7 : decode yB 7 = .ok (.aload_n 1, 1) := by decide +kernel
theorem d8 : decode yB 8 = .ok (.instanceof 10, 3) := by decide +kernel
theorem d11 : decode yB 11 = .ok (.ifCond (.eq) 43, 3) := by decide +kernel
theorem d14 : decode yB 14 = .ok (.aload_n 1, 1) := by decide +kernel
theorem d15 : decode yB 15 = .ok (.checkcast 10, 3) := by decide +kernel
theorem d18 : decode yB 18 = .ok (.astore_n 2, 1) := by decide +kernel
theorem d19 : decode yB 19 = .ok (.getstatic 38, 3) := by decide +kernel
theorem d22 : decode yB 22 = .ok (.ifCond (.eq) 14, 3) := by decide +kernel
theorem d25 : decode yB 25 = .ok (.aload_n 0, 1) := by decide +kernel
theorem d26 : decode yB 26 = .ok (.getfield 15, 3) := by decide +kernel
theorem d29 : decode yB 29 = .ok (.aload_n 2, 1) := by decide +kernel
theorem d30 : decode yB 30 = .ok (.getfield 15, 3) := by decide +kernel
theorem d33 : decode yB 33 = .ok (.if_icmp (.ne) 21, 3) := by decide +kernel
theorem d36 : decode yB 36 = .ok (.aload_n 0, 1) := by decide +kernel
theorem d37 : decode yB 37 = .ok (.getfield 9, 3) := by decide +kernel
theorem d40 : decode yB 40 = .ok (.aload_n 2, 1) := by decide +kernel
theorem d41 : decode yB 41 = .ok (.getfield 9, 3) := by decide +kernel
theorem d44 : decode yB 44 = .ok (.invokestatic 541, 3) := by decide +kernel
theorem d47 : decode yB 47 = .ok (.ifCond (.eq) 7, 3) := by decide +kernel
theorem d50 : decode yB 50 = .ok (.iconst 1, 1) := by decide +kernel
theorem d51 : decode yB 51 = .ok (.goto 4, 3) := by decide +kernel
theorem d54 : decode yB 54 = .ok (.iconst 0, 1) := by decide +kernel
theorem d55 : decode yB 55 = .ok (.ireturn, 1) := by decide +kernel
def site : List Cond := [.classLink "java/lang/String" 10 "java/lang/String", .fieldLink "java/lang/String" 38 "java/lang/String" "COMPACT_STRINGS" "Z", .fieldLink "java/lang/String" 15 "java/lang/String" "coder" "B", .fieldLink "java/lang/String" 9 "java/lang/String" "value" "[B", LEq.tab] ++ staticW "java/lang/String" 541 LEq.yN
def tab : Cond := tabOf yN yB 3 (some .boolean) site
def P (x t : Addr) (V : Cell) (cd : Int32) (n : Nat) (f : Nat → Int32) (y t' : Addr) (V' : Cell) (cd' : Int32) (k : Nat) (g : Nat → Int32) (z : Int32) (args : Array Value) (s : State) : Prop := args = #[.ref x, .ref y] ∧ Txt x t V cd n f s ∧ Txt y t' V' cd' k g s ∧ StaticIs s "java/lang/String" "COMPACT_STRINGS" "Z" (.int z) ∧ ¬ z = 0
/-- equals(Object) of two Strings: whether the texts are the same -/
theorem law (l : Launch) (x t : Addr) (V : Cell) (cd : Int32) (n : Nat) (f : Nat → Int32) (y t' : Addr) (V' : Cell) (cd' : Int32) (k : Nat) (g : Nat → Int32) (z : Int32) : Law l yN 2 1 1 14 yB 3 (some .boolean) site (P x t V cd n f y t' V' cd' k g z) (Says01 (SameT n f k g)) [] 0 0 := by
  refine Law.of_walk (plainFor_of_name (by decide +kernel)) (by decide +kernel) (by decide +kernel) (by decide) (fun _ _ h => by rw [h.1]; rfl) (fun _ U U' hal hh h => ⟨h.1, h.2.1.mv hal hh, h.2.2.1.mv hal hh, h.2.2.2.1.there hal hh, h.2.2.2.2⟩) (fun r U U' V V' h1 hal h2 h => Says01.mv r U U' V V' h1 hal h2 h) ?_
  intro p e s m args below meth c s₁ X0 hexec hbytes hml hret hlk hnm hown hh0 W hP
  obtain ⟨rfl, hx, hy, s1, hz⟩ := hP
  have c1 : Steps p.tables e below (s₁.setTop (entryFrame m #[.ref x, .ref y] 3)) (s₁.setTop (mkF m 2 #[.val (.ref x), .val (.ref y), .unset] [.ref y, .ref x])) := Steps.trans (entry rfl) (by
    show Steps p.tables e below (s₁.setTop (mkF m 0 #[.val (.ref x), .val (.ref y), .unset] [])) _
    refine XS.aloadN X0.here hexec rfl (hb hbytes d0) rfl rfl ?_
    refine XS.aloadN X0.here hexec rfl (hb hbytes d1) rfl rfl ?_
    exact Steps.refl _)
  by_cases hxy : x = y
  · have c2 : Steps p.tables e below (s₁.setTop (entryFrame m #[.ref x, .ref y] 3)) (s₁.setTop (mkF m 6 #[.val (.ref x), .val (.ref y), .unset] [.int 1])) := c1.trans (by
      refine acmpNo X0.here hexec rfl (hb hbytes d2) rfl rfl rfl (by simp [acmp, hxy]) ?_
      refine iconstV X0.here hexec rfl 1 (hb hbytes d5) (by decide) ?_
      exact Steps.refl _)
    subst hxy
    have ec : cd = cd' := by
      obtain ⟨D, fd, a1, a2, a3⟩ := hx.2.2.1
      obtain ⟨D', fd', b1, b2, b3⟩ := hy.2.2.1
      cases a1.symm.trans b1
      obtain ⟨q1, q2, q3, q4⟩ := a2.1
      obtain ⟨r1, r2, r3, r4⟩ := b2.1
      cases q4.symm.trans r4
      cases a3.symm.trans b3; rfl
    have et : t = t' := by
      obtain ⟨D, fd, a1, a2, a3⟩ := hx.2.1
      obtain ⟨D', fd', b1, b2, b3⟩ := hy.2.1
      cases a1.symm.trans b1
      obtain ⟨q1, q2, q3, q4⟩ := a2.1
      obtain ⟨r1, r2, r3, r4⟩ := b2.1
      cases q4.symm.trans r4
      cases a3.symm.trans b3; rfl
    subst ec et
    have ev : V = V' := by cases hx.2.2.2.1.1.symm.trans hy.2.2.2.1.1; rfl
    subst ev
    have hs : SameT n f k g := (Cod.eqv hx.2.2.2.2.1 hy.2.2.2.2.1 hx.2.2.2.2.2 hy.2.2.2.2.2).mp ⟨rfl, fun _ _ => rfl⟩
    exact ⟨s₁, some (.int 1), _, _, _, X0, rfl, rfl, rfl, (fun h => by cases h), ⟨1, rfl, hh0, Or.inl ⟨rfl, hs⟩⟩, fun fs hl => c2.trans (X0.ireturnOut hexec hret rfl (Or.inr (Or.inl rfl)) (hb hbytes d6) hl)⟩
  · have c2 : Steps p.tables e below (s₁.setTop (entryFrame m #[.ref x, .ref y] 3)) (s₁.setTop (mkF m 8 #[.val (.ref x), .val (.ref y), .unset] [.ref y])) := c1.trans (by
      refine acmpYes X0.here hexec rfl (pc0 := 2) rfl (hb hbytes d2) rfl rfl rfl (by simp [acmp, hxy]) (by decide) rfl ?_
      refine XS.aloadN X0.here hexec rfl (hb hbytes d7) rfl rfl ?_
      exact Steps.refl _)
    obtain ⟨T3, X3, q3, st3⟩ := cinst X0 hexec hown (wk W (.classLink "java/lang/String" 10 "java/lang/String")) (hy.mv X0.warmed.alike hh0).1 (g := (mkF m 8 #[.val (.ref x), .val (.ref y), .unset] [.ref y])) rfl (rest := []) rfl (hb hbytes d8)
    have hh3 := q3.trans hh0
    have c4 : Steps p.tables e below (s₁.setTop (entryFrame m #[.ref x, .ref y] 3)) (T3.setTop (mkF m 15 #[.val (.ref x), .val (.ref y), .unset] [.ref y])) := (c2.trans (st3 _ (Steps.refl _))).trans (by
      refine XS.ifNo X3.here hexec rfl (hb hbytes d11) rfl (i0_eq_f (by decide)) ?_
      refine XS.aloadN X3.here hexec rfl (hb hbytes d14) rfl rfl ?_
      exact Steps.refl _)
    obtain ⟨T5, X5, q5, st5⟩ := cself X3 hexec hown (wk W (.classLink "java/lang/String" 10 "java/lang/String")) (hy.mv X3.warmed.alike hh3).1 (g := (mkF m 15 #[.val (.ref x), .val (.ref y), .unset] [.ref y])) rfl (rest := []) rfl (hb hbytes d15)
    have hh5 := q5.trans hh3
    have c6 : Steps p.tables e below (s₁.setTop (entryFrame m #[.ref x, .ref y] 3)) (T5.setTop (mkF m 19 #[.val (.ref x), .val (.ref y), .val (.ref y)] [])) := (c4.trans (st5 _ (Steps.refl _))).trans (by
      refine XS.astoreN X5.here hexec rfl (hb hbytes d18) rfl rfl rfl ?_
      exact Steps.refl _)
    obtain ⟨T7, X7, q7, st7⟩ := X5.sget hexec hown (wk W (.fieldLink "java/lang/String" 38 "java/lang/String" "COMPACT_STRINGS" "Z")) s1 (fun _ _ h => by rw [hh5]; exact h) (g := (mkF m 19 #[.val (.ref x), .val (.ref y), .val (.ref y)] [])) rfl (hb hbytes d19)
    have hh7 := q7.trans hh5
    have c8 : Steps p.tables e below (s₁.setTop (entryFrame m #[.ref x, .ref y] 3)) (T7.setTop (mkF m 26 #[.val (.ref x), .val (.ref y), .val (.ref y)] [.ref x])) := (c6.trans (st7 _ (Steps.refl _))).trans (by
      refine XS.ifNo X7.here hexec rfl (hb hbytes d22) rfl (i0_eq_f hz) ?_
      refine XS.aloadN X7.here hexec rfl (hb hbytes d25) rfl rfl ?_
      exact Steps.refl _)
    obtain ⟨T9, X9, q9, st9⟩ := X7.hget hexec hown (wk W (.fieldLink "java/lang/String" 15 "java/lang/String" "coder" "B")) (hx.mv X7.warmed.alike hh7).2.2.1 (g := (mkF m 26 #[.val (.ref x), .val (.ref y), .val (.ref y)] [.ref x])) rfl (rest := []) rfl (hb hbytes d26)
    have hh9 := q9.trans hh7
    have c10 : Steps p.tables e below (s₁.setTop (entryFrame m #[.ref x, .ref y] 3)) (T9.setTop (mkF m 30 #[.val (.ref x), .val (.ref y), .val (.ref y)] [.ref y, .int cd])) := (c8.trans (st9 _ (Steps.refl _))).trans (by
      refine XS.aloadN X9.here hexec rfl (hb hbytes d29) rfl rfl ?_
      exact Steps.refl _)
    obtain ⟨T11, X11, q11, st11⟩ := X9.hget hexec hown (wk W (.fieldLink "java/lang/String" 15 "java/lang/String" "coder" "B")) (hy.mv X9.warmed.alike hh9).2.2.1 (g := (mkF m 30 #[.val (.ref x), .val (.ref y), .val (.ref y)] [.ref y, .int cd])) rfl (rest := [.int cd]) rfl (hb hbytes d30)
    have hh11 := q11.trans hh9
    have c12 : Steps p.tables e below (s₁.setTop (entryFrame m #[.ref x, .ref y] 3)) (T11.setTop (mkF m 33 #[.val (.ref x), .val (.ref y), .val (.ref y)] [.int cd', .int cd])) := c10.trans (st11 _ (Steps.refl _))
    by_cases hcd : cd = cd'
    · subst hcd
      have c13 : Steps p.tables e below (s₁.setTop (entryFrame m #[.ref x, .ref y] 3)) (T11.setTop (mkF m 37 #[.val (.ref x), .val (.ref y), .val (.ref y)] [.ref x])) := c12.trans (by
        refine XS.icmpNo X11.here hexec rfl (hb hbytes d33) rfl (ii_ne_f rfl) ?_
        refine XS.aloadN X11.here hexec rfl (hb hbytes d36) rfl rfl ?_
        exact Steps.refl _)
      obtain ⟨T14, X14, q14, st14⟩ := X11.hget hexec hown (wk W (.fieldLink "java/lang/String" 9 "java/lang/String" "value" "[B")) (hx.mv X11.warmed.alike hh11).2.1 (g := (mkF m 37 #[.val (.ref x), .val (.ref y), .val (.ref y)] [.ref x])) rfl (rest := []) rfl (hb hbytes d37)
      have hh14 := q14.trans hh11
      have c15 : Steps p.tables e below (s₁.setTop (entryFrame m #[.ref x, .ref y] 3)) (T14.setTop (mkF m 41 #[.val (.ref x), .val (.ref y), .val (.ref y)] [.ref y, .ref t])) := (c13.trans (st14 _ (Steps.refl _))).trans (by
        refine XS.aloadN X14.here hexec rfl (hb hbytes d40) rfl rfl ?_
        exact Steps.refl _)
      obtain ⟨T16, X16, q16, st16⟩ := X14.hget hexec hown (wk W (.fieldLink "java/lang/String" 9 "java/lang/String" "value" "[B")) (hy.mv X14.warmed.alike hh14).2.1 (g := (mkF m 41 #[.val (.ref x), .val (.ref y), .val (.ref y)] [.ref y, .ref t])) rfl (rest := [.ref t]) rfl (hb hbytes d41)
      have hh16 := q16.trans hh14
      have c17 : Steps p.tables e below (s₁.setTop (entryFrame m #[.ref x, .ref y] 3)) (T16.setTop (mkF m 44 #[.val (.ref x), .val (.ref y), .val (.ref y)] [.ref t', .ref t])) := c15.trans (st16 _ (Steps.refl _))
      obtain ⟨v18, T18, X18, E18, g18⟩ := X16.callS hexec (LEq.law l t V t' V') hown (wks W (staticW "java/lang/String" 541 LEq.yN)) (wk W LEq.tab) (W := 0) (Nat.le_of_ble_eq_true rfl) (Nat.le_of_ble_eq_true rfl) (Nat.le_refl _) (Nat.le_refl _) (g := (mkF m 44 #[.val (.ref x), .val (.ref y), .val (.ref y)] [.ref t', .ref t])) rfl (by rw [hml]; rfl) c17 (argsL := [.ref t, .ref t']) (rest := []) rfl rfl (by show 2 * 0 + 0 ≤ _; decide) (hb hbytes d44) (⟨rfl, hx.2.2.2.1.mv X16.warmed.alike hh16, hx.2.2.2.2.1.ty, hy.2.2.2.1.mv X16.warmed.alike hh16, hy.2.2.2.2.1.ty⟩)
      obtain ⟨v, rfl, q18, hv⟩ := E18
      have iff := Cod.eqv hx.2.2.2.2.1 hy.2.2.2.2.1 hx.2.2.2.2.2 hy.2.2.2.2.2
      rcases hv with ⟨rfl, he⟩ | ⟨rfl, he⟩
      · have c19 : Steps p.tables e below (s₁.setTop (entryFrame m #[.ref x, .ref y] 3)) (T18.setTop (mkF m 55 #[.val (.ref x), .val (.ref y), .val (.ref y)] [.int 1])) := Steps.trans g18 (by
          refine XS.ifNo X18.here hexec rfl (hb hbytes d47) rfl (i0_eq_f (by decide)) ?_
          refine iconstV X18.here hexec rfl 1 (hb hbytes d50) (by decide) ?_
          refine XS.goto X18.here hexec rfl (pc0 := 51) rfl (hb hbytes d51) (by decide) rfl ?_
          exact Steps.refl _)
        exact ⟨T18, some (.int 1), _, _, _, X18, rfl, rfl, rfl, (fun h => by cases h), ⟨1, rfl, q18.trans hh16, Or.inl ⟨rfl, iff.mp he⟩⟩, fun fs hl => c19.trans (X18.ireturnOut hexec hret rfl (Or.inr (Or.inl rfl)) (hb hbytes d55) hl)⟩
      · have c19 : Steps p.tables e below (s₁.setTop (entryFrame m #[.ref x, .ref y] 3)) (T18.setTop (mkF m 55 #[.val (.ref x), .val (.ref y), .val (.ref y)] [.int 0])) := Steps.trans g18 (by
          refine XS.ifYes X18.here hexec rfl (pc0 := 47) rfl (hb hbytes d47) rfl (i0_eq_t rfl) (by decide) rfl ?_
          refine iconstV X18.here hexec rfl 0 (hb hbytes d54) (by decide) ?_
          exact Steps.refl _)
        exact ⟨T18, some (.int 0), _, _, _, X18, rfl, rfl, rfl, (fun h => by cases h), ⟨0, rfl, q18.trans hh16, Or.inr ⟨rfl, fun q => he (iff.mpr q)⟩⟩, fun fs hl => c19.trans (X18.ireturnOut hexec hret rfl (Or.inr (Or.inl rfl)) (hb hbytes d55) hl)⟩
    · have c13 : Steps p.tables e below (s₁.setTop (entryFrame m #[.ref x, .ref y] 3)) (T11.setTop (mkF m 55 #[.val (.ref x), .val (.ref y), .val (.ref y)] [.int 0])) := c12.trans (by
        refine XS.icmpYes X11.here hexec rfl (pc0 := 33) rfl (hb hbytes d33) rfl (ii_ne_t hcd) (by decide) rfl ?_
        refine iconstV X11.here hexec rfl 0 (hb hbytes d54) (by decide) ?_
        exact Steps.refl _)
      exact ⟨T11, some (.int 0), _, _, _, X11, rfl, rfl, rfl, (fun h => by cases h), ⟨0, rfl, hh11, Or.inr ⟨rfl, Cod.dif hx.2.2.2.2.1 hy.2.2.2.2.1 hcd⟩⟩, fun fs hl => c13.trans (X11.ireturnOut hexec hret rfl (Or.inr (Or.inl rfl)) (hb hbytes d55) hl)⟩
theorem pays {l : Launch} {R : Room} {p : Program} {e : Env} {below : List Frame} {s : State} {sargs : Array Value} {len W : Nat} (x t : Addr) (V : Cell) (cd : Int32) (n : Nat) (f : Nat → Int32) (y t' : Addr) (V' : Cell) (cd' : Int32) (k : Nat) (g : Nat → Int32) (z : Int32) (htab : tab.before sargs s = true) (hfr : 2 ≤ R.frames) (hlo : W + 28 ≤ R.locals) :
    Back l R p e below s sargs yN len W (fun A₁ a₁ => A₁.cells + 0 ≤ R.cells ∧ A₁.slots + 0 ≤ R.slots ∧ P x t V cd n f y t' V' cd' k g z a₁ A₁.U) (fun A₁ _ v₁ B₁ => Says01 (SameT n f k g) v₁ A₁.U B₁.U ∧ B₁.locs = A₁.locs ++ [] ∧ B₁.cells = A₁.cells + 0 ∧ B₁.slots = A₁.slots + 0) :=
  (law l x t V cd n f y t' V' cd' k g z).pays htab hfr (by omega)
end SEq
end StrChars
namespace StrChars.Road
open Jvm Sem ClassFile Op Lib Jvm.Stand Jvm.Free Jvm.Free.XT
open Jvm.Lib.Cold (StaticIs)
/-- the words of String.equals(Object) -/
abbrev wordsEq : List Jvm.Cond := [.code SEq.yN SEq.yB 3 (some .boolean), .initialized ST, .classLink ST 10 ST, .fieldLink ST 38 ST "COMPACT_STRINGS" "Z", .fieldLink ST 15 ST "coder" "B", .fieldLink ST 9 ST "value" "[B", .methodLink ST 541 LEq.yN, .static LEq.yN, .code LEq.yN LEq.yB 3 (some .boolean), .initialized "java/lang/StringLatin1"]
theorem tabEq_of {a : Array Value} {s : State} (h : ∀ w ∈ wordsEq, w.before a s = true) : SEq.tab.before a s = true := by
  have hl : LEq.tab.before a s = true := unparts (wk h (.code LEq.yN LEq.yB 3 (some .boolean))) (wks h (.initialized LEq.yN.cls :: LEq.site))
  have q := consq hl h
  exact unparts (wk q (.code SEq.yN SEq.yB 3 (some .boolean))) (wks q (.initialized SEq.yN.cls :: SEq.site))
theorem movedEq {Z s : State} {a0 args : Array Value} (hZ : Z.Warmed39 s.vm) (hw : ∀ d ∈ wordsEq, d.before a0 Z = true) : ∀ d ∈ wordsEq, d.before args s = true := fun d hd => by
  have t : ∀ d ∈ wordsEq, (d.onTables && d.keepsFace) = true := by decide +kernel
  exact RoadKit.mv hZ (hw d hd) (t d hd)
/-- the road's facts of a String, as the laws ask it -/
theorem txt_of {Z U : State} {a0 : Array Value} {kI : Nat} (wi : (Jvm.Cond.instantiable ST kI).before a0 Z = true) (al : Z.vm.Alike U.vm) {x t : Addr} {kb : ClassId} {cs : List Int32} {cd N2 : Int32} {vs : List Value} (E : RoadKit.Exa Z U.heap x ST) (V : RoadKit.Fld Z U.heap x ST "value" "[B" (.ref t)) (C : RoadKit.Fld Z U.heap x ST "coder" "B" (.int cd)) (K : RoadKit.Arv Z U.heap t kb .byte N2 vs (.int 0)) (hc : CodA cs cd N2 vs) (hb : ∀ c ∈ cs, ¬ c < 0 ∧ ¬ (65535 : Int32) < c) (l2 : cs.length ≤ 4000) :
    ∃ A, Txt x t A cd cs.length (fun j => cs.getD j 0) U := by
  obtain ⟨A, K1, K2, K3, K4, K5, K6⟩ := K
  have hcod := hc.cod (by omega) K3 K5
  obtain ⟨D, fV, fC, hB, F1, F2, g1, g2, -, -⟩ := strObj wi al E V C
  exact ⟨A, ⟨_, hB.2.2.1, D, hB.1, rfl, by cases q : D.vm <;> first | rfl | exact absurd q (hB.2.1.2 _)⟩, Has.of hB F1 g1, Has.of hB F2 g2, ⟨K1.1, State.isArrayOf_alike al K1.2.1, K1.2.2, by rcases hcod with ⟨-, q, -⟩ | ⟨-, q, -⟩ <;> omega⟩, hcod, fun j hj => by
    have e : cs.getD j 0 = cs[j] := by simp [List.getD_eq_getElem?_getD, hj]
    show ¬ cs.getD j 0 < 0 ∧ ¬ 65535 < cs.getD j 0
    rw [e]; exact hb _ (List.getElem_mem _)⟩
theorem same_list (cs ds : List Int32) : SameT cs.length (fun j => cs.getD j 0) ds.length (fun j => ds.getD j 0) ↔ cs = ds := by
  constructor
  · rintro ⟨e, q⟩
    refine List.ext_getElem e fun j h1 h2 => ?_
    have := q j h1
    simpa [List.getD_eq_getElem?_getD, h1, h2] using this
  · rintro rfl
    exact ⟨rfl, fun _ _ => rfl⟩
/-- **equals(Object) OF TWO SUCH STRINGS**: 1 just where the chars are the same -/
theorem eqW {p : Program} {l : Launch} {e : Env} {R : Room} {s : State} {args : Array Value} {below : List Frame} {len W : Nat} {Z : State} {a0 : Array Value} {h : Heap} (hZ : Z.Warmed39 s.vm) (hw : ∀ d ∈ wordsEq, d.before a0 Z = true) {kI : Nat} (wi : (Jvm.Cond.instantiable ST kI).before a0 Z = true)
    {x t : Addr} {kb : ClassId} {cs : List Int32} {cd N2 : Int32} {vs : List Value} (E : RoadKit.Exa Z h x ST) (V : RoadKit.Fld Z h x ST "value" "[B" (.ref t)) (C : RoadKit.Fld Z h x ST "coder" "B" (.int cd)) (K : RoadKit.Arv Z h t kb .byte N2 vs (.int 0)) (hc : CodA cs cd N2 vs) (hb : ∀ c ∈ cs, ¬ c < 0 ∧ ¬ (65535 : Int32) < c) (l2 : cs.length ≤ 4000)
    {y t' : Addr} {kb' : ClassId} {ds : List Int32} {cd' N2' : Int32} {vs' : List Value} (E' : RoadKit.Exa Z h y ST) (V' : RoadKit.Fld Z h y ST "value" "[B" (.ref t')) (C' : RoadKit.Fld Z h y ST "coder" "B" (.int cd')) (K' : RoadKit.Arv Z h t' kb' .byte N2' vs' (.int 0)) (hc' : CodA ds cd' N2' vs') (hb' : ∀ c ∈ ds, ¬ c < 0 ∧ ¬ (65535 : Int32) < c) (l2' : ds.length ≤ 4000)
    {z : Int32} (S : RoadKit.Sta Z h ST "COMPACT_STRINGS" "Z" (.int z)) (hz : ¬ z = 0) (hfr : 2 ≤ R.frames) (hlo : W + 28 ≤ R.locals) :
    Back l R p e below s args (⟨"java/lang/String", "equals", "(Ljava/lang/Object;)Z"⟩ : MethodName) len W (fun P a => a = #[.ref x, .ref y] ∧ P.U.heap = h ∧ P.cells + 0 ≤ R.cells ∧ P.slots + 0 ≤ R.slots)
      (fun P _ v B => ∃ L, (((v = some (.int 1) ∧ cs = ds) ∨ (v = some (.int 0) ∧ ¬ cs = ds)) ∧ L = [] ∧ B.U.heap = h) ∧ B.locs = P.locs ++ L ∧ B.cells = P.cells + 0 ∧ B.slots = P.slots + 0) := by
  intro m meth c P g ig mk a X hg hsize hdg hW hn hp'
  obtain ⟨rfl, rfl, r1, r2⟩ := hp'
  have al : Z.vm.Alike P.U.vm := hZ.alike.trans X.warmed.alike
  obtain ⟨A, hx⟩ := txt_of wi al E V C K hc hb l2
  obtain ⟨A', hy⟩ := txt_of wi al E' V' C' K' hc' hb' l2'
  obtain ⟨v, B, X', ⟨⟨w, hv, hh, hq⟩, hl, hk, hs⟩, st⟩ := SEq.pays x t A cd cs.length (fun j => cs.getD j 0) y t' A' cd' ds.length (fun j => ds.getD j 0) z (tabEq_of (movedEq hZ hw)) hfr hlo m meth c P g ig mk _ X hg hsize hdg hW hn ⟨r1, r2, rfl, hx, hy, sta_is al S, hz⟩
  refine ⟨v, B, X', ⟨[], ⟨?_, rfl, hh⟩, hl, hk, hs⟩, st⟩
  rcases hq with ⟨rfl, q⟩ | ⟨rfl, q⟩
  · exact Or.inl ⟨hv, (same_list cs ds).mp q⟩
  · exact Or.inr ⟨hv, fun e => q ((same_list cs ds).mpr e)⟩
end StrChars.Road
namespace StrChars.Road
open Jvm Sem ClassFile Op Lib Jvm.Stand Jvm.Free Jvm.Free.XT
open Jvm.Lib.Cold (StaticIs)
/-- what backV says of its String, as the contracts of this text ask it: cs's low bytes, coder 0 -/
theorem codOf {cs : List Int32} {n : Nat} (hn : cs.length = n) (hb : ∀ c ∈ cs, ¬ 255 < c) : CodA cs 0 (Int32.ofNat n) ((cs.map lo8).map Value.int) := Or.inl ⟨rfl, by rw [hn], by simp [List.map_map, Function.comp_def], hb⟩
end StrChars.Road
end Jvm.Pilot.@@N@@
namespace Jvm.Pilot.@@N@@
open Jvm Jvm.ClassFile Sem Op Lib Jvm.Free Jvm.Stand Jvm.LawKit Jvm.RoadKit Bundle Jvm.Pilot.@@N@@.Jvm.D
theorem paysEq {p : Program} {l : Launch} {e : Env} {R : Room} {s : State} {args : Array Value} {below : List Frame} {len W : Nat} {Z : State} {a0 : Array Value} {h : Heap} (hZ : Z.Warmed39 s.vm) (hw : ∀ d ∈ StrChars.Road.wordsEq, d.before a0 Z = true) {kI : Nat} (wi : (Jvm.Cond.instantiable StrChars.Road.ST kI).before a0 Z = true) {x t : Addr} {kb : ClassId} {cs : List Int32} {cd N : Int32} {vs : List Value} (E : RoadKit.Exa Z h x StrChars.Road.ST) (F : RoadKit.Fld Z h x StrChars.Road.ST "value" "[B" (.ref t)) (C : RoadKit.Fld Z h x StrChars.Road.ST "coder" "B" (.int cd)) (A : RoadKit.Arv Z h t kb .byte N vs (.int 0)) (hc : StrChars.Road.CodA cs cd N vs) (hb : ∀ c ∈ cs, ¬ c < 0 ∧ ¬ (65535 : Int32) < c) (l2 : cs.length ≤ 4000) {x' t' : Addr} {kb' : ClassId} {cs' : List Int32} {cd' N' : Int32} {vs' : List Value} (E' : RoadKit.Exa Z h x' StrChars.Road.ST) (F' : RoadKit.Fld Z h x' StrChars.Road.ST "value" "[B" (.ref t')) (C' : RoadKit.Fld Z h x' StrChars.Road.ST "coder" "B" (.int cd')) (A' : RoadKit.Arv Z h t' kb' .byte N' vs' (.int 0)) (hc' : StrChars.Road.CodA cs' cd' N' vs') (hb' : ∀ c ∈ cs', ¬ c < 0 ∧ ¬ (65535 : Int32) < c) (l2' : cs'.length ≤ 4000) {z : Int32} (S : RoadKit.Sta Z h StrChars.Road.ST "COMPACT_STRINGS" "Z" (.int z)) (hz : ¬ z = 0) (hfr : 2 ≤ R.frames) (hlo : W + 28 ≤ R.locals) : Pays l R p e below s args (⟨"java/lang/String", "equals", "(Ljava/lang/Object;)Z"⟩ : MethodName) len W #[.ref x, .ref x'] h 0 0 (fun v h' L => ((v = some (.int 1) ∧ cs = cs') ∨ (v = some (.int 0) ∧ ¬ cs = cs')) ∧ L = [] ∧ h' = h) :=
  StrChars.Road.eqW hZ hw wi E F C A hc hb l2 E' F' C' A' hc' hb' l2' S hz hfr hlo
theorem paysNew {p : Program} {l : Launch} {e : Env} {R : Room} {s : State} {args : Array Value} {below : List Frame} {len W : Nat} {Z : State} {a0 : Array Value} {h : Heap} (hZ : Z.Warmed39 s.vm) (hw : ∀ d ∈ StrChars.Road.words, d.before a0 Z = true) {kI : Nat} (wi : (Jvm.Cond.instantiable StrChars.Road.ST kI).before a0 Z = true) {x b : Addr} {kC : ClassId} {cs bs : List Int32} {d v0 c0 : Value} {z N : Int32} {n n0 : Nat} (hx0 : n0 ≤ x) (hh0 : n0 ≤ h.size) (E : RoadKit.Exa Z h x StrChars.Road.ST) (F : RoadKit.Fld Z h x StrChars.Road.ST "value" "[B" v0) (C : RoadKit.Fld Z h x StrChars.Road.ST "coder" "B" c0) (A : RoadKit.Arv Z h b kC .char N (cs.map Value.int) d) (S : RoadKit.Sta Z h StrChars.Road.ST "COMPACT_STRINGS" "Z" (.int z)) (hz : ¬ z = 0) (hn : cs.length = n) (hN : N = Int32.ofNat n) (l0 : 0 < n) (l2 : n ≤ 4000) (hp : ∀ c ∈ cs, ¬ c < 0 ∧ ¬ (255 : Int32) < c) (hb : bs = cs.map (fun c => c.toInt8.toInt32)) (hfr : 4 ≤ R.frames) (hlo : W + 65 ≤ R.locals) : Pays l R p e below s args (⟨"java/lang/String", "<init>", "([C)V"⟩ : MethodName) len W #[.ref x, .ref b] h 1 n (StrChars.Road.QV Z x N bs h n0) :=
  StrChars.Road.backV hZ hw wi hx0 hh0 E F C A S hz hn hN l0 l2 hp hb hfr hlo
end Jvm.Pilot.@@N@@
namespace Jvm.Pilot.@@N@@
open Jvm Jvm.ClassFile Sem Op Lib Jvm.Free Jvm.Stand Jvm.LawKit Jvm.RoadKit Bundle Jvm.Pilot.@@N@@.Jvm.D
theorem own_small {x : Int32} {n : Nat} (h0 : 0 ≤ x.toInt) (h1 : x.toInt < n) : ∃ i : Fin n, x = Int32.ofNat i.val := by
  obtain ⟨k, hk⟩ : ∃ k : Nat, x.toInt = k := ⟨x.toInt.toNat, by omega⟩
  have := x.toInt_lt
  exact ⟨⟨k, by omega⟩, Int32.toInt_inj.mp (show x.toInt = (Int32.ofNat k).toInt by rw [hk, Int32.toInt_ofNat_small (by omega)])⟩
theorem own_and3 (x : Int32) : (x &&& 3) = 0 ∨ (x &&& 3) = 1 ∨ (x &&& 3) = 2 ∨ (x &&& 3) = 3 := by
  have q := c_and x 3 (by decide)
  have e3 : (3 : Int32).toInt = 3 := by decide
  obtain ⟨i, hi⟩ := own_small (n := 4) q.1 (by omega)
  have t : ∀ i : Fin 4, Int32.ofNat i.val = 0 ∨ Int32.ofNat i.val = 1 ∨ Int32.ofNat i.val = 2 ∨ Int32.ofNat i.val = 3 := by decide +kernel
  rw [hi]
  exact t i
theorem own_ofN {i n : Nat} (hn : n ≤ 4000) (hi : i ≤ n) : Int32.ofNat i < Int32.ofNat n ↔ i < n := by
  rw [Int32.lt_iff_toInt_lt, Int32.toInt_ofNat_small (by omega), Int32.toInt_ofNat_small (by omega)]
  omega
theorem own_nn {i : Nat} (hi : i ≤ 4000) : ¬ Int32.ofNat i < 0 := by
  rw [Int32.lt_iff_toInt_lt, Int32.toInt_ofNat_small (by omega)]
  show ¬ (i : Int) < 0
  omega
theorem own_in {i n : Nat} (hn : n ≤ 4000) (hi : i < n) : ¬ Int32.ofNat i < 0 ∧ Int32.ofNat i < Int32.ofNat n := ⟨own_nn (by omega), (own_ofN hn (by omega)).mpr hi⟩
theorem own_cl {i : Nat} (hi : i ≤ 4000) : (Int32.ofNat i).toNatClampNeg = i := by
  rw [Int32.toNatClampNeg, Int32.toInt_ofNat_small (by omega)]
  rfl
theorem own_inc {i : Nat} : Int32.ofNat i + Int32.ofInt 1 = Int32.ofNat (i + 1) := by
  rw [Int32.ofNat_add]; rfl
theorem own_at {cs : List Int32} {i : Nat} {dv : Value} (h4 : cs.length ≤ 4000) (hi : i < cs.length) : (cs.map Value.int).getD (Int32.ofNat i).toNatClampNeg dv = .int (cs.getD i 0) := by
  rw [own_cl (by omega)]
  simp [List.getD_eq_getElem?_getD, hi]
theorem own_inj {i n : Nat} (hn : n ≤ 4000) (hi : i ≤ 4000) (h : Int32.ofNat i = Int32.ofNat n) : i = n := by
  have := congrArg Int32.toInt h
  rw [Int32.toInt_ofNat_small (by omega), Int32.toInt_ofNat_small (by omega)] at this
  omega
theorem own_safeS {Z : State} {EL : List (String × Nat)} {vm : Vm} {h : Heap} {x : Addr} (hal : Z.vm.Alike vm) (E : Exa Z h x "java/lang/String") (V : Fld Z h x "java/lang/String" "value" "[B" .null) : Safe Z EL vm h x := fun B => by
  obtain ⟨cell, cf, kk, i, f, e1, e2, -, -, -, -, e7⟩ := V
  obtain ⟨p, -, u, a, -, q, -, W, hy⟩ := B
  obtain ⟨cS, ⟨L, g1, g2⟩, -, hB, -⟩ := W
  rcases hy with rfl | rfl
  · cases (show h[q.sa]? = some q.sC from L.1).symm.trans e1
    obtain ⟨c', k', i', hf, -⟩ := L.2.2.2.1
    obtain ⟨k2, hi, -⟩ := State.fieldFound?_setVm (s := Z) hal e2
    have hf' : (Z.setVm vm).fieldFound? "java/lang/String" "value" "[B" = some (c', k', i', q.fSV) := hf
    rw [hi] at hf'
    cases hf'
    have := L.2.2.2.2.2.2.2.1
    rw [this] at e7
    cases e7
  · obtain ⟨cell2, k2, r1, r2, -⟩ := E
    cases r1.symm.trans e1
    cases (show h[q.sd]? = some q.SA from L.2.2.2.2.2.2.2.2.2.1).symm.trans e1
    have hB' : vm.findClass "[B" = some q.SA.cls := hB
    rw [hal.findClass] at hB'
    obtain ⟨k3, s1, s2⟩ := Vm.findClass_spec hB'
    obtain ⟨k4, s3, s4⟩ := Vm.findClass_spec r2
    cases s1.symm.trans s3
    have := s2.symm.trans s4
    exact absurd this (by decide)
section LitKit
variable {p : Program} {l : Launch} {e : Env} {R : Room} {s : State} {m : MethodId} {args : Array Value} {below : List Frame} {meth : Method} {c : Code} {n0 : Nat} {Q : Option Value → Vm → Heap → Prop} {F : Outcome → State → List Loc → Prop} {B : Nat} {h h' : Heap} {k n : Nat}
variable {Z : State} {own : String} {bs : ByteArray} {ml : Nat} {ret : Option FieldType} {nm : String} {a0 : Array Value} {Ls Ls' : Array Slot} {st rest : List Value} {pc pc' : Nat} {vm0 : Vm} {EL : List (String × Nat)}
/-- a Latin-1 String with these signs -/
def Str (Z : State) (h : Heap) (a : Addr) (cs : List Int32) : Prop :=
  Exa Z h a "java/lang/String" ∧ Fld Z h a "java/lang/String" "coder" "B" (.int 0) ∧ ∃ (t : Addr) (kb : ClassId), Fld Z h a "java/lang/String" "value" "[B" (.ref t) ∧ Arv Z h t kb .byte (Int32.ofNat cs.length) (cs.map fun c => Value.int (StrChars.lo8 c)) (.int 0)
theorem Str.ext {a : Addr} {cs : List Int32} (S : Str Z h a cs) (E : Ext h h') : Str Z h' a cs := by
  obtain ⟨e1, e2, t, kb, e3, e4⟩ := S
  exact ⟨e1.ext E, e2.ext E, t, kb, e3.ext E, e4.ext E⟩
theorem Str.keep0 {a : Addr} {cs : List Int32} (S : Str Z h a cs) (K : Keep h h' []) : Str Z h' a cs := by
  obtain ⟨e1, e2, t, kb, e3, e4⟩ := S
  exact ⟨e1.keep K, e2.keep K nin0, t, kb, e3.keep K nin0, e4.keep K nin0⟩
theorem own_tyne {t b : Addr} {k1 k2 : ClassId} {ty1 ty2 : FieldType} {z1 z2 : Int32} {v1 v2 : List Value} {d1 d2 : Value} (A : Arv Z h t k1 ty1 z1 v1 d1) (B : Arv Z h b k2 ty2 z2 v2 d2) (hn : ty1 ≠ ty2) : t ≠ b := by
  rintro rfl
  obtain ⟨c1, ⟨a1, ⟨-, q1, r1, m1, s1⟩, -⟩, -⟩ := A
  obtain ⟨c2, ⟨a2, ⟨-, q2, r2, m2, s2⟩, -⟩, -⟩ := B
  cases a1.symm.trans a2
  cases r1.symm.trans r2
  rw [s1] at s2
  cases s2
  exact hn rfl
theorem own_exne {a b : Addr} {kI : Nat} {C : String} {k2 : ClassId} {ty2 : FieldType} {z2 : Int32} {v2 : List Value} {d2 : Value} (wi : (Jvm.Cond.instantiable C kI).before a0 Z = true) (E : Exa Z h a C) (B : Arv Z h b k2 ty2 z2 v2 d2) : a ≠ b := by
  rintro rfl
  obtain ⟨cI, kI', hc, hk, hkind, -⟩ := Cond.instantiable_spec wi
  obtain ⟨cell, k3, e1, e2, e3, -⟩ := E
  obtain ⟨c2, ⟨a2, ⟨-, q2, r2, m2, s2⟩, -⟩, -⟩ := B
  cases e1.symm.trans a2
  cases hc.symm.trans e2
  cases hk.symm.trans r2
  rw [hkind] at s2
  cases s2
theorem Str.keepB {a b : Addr} {cs : List Int32} {kI : Nat} {kb : ClassId} {ty : FieldType} {z : Int32} {vs : List Value} {d : Value} (wi : (Jvm.Cond.instantiable "java/lang/String" kI).before a0 Z = true) (S : Str Z h a cs) (K : Keep h h' [b]) (A : Arv Z h b kb ty z vs d) (hty : FieldType.byte ≠ ty := by decide) : Str Z h' a cs := by
  obtain ⟨e1, e2, t, kt, e3, e4⟩ := S
  have n1 := own_exne wi e1 A
  have n2 := own_tyne e4 A hty
  exact ⟨e1.keep K, e2.keep K (ninS n1 nin0), t, kt, e3.keep K (ninS n1 nin0), e4.keep K (ninS n2 nin0)⟩
/-- ldc of a constant that is resolved already: nothing is made -/
theorem Go.ldcWarm (K : Ctx p s m meth c Z own bs ml ret nm R F B) {j : Nat} {a : Addr} {text : String} (w : (Jvm.Cond.stringLink own j text).before a0 Z = true) (L : Lit s own j a) (hd : decode bs pc = .ok (.ldc j, 2)) (hp : pc + 2 = pc') (H : Go p l e R s m args below meth c n0 Q F B h k n (mkF m pc' Ls (.ref a :: st))) : Go p l e R s m args below meth c n0 Q F B h k n (mkF m pc Ls st) := by
  subst hp
  have w2 : (Jvm.Cond.stringRef own j text).before a0 s = true := by
    have q : (Jvm.Cond.stringLink own j text).before a0 s = true := mvS (s := s) (vm0 := s.vm) K.cz w
    simp only [Lit] at L
    simp only [Cond.before, Cond.holds, Cond.value] at q ⊢
    cases hf : s.vm.findClass own with
    | none => simp [hf] at q
    | some cc =>
      rw [L]
      simp only [hf, Option.map_some, beq_iff_eq, Option.some.injEq, Bool.and_eq_true] at q ⊢
      exact ⟨q.1, trivial⟩
  exact H.by fun T _ X _ t q => Jvm.RoadKit.ldcR X K.cx (State.Warmed39.refl s) K.co w2 L (g := mkF m pc Ls st) rfl (hb K.cb hd) t q
theorem Lit.later {vm1 : Vm} {j : Nat} {a : Addr} (L : Lit (s.setVm vm0) own j a) (W : (s.setVm vm0).Warmed39 vm1) : Lit (s.setVm vm1) own j a := State.resolvedAt?_warmed39 W L
def pot (f : Bool) (x : Nat) : Nat := if f then 0 else x
/-- f says: this constant is resolved, to a String with these signs -/
def LitF (s : State) (vm : Vm) (Z : State) (h : Heap) (own : String) (j : Nat) (cs : List Int32) (f : Bool) : Prop := f = true → ∃ a, Lit (s.setVm vm) own j a ∧ Str Z h a cs
section LitF
variable {j : Nat} {cs : List Int32} {f : Bool}
theorem LitF.ext (H : LitF s vm0 Z h own j cs f) (E : Ext h h') : LitF s vm0 Z h' own j cs f := fun q => by obtain ⟨a, u, v⟩ := H q; exact ⟨a, u, v.ext E⟩
theorem LitF.keep0 (H : LitF s vm0 Z h own j cs f) (K : Keep h h' []) : LitF s vm0 Z h' own j cs f := fun q => by obtain ⟨a, u, v⟩ := H q; exact ⟨a, u, v.keep0 K⟩
theorem LitF.keepB {b : Addr} {kI : Nat} {kb : ClassId} {ty : FieldType} {z : Int32} {vs : List Value} {d : Value} (wi : (Jvm.Cond.instantiable "java/lang/String" kI).before a0 Z = true) (H : LitF s vm0 Z h own j cs f) (K : Keep h h' [b]) (A : Arv Z h b kb ty z vs d) (hty : FieldType.byte ≠ ty := by decide) : LitF s vm0 Z h' own j cs f := fun q => by obtain ⟨a, u, v⟩ := H q; exact ⟨a, u, v.keepB wi K A hty⟩
theorem LitF.later {vm1 : Vm} (H : LitF s vm0 Z h own j cs f) (W : (s.setVm vm0).Warmed39 vm1) : LitF s vm1 Z h own j cs f := fun q => by obtain ⟨a, u, v⟩ := H q; exact ⟨a, Lit.later u W, v⟩
end LitF
/-- ldc of a constant that is read, on a budget: f says that it is resolved already -/
theorem Go.ldcB (K : Ctx p (s.setVm vm0) m meth c Z own bs ml ret nm R (FW s R) B) (hS : s.Since vm0 B) {text : String} {j i : Nat} (w : (Jvm.Cond.stringLink own j text).before a0 Z = true) (wS : ∀ a ∈ Bundle.stringAtoms, a.before a0 Z = true) (hEL : EW Z a0 EL) (hmem : (own, j) ∈ EL) (HC : CHv Z EL vm0 h)
    {cs : List Int32} (ht : (∀ c ∈ text.toList, c.toNat < 256) ∧ text.toList.map (fun c => Value.int (Jvm.Lit.byteI c.toNat.toUInt16)) = cs.map fun c => Value.int (StrChars.lo8 c)) (hcs : cs.length ≤ 4000)
    (f : Bool) (hf : LitF s vm0 Z h own j cs f) (hi : 4 * text.toList.length ≤ i) (hbig : i ≤ 536870912) {i4 : Nat} (hi4 : i + 4 = i4) (hc : k + pot f 2 ≤ R.cells) (hl : n + pot f i4 ≤ R.slots) (hd : decode bs pc = .ok (.ldc j, 2)) (hp : pc + 2 = pc')
    (H : ∀ a vm1 h' B1, Ext h h' → CHr Z EL vm0 h vm1 h' → s.Since vm1 B1 → (s.setVm vm0).Warmed39 vm1 → LitF s vm1 Z h' own j cs true → Str Z h' a cs → Ctx p (s.setVm vm1) m meth c Z own bs ml ret nm R (FW s R) B1 →
      Go p l e R (s.setVm vm1) m args below meth c n0 Q (FW s R) B1 h' (k + pot f 2) (n + pot f i4) (mkF m pc' Ls (.ref a :: st))) : Go p l e R (s.setVm vm0) m args below meth c n0 Q (FW s R) B h k n (mkF m pc Ls st) := by
  cases f with
  | true =>
    obtain ⟨a, L, S⟩ := hf rfl
    exact Go.ldcWarm K w L hd hp (H a vm0 h B ⟨Nat.le_refl _, fun _ _ q => q⟩ (CHr.refl HC) hS (State.Warmed39.refl (s.setVm vm0)) hf S K)
  | false =>
    subst hp hi4
    intro T locs X eT N hB
    have hlz : (Int32.ofNat cs.length).toNatClampNeg = (cs.map fun c => Value.int (StrChars.lo8 c)).length := by rw [own_cl hcs, List.length_map]
    obtain ⟨a, T', h', k1, b, kb, X', e', E, hS', hk', hZ', ho', x1, x2, x3, x4, -, -, hr', hL, -, q⟩ := ldcCH (s := s.setVm vm0) (vm0 := vm0) X K.cx K.cz K.co w wS eT ((State.WarmedH.refl (s.setVm vm0)).since 0) (Nat.zero_le _) hEL hmem HC ht (own_nn hcs) hlz (g := mkF m pc Ls st) rfl (hb K.cb hd) hi hbig (show k + 2 ≤ R.cells from hc) (show n + (i + 4) ≤ R.slots from hl)
    have hS2 : s.Since T'.vm h'.size := hS.trans ⟨hS'.1, hS'.2.mono hk'⟩ (Nat.le_trans hB E.1)
    obtain ⟨s₂, o, r1, r2⟩ := H a T'.vm h' h'.size E hr' hS2 hS'.1 (fun _ => ⟨a, hL, x1, x2, b, kb, x3, x4⟩) ⟨x1, x2, b, kb, x3, x4⟩ (Ctx.wide hS2 K.cx hZ' ho' K.cb K.cl K.cr K.cn K.ck) T' locs X' e' N (Nat.le_refl _)
    exact ⟨s₂, o, q _ r1, r2⟩
/-- a static call of a wide callee, and that the tables warm -/
theorem Go.callSX (K : Ctx p (s.setVm vm0) m meth c Z own bs ml ret nm R (FW s R) B) (hS : s.Since vm0 B) {j : Nat} {y : MethodName} {bytes : ByteArray} {maxL : Nat} {rt : Option FieldType} {W kc nc : Nat} {Qc : Option Value → Heap → List Loc → Prop} {argsL : List Value}
    (w1 : (Jvm.Cond.methodLink own j y).before args (s.setVm vm0) = true) (w2 : (Jvm.Cond.static y).before args (s.setVm vm0) = true) (w3 : (Jvm.Cond.initialized y.cls).before args (s.setVm vm0) = true) (w4 : (Jvm.Cond.code y bytes maxL rt).before args (s.setVm vm0) = true) (hy : y.cls ≠ "java/lang/invoke/MethodHandle" ∧ y.cls ≠ "java/lang/invoke/VarHandle")
    (hK : PaysW l R p e below s vm0 args y 3 W argsL.toArray h kc nc Z EL Qc) (hml : Ls.size = ml) (hlen : ∀ sig, parseMethodDescriptor y.desc = some sig → argsL.length = sig.parameters.length) (hst : st = argsL.reverse ++ rest) (hW : (rest.map fun v => v.category).sum ≤ W) (hc : k + kc ≤ R.cells) (hs : n + nc ≤ R.slots) (hfr : ∀ v h' L, Qc v h' L → Fr n0 L) (hd : decode bs pc = .ok (.invokestatic j, 3)) (hp : pc + 3 = pc')
    (H : ∀ v h' L vm1 B1, Qc v h' L → CHr Z EL vm0 h vm1 h' → (s.setVm vm0).Warmed39 vm1 → s.Since vm1 B1 → Ctx p (s.setVm vm1) m meth c Z own bs ml ret nm R (FW s R) B1 → Go p l e R (s.setVm vm1) m args below meth c n0 Q (FW s R) B1 h' (k + kc) (n + nc) (mkF m pc' Ls (v.toList ++ rest))) : Go p l e R (s.setVm vm0) m args below meth c n0 Q (FW s R) B h k n (mkF m pc Ls st) := by
  subst hp hst
  intro T locs X eT N hB
  obtain ⟨v, vm₁, ⟨T', L', k', n'⟩, -, X', hs2, hg, ⟨L, hq, l1, y1, z1, hr⟩, q⟩ := callSS X K.cx (y := y) (bytes := bytes) (maxL := maxL) (ret := rt) K.co w1 w2 w3 w4 hy hK (g := mkF m pc Ls (argsL.reverse ++ rest)) rfl (hml.trans K.cl.symm) (argsL := argsL) (rest := rest) hlen rfl (by show 2 * 0 + _ ≤ _; omega) (hb K.cb hd) (fun _ _ => ⟨rfl, eT, hc, hs⟩)
  dsimp only [Pt.U, Pt.locs, Pt.cells, Pt.slots] at X' l1 y1 z1 q hq hr hs2 hg
  subst l1 y1 z1
  have hwm := hs2.1
  obtain ⟨X2, hS2, hZ2, ho2⟩ := rebS hS (Nat.le_trans hB (Nat.le_of_eq (congrArg Array.size eT.symm))) X' hs2 hg K.cz K.co
  obtain ⟨s₂, o, r1, r2⟩ := H v _ L _ _ hq hr hwm hS2 (Ctx.wide hS2 K.cx hZ2 ho2 K.cb K.cl K.cr K.cn K.ck) T' _ X2 rfl (N.app (hfr _ _ _ hq)) (Nat.le_refl _)
  exact ⟨s₂, o, q.trans r1, r2⟩
theorem Go.bzload (K : Ctx p s m meth c Z own bs ml ret nm R F B) {a : Addr} {kA : ClassId} {z j : Int32} {vs : List Value} {dv v : Value} (V : Arv Z h a kA .boolean z vs dv) (hin : ¬ j < 0 ∧ j < z) (hv : vs.getD j.toNatClampNeg dv = v) (hd : decode bs pc = .ok (.baload, 1)) (hp : pc + 1 = pc')
    (H : Go p l e R s m args below meth c n0 Q F B h k n (mkF m pc' Ls (v :: st))) : Go p l e R s m args below meth c n0 Q F B h k n (mkF m pc Ls (.int j :: .ref a :: st)) := by
  subst hp
  obtain ⟨cl, A, q1, S, q3, Hs, G⟩ := V
  exact H.by fun T _ X eT t q => X.baloadBooleans K.cx (by rw [eT]; exact A.1) (State.isArrayOf_alike K.cz.alike A.2.1) A.2.2 (inb_of S hin) (Hs.at (inb_of S hin) hv) (g := mkF m pc Ls (.int j :: .ref a :: st)) rfl rfl (hb K.cb hd) t q
/-- a virtual call of a method that the named class inherits -/
theorem Go.callVU (K : Ctx p s m meth c Z own bs ml ret nm R F B) {j : Nat} {C owner : String} {y z : MethodName} {W kc nc : Nat} {a : Addr} {Qc : Option Value → Heap → List Loc → Prop} {argsL : List Value}
    (w1 : (Jvm.Cond.methodLink own j y).before args s = true) (w5 : (Jvm.Cond.sameMethod y.cls owner y.name y.desc).before args s = true) (w2 : (Jvm.Cond.declares ⟨owner, y.name, y.desc⟩).before args s = true) (hy : owner ≠ "java/lang/invoke/MethodHandle" ∧ owner ≠ "java/lang/invoke/VarHandle") (w3 : (Jvm.Cond.selects C y z).before args s = true) (w4 : (Jvm.Cond.instanceMethod z).before args s = true) (E : Exa Z h a C)
    (hK : Pays l R p e below s args z 3 W (.ref a :: argsL).toArray h kc nc Qc) (hml : Ls.size = ml) (hlen : ∀ sig, parseMethodDescriptor y.desc = some sig → argsL.length = sig.parameters.length) (hst : st = argsL.reverse ++ .ref a :: rest) (hW : (rest.map fun v => v.category).sum ≤ W) (hc : k + kc ≤ R.cells) (hs : n + nc ≤ R.slots) (hfr : ∀ v h' L, Qc v h' L → Fr n0 L) (hgr : ∀ v h' L, Qc v h' L → h.size ≤ h'.size) (hd : decode bs pc = .ok (.invokevirtual j, 3)) (hp : pc + 3 = pc')
    (H : ∀ v h' L, Qc v h' L → Go p l e R s m args below meth c n0 Q F B h' (k + kc) (n + nc) (mkF m pc' Ls (v.toList ++ rest))) : Go p l e R s m args below meth c n0 Q F B h k n (mkF m pc Ls st) := by
  subst hp hst
  intro T locs X eT N hB
  obtain ⟨cq, kq, qa, qb, qc⟩ := isOf K.cz eT E
  obtain ⟨v, vm₁, ⟨T', L', k', n'⟩, -, X', ⟨L, hq, l1, y1, z1⟩, q⟩ := X.virtualBackUp K.cx (x := y) (y := z) K.co w1 w5 w2 hy w3 w4 hK qa qc (g := mkF m pc Ls (argsL.reverse ++ .ref a :: rest)) rfl (hml.trans K.cl.symm) (Steps.refl _) (argsL := argsL) (rest := rest) hlen rfl (by show 2 * 0 + _ ≤ _; omega) (hb K.cb hd) (fun _ _ => ⟨rfl, eT, hc, hs⟩)
  dsimp only [Pt.U, Pt.locs, Pt.cells, Pt.slots] at X' l1 y1 z1 q hq
  subst l1 y1 z1
  obtain ⟨s₂, o, r1, r2⟩ := H v _ L hq T' _ X' rfl (N.app (hfr _ _ _ hq)) (Nat.le_trans hB (hgr _ _ _ hq))
  exact ⟨s₂, o, q.trans r1, r2⟩
/-- tableswitch, inside -/
theorem Go.tswIn (K : Ctx p s m meth c Z own bs ml ret nm R F B) {x : Int32} {dflt low high o : Int} {offs : Array Int} {len : Nat} (hd : decode bs pc = .ok (.tableswitch dflt low high offs, len)) (hin : ¬ (x.toInt < low ∨ x.toInt > high)) (hoff : offs[(x.toInt - low).toNat]? = some o) (ho : 0 ≤ (pc : Int) + o) (hp : ((pc : Int) + o).toNat = pc') (H : Go p l e R s m args below meth c n0 Q F B h k n (mkF m pc' Ls st)) : Go p l e R s m args below meth c n0 Q F B h k n (mkF m pc Ls (.int x :: st)) :=
  H.by fun T _ X _ t q => XS.tswIn X.here K.cx (g := mkF m pc Ls (.int x :: st)) rfl (pc0 := pc) rfl (hb K.cb hd) rfl hin hoff ho hp q
end LitKit
def bi (b : Bool) : Int32 := if b then 1 else 0
theorem bi_1 {b : Bool} (h : ¬ bi b = 0) : b = true := by cases b with | true => rfl | false => exact absurd rfl h
theorem bi_0 {b : Bool} (h : bi b = 0) : b = false := by cases b with | false => rfl | true => exact absurd h (by decide)
def sg (q w : Int32) : Bool := decide (q = 1) || decide (q = w)
def M1 (q : Int32) (rl : List Int32) (n s : Nat) : Bool := decide (q = 0) || (decide (n = s + 1) && sg q (rl.getD s 0))
def M2 (q0 q1 : Int32) (rl : List Int32) (n s : Nat) : Bool := if q0 = 0 then M1 q1 rl n s || (decide (s + 1 ≤ n) && M1 q1 rl n (s + 1)) || (decide (s + 2 ≤ n) && M1 q1 rl n (s + 2)) || (decide (s + 3 ≤ n) && M1 q1 rl n (s + 3)) else decide (s < n) && sg q0 (rl.getD s 0) && M1 q1 rl n (s + 1)
def M3 (q0 q1 q2 : Int32) (rl : List Int32) (n s : Nat) : Bool := if q0 = 0 then M2 q1 q2 rl n s || (decide (s + 1 ≤ n) && M2 q1 q2 rl n (s + 1)) || (decide (s + 2 ≤ n) && M2 q1 q2 rl n (s + 2)) || (decide (s + 3 ≤ n) && M2 q1 q2 rl n (s + 3)) else decide (s < n) && sg q0 (rl.getD s 0) && M2 q1 q2 rl n (s + 1)
theorem own_sub1 {n s : Nat} (hn : n ≤ 3) (hs : s ≤ 3) : (Int32.ofNat n - Int32.ofNat s = 1) ↔ n = s + 1 := by
  have t : ∀ (i j : Fin 4), (Int32.ofNat i.val - Int32.ofNat j.val = 1) ↔ i.val = j.val + 1 := by decide +kernel
  exact t ⟨n, by omega⟩ ⟨s, by omega⟩
theorem own_lt4 {n s : Nat} (hn : n ≤ 3) (hs : s ≤ 3) : (Int32.ofNat s < Int32.ofNat n) ↔ s < n := by
  have t : ∀ (i j : Fin 4), (Int32.ofNat j.val < Int32.ofNat i.val) ↔ j.val < i.val := by decide +kernel
  exact t ⟨n, by omega⟩ ⟨s, by omega⟩
theorem own_plus {s : Nat} (d : Nat) : Int32.ofNat s + Int32.ofNat d = Int32.ofNat (s + d) := (Int32.ofNat_add _ _).symm
theorem own_gt1 {n s : Nat} (hn : n ≤ 3) (hs : s ≤ 3) : (Int32.ofNat n < Int32.ofNat s + (1 : Int32)) ↔ n < s + 1 := by
  have t : ∀ (i j : Fin 4), (Int32.ofNat i.val < Int32.ofNat j.val + (1 : Int32)) ↔ i.val < j.val + 1 := by decide +kernel
  exact t ⟨n, by omega⟩ ⟨s, by omega⟩
theorem own_gt2 {n s : Nat} (hn : n ≤ 3) (hs : s ≤ 3) : (Int32.ofNat n < Int32.ofNat s + (2 : Int32)) ↔ n < s + 2 := by
  have t : ∀ (i j : Fin 4), (Int32.ofNat i.val < Int32.ofNat j.val + (2 : Int32)) ↔ i.val < j.val + 2 := by decide +kernel
  exact t ⟨n, by omega⟩ ⟨s, by omega⟩
theorem own_gt3 {n s : Nat} (hn : n ≤ 3) (hs : s ≤ 3) : (Int32.ofNat n < Int32.ofNat s + (3 : Int32)) ↔ n < s + 3 := by
  have t : ∀ (i j : Fin 4), (Int32.ofNat i.val < Int32.ofNat j.val + (3 : Int32)) ↔ i.val < j.val + 3 := by decide +kernel
  exact t ⟨n, by omega⟩ ⟨s, by omega⟩
theorem ef_si (m : MethodId) (q : Int32) (x : Int32) : entryFrame m #[(.int q), (.int x)] 2 = mkF m 0 #[.val (.int q), .val (.int x)] [] := by first | (simp [entryFrame, mkF, argsToLocals, Value.category]; done) | rfl
theorem d_method_5_0 : decode method_5_code 0 = .ok (.iload_n 0, 1) := by decide +kernel
theorem d_method_5_1 : decode method_5_code 1 = .ok (.iconst 1, 1) := by decide +kernel
theorem d_method_5_2 : decode method_5_code 2 = .ok (.if_icmp .eq 8, 3) := by decide +kernel
theorem d_method_5_10 : decode method_5_code 10 = .ok (.iconst 1, 1) := by decide +kernel
theorem d_method_5_11 : decode method_5_code 11 = .ok (.goto 4, 3) := by decide +kernel
theorem d_method_5_15 : decode method_5_code 15 = .ok (.ireturn, 1) := by decide +kernel
theorem d_method_5_5 : decode method_5_code 5 = .ok (.iload_n 0, 1) := by decide +kernel
theorem d_method_5_6 : decode method_5_code 6 = .ok (.iload_n 1, 1) := by decide +kernel
theorem d_method_5_7 : decode method_5_code 7 = .ok (.if_icmp .ne 7, 3) := by decide +kernel
theorem d_method_5_14 : decode method_5_code 14 = .ok (.iconst 0, 1) := by decide +kernel
theorem pn_com_example_intackt_intackt_vhost_ExchangeTypeKeyMatchesPinLaw : plainName "com/example/intackt/intackt/vhost/ExchangeTypeKeyMatchesPinLaw" = true := by first | (simp [plainName, overriddenIn]; done) | decide +kernel
set_option maxRecDepth 65536 in
set_option maxHeartbeats 40000000 in
theorem m_si (l : Launch) (Z : State) (a0 : Array Value) (hw : ∀ d ∈ tables_1, d.before a0 Z = true) (h0 : Heap) (n0 : Nat) (Z0 : n0 ≤ h0.size) (q x : Int32) :
    Met l Z [] (⟨"com/example/intackt/intackt/vhost/ExchangeTypeKeyMatchesPinLaw", "single", "(II)Z"⟩ : MethodName) method_5_code 2 (some .boolean) ({ frames := 0, cells := 0, slots := 0, locals := 0 } : Room) #[(.int q), (.int x)] h0 n0 (fun v h => v = some (.int (bi (sg q x))) ∧ h0 = h) := by
  refine Met.of (plainFor_of_name pn_com_example_intackt_intackt_vhost_ExchangeTypeKeyMatchesPinLaw) ?_
  intro p e s m below meth c F K
  refine Go.cast (ef_si m q x) ?_
  refine Go.iloadN K d_method_5_0 rfl (pc' := 1) rfl ?_
  refine Go.iconst K (v := 1) d_method_5_1 rfl (pc' := 2) rfl ?_
  refine Go.icmp K d_method_5_2 (by decide) (pcT := 10) (pcF := 5) (by decide) rfl (fun h2 => ?_) (fun h2 => ?_)
  · replace h2 : q = (1 : Int32) := h2
    refine Go.iconst K (v := 1) d_method_5_10 rfl (pc' := 11) rfl ?_
    refine Go.goto K d_method_5_11 (pc' := 15) (by decide) (by decide) ?_
    have e1 : sg q x = true := by simp [sg, h2]
    exact Go.retN K (by simp) (by decide) (by decide) d_method_5_15 (fun _ _ _ _ => ⟨by rw [e1]; rfl, rfl⟩)
  · replace h2 : ¬ (q = (1 : Int32)) := h2
    refine Go.iloadN K d_method_5_5 rfl (pc' := 6) rfl ?_
    refine Go.iloadN K d_method_5_6 rfl (pc' := 7) rfl ?_
    refine Go.icmp K d_method_5_7 (by decide) (pcT := 14) (pcF := 10) (by decide) rfl (fun h7 => ?_) (fun h7 => ?_)
    · replace h7 : ¬ q = x := h7
      refine Go.iconst K (v := 0) d_method_5_14 rfl (pc' := 15) rfl ?_
      have e1 : sg q x = false := by simp [sg, h2, h7]
      exact Go.retN K (by simp) (by decide) (by decide) d_method_5_15 (fun _ _ _ _ => ⟨by rw [e1]; rfl, rfl⟩)
    · replace h7 : ¬ (¬ q = x) := h7
      refine Go.iconst K (v := 1) d_method_5_10 rfl (pc' := 11) rfl ?_
      refine Go.goto K d_method_5_11 (pc' := 15) (by decide) (by decide) ?_
      have e1 : sg q x = true := by simp [sg, Decidable.not_not.mp h7]
      exact Go.retN K (by simp) (by decide) (by decide) d_method_5_15 (fun _ _ _ _ => ⟨by rw [e1]; rfl, rfl⟩)
theorem ef_m1 (m : MethodId) (q : Int32) (ra : Addr) (x : Int32) (y : Int32) : entryFrame m #[(.int q), (.ref ra), (.int x), (.int y)] 4 = mkF m 0 #[.val (.int q), .val (.ref ra), .val (.int x), .val (.int y)] [] := by first | (simp [entryFrame, mkF, argsToLocals, Value.category]; done) | rfl
theorem d_method_6_0 : decode method_6_code 0 = .ok (.iload_n 0, 1) := by decide +kernel
theorem d_method_6_1 : decode method_6_code 1 = .ok (.ifCond .ne 5, 3) := by decide +kernel
theorem d_method_6_4 : decode method_6_code 4 = .ok (.iconst 1, 1) := by decide +kernel
theorem d_method_6_5 : decode method_6_code 5 = .ok (.ireturn, 1) := by decide +kernel
theorem d_method_6_6 : decode method_6_code 6 = .ok (.iload_n 2, 1) := by decide +kernel
theorem d_method_6_7 : decode method_6_code 7 = .ok (.iload_n 3, 1) := by decide +kernel
theorem d_method_6_8 : decode method_6_code 8 = .ok (.isub, 1) := by decide +kernel
theorem d_method_6_9 : decode method_6_code 9 = .ok (.iconst 1, 1) := by decide +kernel
theorem d_method_6_10 : decode method_6_code 10 = .ok (.if_icmp .ne 17, 3) := by decide +kernel
theorem d_method_6_27 : decode method_6_code 27 = .ok (.iconst 0, 1) := by decide +kernel
theorem d_method_6_28 : decode method_6_code 28 = .ok (.ireturn, 1) := by decide +kernel
theorem d_method_6_13 : decode method_6_code 13 = .ok (.iload_n 0, 1) := by decide +kernel
theorem d_method_6_14 : decode method_6_code 14 = .ok (.aload_n 1, 1) := by decide +kernel
theorem d_method_6_15 : decode method_6_code 15 = .ok (.iload_n 3, 1) := by decide +kernel
theorem d_method_6_16 : decode method_6_code 16 = .ok (.iaload, 1) := by decide +kernel
theorem d_method_6_17 : decode method_6_code 17 = .ok (.invokestatic 50, 3) := by decide +kernel
theorem pd__28II_29Z : parseMethodDescriptor "(II)Z" = some ⟨[.int, .int], some .boolean⟩ := by decide +kernel
theorem d_method_6_20 : decode method_6_code 20 = .ok (.ifCond .eq 7, 3) := by decide +kernel
theorem d_method_6_23 : decode method_6_code 23 = .ok (.iconst 1, 1) := by decide +kernel
theorem d_method_6_24 : decode method_6_code 24 = .ok (.goto 4, 3) := by decide +kernel
set_option maxRecDepth 65536 in
set_option maxHeartbeats 40000000 in
theorem m_m1 (l : Launch) (Z : State) (a0 : Array Value) (hw : ∀ d ∈ tables_1, d.before a0 Z = true) (h0 : Heap) (n0 : Nat) (Z0 : n0 ≤ h0.size) (q : Int32) (ra : Addr) (kr : ClassId) (rl : List Int32) (hrl : rl.length = 3) (V_ra : Arv Z h0 ra kr .int (3 : Int32) (rl.map Value.int) (.int 0)) (x y : Int32) (na sa : Nat) (hx : x = Int32.ofNat na) (hy : y = Int32.ofNat sa) (hna : na ≤ 3) (hsa : sa ≤ 3) :
    Met l Z [] (⟨"com/example/intackt/intackt/vhost/ExchangeTypeKeyMatchesPinLaw", "m1", "(I[III)Z"⟩ : MethodName) method_6_code 4 (some .boolean) ({ frames := 1, cells := 0, slots := 0, locals := 16 } : Room) #[(.int q), (.ref ra), (.int x), (.int y)] h0 n0 (fun v h => v = some (.int (bi (M1 q rl na sa))) ∧ h0 = h) := by
  refine Met.of (plainFor_of_name pn_com_example_intackt_intackt_vhost_ExchangeTypeKeyMatchesPinLaw) ?_
  intro p e s m below meth c F K
  subst hx hy
  refine Go.cast (ef_m1 m q ra _ _) ?_
  refine Go.iloadN K d_method_6_0 rfl (pc' := 1) rfl ?_
  refine Go.ifc K d_method_6_1 (by decide) (pcT := 6) (pcF := 4) (by decide) rfl (fun h1 => ?_) (fun h1 => ?_)
  · replace h1 : ¬ q = 0 := h1
    refine Go.iloadN K d_method_6_6 rfl (pc' := 7) rfl ?_
    refine Go.iloadN K d_method_6_7 rfl (pc' := 8) rfl ?_
    refine Go.isub K d_method_6_8 (pc' := 9) rfl ?_
    refine Go.iconst K (v := 1) d_method_6_9 rfl (pc' := 10) rfl ?_
    refine Go.icmp K d_method_6_10 (by decide) (pcT := 27) (pcF := 13) (by decide) rfl (fun h10 => ?_) (fun h10 => ?_)
    · replace h10 : ¬ ((Int32.ofNat na) - (Int32.ofNat sa)) = (1 : Int32) := h10
      have g := mt (own_sub1 hna hsa).mpr h10
      refine Go.iconst K (v := 0) d_method_6_27 rfl (pc' := 28) rfl ?_
      have e1 : M1 q rl na sa = false := by simp [M1, h1, g]
      exact Go.retN K (by simp) (by decide) (by decide) d_method_6_28 (fun _ _ _ _ => ⟨by rw [e1]; rfl, rfl⟩)
    · replace h10 : ¬ (¬ ((Int32.ofNat na) - (Int32.ofNat sa)) = (1 : Int32)) := h10
      have g := (own_sub1 hna hsa).mp (Decidable.not_not.mp h10)
      refine Go.iloadN K d_method_6_13 rfl (pc' := 14) rfl ?_
      refine Go.aloadN K d_method_6_14 rfl rfl (pc' := 15) rfl ?_
      refine Go.iloadN K d_method_6_15 rfl (pc' := 16) rfl ?_
      refine Go.iaload K (v := (.int (rl.getD sa 0))) V_ra (own_in (n := 3) (by decide) (by omega)) (own_at (by omega) (by omega)) d_method_6_16 (pc' := 17) rfl ?_
      refine Go.callS K (y := (⟨"com/example/intackt/intackt/vhost/ExchangeTypeKeyMatchesPinLaw", "single", "(II)Z"⟩ : MethodName)) (W := 0) (kc := 0) (nc := 0) (mvT K.cz (hw _ (List.mem_of_getElem? (i := 70) rfl))) (mvT K.cz (hw _ (List.mem_of_getElem? (i := 71) rfl))) (mvT K.cz (hw _ (List.mem_of_getElem? (i := 6) rfl))) (mvT K.cz (hw _ (List.mem_of_getElem? (i := 72) rfl))) (by decide) ((m_si l Z a0 hw h0 n0 Z0 q (rl.getD sa 0)).pays (W := 0) K.cz (hw _ (List.mem_of_getElem? (i := 72) rfl)) (hw _ (List.mem_of_getElem? (i := 6) rfl)) (by decide) (by decide)) rfl (argsL := [(.int q), (.int (rl.getD sa 0))]) (rest := []) (lenOf pd__28II_29Z rfl) rfl (Nat.le_of_ble_eq_true rfl) (by decide) (by decide) frOf grOf d_method_6_17 (pc' := 20) rfl ?_
      rintro v3 h1 Lc2 ⟨⟨⟨rfl, eh⟩, -⟩, -⟩
      obtain rfl := eh
      show Go p l e _ _ m _ below meth c _ _ _ _ h0 _ _ (mkF m 20 #[.val (.int q), .val (.ref ra), .val (.int (Int32.ofNat na)), .val (.int (Int32.ofNat sa))] [(.int (bi (sg q (rl.getD sa 0))))])
      refine Go.ifc K d_method_6_20 (by decide) (pcT := 27) (pcF := 23) (by decide) rfl (fun h20 => ?_) (fun h20 => ?_)
      · replace h20 : (bi (sg q (rl.getD sa 0))) = 0 := h20
        have u := bi_0 h20
        refine Go.iconst K (v := 0) d_method_6_27 rfl (pc' := 28) rfl ?_
        have e1 : M1 q rl na sa = false := by simp [M1, h1, u, -List.getD_eq_getElem?_getD]
        exact Go.retN K (by simp) (by decide) (by decide) d_method_6_28 (fun _ _ _ _ => ⟨by rw [e1]; rfl, rfl⟩)
      · replace h20 : ¬ ((bi (sg q (rl.getD sa 0))) = 0) := h20
        have u := bi_1 h20
        refine Go.iconst K (v := 1) d_method_6_23 rfl (pc' := 24) rfl ?_
        refine Go.goto K d_method_6_24 (pc' := 28) (by decide) (by decide) ?_
        have e1 : M1 q rl na sa = true := by simp [M1, h1, g, u, -List.getD_eq_getElem?_getD]
        exact Go.retN K (by simp) (by decide) (by decide) d_method_6_28 (fun _ _ _ _ => ⟨by rw [e1]; rfl, rfl⟩)
  · replace h1 : ¬ (¬ q = 0) := h1
    refine Go.iconst K (v := 1) d_method_6_4 rfl (pc' := 5) rfl ?_
    have e1 : M1 q rl na sa = true := by simp [M1, Decidable.not_not.mp h1]
    exact Go.retN K (by simp) (by decide) (by decide) d_method_6_5 (fun _ _ _ _ => ⟨by rw [e1]; rfl, rfl⟩)
theorem ef_m_m2 (m : MethodId) (q0 : Int32) (q1 : Int32) (ra : Addr) (x : Int32) (y : Int32) : entryFrame m #[(.int q0), (.int q1), (.ref ra), (.int x), (.int y)] 5 = mkF m 0 #[.val (.int q0), .val (.int q1), .val (.ref ra), .val (.int x), .val (.int y)] [] := by first | (simp [entryFrame, mkF, argsToLocals, Value.category]; done) | rfl
theorem d_method_7_0 : decode method_7_code 0 = .ok (.iload_n 0, 1) := by decide +kernel
theorem d_method_7_1 : decode method_7_code 1 = .ok (.ifCond .ne 83, 3) := by decide +kernel
theorem d_method_7_4 : decode method_7_code 4 = .ok (.iload_n 1, 1) := by decide +kernel
theorem d_method_7_5 : decode method_7_code 5 = .ok (.aload_n 2, 1) := by decide +kernel
theorem d_method_7_6 : decode method_7_code 6 = .ok (.iload_n 3, 1) := by decide +kernel
theorem d_method_7_7 : decode method_7_code 7 = .ok (.iload 4, 2) := by decide +kernel
theorem d_method_7_9 : decode method_7_code 9 = .ok (.invokestatic 25, 3) := by decide +kernel
theorem pd__28I_5bIII_29Z : parseMethodDescriptor "(I[III)Z" = some ⟨[.int, (.array .int), .int, .int], some .boolean⟩ := by decide +kernel
theorem d_method_7_12 : decode method_7_code 12 = .ok (.ifCond .ne 66, 3) := by decide +kernel
theorem d_method_7_78 : decode method_7_code 78 = .ok (.iconst 1, 1) := by decide +kernel
theorem d_method_7_79 : decode method_7_code 79 = .ok (.goto 4, 3) := by decide +kernel
theorem d_method_7_83 : decode method_7_code 83 = .ok (.ireturn, 1) := by decide +kernel
theorem d_method_7_15 : decode method_7_code 15 = .ok (.iload 4, 2) := by decide +kernel
theorem d_method_7_17 : decode method_7_code 17 = .ok (.iconst 1, 1) := by decide +kernel
theorem d_method_7_18 : decode method_7_code 18 = .ok (.iadd, 1) := by decide +kernel
theorem d_method_7_19 : decode method_7_code 19 = .ok (.iload_n 3, 1) := by decide +kernel
theorem d_method_7_20 : decode method_7_code 20 = .ok (.if_icmp .gt 16, 3) := by decide +kernel
theorem d_method_7_36 : decode method_7_code 36 = .ok (.iload 4, 2) := by decide +kernel
theorem d_method_7_38 : decode method_7_code 38 = .ok (.iconst 2, 1) := by decide +kernel
theorem d_method_7_39 : decode method_7_code 39 = .ok (.iadd, 1) := by decide +kernel
theorem d_method_7_40 : decode method_7_code 40 = .ok (.iload_n 3, 1) := by decide +kernel
theorem d_method_7_41 : decode method_7_code 41 = .ok (.if_icmp .gt 16, 3) := by decide +kernel
theorem d_method_7_57 : decode method_7_code 57 = .ok (.iload 4, 2) := by decide +kernel
theorem d_method_7_59 : decode method_7_code 59 = .ok (.iconst 3, 1) := by decide +kernel
theorem d_method_7_60 : decode method_7_code 60 = .ok (.iadd, 1) := by decide +kernel
theorem d_method_7_61 : decode method_7_code 61 = .ok (.iload_n 3, 1) := by decide +kernel
theorem d_method_7_62 : decode method_7_code 62 = .ok (.if_icmp .gt 20, 3) := by decide +kernel
theorem d_method_7_82 : decode method_7_code 82 = .ok (.iconst 0, 1) := by decide +kernel
theorem d_method_7_65 : decode method_7_code 65 = .ok (.iload_n 1, 1) := by decide +kernel
theorem d_method_7_66 : decode method_7_code 66 = .ok (.aload_n 2, 1) := by decide +kernel
theorem d_method_7_67 : decode method_7_code 67 = .ok (.iload_n 3, 1) := by decide +kernel
theorem d_method_7_68 : decode method_7_code 68 = .ok (.iload 4, 2) := by decide +kernel
theorem d_method_7_70 : decode method_7_code 70 = .ok (.iconst 3, 1) := by decide +kernel
theorem d_method_7_71 : decode method_7_code 71 = .ok (.iadd, 1) := by decide +kernel
theorem d_method_7_72 : decode method_7_code 72 = .ok (.invokestatic 25, 3) := by decide +kernel
theorem d_method_7_75 : decode method_7_code 75 = .ok (.ifCond .eq 7, 3) := by decide +kernel
theorem d_method_7_44 : decode method_7_code 44 = .ok (.iload_n 1, 1) := by decide +kernel
theorem d_method_7_45 : decode method_7_code 45 = .ok (.aload_n 2, 1) := by decide +kernel
theorem d_method_7_46 : decode method_7_code 46 = .ok (.iload_n 3, 1) := by decide +kernel
theorem d_method_7_47 : decode method_7_code 47 = .ok (.iload 4, 2) := by decide +kernel
theorem d_method_7_49 : decode method_7_code 49 = .ok (.iconst 2, 1) := by decide +kernel
theorem d_method_7_50 : decode method_7_code 50 = .ok (.iadd, 1) := by decide +kernel
theorem d_method_7_51 : decode method_7_code 51 = .ok (.invokestatic 25, 3) := by decide +kernel
theorem d_method_7_54 : decode method_7_code 54 = .ok (.ifCond .ne 24, 3) := by decide +kernel
theorem d_method_7_23 : decode method_7_code 23 = .ok (.iload_n 1, 1) := by decide +kernel
theorem d_method_7_24 : decode method_7_code 24 = .ok (.aload_n 2, 1) := by decide +kernel
theorem d_method_7_25 : decode method_7_code 25 = .ok (.iload_n 3, 1) := by decide +kernel
theorem d_method_7_26 : decode method_7_code 26 = .ok (.iload 4, 2) := by decide +kernel
theorem d_method_7_28 : decode method_7_code 28 = .ok (.iconst 1, 1) := by decide +kernel
theorem d_method_7_29 : decode method_7_code 29 = .ok (.iadd, 1) := by decide +kernel
theorem d_method_7_30 : decode method_7_code 30 = .ok (.invokestatic 25, 3) := by decide +kernel
theorem d_method_7_33 : decode method_7_code 33 = .ok (.ifCond .ne 45, 3) := by decide +kernel
theorem d_method_7_84 : decode method_7_code 84 = .ok (.iload 4, 2) := by decide +kernel
theorem d_method_7_86 : decode method_7_code 86 = .ok (.iload_n 3, 1) := by decide +kernel
theorem d_method_7_87 : decode method_7_code 87 = .ok (.if_icmp .ge 31, 3) := by decide +kernel
theorem d_method_7_118 : decode method_7_code 118 = .ok (.iconst 0, 1) := by decide +kernel
theorem d_method_7_119 : decode method_7_code 119 = .ok (.ireturn, 1) := by decide +kernel
theorem d_method_7_90 : decode method_7_code 90 = .ok (.iload_n 0, 1) := by decide +kernel
theorem d_method_7_91 : decode method_7_code 91 = .ok (.aload_n 2, 1) := by decide +kernel
theorem d_method_7_92 : decode method_7_code 92 = .ok (.iload 4, 2) := by decide +kernel
theorem d_method_7_94 : decode method_7_code 94 = .ok (.iaload, 1) := by decide +kernel
theorem d_method_7_95 : decode method_7_code 95 = .ok (.invokestatic 50, 3) := by decide +kernel
theorem d_method_7_98 : decode method_7_code 98 = .ok (.ifCond .eq 20, 3) := by decide +kernel
theorem d_method_7_101 : decode method_7_code 101 = .ok (.iload_n 1, 1) := by decide +kernel
theorem d_method_7_102 : decode method_7_code 102 = .ok (.aload_n 2, 1) := by decide +kernel
theorem d_method_7_103 : decode method_7_code 103 = .ok (.iload_n 3, 1) := by decide +kernel
theorem d_method_7_104 : decode method_7_code 104 = .ok (.iload 4, 2) := by decide +kernel
theorem d_method_7_106 : decode method_7_code 106 = .ok (.iconst 1, 1) := by decide +kernel
theorem d_method_7_107 : decode method_7_code 107 = .ok (.iadd, 1) := by decide +kernel
theorem d_method_7_108 : decode method_7_code 108 = .ok (.invokestatic 25, 3) := by decide +kernel
theorem d_method_7_111 : decode method_7_code 111 = .ok (.ifCond .eq 7, 3) := by decide +kernel
theorem d_method_7_114 : decode method_7_code 114 = .ok (.iconst 1, 1) := by decide +kernel
theorem d_method_7_115 : decode method_7_code 115 = .ok (.goto 4, 3) := by decide +kernel
set_option maxRecDepth 65536 in
set_option maxHeartbeats 40000000 in
theorem m_m2 (l : Launch) (Z : State) (a0 : Array Value) (hw : ∀ d ∈ tables_1, d.before a0 Z = true) (h0 : Heap) (n0 : Nat) (Z0 : n0 ≤ h0.size) (q0 q1 : Int32) (ra : Addr) (kr : ClassId) (rl : List Int32) (hrl : rl.length = 3) (V_ra : Arv Z h0 ra kr .int (3 : Int32) (rl.map Value.int) (.int 0)) (x y : Int32) (na sa : Nat) (hx : x = Int32.ofNat na) (hy : y = Int32.ofNat sa) (hna : na ≤ 3) (hsa : sa ≤ 3) :
    Met l Z [] (⟨"com/example/intackt/intackt/vhost/ExchangeTypeKeyMatchesPinLaw", "m2", "(II[III)Z"⟩ : MethodName) method_7_code 5 (some .boolean) ({ frames := 2, cells := 0, slots := 0, locals := 34 } : Room) #[(.int q0), (.int q1), (.ref ra), (.int x), (.int y)] h0 n0 (fun v h => v = some (.int (bi (M2 q0 q1 rl na sa))) ∧ h0 = h) := by
  refine Met.of (plainFor_of_name pn_com_example_intackt_intackt_vhost_ExchangeTypeKeyMatchesPinLaw) ?_
  intro p e s m below meth c F K
  subst hx hy
  refine Go.cast (ef_m_m2 m q0 q1 ra _ _) ?_
  refine Go.iloadN K d_method_7_0 rfl (pc' := 1) rfl ?_
  refine Go.ifc K d_method_7_1 (by decide) (pcT := 84) (pcF := 4) (by decide) rfl (fun h1 => ?_) (fun h1 => ?_)
  · replace h1 : ¬ q0 = 0 := h1
    refine Go.iload K d_method_7_84 rfl (pc' := 86) rfl ?_
    refine Go.iloadN K d_method_7_86 rfl (pc' := 87) rfl ?_
    refine Go.icmp K d_method_7_87 (by decide) (pcT := 118) (pcF := 90) (by decide) rfl (fun h2 => ?_) (fun h2 => ?_)
    · replace h2 : ¬ (Int32.ofNat sa) < (Int32.ofNat na) := h2
      have g := mt (own_lt4 hna hsa).mpr h2
      refine Go.iconst K (v := 0) d_method_7_118 rfl (pc' := 119) rfl ?_
      have e1 : M2 q0 q1 rl na sa = false := by simp [M2, h1, g]
      exact Go.retN K (by simp) (by decide) (by decide) d_method_7_119 (fun _ _ _ _ => ⟨by rw [e1]; rfl, rfl⟩)
    · replace h2 : ¬ (¬ (Int32.ofNat sa) < (Int32.ofNat na)) := h2
      have g := (own_lt4 hna hsa).mp (Decidable.not_not.mp h2)
      refine Go.iloadN K d_method_7_90 rfl (pc' := 91) rfl ?_
      refine Go.aloadN K d_method_7_91 rfl rfl (pc' := 92) rfl ?_
      refine Go.iload K d_method_7_92 rfl (pc' := 94) rfl ?_
      refine Go.iaload K (v := (.int (rl.getD sa 0))) V_ra (own_in (n := 3) (by decide) (by omega)) (own_at (by omega) (by omega)) d_method_7_94 (pc' := 95) rfl ?_
      refine Go.callS K (y := (⟨"com/example/intackt/intackt/vhost/ExchangeTypeKeyMatchesPinLaw", "single", "(II)Z"⟩ : MethodName)) (W := 0) (kc := 0) (nc := 0) (mvT K.cz (hw _ (List.mem_of_getElem? (i := 70) rfl))) (mvT K.cz (hw _ (List.mem_of_getElem? (i := 71) rfl))) (mvT K.cz (hw _ (List.mem_of_getElem? (i := 6) rfl))) (mvT K.cz (hw _ (List.mem_of_getElem? (i := 72) rfl))) (by decide) ((m_si l Z a0 hw h0 n0 Z0 q0 (rl.getD sa 0)).pays (W := 0) K.cz (hw _ (List.mem_of_getElem? (i := 72) rfl)) (hw _ (List.mem_of_getElem? (i := 6) rfl)) (by decide) (by decide)) rfl (argsL := [(.int q0), (.int (rl.getD sa 0))]) (rest := []) (lenOf pd__28II_29Z rfl) rfl (Nat.le_of_ble_eq_true rfl) (by decide) (by decide) frOf grOf d_method_7_95 (pc' := 98) rfl ?_
      rintro v30 h28 Lc29 ⟨⟨⟨rfl, eh⟩, -⟩, -⟩
      obtain rfl := eh
      show Go p l e _ _ m _ below meth c _ _ _ _ h0 _ _ (mkF m 98 #[.val (.int q0), .val (.int q1), .val (.ref ra), .val (.int (Int32.ofNat na)), .val (.int (Int32.ofNat sa))] [(.int (bi (sg q0 (rl.getD sa 0))))])
      refine Go.ifc K d_method_7_98 (by decide) (pcT := 118) (pcF := 101) (by decide) rfl (fun h3 => ?_) (fun h3 => ?_)
      · replace h3 : (bi (sg q0 (rl.getD sa 0))) = 0 := h3
        have u := bi_0 h3
        refine Go.iconst K (v := 0) d_method_7_118 rfl (pc' := 119) rfl ?_
        have e1 : M2 q0 q1 rl na sa = false := by simp [M2, h1, u, -List.getD_eq_getElem?_getD]
        exact Go.retN K (by simp) (by decide) (by decide) d_method_7_119 (fun _ _ _ _ => ⟨by rw [e1]; rfl, rfl⟩)
      · replace h3 : ¬ ((bi (sg q0 (rl.getD sa 0))) = 0) := h3
        have u := bi_1 h3
        refine Go.iloadN K d_method_7_101 rfl (pc' := 102) rfl ?_
        refine Go.aloadN K d_method_7_102 rfl rfl (pc' := 103) rfl ?_
        refine Go.iloadN K d_method_7_103 rfl (pc' := 104) rfl ?_
        refine Go.iload K d_method_7_104 rfl (pc' := 106) rfl ?_
        refine Go.iconst K (v := 1) d_method_7_106 rfl (pc' := 107) rfl ?_
        refine Go.iadd K d_method_7_107 (pc' := 108) rfl ?_
        refine Go.callS K (y := (⟨"com/example/intackt/intackt/vhost/ExchangeTypeKeyMatchesPinLaw", "m1", "(I[III)Z"⟩ : MethodName)) (W := 0) (kc := 0) (nc := 0) (mvT K.cz (hw _ (List.mem_of_getElem? (i := 91) rfl))) (mvT K.cz (hw _ (List.mem_of_getElem? (i := 92) rfl))) (mvT K.cz (hw _ (List.mem_of_getElem? (i := 6) rfl))) (mvT K.cz (hw _ (List.mem_of_getElem? (i := 93) rfl))) (by decide) ((m_m1 l Z a0 hw h0 n0 Z0 q1 ra kr rl hrl V_ra _ _ na (sa + 1) rfl (own_plus 1) hna (by omega)).pays (W := 0) K.cz (hw _ (List.mem_of_getElem? (i := 93) rfl)) (hw _ (List.mem_of_getElem? (i := 6) rfl)) (by decide) (by decide)) rfl (argsL := [(.int q1), (.ref ra), (.int (Int32.ofNat na)), (.int ((Int32.ofNat sa) + (1 : Int32)))]) (rest := []) (lenOf pd__28I_5bIII_29Z rfl) rfl (Nat.le_of_ble_eq_true rfl) (by decide) (by decide) frOf grOf d_method_7_108 (pc' := 111) rfl ?_
        rintro v33 h31 Lc32 ⟨⟨⟨rfl, eh⟩, -⟩, -⟩
        obtain rfl := eh
        show Go p l e _ _ m _ below meth c _ _ _ _ h0 _ _ (mkF m 111 #[.val (.int q0), .val (.int q1), .val (.ref ra), .val (.int (Int32.ofNat na)), .val (.int (Int32.ofNat sa))] [(.int (bi (M1 q1 rl na (sa + 1))))])
        refine Go.ifc K d_method_7_111 (by decide) (pcT := 118) (pcF := 114) (by decide) rfl (fun h4 => ?_) (fun h4 => ?_)
        · replace h4 : (bi (M1 q1 rl na (sa + 1))) = 0 := h4
          have v := bi_0 h4
          refine Go.iconst K (v := 0) d_method_7_118 rfl (pc' := 119) rfl ?_
          have e1 : M2 q0 q1 rl na sa = false := by simp [M2, h1, v]
          exact Go.retN K (by simp) (by decide) (by decide) d_method_7_119 (fun _ _ _ _ => ⟨by rw [e1]; rfl, rfl⟩)
        · replace h4 : ¬ ((bi (M1 q1 rl na (sa + 1))) = 0) := h4
          have v := bi_1 h4
          refine Go.iconst K (v := 1) d_method_7_114 rfl (pc' := 115) rfl ?_
          refine Go.goto K d_method_7_115 (pc' := 119) (by decide) (by decide) ?_
          have e1 : M2 q0 q1 rl na sa = true := by simp [M2, h1, g, u, v, -List.getD_eq_getElem?_getD]
          exact Go.retN K (by simp) (by decide) (by decide) d_method_7_119 (fun _ _ _ _ => ⟨by rw [e1]; rfl, rfl⟩)
  · replace h1 : ¬ (¬ q0 = 0) := h1
    have hq := Decidable.not_not.mp h1
    refine Go.iloadN K d_method_7_4 rfl (pc' := 5) rfl ?_
    refine Go.aloadN K d_method_7_5 rfl rfl (pc' := 6) rfl ?_
    refine Go.iloadN K d_method_7_6 rfl (pc' := 7) rfl ?_
    refine Go.iload K d_method_7_7 rfl (pc' := 9) rfl ?_
    refine Go.callS K (y := (⟨"com/example/intackt/intackt/vhost/ExchangeTypeKeyMatchesPinLaw", "m1", "(I[III)Z"⟩ : MethodName)) (W := 0) (kc := 0) (nc := 0) (mvT K.cz (hw _ (List.mem_of_getElem? (i := 91) rfl))) (mvT K.cz (hw _ (List.mem_of_getElem? (i := 92) rfl))) (mvT K.cz (hw _ (List.mem_of_getElem? (i := 6) rfl))) (mvT K.cz (hw _ (List.mem_of_getElem? (i := 93) rfl))) (by decide) ((m_m1 l Z a0 hw h0 n0 Z0 q1 ra kr rl hrl V_ra _ _ na sa rfl rfl hna hsa).pays (W := 0) K.cz (hw _ (List.mem_of_getElem? (i := 93) rfl)) (hw _ (List.mem_of_getElem? (i := 6) rfl)) (by decide) (by decide)) rfl (argsL := [(.int q1), (.ref ra), (.int (Int32.ofNat na)), (.int (Int32.ofNat sa))]) (rest := []) (lenOf pd__28I_5bIII_29Z rfl) rfl (Nat.le_of_ble_eq_true rfl) (by decide) (by decide) frOf grOf d_method_7_9 (pc' := 12) rfl ?_
    rintro v6 h4 Lc5 ⟨⟨⟨rfl, eh⟩, -⟩, -⟩
    obtain rfl := eh
    show Go p l e _ _ m _ below meth c _ _ _ _ h0 _ _ (mkF m 12 #[.val (.int q0), .val (.int q1), .val (.ref ra), .val (.int (Int32.ofNat na)), .val (.int (Int32.ofNat sa))] [(.int (bi (M1 q1 rl na sa)))])
    refine Go.ifc K d_method_7_12 (by decide) (pcT := 78) (pcF := 15) (by decide) rfl (fun u0 => ?_) (fun u0 => ?_)
    · replace u0 : ¬ (bi (M1 q1 rl na sa)) = 0 := u0
      have v0 := bi_1 u0
      refine Go.iconst K (v := 1) d_method_7_78 rfl (pc' := 79) rfl ?_
      refine Go.goto K d_method_7_79 (pc' := 83) (by decide) (by decide) ?_
      have e1 : M2 q0 q1 rl na sa = true := by simp [M2, hq, v0]
      exact Go.retN K (by simp) (by decide) (by decide) d_method_7_83 (fun _ _ _ _ => ⟨by rw [e1]; rfl, rfl⟩)
    · replace u0 : ¬ (¬ (bi (M1 q1 rl na sa)) = 0) := u0
      have v0 := bi_0 (Decidable.not_not.mp u0)
      refine Go.iload K d_method_7_15 rfl (pc' := 17) rfl ?_
      refine Go.iconst K (v := 1) d_method_7_17 rfl (pc' := 18) rfl ?_
      refine Go.iadd K d_method_7_18 (pc' := 19) rfl ?_
      refine Go.iloadN K d_method_7_19 rfl (pc' := 20) rfl ?_
      refine Go.icmp K d_method_7_20 (by decide) (pcT := 36) (pcF := 23) (by decide) rfl (fun g1 => ?_) (fun g1 => ?_)
      · replace g1 : (Int32.ofNat na) < ((Int32.ofNat sa) + (1 : Int32)) := g1
        replace g1 : ¬ sa + 1 ≤ na := by have := (own_gt1 hna hsa).mp g1; omega
        refine Go.iload K d_method_7_36 rfl (pc' := 38) rfl ?_
        refine Go.iconst K (v := 2) d_method_7_38 rfl (pc' := 39) rfl ?_
        refine Go.iadd K d_method_7_39 (pc' := 40) rfl ?_
        refine Go.iloadN K d_method_7_40 rfl (pc' := 41) rfl ?_
        refine Go.icmp K d_method_7_41 (by decide) (pcT := 57) (pcF := 44) (by decide) rfl (fun g2 => ?_) (fun g2 => ?_)
        · replace g2 : (Int32.ofNat na) < ((Int32.ofNat sa) + (2 : Int32)) := g2
          replace g2 : ¬ sa + 2 ≤ na := by have := (own_gt2 hna hsa).mp g2; omega
          refine Go.iload K d_method_7_57 rfl (pc' := 59) rfl ?_
          refine Go.iconst K (v := 3) d_method_7_59 rfl (pc' := 60) rfl ?_
          refine Go.iadd K d_method_7_60 (pc' := 61) rfl ?_
          refine Go.iloadN K d_method_7_61 rfl (pc' := 62) rfl ?_
          refine Go.icmp K d_method_7_62 (by decide) (pcT := 82) (pcF := 65) (by decide) rfl (fun g3 => ?_) (fun g3 => ?_)
          · replace g3 : (Int32.ofNat na) < ((Int32.ofNat sa) + (3 : Int32)) := g3
            replace g3 : ¬ sa + 3 ≤ na := by have := (own_gt3 hna hsa).mp g3; omega
            refine Go.iconst K (v := 0) d_method_7_82 rfl (pc' := 83) rfl ?_
            have e1 : M2 q0 q1 rl na sa = false := by simp [M2, hq, v0, g1, g2, g3]
            exact Go.retN K (by simp) (by decide) (by decide) d_method_7_83 (fun _ _ _ _ => ⟨by rw [e1]; rfl, rfl⟩)
          · replace g3 : ¬ ((Int32.ofNat na) < ((Int32.ofNat sa) + (3 : Int32))) := g3
            replace g3 : sa + 3 ≤ na := by have := mt (own_gt3 hna hsa).mpr g3; omega
            refine Go.iloadN K d_method_7_65 rfl (pc' := 66) rfl ?_
            refine Go.aloadN K d_method_7_66 rfl rfl (pc' := 67) rfl ?_
            refine Go.iloadN K d_method_7_67 rfl (pc' := 68) rfl ?_
            refine Go.iload K d_method_7_68 rfl (pc' := 70) rfl ?_
            refine Go.iconst K (v := 3) d_method_7_70 rfl (pc' := 71) rfl ?_
            refine Go.iadd K d_method_7_71 (pc' := 72) rfl ?_
            refine Go.callS K (y := (⟨"com/example/intackt/intackt/vhost/ExchangeTypeKeyMatchesPinLaw", "m1", "(I[III)Z"⟩ : MethodName)) (W := 0) (kc := 0) (nc := 0) (mvT K.cz (hw _ (List.mem_of_getElem? (i := 91) rfl))) (mvT K.cz (hw _ (List.mem_of_getElem? (i := 92) rfl))) (mvT K.cz (hw _ (List.mem_of_getElem? (i := 6) rfl))) (mvT K.cz (hw _ (List.mem_of_getElem? (i := 93) rfl))) (by decide) ((m_m1 l Z a0 hw h0 n0 Z0 q1 ra kr rl hrl V_ra _ _ na (sa + 3) rfl (own_plus 3) hna (by omega)).pays (W := 0) K.cz (hw _ (List.mem_of_getElem? (i := 93) rfl)) (hw _ (List.mem_of_getElem? (i := 6) rfl)) (by decide) (by decide)) rfl (argsL := [(.int q1), (.ref ra), (.int (Int32.ofNat na)), (.int ((Int32.ofNat sa) + (3 : Int32)))]) (rest := []) (lenOf pd__28I_5bIII_29Z rfl) rfl (Nat.le_of_ble_eq_true rfl) (by decide) (by decide) frOf grOf d_method_7_72 (pc' := 75) rfl ?_
            rintro v9 h7 Lc8 ⟨⟨⟨rfl, eh⟩, -⟩, -⟩
            obtain rfl := eh
            show Go p l e _ _ m _ below meth c _ _ _ _ h0 _ _ (mkF m 75 #[.val (.int q0), .val (.int q1), .val (.ref ra), .val (.int (Int32.ofNat na)), .val (.int (Int32.ofNat sa))] [(.int (bi (M1 q1 rl na (sa + 3))))])
            refine Go.ifc K d_method_7_75 (by decide) (pcT := 82) (pcF := 78) (by decide) rfl (fun u3 => ?_) (fun u3 => ?_)
            · replace u3 : (bi (M1 q1 rl na (sa + 3))) = 0 := u3
              have v3 := bi_0 u3
              refine Go.iconst K (v := 0) d_method_7_82 rfl (pc' := 83) rfl ?_
              have e1 : M2 q0 q1 rl na sa = false := by simp [M2, hq, v0, g1, g2, g3, v3]
              exact Go.retN K (by simp) (by decide) (by decide) d_method_7_83 (fun _ _ _ _ => ⟨by rw [e1]; rfl, rfl⟩)
            · replace u3 : ¬ ((bi (M1 q1 rl na (sa + 3))) = 0) := u3
              have v3 := bi_1 u3
              refine Go.iconst K (v := 1) d_method_7_78 rfl (pc' := 79) rfl ?_
              refine Go.goto K d_method_7_79 (pc' := 83) (by decide) (by decide) ?_
              have e1 : M2 q0 q1 rl na sa = true := by simp [M2, hq, v0, g1, g2, g3, v3]
              exact Go.retN K (by simp) (by decide) (by decide) d_method_7_83 (fun _ _ _ _ => ⟨by rw [e1]; rfl, rfl⟩)
        · replace g2 : ¬ ((Int32.ofNat na) < ((Int32.ofNat sa) + (2 : Int32))) := g2
          replace g2 : sa + 2 ≤ na := by have := mt (own_gt2 hna hsa).mpr g2; omega
          refine Go.iloadN K d_method_7_44 rfl (pc' := 45) rfl ?_
          refine Go.aloadN K d_method_7_45 rfl rfl (pc' := 46) rfl ?_
          refine Go.iloadN K d_method_7_46 rfl (pc' := 47) rfl ?_
          refine Go.iload K d_method_7_47 rfl (pc' := 49) rfl ?_
          refine Go.iconst K (v := 2) d_method_7_49 rfl (pc' := 50) rfl ?_
          refine Go.iadd K d_method_7_50 (pc' := 51) rfl ?_
          refine Go.callS K (y := (⟨"com/example/intackt/intackt/vhost/ExchangeTypeKeyMatchesPinLaw", "m1", "(I[III)Z"⟩ : MethodName)) (W := 0) (kc := 0) (nc := 0) (mvT K.cz (hw _ (List.mem_of_getElem? (i := 91) rfl))) (mvT K.cz (hw _ (List.mem_of_getElem? (i := 92) rfl))) (mvT K.cz (hw _ (List.mem_of_getElem? (i := 6) rfl))) (mvT K.cz (hw _ (List.mem_of_getElem? (i := 93) rfl))) (by decide) ((m_m1 l Z a0 hw h0 n0 Z0 q1 ra kr rl hrl V_ra _ _ na (sa + 2) rfl (own_plus 2) hna (by omega)).pays (W := 0) K.cz (hw _ (List.mem_of_getElem? (i := 93) rfl)) (hw _ (List.mem_of_getElem? (i := 6) rfl)) (by decide) (by decide)) rfl (argsL := [(.int q1), (.ref ra), (.int (Int32.ofNat na)), (.int ((Int32.ofNat sa) + (2 : Int32)))]) (rest := []) (lenOf pd__28I_5bIII_29Z rfl) rfl (Nat.le_of_ble_eq_true rfl) (by decide) (by decide) frOf grOf d_method_7_51 (pc' := 54) rfl ?_
          rintro v12 h10 Lc11 ⟨⟨⟨rfl, eh⟩, -⟩, -⟩
          obtain rfl := eh
          show Go p l e _ _ m _ below meth c _ _ _ _ h0 _ _ (mkF m 54 #[.val (.int q0), .val (.int q1), .val (.ref ra), .val (.int (Int32.ofNat na)), .val (.int (Int32.ofNat sa))] [(.int (bi (M1 q1 rl na (sa + 2))))])
          refine Go.ifc K d_method_7_54 (by decide) (pcT := 78) (pcF := 57) (by decide) rfl (fun u2 => ?_) (fun u2 => ?_)
          · replace u2 : ¬ (bi (M1 q1 rl na (sa + 2))) = 0 := u2
            have v2 := bi_1 u2
            refine Go.iconst K (v := 1) d_method_7_78 rfl (pc' := 79) rfl ?_
            refine Go.goto K d_method_7_79 (pc' := 83) (by decide) (by decide) ?_
            have e1 : M2 q0 q1 rl na sa = true := by simp [M2, hq, v0, g1, g2, v2]
            exact Go.retN K (by simp) (by decide) (by decide) d_method_7_83 (fun _ _ _ _ => ⟨by rw [e1]; rfl, rfl⟩)
          · replace u2 : ¬ (¬ (bi (M1 q1 rl na (sa + 2))) = 0) := u2
            have v2 := bi_0 (Decidable.not_not.mp u2)
            refine Go.iload K d_method_7_57 rfl (pc' := 59) rfl ?_
            refine Go.iconst K (v := 3) d_method_7_59 rfl (pc' := 60) rfl ?_
            refine Go.iadd K d_method_7_60 (pc' := 61) rfl ?_
            refine Go.iloadN K d_method_7_61 rfl (pc' := 62) rfl ?_
            refine Go.icmp K d_method_7_62 (by decide) (pcT := 82) (pcF := 65) (by decide) rfl (fun g3 => ?_) (fun g3 => ?_)
            · replace g3 : (Int32.ofNat na) < ((Int32.ofNat sa) + (3 : Int32)) := g3
              replace g3 : ¬ sa + 3 ≤ na := by have := (own_gt3 hna hsa).mp g3; omega
              refine Go.iconst K (v := 0) d_method_7_82 rfl (pc' := 83) rfl ?_
              have e1 : M2 q0 q1 rl na sa = false := by simp [M2, hq, v0, g1, g2, v2, g3]
              exact Go.retN K (by simp) (by decide) (by decide) d_method_7_83 (fun _ _ _ _ => ⟨by rw [e1]; rfl, rfl⟩)
            · replace g3 : ¬ ((Int32.ofNat na) < ((Int32.ofNat sa) + (3 : Int32))) := g3
              replace g3 : sa + 3 ≤ na := by have := mt (own_gt3 hna hsa).mpr g3; omega
              refine Go.iloadN K d_method_7_65 rfl (pc' := 66) rfl ?_
              refine Go.aloadN K d_method_7_66 rfl rfl (pc' := 67) rfl ?_
              refine Go.iloadN K d_method_7_67 rfl (pc' := 68) rfl ?_
              refine Go.iload K d_method_7_68 rfl (pc' := 70) rfl ?_
              refine Go.iconst K (v := 3) d_method_7_70 rfl (pc' := 71) rfl ?_
              refine Go.iadd K d_method_7_71 (pc' := 72) rfl ?_
              refine Go.callS K (y := (⟨"com/example/intackt/intackt/vhost/ExchangeTypeKeyMatchesPinLaw", "m1", "(I[III)Z"⟩ : MethodName)) (W := 0) (kc := 0) (nc := 0) (mvT K.cz (hw _ (List.mem_of_getElem? (i := 91) rfl))) (mvT K.cz (hw _ (List.mem_of_getElem? (i := 92) rfl))) (mvT K.cz (hw _ (List.mem_of_getElem? (i := 6) rfl))) (mvT K.cz (hw _ (List.mem_of_getElem? (i := 93) rfl))) (by decide) ((m_m1 l Z a0 hw h0 n0 Z0 q1 ra kr rl hrl V_ra _ _ na (sa + 3) rfl (own_plus 3) hna (by omega)).pays (W := 0) K.cz (hw _ (List.mem_of_getElem? (i := 93) rfl)) (hw _ (List.mem_of_getElem? (i := 6) rfl)) (by decide) (by decide)) rfl (argsL := [(.int q1), (.ref ra), (.int (Int32.ofNat na)), (.int ((Int32.ofNat sa) + (3 : Int32)))]) (rest := []) (lenOf pd__28I_5bIII_29Z rfl) rfl (Nat.le_of_ble_eq_true rfl) (by decide) (by decide) frOf grOf d_method_7_72 (pc' := 75) rfl ?_
              rintro v15 h13 Lc14 ⟨⟨⟨rfl, eh⟩, -⟩, -⟩
              obtain rfl := eh
              show Go p l e _ _ m _ below meth c _ _ _ _ h0 _ _ (mkF m 75 #[.val (.int q0), .val (.int q1), .val (.ref ra), .val (.int (Int32.ofNat na)), .val (.int (Int32.ofNat sa))] [(.int (bi (M1 q1 rl na (sa + 3))))])
              refine Go.ifc K d_method_7_75 (by decide) (pcT := 82) (pcF := 78) (by decide) rfl (fun u3 => ?_) (fun u3 => ?_)
              · replace u3 : (bi (M1 q1 rl na (sa + 3))) = 0 := u3
                have v3 := bi_0 u3
                refine Go.iconst K (v := 0) d_method_7_82 rfl (pc' := 83) rfl ?_
                have e1 : M2 q0 q1 rl na sa = false := by simp [M2, hq, v0, g1, g2, v2, g3, v3]
                exact Go.retN K (by simp) (by decide) (by decide) d_method_7_83 (fun _ _ _ _ => ⟨by rw [e1]; rfl, rfl⟩)
              · replace u3 : ¬ ((bi (M1 q1 rl na (sa + 3))) = 0) := u3
                have v3 := bi_1 u3
                refine Go.iconst K (v := 1) d_method_7_78 rfl (pc' := 79) rfl ?_
                refine Go.goto K d_method_7_79 (pc' := 83) (by decide) (by decide) ?_
                have e1 : M2 q0 q1 rl na sa = true := by simp [M2, hq, v0, g1, g2, v2, g3, v3]
                exact Go.retN K (by simp) (by decide) (by decide) d_method_7_83 (fun _ _ _ _ => ⟨by rw [e1]; rfl, rfl⟩)
      · replace g1 : ¬ ((Int32.ofNat na) < ((Int32.ofNat sa) + (1 : Int32))) := g1
        replace g1 : sa + 1 ≤ na := by have := mt (own_gt1 hna hsa).mpr g1; omega
        refine Go.iloadN K d_method_7_23 rfl (pc' := 24) rfl ?_
        refine Go.aloadN K d_method_7_24 rfl rfl (pc' := 25) rfl ?_
        refine Go.iloadN K d_method_7_25 rfl (pc' := 26) rfl ?_
        refine Go.iload K d_method_7_26 rfl (pc' := 28) rfl ?_
        refine Go.iconst K (v := 1) d_method_7_28 rfl (pc' := 29) rfl ?_
        refine Go.iadd K d_method_7_29 (pc' := 30) rfl ?_
        refine Go.callS K (y := (⟨"com/example/intackt/intackt/vhost/ExchangeTypeKeyMatchesPinLaw", "m1", "(I[III)Z"⟩ : MethodName)) (W := 0) (kc := 0) (nc := 0) (mvT K.cz (hw _ (List.mem_of_getElem? (i := 91) rfl))) (mvT K.cz (hw _ (List.mem_of_getElem? (i := 92) rfl))) (mvT K.cz (hw _ (List.mem_of_getElem? (i := 6) rfl))) (mvT K.cz (hw _ (List.mem_of_getElem? (i := 93) rfl))) (by decide) ((m_m1 l Z a0 hw h0 n0 Z0 q1 ra kr rl hrl V_ra _ _ na (sa + 1) rfl (own_plus 1) hna (by omega)).pays (W := 0) K.cz (hw _ (List.mem_of_getElem? (i := 93) rfl)) (hw _ (List.mem_of_getElem? (i := 6) rfl)) (by decide) (by decide)) rfl (argsL := [(.int q1), (.ref ra), (.int (Int32.ofNat na)), (.int ((Int32.ofNat sa) + (1 : Int32)))]) (rest := []) (lenOf pd__28I_5bIII_29Z rfl) rfl (Nat.le_of_ble_eq_true rfl) (by decide) (by decide) frOf grOf d_method_7_30 (pc' := 33) rfl ?_
        rintro v18 h16 Lc17 ⟨⟨⟨rfl, eh⟩, -⟩, -⟩
        obtain rfl := eh
        show Go p l e _ _ m _ below meth c _ _ _ _ h0 _ _ (mkF m 33 #[.val (.int q0), .val (.int q1), .val (.ref ra), .val (.int (Int32.ofNat na)), .val (.int (Int32.ofNat sa))] [(.int (bi (M1 q1 rl na (sa + 1))))])
        refine Go.ifc K d_method_7_33 (by decide) (pcT := 78) (pcF := 36) (by decide) rfl (fun u1 => ?_) (fun u1 => ?_)
        · replace u1 : ¬ (bi (M1 q1 rl na (sa + 1))) = 0 := u1
          have v1 := bi_1 u1
          refine Go.iconst K (v := 1) d_method_7_78 rfl (pc' := 79) rfl ?_
          refine Go.goto K d_method_7_79 (pc' := 83) (by decide) (by decide) ?_
          have e1 : M2 q0 q1 rl na sa = true := by simp [M2, hq, v0, g1, v1]
          exact Go.retN K (by simp) (by decide) (by decide) d_method_7_83 (fun _ _ _ _ => ⟨by rw [e1]; rfl, rfl⟩)
        · replace u1 : ¬ (¬ (bi (M1 q1 rl na (sa + 1))) = 0) := u1
          have v1 := bi_0 (Decidable.not_not.mp u1)
          refine Go.iload K d_method_7_36 rfl (pc' := 38) rfl ?_
          refine Go.iconst K (v := 2) d_method_7_38 rfl (pc' := 39) rfl ?_
          refine Go.iadd K d_method_7_39 (pc' := 40) rfl ?_
          refine Go.iloadN K d_method_7_40 rfl (pc' := 41) rfl ?_
          refine Go.icmp K d_method_7_41 (by decide) (pcT := 57) (pcF := 44) (by decide) rfl (fun g2 => ?_) (fun g2 => ?_)
          · replace g2 : (Int32.ofNat na) < ((Int32.ofNat sa) + (2 : Int32)) := g2
            replace g2 : ¬ sa + 2 ≤ na := by have := (own_gt2 hna hsa).mp g2; omega
            refine Go.iload K d_method_7_57 rfl (pc' := 59) rfl ?_
            refine Go.iconst K (v := 3) d_method_7_59 rfl (pc' := 60) rfl ?_
            refine Go.iadd K d_method_7_60 (pc' := 61) rfl ?_
            refine Go.iloadN K d_method_7_61 rfl (pc' := 62) rfl ?_
            refine Go.icmp K d_method_7_62 (by decide) (pcT := 82) (pcF := 65) (by decide) rfl (fun g3 => ?_) (fun g3 => ?_)
            · replace g3 : (Int32.ofNat na) < ((Int32.ofNat sa) + (3 : Int32)) := g3
              replace g3 : ¬ sa + 3 ≤ na := by have := (own_gt3 hna hsa).mp g3; omega
              refine Go.iconst K (v := 0) d_method_7_82 rfl (pc' := 83) rfl ?_
              have e1 : M2 q0 q1 rl na sa = false := by simp [M2, hq, v0, g1, v1, g2, g3]
              exact Go.retN K (by simp) (by decide) (by decide) d_method_7_83 (fun _ _ _ _ => ⟨by rw [e1]; rfl, rfl⟩)
            · replace g3 : ¬ ((Int32.ofNat na) < ((Int32.ofNat sa) + (3 : Int32))) := g3
              replace g3 : sa + 3 ≤ na := by have := mt (own_gt3 hna hsa).mpr g3; omega
              refine Go.iloadN K d_method_7_65 rfl (pc' := 66) rfl ?_
              refine Go.aloadN K d_method_7_66 rfl rfl (pc' := 67) rfl ?_
              refine Go.iloadN K d_method_7_67 rfl (pc' := 68) rfl ?_
              refine Go.iload K d_method_7_68 rfl (pc' := 70) rfl ?_
              refine Go.iconst K (v := 3) d_method_7_70 rfl (pc' := 71) rfl ?_
              refine Go.iadd K d_method_7_71 (pc' := 72) rfl ?_
              refine Go.callS K (y := (⟨"com/example/intackt/intackt/vhost/ExchangeTypeKeyMatchesPinLaw", "m1", "(I[III)Z"⟩ : MethodName)) (W := 0) (kc := 0) (nc := 0) (mvT K.cz (hw _ (List.mem_of_getElem? (i := 91) rfl))) (mvT K.cz (hw _ (List.mem_of_getElem? (i := 92) rfl))) (mvT K.cz (hw _ (List.mem_of_getElem? (i := 6) rfl))) (mvT K.cz (hw _ (List.mem_of_getElem? (i := 93) rfl))) (by decide) ((m_m1 l Z a0 hw h0 n0 Z0 q1 ra kr rl hrl V_ra _ _ na (sa + 3) rfl (own_plus 3) hna (by omega)).pays (W := 0) K.cz (hw _ (List.mem_of_getElem? (i := 93) rfl)) (hw _ (List.mem_of_getElem? (i := 6) rfl)) (by decide) (by decide)) rfl (argsL := [(.int q1), (.ref ra), (.int (Int32.ofNat na)), (.int ((Int32.ofNat sa) + (3 : Int32)))]) (rest := []) (lenOf pd__28I_5bIII_29Z rfl) rfl (Nat.le_of_ble_eq_true rfl) (by decide) (by decide) frOf grOf d_method_7_72 (pc' := 75) rfl ?_
              rintro v21 h19 Lc20 ⟨⟨⟨rfl, eh⟩, -⟩, -⟩
              obtain rfl := eh
              show Go p l e _ _ m _ below meth c _ _ _ _ h0 _ _ (mkF m 75 #[.val (.int q0), .val (.int q1), .val (.ref ra), .val (.int (Int32.ofNat na)), .val (.int (Int32.ofNat sa))] [(.int (bi (M1 q1 rl na (sa + 3))))])
              refine Go.ifc K d_method_7_75 (by decide) (pcT := 82) (pcF := 78) (by decide) rfl (fun u3 => ?_) (fun u3 => ?_)
              · replace u3 : (bi (M1 q1 rl na (sa + 3))) = 0 := u3
                have v3 := bi_0 u3
                refine Go.iconst K (v := 0) d_method_7_82 rfl (pc' := 83) rfl ?_
                have e1 : M2 q0 q1 rl na sa = false := by simp [M2, hq, v0, g1, v1, g2, g3, v3]
                exact Go.retN K (by simp) (by decide) (by decide) d_method_7_83 (fun _ _ _ _ => ⟨by rw [e1]; rfl, rfl⟩)
              · replace u3 : ¬ ((bi (M1 q1 rl na (sa + 3))) = 0) := u3
                have v3 := bi_1 u3
                refine Go.iconst K (v := 1) d_method_7_78 rfl (pc' := 79) rfl ?_
                refine Go.goto K d_method_7_79 (pc' := 83) (by decide) (by decide) ?_
                have e1 : M2 q0 q1 rl na sa = true := by simp [M2, hq, v0, g1, v1, g2, g3, v3]
                exact Go.retN K (by simp) (by decide) (by decide) d_method_7_83 (fun _ _ _ _ => ⟨by rw [e1]; rfl, rfl⟩)
          · replace g2 : ¬ ((Int32.ofNat na) < ((Int32.ofNat sa) + (2 : Int32))) := g2
            replace g2 : sa + 2 ≤ na := by have := mt (own_gt2 hna hsa).mpr g2; omega
            refine Go.iloadN K d_method_7_44 rfl (pc' := 45) rfl ?_
            refine Go.aloadN K d_method_7_45 rfl rfl (pc' := 46) rfl ?_
            refine Go.iloadN K d_method_7_46 rfl (pc' := 47) rfl ?_
            refine Go.iload K d_method_7_47 rfl (pc' := 49) rfl ?_
            refine Go.iconst K (v := 2) d_method_7_49 rfl (pc' := 50) rfl ?_
            refine Go.iadd K d_method_7_50 (pc' := 51) rfl ?_
            refine Go.callS K (y := (⟨"com/example/intackt/intackt/vhost/ExchangeTypeKeyMatchesPinLaw", "m1", "(I[III)Z"⟩ : MethodName)) (W := 0) (kc := 0) (nc := 0) (mvT K.cz (hw _ (List.mem_of_getElem? (i := 91) rfl))) (mvT K.cz (hw _ (List.mem_of_getElem? (i := 92) rfl))) (mvT K.cz (hw _ (List.mem_of_getElem? (i := 6) rfl))) (mvT K.cz (hw _ (List.mem_of_getElem? (i := 93) rfl))) (by decide) ((m_m1 l Z a0 hw h0 n0 Z0 q1 ra kr rl hrl V_ra _ _ na (sa + 2) rfl (own_plus 2) hna (by omega)).pays (W := 0) K.cz (hw _ (List.mem_of_getElem? (i := 93) rfl)) (hw _ (List.mem_of_getElem? (i := 6) rfl)) (by decide) (by decide)) rfl (argsL := [(.int q1), (.ref ra), (.int (Int32.ofNat na)), (.int ((Int32.ofNat sa) + (2 : Int32)))]) (rest := []) (lenOf pd__28I_5bIII_29Z rfl) rfl (Nat.le_of_ble_eq_true rfl) (by decide) (by decide) frOf grOf d_method_7_51 (pc' := 54) rfl ?_
            rintro v24 h22 Lc23 ⟨⟨⟨rfl, eh⟩, -⟩, -⟩
            obtain rfl := eh
            show Go p l e _ _ m _ below meth c _ _ _ _ h0 _ _ (mkF m 54 #[.val (.int q0), .val (.int q1), .val (.ref ra), .val (.int (Int32.ofNat na)), .val (.int (Int32.ofNat sa))] [(.int (bi (M1 q1 rl na (sa + 2))))])
            refine Go.ifc K d_method_7_54 (by decide) (pcT := 78) (pcF := 57) (by decide) rfl (fun u2 => ?_) (fun u2 => ?_)
            · replace u2 : ¬ (bi (M1 q1 rl na (sa + 2))) = 0 := u2
              have v2 := bi_1 u2
              refine Go.iconst K (v := 1) d_method_7_78 rfl (pc' := 79) rfl ?_
              refine Go.goto K d_method_7_79 (pc' := 83) (by decide) (by decide) ?_
              have e1 : M2 q0 q1 rl na sa = true := by simp [M2, hq, v0, g1, v1, g2, v2]
              exact Go.retN K (by simp) (by decide) (by decide) d_method_7_83 (fun _ _ _ _ => ⟨by rw [e1]; rfl, rfl⟩)
            · replace u2 : ¬ (¬ (bi (M1 q1 rl na (sa + 2))) = 0) := u2
              have v2 := bi_0 (Decidable.not_not.mp u2)
              refine Go.iload K d_method_7_57 rfl (pc' := 59) rfl ?_
              refine Go.iconst K (v := 3) d_method_7_59 rfl (pc' := 60) rfl ?_
              refine Go.iadd K d_method_7_60 (pc' := 61) rfl ?_
              refine Go.iloadN K d_method_7_61 rfl (pc' := 62) rfl ?_
              refine Go.icmp K d_method_7_62 (by decide) (pcT := 82) (pcF := 65) (by decide) rfl (fun g3 => ?_) (fun g3 => ?_)
              · replace g3 : (Int32.ofNat na) < ((Int32.ofNat sa) + (3 : Int32)) := g3
                replace g3 : ¬ sa + 3 ≤ na := by have := (own_gt3 hna hsa).mp g3; omega
                refine Go.iconst K (v := 0) d_method_7_82 rfl (pc' := 83) rfl ?_
                have e1 : M2 q0 q1 rl na sa = false := by simp [M2, hq, v0, g1, v1, g2, v2, g3]
                exact Go.retN K (by simp) (by decide) (by decide) d_method_7_83 (fun _ _ _ _ => ⟨by rw [e1]; rfl, rfl⟩)
              · replace g3 : ¬ ((Int32.ofNat na) < ((Int32.ofNat sa) + (3 : Int32))) := g3
                replace g3 : sa + 3 ≤ na := by have := mt (own_gt3 hna hsa).mpr g3; omega
                refine Go.iloadN K d_method_7_65 rfl (pc' := 66) rfl ?_
                refine Go.aloadN K d_method_7_66 rfl rfl (pc' := 67) rfl ?_
                refine Go.iloadN K d_method_7_67 rfl (pc' := 68) rfl ?_
                refine Go.iload K d_method_7_68 rfl (pc' := 70) rfl ?_
                refine Go.iconst K (v := 3) d_method_7_70 rfl (pc' := 71) rfl ?_
                refine Go.iadd K d_method_7_71 (pc' := 72) rfl ?_
                refine Go.callS K (y := (⟨"com/example/intackt/intackt/vhost/ExchangeTypeKeyMatchesPinLaw", "m1", "(I[III)Z"⟩ : MethodName)) (W := 0) (kc := 0) (nc := 0) (mvT K.cz (hw _ (List.mem_of_getElem? (i := 91) rfl))) (mvT K.cz (hw _ (List.mem_of_getElem? (i := 92) rfl))) (mvT K.cz (hw _ (List.mem_of_getElem? (i := 6) rfl))) (mvT K.cz (hw _ (List.mem_of_getElem? (i := 93) rfl))) (by decide) ((m_m1 l Z a0 hw h0 n0 Z0 q1 ra kr rl hrl V_ra _ _ na (sa + 3) rfl (own_plus 3) hna (by omega)).pays (W := 0) K.cz (hw _ (List.mem_of_getElem? (i := 93) rfl)) (hw _ (List.mem_of_getElem? (i := 6) rfl)) (by decide) (by decide)) rfl (argsL := [(.int q1), (.ref ra), (.int (Int32.ofNat na)), (.int ((Int32.ofNat sa) + (3 : Int32)))]) (rest := []) (lenOf pd__28I_5bIII_29Z rfl) rfl (Nat.le_of_ble_eq_true rfl) (by decide) (by decide) frOf grOf d_method_7_72 (pc' := 75) rfl ?_
                rintro v27 h25 Lc26 ⟨⟨⟨rfl, eh⟩, -⟩, -⟩
                obtain rfl := eh
                show Go p l e _ _ m _ below meth c _ _ _ _ h0 _ _ (mkF m 75 #[.val (.int q0), .val (.int q1), .val (.ref ra), .val (.int (Int32.ofNat na)), .val (.int (Int32.ofNat sa))] [(.int (bi (M1 q1 rl na (sa + 3))))])
                refine Go.ifc K d_method_7_75 (by decide) (pcT := 82) (pcF := 78) (by decide) rfl (fun u3 => ?_) (fun u3 => ?_)
                · replace u3 : (bi (M1 q1 rl na (sa + 3))) = 0 := u3
                  have v3 := bi_0 u3
                  refine Go.iconst K (v := 0) d_method_7_82 rfl (pc' := 83) rfl ?_
                  have e1 : M2 q0 q1 rl na sa = false := by simp [M2, hq, v0, g1, v1, g2, v2, g3, v3]
                  exact Go.retN K (by simp) (by decide) (by decide) d_method_7_83 (fun _ _ _ _ => ⟨by rw [e1]; rfl, rfl⟩)
                · replace u3 : ¬ ((bi (M1 q1 rl na (sa + 3))) = 0) := u3
                  have v3 := bi_1 u3
                  refine Go.iconst K (v := 1) d_method_7_78 rfl (pc' := 79) rfl ?_
                  refine Go.goto K d_method_7_79 (pc' := 83) (by decide) (by decide) ?_
                  have e1 : M2 q0 q1 rl na sa = true := by simp [M2, hq, v0, g1, v1, g2, v2, g3, v3]
                  exact Go.retN K (by simp) (by decide) (by decide) d_method_7_83 (fun _ _ _ _ => ⟨by rw [e1]; rfl, rfl⟩)
theorem ef_m_m3 (m : MethodId) (q0 : Int32) (q1 : Int32) (q2 : Int32) (ra : Addr) (x : Int32) (y : Int32) : entryFrame m #[(.int q0), (.int q1), (.int q2), (.ref ra), (.int x), (.int y)] 6 = mkF m 0 #[.val (.int q0), .val (.int q1), .val (.int q2), .val (.ref ra), .val (.int x), .val (.int y)] [] := by first | (simp [entryFrame, mkF, argsToLocals, Value.category]; done) | rfl
theorem d_method_8_0 : decode method_8_code 0 = .ok (.iload_n 0, 1) := by decide +kernel
theorem d_method_8_1 : decode method_8_code 1 = .ok (.ifCond .ne 94, 3) := by decide +kernel
theorem d_method_8_4 : decode method_8_code 4 = .ok (.iload_n 1, 1) := by decide +kernel
theorem d_method_8_5 : decode method_8_code 5 = .ok (.iload_n 2, 1) := by decide +kernel
theorem d_method_8_6 : decode method_8_code 6 = .ok (.aload_n 3, 1) := by decide +kernel
theorem d_method_8_7 : decode method_8_code 7 = .ok (.iload 4, 2) := by decide +kernel
theorem d_method_8_9 : decode method_8_code 9 = .ok (.iload 5, 2) := by decide +kernel
theorem d_method_8_11 : decode method_8_code 11 = .ok (.invokestatic 29, 3) := by decide +kernel
theorem pd__28II_5bIII_29Z : parseMethodDescriptor "(II[III)Z" = some ⟨[.int, .int, (.array .int), .int, .int], some .boolean⟩ := by decide +kernel
theorem d_method_8_14 : decode method_8_code 14 = .ok (.ifCond .ne 75, 3) := by decide +kernel
theorem d_method_8_89 : decode method_8_code 89 = .ok (.iconst 1, 1) := by decide +kernel
theorem d_method_8_90 : decode method_8_code 90 = .ok (.goto 4, 3) := by decide +kernel
theorem d_method_8_94 : decode method_8_code 94 = .ok (.ireturn, 1) := by decide +kernel
theorem d_method_8_17 : decode method_8_code 17 = .ok (.iload 5, 2) := by decide +kernel
theorem d_method_8_19 : decode method_8_code 19 = .ok (.iconst 1, 1) := by decide +kernel
theorem d_method_8_20 : decode method_8_code 20 = .ok (.iadd, 1) := by decide +kernel
theorem d_method_8_21 : decode method_8_code 21 = .ok (.iload 4, 2) := by decide +kernel
theorem d_method_8_23 : decode method_8_code 23 = .ok (.if_icmp .gt 18, 3) := by decide +kernel
theorem d_method_8_41 : decode method_8_code 41 = .ok (.iload 5, 2) := by decide +kernel
theorem d_method_8_43 : decode method_8_code 43 = .ok (.iconst 2, 1) := by decide +kernel
theorem d_method_8_44 : decode method_8_code 44 = .ok (.iadd, 1) := by decide +kernel
theorem d_method_8_45 : decode method_8_code 45 = .ok (.iload 4, 2) := by decide +kernel
theorem d_method_8_47 : decode method_8_code 47 = .ok (.if_icmp .gt 18, 3) := by decide +kernel
theorem d_method_8_65 : decode method_8_code 65 = .ok (.iload 5, 2) := by decide +kernel
theorem d_method_8_67 : decode method_8_code 67 = .ok (.iconst 3, 1) := by decide +kernel
theorem d_method_8_68 : decode method_8_code 68 = .ok (.iadd, 1) := by decide +kernel
theorem d_method_8_69 : decode method_8_code 69 = .ok (.iload 4, 2) := by decide +kernel
theorem d_method_8_71 : decode method_8_code 71 = .ok (.if_icmp .gt 22, 3) := by decide +kernel
theorem d_method_8_93 : decode method_8_code 93 = .ok (.iconst 0, 1) := by decide +kernel
theorem d_method_8_74 : decode method_8_code 74 = .ok (.iload_n 1, 1) := by decide +kernel
theorem d_method_8_75 : decode method_8_code 75 = .ok (.iload_n 2, 1) := by decide +kernel
theorem d_method_8_76 : decode method_8_code 76 = .ok (.aload_n 3, 1) := by decide +kernel
theorem d_method_8_77 : decode method_8_code 77 = .ok (.iload 4, 2) := by decide +kernel
theorem d_method_8_79 : decode method_8_code 79 = .ok (.iload 5, 2) := by decide +kernel
theorem d_method_8_81 : decode method_8_code 81 = .ok (.iconst 3, 1) := by decide +kernel
theorem d_method_8_82 : decode method_8_code 82 = .ok (.iadd, 1) := by decide +kernel
theorem d_method_8_83 : decode method_8_code 83 = .ok (.invokestatic 29, 3) := by decide +kernel
theorem d_method_8_86 : decode method_8_code 86 = .ok (.ifCond .eq 7, 3) := by decide +kernel
theorem d_method_8_50 : decode method_8_code 50 = .ok (.iload_n 1, 1) := by decide +kernel
theorem d_method_8_51 : decode method_8_code 51 = .ok (.iload_n 2, 1) := by decide +kernel
theorem d_method_8_52 : decode method_8_code 52 = .ok (.aload_n 3, 1) := by decide +kernel
theorem d_method_8_53 : decode method_8_code 53 = .ok (.iload 4, 2) := by decide +kernel
theorem d_method_8_55 : decode method_8_code 55 = .ok (.iload 5, 2) := by decide +kernel
theorem d_method_8_57 : decode method_8_code 57 = .ok (.iconst 2, 1) := by decide +kernel
theorem d_method_8_58 : decode method_8_code 58 = .ok (.iadd, 1) := by decide +kernel
theorem d_method_8_59 : decode method_8_code 59 = .ok (.invokestatic 29, 3) := by decide +kernel
theorem d_method_8_62 : decode method_8_code 62 = .ok (.ifCond .ne 27, 3) := by decide +kernel
theorem d_method_8_26 : decode method_8_code 26 = .ok (.iload_n 1, 1) := by decide +kernel
theorem d_method_8_27 : decode method_8_code 27 = .ok (.iload_n 2, 1) := by decide +kernel
theorem d_method_8_28 : decode method_8_code 28 = .ok (.aload_n 3, 1) := by decide +kernel
theorem d_method_8_29 : decode method_8_code 29 = .ok (.iload 4, 2) := by decide +kernel
theorem d_method_8_31 : decode method_8_code 31 = .ok (.iload 5, 2) := by decide +kernel
theorem d_method_8_33 : decode method_8_code 33 = .ok (.iconst 1, 1) := by decide +kernel
theorem d_method_8_34 : decode method_8_code 34 = .ok (.iadd, 1) := by decide +kernel
theorem d_method_8_35 : decode method_8_code 35 = .ok (.invokestatic 29, 3) := by decide +kernel
theorem d_method_8_38 : decode method_8_code 38 = .ok (.ifCond .ne 51, 3) := by decide +kernel
theorem d_method_8_95 : decode method_8_code 95 = .ok (.iload 5, 2) := by decide +kernel
theorem d_method_8_97 : decode method_8_code 97 = .ok (.iload 4, 2) := by decide +kernel
theorem d_method_8_99 : decode method_8_code 99 = .ok (.if_icmp .ge 33, 3) := by decide +kernel
theorem d_method_8_132 : decode method_8_code 132 = .ok (.iconst 0, 1) := by decide +kernel
theorem d_method_8_133 : decode method_8_code 133 = .ok (.ireturn, 1) := by decide +kernel
theorem d_method_8_102 : decode method_8_code 102 = .ok (.iload_n 0, 1) := by decide +kernel
theorem d_method_8_103 : decode method_8_code 103 = .ok (.aload_n 3, 1) := by decide +kernel
theorem d_method_8_104 : decode method_8_code 104 = .ok (.iload 5, 2) := by decide +kernel
theorem d_method_8_106 : decode method_8_code 106 = .ok (.iaload, 1) := by decide +kernel
theorem d_method_8_107 : decode method_8_code 107 = .ok (.invokestatic 50, 3) := by decide +kernel
theorem d_method_8_110 : decode method_8_code 110 = .ok (.ifCond .eq 22, 3) := by decide +kernel
theorem d_method_8_113 : decode method_8_code 113 = .ok (.iload_n 1, 1) := by decide +kernel
theorem d_method_8_114 : decode method_8_code 114 = .ok (.iload_n 2, 1) := by decide +kernel
theorem d_method_8_115 : decode method_8_code 115 = .ok (.aload_n 3, 1) := by decide +kernel
theorem d_method_8_116 : decode method_8_code 116 = .ok (.iload 4, 2) := by decide +kernel
theorem d_method_8_118 : decode method_8_code 118 = .ok (.iload 5, 2) := by decide +kernel
theorem d_method_8_120 : decode method_8_code 120 = .ok (.iconst 1, 1) := by decide +kernel
theorem d_method_8_121 : decode method_8_code 121 = .ok (.iadd, 1) := by decide +kernel
theorem d_method_8_122 : decode method_8_code 122 = .ok (.invokestatic 29, 3) := by decide +kernel
theorem d_method_8_125 : decode method_8_code 125 = .ok (.ifCond .eq 7, 3) := by decide +kernel
theorem d_method_8_128 : decode method_8_code 128 = .ok (.iconst 1, 1) := by decide +kernel
theorem d_method_8_129 : decode method_8_code 129 = .ok (.goto 4, 3) := by decide +kernel
set_option maxRecDepth 65536 in
set_option maxHeartbeats 40000000 in
theorem m_m3 (l : Launch) (Z : State) (a0 : Array Value) (hw : ∀ d ∈ tables_1, d.before a0 Z = true) (h0 : Heap) (n0 : Nat) (Z0 : n0 ≤ h0.size) (q0 q1 q2 : Int32) (ra : Addr) (kr : ClassId) (rl : List Int32) (hrl : rl.length = 3) (V_ra : Arv Z h0 ra kr .int (3 : Int32) (rl.map Value.int) (.int 0)) (x y : Int32) (na sa : Nat) (hx : x = Int32.ofNat na) (hy : y = Int32.ofNat sa) (hna : na ≤ 3) (hsa : sa ≤ 3) :
    Met l Z [] (⟨"com/example/intackt/intackt/vhost/ExchangeTypeKeyMatchesPinLaw", "m3", "(III[III)Z"⟩ : MethodName) method_8_code 6 (some .boolean) ({ frames := 3, cells := 0, slots := 0, locals := 54 } : Room) #[(.int q0), (.int q1), (.int q2), (.ref ra), (.int x), (.int y)] h0 n0 (fun v h => v = some (.int (bi (M3 q0 q1 q2 rl na sa))) ∧ h0 = h) := by
  refine Met.of (plainFor_of_name pn_com_example_intackt_intackt_vhost_ExchangeTypeKeyMatchesPinLaw) ?_
  intro p e s m below meth c F K
  subst hx hy
  refine Go.cast (ef_m_m3 m q0 q1 q2 ra _ _) ?_
  refine Go.iloadN K d_method_8_0 rfl (pc' := 1) rfl ?_
  refine Go.ifc K d_method_8_1 (by decide) (pcT := 95) (pcF := 4) (by decide) rfl (fun h1 => ?_) (fun h1 => ?_)
  · replace h1 : ¬ q0 = 0 := h1
    refine Go.iload K d_method_8_95 rfl (pc' := 97) rfl ?_
    refine Go.iload K d_method_8_97 rfl (pc' := 99) rfl ?_
    refine Go.icmp K d_method_8_99 (by decide) (pcT := 132) (pcF := 102) (by decide) rfl (fun h2 => ?_) (fun h2 => ?_)
    · replace h2 : ¬ (Int32.ofNat sa) < (Int32.ofNat na) := h2
      have g := mt (own_lt4 hna hsa).mpr h2
      refine Go.iconst K (v := 0) d_method_8_132 rfl (pc' := 133) rfl ?_
      have e1 : M3 q0 q1 q2 rl na sa = false := by simp [M3, h1, g]
      exact Go.retN K (by simp) (by decide) (by decide) d_method_8_133 (fun _ _ _ _ => ⟨by rw [e1]; rfl, rfl⟩)
    · replace h2 : ¬ (¬ (Int32.ofNat sa) < (Int32.ofNat na)) := h2
      have g := (own_lt4 hna hsa).mp (Decidable.not_not.mp h2)
      refine Go.iloadN K d_method_8_102 rfl (pc' := 103) rfl ?_
      refine Go.aloadN K d_method_8_103 rfl rfl (pc' := 104) rfl ?_
      refine Go.iload K d_method_8_104 rfl (pc' := 106) rfl ?_
      refine Go.iaload K (v := (.int (rl.getD sa 0))) V_ra (own_in (n := 3) (by decide) (by omega)) (own_at (by omega) (by omega)) d_method_8_106 (pc' := 107) rfl ?_
      refine Go.callS K (y := (⟨"com/example/intackt/intackt/vhost/ExchangeTypeKeyMatchesPinLaw", "single", "(II)Z"⟩ : MethodName)) (W := 0) (kc := 0) (nc := 0) (mvT K.cz (hw _ (List.mem_of_getElem? (i := 70) rfl))) (mvT K.cz (hw _ (List.mem_of_getElem? (i := 71) rfl))) (mvT K.cz (hw _ (List.mem_of_getElem? (i := 6) rfl))) (mvT K.cz (hw _ (List.mem_of_getElem? (i := 72) rfl))) (by decide) ((m_si l Z a0 hw h0 n0 Z0 q0 (rl.getD sa 0)).pays (W := 0) K.cz (hw _ (List.mem_of_getElem? (i := 72) rfl)) (hw _ (List.mem_of_getElem? (i := 6) rfl)) (by decide) (by decide)) rfl (argsL := [(.int q0), (.int (rl.getD sa 0))]) (rest := []) (lenOf pd__28II_29Z rfl) rfl (Nat.le_of_ble_eq_true rfl) (by decide) (by decide) frOf grOf d_method_8_107 (pc' := 110) rfl ?_
      rintro v60 h58 Lc59 ⟨⟨⟨rfl, eh⟩, -⟩, -⟩
      obtain rfl := eh
      show Go p l e _ _ m _ below meth c _ _ _ _ h0 _ _ (mkF m 110 #[.val (.int q0), .val (.int q1), .val (.int q2), .val (.ref ra), .val (.int (Int32.ofNat na)), .val (.int (Int32.ofNat sa))] [(.int (bi (sg q0 (rl.getD sa 0))))])
      refine Go.ifc K d_method_8_110 (by decide) (pcT := 132) (pcF := 113) (by decide) rfl (fun h3 => ?_) (fun h3 => ?_)
      · replace h3 : (bi (sg q0 (rl.getD sa 0))) = 0 := h3
        have u := bi_0 h3
        refine Go.iconst K (v := 0) d_method_8_132 rfl (pc' := 133) rfl ?_
        have e1 : M3 q0 q1 q2 rl na sa = false := by simp [M3, h1, u, -List.getD_eq_getElem?_getD]
        exact Go.retN K (by simp) (by decide) (by decide) d_method_8_133 (fun _ _ _ _ => ⟨by rw [e1]; rfl, rfl⟩)
      · replace h3 : ¬ ((bi (sg q0 (rl.getD sa 0))) = 0) := h3
        have u := bi_1 h3
        refine Go.iloadN K d_method_8_113 rfl (pc' := 114) rfl ?_
        refine Go.iloadN K d_method_8_114 rfl (pc' := 115) rfl ?_
        refine Go.aloadN K d_method_8_115 rfl rfl (pc' := 116) rfl ?_
        refine Go.iload K d_method_8_116 rfl (pc' := 118) rfl ?_
        refine Go.iload K d_method_8_118 rfl (pc' := 120) rfl ?_
        refine Go.iconst K (v := 1) d_method_8_120 rfl (pc' := 121) rfl ?_
        refine Go.iadd K d_method_8_121 (pc' := 122) rfl ?_
        refine Go.callS K (y := (⟨"com/example/intackt/intackt/vhost/ExchangeTypeKeyMatchesPinLaw", "m2", "(II[III)Z"⟩ : MethodName)) (W := 0) (kc := 0) (nc := 0) (mvT K.cz (hw _ (List.mem_of_getElem? (i := 88) rfl))) (mvT K.cz (hw _ (List.mem_of_getElem? (i := 89) rfl))) (mvT K.cz (hw _ (List.mem_of_getElem? (i := 6) rfl))) (mvT K.cz (hw _ (List.mem_of_getElem? (i := 90) rfl))) (by decide) ((m_m2 l Z a0 hw h0 n0 Z0 q1 q2 ra kr rl hrl V_ra _ _ na (sa + 1) rfl (own_plus 1) hna (by omega)).pays (W := 0) K.cz (hw _ (List.mem_of_getElem? (i := 90) rfl)) (hw _ (List.mem_of_getElem? (i := 6) rfl)) (by decide) (by decide)) rfl (argsL := [(.int q1), (.int q2), (.ref ra), (.int (Int32.ofNat na)), (.int ((Int32.ofNat sa) + (1 : Int32)))]) (rest := []) (lenOf pd__28II_5bIII_29Z rfl) rfl (Nat.le_of_ble_eq_true rfl) (by decide) (by decide) frOf grOf d_method_8_122 (pc' := 125) rfl ?_
        rintro v63 h61 Lc62 ⟨⟨⟨rfl, eh⟩, -⟩, -⟩
        obtain rfl := eh
        show Go p l e _ _ m _ below meth c _ _ _ _ h0 _ _ (mkF m 125 #[.val (.int q0), .val (.int q1), .val (.int q2), .val (.ref ra), .val (.int (Int32.ofNat na)), .val (.int (Int32.ofNat sa))] [(.int (bi (M2 q1 q2 rl na (sa + 1))))])
        refine Go.ifc K d_method_8_125 (by decide) (pcT := 132) (pcF := 128) (by decide) rfl (fun h4 => ?_) (fun h4 => ?_)
        · replace h4 : (bi (M2 q1 q2 rl na (sa + 1))) = 0 := h4
          have v := bi_0 h4
          refine Go.iconst K (v := 0) d_method_8_132 rfl (pc' := 133) rfl ?_
          have e1 : M3 q0 q1 q2 rl na sa = false := by simp [M3, h1, v]
          exact Go.retN K (by simp) (by decide) (by decide) d_method_8_133 (fun _ _ _ _ => ⟨by rw [e1]; rfl, rfl⟩)
        · replace h4 : ¬ ((bi (M2 q1 q2 rl na (sa + 1))) = 0) := h4
          have v := bi_1 h4
          refine Go.iconst K (v := 1) d_method_8_128 rfl (pc' := 129) rfl ?_
          refine Go.goto K d_method_8_129 (pc' := 133) (by decide) (by decide) ?_
          have e1 : M3 q0 q1 q2 rl na sa = true := by simp [M3, h1, g, u, v, -List.getD_eq_getElem?_getD]
          exact Go.retN K (by simp) (by decide) (by decide) d_method_8_133 (fun _ _ _ _ => ⟨by rw [e1]; rfl, rfl⟩)
  · replace h1 : ¬ (¬ q0 = 0) := h1
    have hq := Decidable.not_not.mp h1
    refine Go.iloadN K d_method_8_4 rfl (pc' := 5) rfl ?_
    refine Go.iloadN K d_method_8_5 rfl (pc' := 6) rfl ?_
    refine Go.aloadN K d_method_8_6 rfl rfl (pc' := 7) rfl ?_
    refine Go.iload K d_method_8_7 rfl (pc' := 9) rfl ?_
    refine Go.iload K d_method_8_9 rfl (pc' := 11) rfl ?_
    refine Go.callS K (y := (⟨"com/example/intackt/intackt/vhost/ExchangeTypeKeyMatchesPinLaw", "m2", "(II[III)Z"⟩ : MethodName)) (W := 0) (kc := 0) (nc := 0) (mvT K.cz (hw _ (List.mem_of_getElem? (i := 88) rfl))) (mvT K.cz (hw _ (List.mem_of_getElem? (i := 89) rfl))) (mvT K.cz (hw _ (List.mem_of_getElem? (i := 6) rfl))) (mvT K.cz (hw _ (List.mem_of_getElem? (i := 90) rfl))) (by decide) ((m_m2 l Z a0 hw h0 n0 Z0 q1 q2 ra kr rl hrl V_ra _ _ na sa rfl rfl hna hsa).pays (W := 0) K.cz (hw _ (List.mem_of_getElem? (i := 90) rfl)) (hw _ (List.mem_of_getElem? (i := 6) rfl)) (by decide) (by decide)) rfl (argsL := [(.int q1), (.int q2), (.ref ra), (.int (Int32.ofNat na)), (.int (Int32.ofNat sa))]) (rest := []) (lenOf pd__28II_5bIII_29Z rfl) rfl (Nat.le_of_ble_eq_true rfl) (by decide) (by decide) frOf grOf d_method_8_11 (pc' := 14) rfl ?_
    rintro v36 h34 Lc35 ⟨⟨⟨rfl, eh⟩, -⟩, -⟩
    obtain rfl := eh
    show Go p l e _ _ m _ below meth c _ _ _ _ h0 _ _ (mkF m 14 #[.val (.int q0), .val (.int q1), .val (.int q2), .val (.ref ra), .val (.int (Int32.ofNat na)), .val (.int (Int32.ofNat sa))] [(.int (bi (M2 q1 q2 rl na sa)))])
    refine Go.ifc K d_method_8_14 (by decide) (pcT := 89) (pcF := 17) (by decide) rfl (fun u0 => ?_) (fun u0 => ?_)
    · replace u0 : ¬ (bi (M2 q1 q2 rl na sa)) = 0 := u0
      have v0 := bi_1 u0
      refine Go.iconst K (v := 1) d_method_8_89 rfl (pc' := 90) rfl ?_
      refine Go.goto K d_method_8_90 (pc' := 94) (by decide) (by decide) ?_
      have e1 : M3 q0 q1 q2 rl na sa = true := by simp [M3, hq, v0]
      exact Go.retN K (by simp) (by decide) (by decide) d_method_8_94 (fun _ _ _ _ => ⟨by rw [e1]; rfl, rfl⟩)
    · replace u0 : ¬ (¬ (bi (M2 q1 q2 rl na sa)) = 0) := u0
      have v0 := bi_0 (Decidable.not_not.mp u0)
      refine Go.iload K d_method_8_17 rfl (pc' := 19) rfl ?_
      refine Go.iconst K (v := 1) d_method_8_19 rfl (pc' := 20) rfl ?_
      refine Go.iadd K d_method_8_20 (pc' := 21) rfl ?_
      refine Go.iload K d_method_8_21 rfl (pc' := 23) rfl ?_
      refine Go.icmp K d_method_8_23 (by decide) (pcT := 41) (pcF := 26) (by decide) rfl (fun g1 => ?_) (fun g1 => ?_)
      · replace g1 : (Int32.ofNat na) < ((Int32.ofNat sa) + (1 : Int32)) := g1
        replace g1 : ¬ sa + 1 ≤ na := by have := (own_gt1 hna hsa).mp g1; omega
        refine Go.iload K d_method_8_41 rfl (pc' := 43) rfl ?_
        refine Go.iconst K (v := 2) d_method_8_43 rfl (pc' := 44) rfl ?_
        refine Go.iadd K d_method_8_44 (pc' := 45) rfl ?_
        refine Go.iload K d_method_8_45 rfl (pc' := 47) rfl ?_
        refine Go.icmp K d_method_8_47 (by decide) (pcT := 65) (pcF := 50) (by decide) rfl (fun g2 => ?_) (fun g2 => ?_)
        · replace g2 : (Int32.ofNat na) < ((Int32.ofNat sa) + (2 : Int32)) := g2
          replace g2 : ¬ sa + 2 ≤ na := by have := (own_gt2 hna hsa).mp g2; omega
          refine Go.iload K d_method_8_65 rfl (pc' := 67) rfl ?_
          refine Go.iconst K (v := 3) d_method_8_67 rfl (pc' := 68) rfl ?_
          refine Go.iadd K d_method_8_68 (pc' := 69) rfl ?_
          refine Go.iload K d_method_8_69 rfl (pc' := 71) rfl ?_
          refine Go.icmp K d_method_8_71 (by decide) (pcT := 93) (pcF := 74) (by decide) rfl (fun g3 => ?_) (fun g3 => ?_)
          · replace g3 : (Int32.ofNat na) < ((Int32.ofNat sa) + (3 : Int32)) := g3
            replace g3 : ¬ sa + 3 ≤ na := by have := (own_gt3 hna hsa).mp g3; omega
            refine Go.iconst K (v := 0) d_method_8_93 rfl (pc' := 94) rfl ?_
            have e1 : M3 q0 q1 q2 rl na sa = false := by simp [M3, hq, v0, g1, g2, g3]
            exact Go.retN K (by simp) (by decide) (by decide) d_method_8_94 (fun _ _ _ _ => ⟨by rw [e1]; rfl, rfl⟩)
          · replace g3 : ¬ ((Int32.ofNat na) < ((Int32.ofNat sa) + (3 : Int32))) := g3
            replace g3 : sa + 3 ≤ na := by have := mt (own_gt3 hna hsa).mpr g3; omega
            refine Go.iloadN K d_method_8_74 rfl (pc' := 75) rfl ?_
            refine Go.iloadN K d_method_8_75 rfl (pc' := 76) rfl ?_
            refine Go.aloadN K d_method_8_76 rfl rfl (pc' := 77) rfl ?_
            refine Go.iload K d_method_8_77 rfl (pc' := 79) rfl ?_
            refine Go.iload K d_method_8_79 rfl (pc' := 81) rfl ?_
            refine Go.iconst K (v := 3) d_method_8_81 rfl (pc' := 82) rfl ?_
            refine Go.iadd K d_method_8_82 (pc' := 83) rfl ?_
            refine Go.callS K (y := (⟨"com/example/intackt/intackt/vhost/ExchangeTypeKeyMatchesPinLaw", "m2", "(II[III)Z"⟩ : MethodName)) (W := 0) (kc := 0) (nc := 0) (mvT K.cz (hw _ (List.mem_of_getElem? (i := 88) rfl))) (mvT K.cz (hw _ (List.mem_of_getElem? (i := 89) rfl))) (mvT K.cz (hw _ (List.mem_of_getElem? (i := 6) rfl))) (mvT K.cz (hw _ (List.mem_of_getElem? (i := 90) rfl))) (by decide) ((m_m2 l Z a0 hw h0 n0 Z0 q1 q2 ra kr rl hrl V_ra _ _ na (sa + 3) rfl (own_plus 3) hna (by omega)).pays (W := 0) K.cz (hw _ (List.mem_of_getElem? (i := 90) rfl)) (hw _ (List.mem_of_getElem? (i := 6) rfl)) (by decide) (by decide)) rfl (argsL := [(.int q1), (.int q2), (.ref ra), (.int (Int32.ofNat na)), (.int ((Int32.ofNat sa) + (3 : Int32)))]) (rest := []) (lenOf pd__28II_5bIII_29Z rfl) rfl (Nat.le_of_ble_eq_true rfl) (by decide) (by decide) frOf grOf d_method_8_83 (pc' := 86) rfl ?_
            rintro v39 h37 Lc38 ⟨⟨⟨rfl, eh⟩, -⟩, -⟩
            obtain rfl := eh
            show Go p l e _ _ m _ below meth c _ _ _ _ h0 _ _ (mkF m 86 #[.val (.int q0), .val (.int q1), .val (.int q2), .val (.ref ra), .val (.int (Int32.ofNat na)), .val (.int (Int32.ofNat sa))] [(.int (bi (M2 q1 q2 rl na (sa + 3))))])
            refine Go.ifc K d_method_8_86 (by decide) (pcT := 93) (pcF := 89) (by decide) rfl (fun u3 => ?_) (fun u3 => ?_)
            · replace u3 : (bi (M2 q1 q2 rl na (sa + 3))) = 0 := u3
              have v3 := bi_0 u3
              refine Go.iconst K (v := 0) d_method_8_93 rfl (pc' := 94) rfl ?_
              have e1 : M3 q0 q1 q2 rl na sa = false := by simp [M3, hq, v0, g1, g2, g3, v3]
              exact Go.retN K (by simp) (by decide) (by decide) d_method_8_94 (fun _ _ _ _ => ⟨by rw [e1]; rfl, rfl⟩)
            · replace u3 : ¬ ((bi (M2 q1 q2 rl na (sa + 3))) = 0) := u3
              have v3 := bi_1 u3
              refine Go.iconst K (v := 1) d_method_8_89 rfl (pc' := 90) rfl ?_
              refine Go.goto K d_method_8_90 (pc' := 94) (by decide) (by decide) ?_
              have e1 : M3 q0 q1 q2 rl na sa = true := by simp [M3, hq, v0, g1, g2, g3, v3]
              exact Go.retN K (by simp) (by decide) (by decide) d_method_8_94 (fun _ _ _ _ => ⟨by rw [e1]; rfl, rfl⟩)
        · replace g2 : ¬ ((Int32.ofNat na) < ((Int32.ofNat sa) + (2 : Int32))) := g2
          replace g2 : sa + 2 ≤ na := by have := mt (own_gt2 hna hsa).mpr g2; omega
          refine Go.iloadN K d_method_8_50 rfl (pc' := 51) rfl ?_
          refine Go.iloadN K d_method_8_51 rfl (pc' := 52) rfl ?_
          refine Go.aloadN K d_method_8_52 rfl rfl (pc' := 53) rfl ?_
          refine Go.iload K d_method_8_53 rfl (pc' := 55) rfl ?_
          refine Go.iload K d_method_8_55 rfl (pc' := 57) rfl ?_
          refine Go.iconst K (v := 2) d_method_8_57 rfl (pc' := 58) rfl ?_
          refine Go.iadd K d_method_8_58 (pc' := 59) rfl ?_
          refine Go.callS K (y := (⟨"com/example/intackt/intackt/vhost/ExchangeTypeKeyMatchesPinLaw", "m2", "(II[III)Z"⟩ : MethodName)) (W := 0) (kc := 0) (nc := 0) (mvT K.cz (hw _ (List.mem_of_getElem? (i := 88) rfl))) (mvT K.cz (hw _ (List.mem_of_getElem? (i := 89) rfl))) (mvT K.cz (hw _ (List.mem_of_getElem? (i := 6) rfl))) (mvT K.cz (hw _ (List.mem_of_getElem? (i := 90) rfl))) (by decide) ((m_m2 l Z a0 hw h0 n0 Z0 q1 q2 ra kr rl hrl V_ra _ _ na (sa + 2) rfl (own_plus 2) hna (by omega)).pays (W := 0) K.cz (hw _ (List.mem_of_getElem? (i := 90) rfl)) (hw _ (List.mem_of_getElem? (i := 6) rfl)) (by decide) (by decide)) rfl (argsL := [(.int q1), (.int q2), (.ref ra), (.int (Int32.ofNat na)), (.int ((Int32.ofNat sa) + (2 : Int32)))]) (rest := []) (lenOf pd__28II_5bIII_29Z rfl) rfl (Nat.le_of_ble_eq_true rfl) (by decide) (by decide) frOf grOf d_method_8_59 (pc' := 62) rfl ?_
          rintro v42 h40 Lc41 ⟨⟨⟨rfl, eh⟩, -⟩, -⟩
          obtain rfl := eh
          show Go p l e _ _ m _ below meth c _ _ _ _ h0 _ _ (mkF m 62 #[.val (.int q0), .val (.int q1), .val (.int q2), .val (.ref ra), .val (.int (Int32.ofNat na)), .val (.int (Int32.ofNat sa))] [(.int (bi (M2 q1 q2 rl na (sa + 2))))])
          refine Go.ifc K d_method_8_62 (by decide) (pcT := 89) (pcF := 65) (by decide) rfl (fun u2 => ?_) (fun u2 => ?_)
          · replace u2 : ¬ (bi (M2 q1 q2 rl na (sa + 2))) = 0 := u2
            have v2 := bi_1 u2
            refine Go.iconst K (v := 1) d_method_8_89 rfl (pc' := 90) rfl ?_
            refine Go.goto K d_method_8_90 (pc' := 94) (by decide) (by decide) ?_
            have e1 : M3 q0 q1 q2 rl na sa = true := by simp [M3, hq, v0, g1, g2, v2]
            exact Go.retN K (by simp) (by decide) (by decide) d_method_8_94 (fun _ _ _ _ => ⟨by rw [e1]; rfl, rfl⟩)
          · replace u2 : ¬ (¬ (bi (M2 q1 q2 rl na (sa + 2))) = 0) := u2
            have v2 := bi_0 (Decidable.not_not.mp u2)
            refine Go.iload K d_method_8_65 rfl (pc' := 67) rfl ?_
            refine Go.iconst K (v := 3) d_method_8_67 rfl (pc' := 68) rfl ?_
            refine Go.iadd K d_method_8_68 (pc' := 69) rfl ?_
            refine Go.iload K d_method_8_69 rfl (pc' := 71) rfl ?_
            refine Go.icmp K d_method_8_71 (by decide) (pcT := 93) (pcF := 74) (by decide) rfl (fun g3 => ?_) (fun g3 => ?_)
            · replace g3 : (Int32.ofNat na) < ((Int32.ofNat sa) + (3 : Int32)) := g3
              replace g3 : ¬ sa + 3 ≤ na := by have := (own_gt3 hna hsa).mp g3; omega
              refine Go.iconst K (v := 0) d_method_8_93 rfl (pc' := 94) rfl ?_
              have e1 : M3 q0 q1 q2 rl na sa = false := by simp [M3, hq, v0, g1, g2, v2, g3]
              exact Go.retN K (by simp) (by decide) (by decide) d_method_8_94 (fun _ _ _ _ => ⟨by rw [e1]; rfl, rfl⟩)
            · replace g3 : ¬ ((Int32.ofNat na) < ((Int32.ofNat sa) + (3 : Int32))) := g3
              replace g3 : sa + 3 ≤ na := by have := mt (own_gt3 hna hsa).mpr g3; omega
              refine Go.iloadN K d_method_8_74 rfl (pc' := 75) rfl ?_
              refine Go.iloadN K d_method_8_75 rfl (pc' := 76) rfl ?_
              refine Go.aloadN K d_method_8_76 rfl rfl (pc' := 77) rfl ?_
              refine Go.iload K d_method_8_77 rfl (pc' := 79) rfl ?_
              refine Go.iload K d_method_8_79 rfl (pc' := 81) rfl ?_
              refine Go.iconst K (v := 3) d_method_8_81 rfl (pc' := 82) rfl ?_
              refine Go.iadd K d_method_8_82 (pc' := 83) rfl ?_
              refine Go.callS K (y := (⟨"com/example/intackt/intackt/vhost/ExchangeTypeKeyMatchesPinLaw", "m2", "(II[III)Z"⟩ : MethodName)) (W := 0) (kc := 0) (nc := 0) (mvT K.cz (hw _ (List.mem_of_getElem? (i := 88) rfl))) (mvT K.cz (hw _ (List.mem_of_getElem? (i := 89) rfl))) (mvT K.cz (hw _ (List.mem_of_getElem? (i := 6) rfl))) (mvT K.cz (hw _ (List.mem_of_getElem? (i := 90) rfl))) (by decide) ((m_m2 l Z a0 hw h0 n0 Z0 q1 q2 ra kr rl hrl V_ra _ _ na (sa + 3) rfl (own_plus 3) hna (by omega)).pays (W := 0) K.cz (hw _ (List.mem_of_getElem? (i := 90) rfl)) (hw _ (List.mem_of_getElem? (i := 6) rfl)) (by decide) (by decide)) rfl (argsL := [(.int q1), (.int q2), (.ref ra), (.int (Int32.ofNat na)), (.int ((Int32.ofNat sa) + (3 : Int32)))]) (rest := []) (lenOf pd__28II_5bIII_29Z rfl) rfl (Nat.le_of_ble_eq_true rfl) (by decide) (by decide) frOf grOf d_method_8_83 (pc' := 86) rfl ?_
              rintro v45 h43 Lc44 ⟨⟨⟨rfl, eh⟩, -⟩, -⟩
              obtain rfl := eh
              show Go p l e _ _ m _ below meth c _ _ _ _ h0 _ _ (mkF m 86 #[.val (.int q0), .val (.int q1), .val (.int q2), .val (.ref ra), .val (.int (Int32.ofNat na)), .val (.int (Int32.ofNat sa))] [(.int (bi (M2 q1 q2 rl na (sa + 3))))])
              refine Go.ifc K d_method_8_86 (by decide) (pcT := 93) (pcF := 89) (by decide) rfl (fun u3 => ?_) (fun u3 => ?_)
              · replace u3 : (bi (M2 q1 q2 rl na (sa + 3))) = 0 := u3
                have v3 := bi_0 u3
                refine Go.iconst K (v := 0) d_method_8_93 rfl (pc' := 94) rfl ?_
                have e1 : M3 q0 q1 q2 rl na sa = false := by simp [M3, hq, v0, g1, g2, v2, g3, v3]
                exact Go.retN K (by simp) (by decide) (by decide) d_method_8_94 (fun _ _ _ _ => ⟨by rw [e1]; rfl, rfl⟩)
              · replace u3 : ¬ ((bi (M2 q1 q2 rl na (sa + 3))) = 0) := u3
                have v3 := bi_1 u3
                refine Go.iconst K (v := 1) d_method_8_89 rfl (pc' := 90) rfl ?_
                refine Go.goto K d_method_8_90 (pc' := 94) (by decide) (by decide) ?_
                have e1 : M3 q0 q1 q2 rl na sa = true := by simp [M3, hq, v0, g1, g2, v2, g3, v3]
                exact Go.retN K (by simp) (by decide) (by decide) d_method_8_94 (fun _ _ _ _ => ⟨by rw [e1]; rfl, rfl⟩)
      · replace g1 : ¬ ((Int32.ofNat na) < ((Int32.ofNat sa) + (1 : Int32))) := g1
        replace g1 : sa + 1 ≤ na := by have := mt (own_gt1 hna hsa).mpr g1; omega
        refine Go.iloadN K d_method_8_26 rfl (pc' := 27) rfl ?_
        refine Go.iloadN K d_method_8_27 rfl (pc' := 28) rfl ?_
        refine Go.aloadN K d_method_8_28 rfl rfl (pc' := 29) rfl ?_
        refine Go.iload K d_method_8_29 rfl (pc' := 31) rfl ?_
        refine Go.iload K d_method_8_31 rfl (pc' := 33) rfl ?_
        refine Go.iconst K (v := 1) d_method_8_33 rfl (pc' := 34) rfl ?_
        refine Go.iadd K d_method_8_34 (pc' := 35) rfl ?_
        refine Go.callS K (y := (⟨"com/example/intackt/intackt/vhost/ExchangeTypeKeyMatchesPinLaw", "m2", "(II[III)Z"⟩ : MethodName)) (W := 0) (kc := 0) (nc := 0) (mvT K.cz (hw _ (List.mem_of_getElem? (i := 88) rfl))) (mvT K.cz (hw _ (List.mem_of_getElem? (i := 89) rfl))) (mvT K.cz (hw _ (List.mem_of_getElem? (i := 6) rfl))) (mvT K.cz (hw _ (List.mem_of_getElem? (i := 90) rfl))) (by decide) ((m_m2 l Z a0 hw h0 n0 Z0 q1 q2 ra kr rl hrl V_ra _ _ na (sa + 1) rfl (own_plus 1) hna (by omega)).pays (W := 0) K.cz (hw _ (List.mem_of_getElem? (i := 90) rfl)) (hw _ (List.mem_of_getElem? (i := 6) rfl)) (by decide) (by decide)) rfl (argsL := [(.int q1), (.int q2), (.ref ra), (.int (Int32.ofNat na)), (.int ((Int32.ofNat sa) + (1 : Int32)))]) (rest := []) (lenOf pd__28II_5bIII_29Z rfl) rfl (Nat.le_of_ble_eq_true rfl) (by decide) (by decide) frOf grOf d_method_8_35 (pc' := 38) rfl ?_
        rintro v48 h46 Lc47 ⟨⟨⟨rfl, eh⟩, -⟩, -⟩
        obtain rfl := eh
        show Go p l e _ _ m _ below meth c _ _ _ _ h0 _ _ (mkF m 38 #[.val (.int q0), .val (.int q1), .val (.int q2), .val (.ref ra), .val (.int (Int32.ofNat na)), .val (.int (Int32.ofNat sa))] [(.int (bi (M2 q1 q2 rl na (sa + 1))))])
        refine Go.ifc K d_method_8_38 (by decide) (pcT := 89) (pcF := 41) (by decide) rfl (fun u1 => ?_) (fun u1 => ?_)
        · replace u1 : ¬ (bi (M2 q1 q2 rl na (sa + 1))) = 0 := u1
          have v1 := bi_1 u1
          refine Go.iconst K (v := 1) d_method_8_89 rfl (pc' := 90) rfl ?_
          refine Go.goto K d_method_8_90 (pc' := 94) (by decide) (by decide) ?_
          have e1 : M3 q0 q1 q2 rl na sa = true := by simp [M3, hq, v0, g1, v1]
          exact Go.retN K (by simp) (by decide) (by decide) d_method_8_94 (fun _ _ _ _ => ⟨by rw [e1]; rfl, rfl⟩)
        · replace u1 : ¬ (¬ (bi (M2 q1 q2 rl na (sa + 1))) = 0) := u1
          have v1 := bi_0 (Decidable.not_not.mp u1)
          refine Go.iload K d_method_8_41 rfl (pc' := 43) rfl ?_
          refine Go.iconst K (v := 2) d_method_8_43 rfl (pc' := 44) rfl ?_
          refine Go.iadd K d_method_8_44 (pc' := 45) rfl ?_
          refine Go.iload K d_method_8_45 rfl (pc' := 47) rfl ?_
          refine Go.icmp K d_method_8_47 (by decide) (pcT := 65) (pcF := 50) (by decide) rfl (fun g2 => ?_) (fun g2 => ?_)
          · replace g2 : (Int32.ofNat na) < ((Int32.ofNat sa) + (2 : Int32)) := g2
            replace g2 : ¬ sa + 2 ≤ na := by have := (own_gt2 hna hsa).mp g2; omega
            refine Go.iload K d_method_8_65 rfl (pc' := 67) rfl ?_
            refine Go.iconst K (v := 3) d_method_8_67 rfl (pc' := 68) rfl ?_
            refine Go.iadd K d_method_8_68 (pc' := 69) rfl ?_
            refine Go.iload K d_method_8_69 rfl (pc' := 71) rfl ?_
            refine Go.icmp K d_method_8_71 (by decide) (pcT := 93) (pcF := 74) (by decide) rfl (fun g3 => ?_) (fun g3 => ?_)
            · replace g3 : (Int32.ofNat na) < ((Int32.ofNat sa) + (3 : Int32)) := g3
              replace g3 : ¬ sa + 3 ≤ na := by have := (own_gt3 hna hsa).mp g3; omega
              refine Go.iconst K (v := 0) d_method_8_93 rfl (pc' := 94) rfl ?_
              have e1 : M3 q0 q1 q2 rl na sa = false := by simp [M3, hq, v0, g1, v1, g2, g3]
              exact Go.retN K (by simp) (by decide) (by decide) d_method_8_94 (fun _ _ _ _ => ⟨by rw [e1]; rfl, rfl⟩)
            · replace g3 : ¬ ((Int32.ofNat na) < ((Int32.ofNat sa) + (3 : Int32))) := g3
              replace g3 : sa + 3 ≤ na := by have := mt (own_gt3 hna hsa).mpr g3; omega
              refine Go.iloadN K d_method_8_74 rfl (pc' := 75) rfl ?_
              refine Go.iloadN K d_method_8_75 rfl (pc' := 76) rfl ?_
              refine Go.aloadN K d_method_8_76 rfl rfl (pc' := 77) rfl ?_
              refine Go.iload K d_method_8_77 rfl (pc' := 79) rfl ?_
              refine Go.iload K d_method_8_79 rfl (pc' := 81) rfl ?_
              refine Go.iconst K (v := 3) d_method_8_81 rfl (pc' := 82) rfl ?_
              refine Go.iadd K d_method_8_82 (pc' := 83) rfl ?_
              refine Go.callS K (y := (⟨"com/example/intackt/intackt/vhost/ExchangeTypeKeyMatchesPinLaw", "m2", "(II[III)Z"⟩ : MethodName)) (W := 0) (kc := 0) (nc := 0) (mvT K.cz (hw _ (List.mem_of_getElem? (i := 88) rfl))) (mvT K.cz (hw _ (List.mem_of_getElem? (i := 89) rfl))) (mvT K.cz (hw _ (List.mem_of_getElem? (i := 6) rfl))) (mvT K.cz (hw _ (List.mem_of_getElem? (i := 90) rfl))) (by decide) ((m_m2 l Z a0 hw h0 n0 Z0 q1 q2 ra kr rl hrl V_ra _ _ na (sa + 3) rfl (own_plus 3) hna (by omega)).pays (W := 0) K.cz (hw _ (List.mem_of_getElem? (i := 90) rfl)) (hw _ (List.mem_of_getElem? (i := 6) rfl)) (by decide) (by decide)) rfl (argsL := [(.int q1), (.int q2), (.ref ra), (.int (Int32.ofNat na)), (.int ((Int32.ofNat sa) + (3 : Int32)))]) (rest := []) (lenOf pd__28II_5bIII_29Z rfl) rfl (Nat.le_of_ble_eq_true rfl) (by decide) (by decide) frOf grOf d_method_8_83 (pc' := 86) rfl ?_
              rintro v51 h49 Lc50 ⟨⟨⟨rfl, eh⟩, -⟩, -⟩
              obtain rfl := eh
              show Go p l e _ _ m _ below meth c _ _ _ _ h0 _ _ (mkF m 86 #[.val (.int q0), .val (.int q1), .val (.int q2), .val (.ref ra), .val (.int (Int32.ofNat na)), .val (.int (Int32.ofNat sa))] [(.int (bi (M2 q1 q2 rl na (sa + 3))))])
              refine Go.ifc K d_method_8_86 (by decide) (pcT := 93) (pcF := 89) (by decide) rfl (fun u3 => ?_) (fun u3 => ?_)
              · replace u3 : (bi (M2 q1 q2 rl na (sa + 3))) = 0 := u3
                have v3 := bi_0 u3
                refine Go.iconst K (v := 0) d_method_8_93 rfl (pc' := 94) rfl ?_
                have e1 : M3 q0 q1 q2 rl na sa = false := by simp [M3, hq, v0, g1, v1, g2, g3, v3]
                exact Go.retN K (by simp) (by decide) (by decide) d_method_8_94 (fun _ _ _ _ => ⟨by rw [e1]; rfl, rfl⟩)
              · replace u3 : ¬ ((bi (M2 q1 q2 rl na (sa + 3))) = 0) := u3
                have v3 := bi_1 u3
                refine Go.iconst K (v := 1) d_method_8_89 rfl (pc' := 90) rfl ?_
                refine Go.goto K d_method_8_90 (pc' := 94) (by decide) (by decide) ?_
                have e1 : M3 q0 q1 q2 rl na sa = true := by simp [M3, hq, v0, g1, v1, g2, g3, v3]
                exact Go.retN K (by simp) (by decide) (by decide) d_method_8_94 (fun _ _ _ _ => ⟨by rw [e1]; rfl, rfl⟩)
          · replace g2 : ¬ ((Int32.ofNat na) < ((Int32.ofNat sa) + (2 : Int32))) := g2
            replace g2 : sa + 2 ≤ na := by have := mt (own_gt2 hna hsa).mpr g2; omega
            refine Go.iloadN K d_method_8_50 rfl (pc' := 51) rfl ?_
            refine Go.iloadN K d_method_8_51 rfl (pc' := 52) rfl ?_
            refine Go.aloadN K d_method_8_52 rfl rfl (pc' := 53) rfl ?_
            refine Go.iload K d_method_8_53 rfl (pc' := 55) rfl ?_
            refine Go.iload K d_method_8_55 rfl (pc' := 57) rfl ?_
            refine Go.iconst K (v := 2) d_method_8_57 rfl (pc' := 58) rfl ?_
            refine Go.iadd K d_method_8_58 (pc' := 59) rfl ?_
            refine Go.callS K (y := (⟨"com/example/intackt/intackt/vhost/ExchangeTypeKeyMatchesPinLaw", "m2", "(II[III)Z"⟩ : MethodName)) (W := 0) (kc := 0) (nc := 0) (mvT K.cz (hw _ (List.mem_of_getElem? (i := 88) rfl))) (mvT K.cz (hw _ (List.mem_of_getElem? (i := 89) rfl))) (mvT K.cz (hw _ (List.mem_of_getElem? (i := 6) rfl))) (mvT K.cz (hw _ (List.mem_of_getElem? (i := 90) rfl))) (by decide) ((m_m2 l Z a0 hw h0 n0 Z0 q1 q2 ra kr rl hrl V_ra _ _ na (sa + 2) rfl (own_plus 2) hna (by omega)).pays (W := 0) K.cz (hw _ (List.mem_of_getElem? (i := 90) rfl)) (hw _ (List.mem_of_getElem? (i := 6) rfl)) (by decide) (by decide)) rfl (argsL := [(.int q1), (.int q2), (.ref ra), (.int (Int32.ofNat na)), (.int ((Int32.ofNat sa) + (2 : Int32)))]) (rest := []) (lenOf pd__28II_5bIII_29Z rfl) rfl (Nat.le_of_ble_eq_true rfl) (by decide) (by decide) frOf grOf d_method_8_59 (pc' := 62) rfl ?_
            rintro v54 h52 Lc53 ⟨⟨⟨rfl, eh⟩, -⟩, -⟩
            obtain rfl := eh
            show Go p l e _ _ m _ below meth c _ _ _ _ h0 _ _ (mkF m 62 #[.val (.int q0), .val (.int q1), .val (.int q2), .val (.ref ra), .val (.int (Int32.ofNat na)), .val (.int (Int32.ofNat sa))] [(.int (bi (M2 q1 q2 rl na (sa + 2))))])
            refine Go.ifc K d_method_8_62 (by decide) (pcT := 89) (pcF := 65) (by decide) rfl (fun u2 => ?_) (fun u2 => ?_)
            · replace u2 : ¬ (bi (M2 q1 q2 rl na (sa + 2))) = 0 := u2
              have v2 := bi_1 u2
              refine Go.iconst K (v := 1) d_method_8_89 rfl (pc' := 90) rfl ?_
              refine Go.goto K d_method_8_90 (pc' := 94) (by decide) (by decide) ?_
              have e1 : M3 q0 q1 q2 rl na sa = true := by simp [M3, hq, v0, g1, v1, g2, v2]
              exact Go.retN K (by simp) (by decide) (by decide) d_method_8_94 (fun _ _ _ _ => ⟨by rw [e1]; rfl, rfl⟩)
            · replace u2 : ¬ (¬ (bi (M2 q1 q2 rl na (sa + 2))) = 0) := u2
              have v2 := bi_0 (Decidable.not_not.mp u2)
              refine Go.iload K d_method_8_65 rfl (pc' := 67) rfl ?_
              refine Go.iconst K (v := 3) d_method_8_67 rfl (pc' := 68) rfl ?_
              refine Go.iadd K d_method_8_68 (pc' := 69) rfl ?_
              refine Go.iload K d_method_8_69 rfl (pc' := 71) rfl ?_
              refine Go.icmp K d_method_8_71 (by decide) (pcT := 93) (pcF := 74) (by decide) rfl (fun g3 => ?_) (fun g3 => ?_)
              · replace g3 : (Int32.ofNat na) < ((Int32.ofNat sa) + (3 : Int32)) := g3
                replace g3 : ¬ sa + 3 ≤ na := by have := (own_gt3 hna hsa).mp g3; omega
                refine Go.iconst K (v := 0) d_method_8_93 rfl (pc' := 94) rfl ?_
                have e1 : M3 q0 q1 q2 rl na sa = false := by simp [M3, hq, v0, g1, v1, g2, v2, g3]
                exact Go.retN K (by simp) (by decide) (by decide) d_method_8_94 (fun _ _ _ _ => ⟨by rw [e1]; rfl, rfl⟩)
              · replace g3 : ¬ ((Int32.ofNat na) < ((Int32.ofNat sa) + (3 : Int32))) := g3
                replace g3 : sa + 3 ≤ na := by have := mt (own_gt3 hna hsa).mpr g3; omega
                refine Go.iloadN K d_method_8_74 rfl (pc' := 75) rfl ?_
                refine Go.iloadN K d_method_8_75 rfl (pc' := 76) rfl ?_
                refine Go.aloadN K d_method_8_76 rfl rfl (pc' := 77) rfl ?_
                refine Go.iload K d_method_8_77 rfl (pc' := 79) rfl ?_
                refine Go.iload K d_method_8_79 rfl (pc' := 81) rfl ?_
                refine Go.iconst K (v := 3) d_method_8_81 rfl (pc' := 82) rfl ?_
                refine Go.iadd K d_method_8_82 (pc' := 83) rfl ?_
                refine Go.callS K (y := (⟨"com/example/intackt/intackt/vhost/ExchangeTypeKeyMatchesPinLaw", "m2", "(II[III)Z"⟩ : MethodName)) (W := 0) (kc := 0) (nc := 0) (mvT K.cz (hw _ (List.mem_of_getElem? (i := 88) rfl))) (mvT K.cz (hw _ (List.mem_of_getElem? (i := 89) rfl))) (mvT K.cz (hw _ (List.mem_of_getElem? (i := 6) rfl))) (mvT K.cz (hw _ (List.mem_of_getElem? (i := 90) rfl))) (by decide) ((m_m2 l Z a0 hw h0 n0 Z0 q1 q2 ra kr rl hrl V_ra _ _ na (sa + 3) rfl (own_plus 3) hna (by omega)).pays (W := 0) K.cz (hw _ (List.mem_of_getElem? (i := 90) rfl)) (hw _ (List.mem_of_getElem? (i := 6) rfl)) (by decide) (by decide)) rfl (argsL := [(.int q1), (.int q2), (.ref ra), (.int (Int32.ofNat na)), (.int ((Int32.ofNat sa) + (3 : Int32)))]) (rest := []) (lenOf pd__28II_5bIII_29Z rfl) rfl (Nat.le_of_ble_eq_true rfl) (by decide) (by decide) frOf grOf d_method_8_83 (pc' := 86) rfl ?_
                rintro v57 h55 Lc56 ⟨⟨⟨rfl, eh⟩, -⟩, -⟩
                obtain rfl := eh
                show Go p l e _ _ m _ below meth c _ _ _ _ h0 _ _ (mkF m 86 #[.val (.int q0), .val (.int q1), .val (.int q2), .val (.ref ra), .val (.int (Int32.ofNat na)), .val (.int (Int32.ofNat sa))] [(.int (bi (M2 q1 q2 rl na (sa + 3))))])
                refine Go.ifc K d_method_8_86 (by decide) (pcT := 93) (pcF := 89) (by decide) rfl (fun u3 => ?_) (fun u3 => ?_)
                · replace u3 : (bi (M2 q1 q2 rl na (sa + 3))) = 0 := u3
                  have v3 := bi_0 u3
                  refine Go.iconst K (v := 0) d_method_8_93 rfl (pc' := 94) rfl ?_
                  have e1 : M3 q0 q1 q2 rl na sa = false := by simp [M3, hq, v0, g1, v1, g2, v2, g3, v3]
                  exact Go.retN K (by simp) (by decide) (by decide) d_method_8_94 (fun _ _ _ _ => ⟨by rw [e1]; rfl, rfl⟩)
                · replace u3 : ¬ ((bi (M2 q1 q2 rl na (sa + 3))) = 0) := u3
                  have v3 := bi_1 u3
                  refine Go.iconst K (v := 1) d_method_8_89 rfl (pc' := 90) rfl ?_
                  refine Go.goto K d_method_8_90 (pc' := 94) (by decide) (by decide) ?_
                  have e1 : M3 q0 q1 q2 rl na sa = true := by simp [M3, hq, v0, g1, v1, g2, v2, g3, v3]
                  exact Go.retN K (by simp) (by decide) (by decide) d_method_8_94 (fun _ _ _ _ => ⟨by rw [e1]; rfl, rfl⟩)
def Wd (x : Int32) : List Int32 := if x = 0 then [35] else if x = 1 then [42] else if x = 2 then [97] else if x = 3 then [98] else if x = 4 then [] else if x = 5 then [97, 98] else if x = 6 then [35, 35] else [97, 42]
theorem own_wd0 : Wd 0 = [35] := by decide
theorem own_wd1 : Wd 1 = [42] := by decide
theorem own_wd2 : Wd 2 = [97] := by decide
theorem own_wd3 : Wd 3 = [98] := by decide
theorem own_wd4 : Wd 4 = [] := by decide
theorem own_wd5 : Wd 5 = [97, 98] := by decide
theorem own_wd6 : Wd 6 = [35, 35] := by decide
theorem own_wd7 : Wd 7 = [97, 42] := by decide
theorem own_n35 : nar .char (35 : Int32) = 35 := by decide
theorem own_n42 : nar .char (42 : Int32) = 42 := by decide
theorem own_n97 : nar .char (97 : Int32) = 97 := by decide
theorem own_n98 : nar .char (98 : Int32) = 98 := by decide
theorem own_8 {x : Int32} (h : ¬ x < 0 ∧ x < 8) : x = 0 ∨ x = 1 ∨ x = 2 ∨ x = 3 ∨ x = 4 ∨ x = 5 ∨ x = 6 ∨ x = 7 := by
  have a := h.1
  have b := h.2
  rw [Int32.lt_iff_toInt_lt] at a b
  have e0 : (0 : Int32).toInt = 0 := by decide
  have e8 : (8 : Int32).toInt = 8 := by decide
  obtain ⟨i, hi⟩ := own_small (x := x) (n := 8) (by omega) (by omega)
  have t : ∀ i : Fin 8, Int32.ofNat i.val = 0 ∨ Int32.ofNat i.val = 1 ∨ Int32.ofNat i.val = 2 ∨ Int32.ofNat i.val = 3 ∨ Int32.ofNat i.val = 4 ∨ Int32.ofNat i.val = 5 ∨ Int32.ofNat i.val = 6 ∨ Int32.ofNat i.val = 7 := by decide +kernel
  rw [hi]
  exact t i
theorem own_wdb {x : Int32} (h : ¬ x < 0 ∧ x < 8) : (Wd x).length ≤ 2 ∧ ∀ c ∈ Wd x, ¬ c < 0 ∧ ¬ (255 : Int32) < c := by
  rcases own_8 h with rfl | rfl | rfl | rfl | rfl | rfl | rfl | rfl <;> decide
theorem ef_s4e (m : MethodId) (xs : Addr) (ba : Addr) : entryFrame m #[(.ref xs), (.ref ba), (.int (0 : Int32)), (.int (0 : Int32)), .null] 6 = mkF m 0 #[.val (.ref xs), .val (.ref ba), .val (.int (0 : Int32)), .val (.int (0 : Int32)), .val .null, .unset] [] := by first | (simp [entryFrame, mkF, argsToLocals, Value.category]; done) | rfl
theorem d_jdk_42_method_149_0 : decode jdk_42_method_149_code 0 = .ok (.aload_n 0, 1) := by decide +kernel
theorem d_jdk_42_method_149_1 : decode jdk_42_method_149_code 1 = .ok (.invokespecial 1, 3) := by decide +kernel
theorem d_jdk_42_method_149_4 : decode jdk_42_method_149_code 4 = .ok (.iload_n 3, 1) := by decide +kernel
theorem d_jdk_42_method_149_5 : decode jdk_42_method_149_code 5 = .ok (.ifCond .ne 22, 3) := by decide +kernel
theorem d_jdk_42_method_149_8 : decode jdk_42_method_149_code 8 = .ok (.aload_n 0, 1) := by decide +kernel
theorem d_jdk_42_method_149_9 : decode jdk_42_method_149_code 9 = .ok (.ldc 7, 2) := by decide +kernel
theorem d_jdk_42_method_149_11 : decode jdk_42_method_149_code 11 = .ok (.getfield 9, 3) := by decide +kernel
theorem d_jdk_42_method_149_14 : decode jdk_42_method_149_code 14 = .ok (.putfield 9, 3) := by decide +kernel
theorem d_jdk_42_method_149_17 : decode jdk_42_method_149_code 17 = .ok (.aload_n 0, 1) := by decide +kernel
theorem d_jdk_42_method_149_18 : decode jdk_42_method_149_code 18 = .ok (.ldc 7, 2) := by decide +kernel
theorem d_jdk_42_method_149_20 : decode jdk_42_method_149_code 20 = .ok (.getfield 15, 3) := by decide +kernel
theorem d_jdk_42_method_149_23 : decode jdk_42_method_149_code 23 = .ok (.putfield 15, 3) := by decide +kernel
theorem d_jdk_42_method_149_26 : decode jdk_42_method_149_code 26 = .ok (.return_, 1) := by decide +kernel
theorem pn_java_lang_String : plainName "java/lang/String" = true := by first | (simp [plainName, overriddenIn]; done) | decide +kernel
set_option maxRecDepth 65536 in
set_option maxHeartbeats 40000000 in
theorem m_s4e (l : Launch) (Z : State) (a0 : Array Value) (hw : ∀ d ∈ tables_1, d.before a0 Z = true) (h0 : Heap) (n0 : Nat) (Z0 : n0 ≤ h0.size) (wS : ∀ a ∈ Bundle.stringAtoms, a.before a0 Z = true) (hEL : EW Z a0 [("com/example/intackt/intackt/vhost/ExchangeType", 138), ("com/example/intackt/intackt/vhost/ExchangeType", 140), ("java/lang/String", 7)]) (xs : Addr) (E_xs : Exa Z h0 xs "java/lang/String") (F_v : Fld Z h0 xs "java/lang/String" "value" "[B" .null) (F_c : Fld Z h0 xs "java/lang/String" "coder" "B" (.int (0 : Int32))) (g_xs : n0 ≤ xs) (ba : Addr) :
    MetW l Z [] [("com/example/intackt/intackt/vhost/ExchangeType", 138), ("com/example/intackt/intackt/vhost/ExchangeType", 140), ("java/lang/String", 7)] (⟨"java/lang/String", "<init>", "([CIILjava/lang/Void;)V"⟩ : MethodName) jdk_42_method_149_code 6 none ({ frames := 1, cells := 4, slots := 8, locals := 20 } : Room) #[(.ref xs), (.ref ba), (.int (0 : Int32)), (.int (0 : Int32)), .null] h0 n0 (fun v h => v = none ∧ Keep h0 h [xs] ∧ Exa Z h xs "java/lang/String" ∧ Fld Z h xs "java/lang/String" "coder" "B" (.int 0) ∧ ∃ (t : Addr) (kt : ClassId), Fld Z h xs "java/lang/String" "value" "[B" (.ref t) ∧ Arv Z h t kt .byte (0 : Int32) [] (.int 0)) := by
  refine MetW.of (plainFor_of_name pn_java_lang_String) ?_
  intro p e s m below meth c vm0 B hS HC K
  have CR := CHr.refl HC
  refine Go.cast (ef_s4e m xs ba) ?_
  have kc0 := Keep.refl h0 [xs]
  have sf_xs := own_safeS (EL := [("com/example/intackt/intackt/vhost/ExchangeType", 138), ("com/example/intackt/intackt/vhost/ExchangeType", 140), ("java/lang/String", 7)]) K.cz.alike E_xs F_v
  refine Go.aloadN K d_jdk_42_method_149_0 rfl rfl (pc' := 1) rfl ?_
  refine Go.initO K (hw _ (List.mem_of_getElem? (i := 23) rfl)) (hw _ (List.mem_of_getElem? (i := 24) rfl)) (hw _ (List.mem_of_getElem? (i := 25) rfl)) rfl (by decide) 0 (Nat.le_of_ble_eq_true rfl) (by decide) d_jdk_42_method_149_1 (pc' := 4) rfl ?_
  refine Go.iloadN K d_jdk_42_method_149_4 rfl (pc' := 5) rfl ?_
  refine Go.ifc K d_jdk_42_method_149_5 (by decide) (pcT := 27) (pcF := 8) (by decide) rfl (fun h5 => ?_) (fun h5 => ?_)
  · replace h5 : ¬ (0 : Int32) = 0 := h5
    exact absurd rfl h5
  · replace h5 : ¬ (¬ (0 : Int32) = 0) := h5
    refine Go.aloadN K d_jdk_42_method_149_8 rfl rfl (pc' := 9) rfl ?_
    refine Go.ldcV K hS (i := 0) (vs := []) (z := 0) (hw _ (List.mem_of_getElem? (i := 87) rfl)) wS hEL (by decide) CR.1 (by decide +kernel) (by decide) rfl (by decide) (by decide) (by decide) (by decide) d_jdk_42_method_149_9 (pc' := 11) rfl ?_
    intro ea t_ea kb_ea vm68 h64 B69 E65 hr66 hS E_ea C_ea F_ea A_ea sf67 K
    have f73 := hr66.safe E_xs.lt sf_xs
    have f74 := E_xs.ext E65
    have f75 := F_v.ext E65
    have f76 := F_c.ext E65
    have z77 := Nat.le_trans Z0 E65.1
    have cr78 := CR.trans (hr66)
    have kc79 := kc0.ext E65
    have ne80 := (sf67 _ f73).1
    have ne81 := (sf67 _ f73).2
    refine Go.getF K (host := "") (Or.inl (hw _ (List.mem_of_getElem? (i := 40) rfl))) Via.refl F_ea d_jdk_42_method_149_11 (pc' := 14) rfl ?_
    refine Go.putF K (host := "") (Or.inl (hw _ (List.mem_of_getElem? (i := 40) rfl))) Via.refl f75 f74 (Or.inr ⟨(hw _ (List.mem_of_getElem? (i := 41) rfl)), rfl, rfl⟩) (hw _ (List.mem_of_getElem? (i := 14) rfl)) (ty := (.array .byte)) (by decide) rfl rfl g_xs d_jdk_42_method_149_14 (pc' := 17) rfl ?_
    intro h82 W83 f84
    have f85 := f76.other W83 (Or.inr (slot_ne (Or.inr (hw _ (List.mem_of_getElem? (i := 39) rfl))) (Or.inr (hw _ (List.mem_of_getElem? (i := 41) rfl))) (by decide) (t := .byte) (t' := (.array .byte)) (by decide) (by decide)))
    have K86 := Keep.of_wr W83
    have f87 := Safe.keep K86 (sfS f73 sf0) cr78.1 f73
    have cr88 := cr78.trans (CHr.keep K86 (sfS f73 sf0) cr78.1)
    have f89 := f74.keep K86
    have f92 := E_ea.keep K86
    have f93 := C_ea.keep K86 (ninS (Ne.symm ne80) nin0)
    have f94 := F_ea.keep K86 (ninS (Ne.symm ne80) nin0)
    have f95 := A_ea.keep K86 (ninS (Ne.symm ne81) nin0)
    have z96 := Nat.le_trans z77 K86.1
    have kc97 := kc79.trans K86 (allS (Or.inl (List.mem_of_getElem? (i := 0) rfl)) all0)
    refine Go.aloadN K d_jdk_42_method_149_17 rfl rfl (pc' := 18) rfl ?_
    refine Go.ldcV K hS (i := 0) (vs := []) (z := 0) (hw _ (List.mem_of_getElem? (i := 87) rfl)) wS hEL (by decide) cr88.1 (by decide +kernel) (by decide) rfl (by decide) (by decide) (by decide) (by decide) d_jdk_42_method_149_18 (pc' := 20) rfl ?_
    intro eb t_eb kb_eb vm102 h98 B103 E99 hr100 hS E_eb C_eb F_eb A_eb sf101 K
    have f105 := hr100.safe f89.lt f87
    have f112 := f89.ext E99
    have f113 := f92.ext E99
    have f114 := f93.ext E99
    have f115 := f94.ext E99
    have f116 := f95.ext E99
    have f117 := f85.ext E99
    have f118 := f84.ext E99
    have z119 := Nat.le_trans z96 E99.1
    have cr120 := cr88.trans (hr100)
    have kc121 := kc97.ext E99
    have ne122 := (sf101 _ f105).1
    have ne123 := (sf101 _ f105).2
    refine Go.getF K (host := "") (Or.inl (hw _ (List.mem_of_getElem? (i := 38) rfl))) Via.refl C_eb d_jdk_42_method_149_20 (pc' := 23) rfl ?_
    refine Go.putFN K (hw _ (List.mem_of_getElem? (i := 38) rfl)) Via.refl f117 f112 (Or.inr ⟨(hw _ (List.mem_of_getElem? (i := 39) rfl)), rfl, rfl⟩) (hw _ (List.mem_of_getElem? (i := 14) rfl)) (ty := .byte) (v' := (.int (0 : Int32))) (by decide) rfl rfl g_xs d_jdk_42_method_149_23 (pc' := 26) rfl ?_
    intro h124 W125 f126
    have f127 := f118.other W125 (Or.inr (slot_ne (Or.inr (hw _ (List.mem_of_getElem? (i := 41) rfl))) (Or.inr (hw _ (List.mem_of_getElem? (i := 39) rfl))) (by decide) (t := (.array .byte)) (t' := .byte) (by decide) (by decide)))
    have K128 := Keep.of_wr W125
    have f129 := Safe.keep K128 (sfS f105 sf0) cr120.1 f105
    have cr130 := cr120.trans (CHr.keep K128 (sfS f105 sf0) cr120.1)
    have f131 := f112.keep K128
    have f132 := f113.keep K128
    have f133 := f114.keep K128 (ninS (Ne.symm ne80) nin0)
    have f134 := f115.keep K128 (ninS (Ne.symm ne80) nin0)
    have f135 := f116.keep K128 (ninS (Ne.symm ne81) nin0)
    have f138 := E_eb.keep K128
    have f139 := C_eb.keep K128 (ninS (Ne.symm ne122) nin0)
    have f140 := F_eb.keep K128 (ninS (Ne.symm ne122) nin0)
    have f141 := A_eb.keep K128 (ninS (Ne.symm ne123) nin0)
    have z142 := Nat.le_trans z119 K128.1
    have kc143 := kc121.trans K128 (allS (Or.inl (List.mem_of_getElem? (i := 0) rfl)) all0)
    exact Go.retV K (by decide) (by decide) d_jdk_42_method_149_26 (own_end hEL K.cz cr130 ⟨rfl, kc143, f131, f126, t_ea, kb_ea, f127, f135⟩)
theorem ef_s1e (m : MethodId) (xs : Addr) (ba : Addr) : entryFrame m #[(.ref xs), (.ref ba)] 2 = mkF m 0 #[.val (.ref xs), .val (.ref ba)] [] := by first | (simp [entryFrame, mkF, argsToLocals, Value.category]; done) | rfl
theorem d_jdk_42_method_3_0 : decode jdk_42_method_3_code 0 = .ok (.aload_n 0, 1) := by decide +kernel
theorem d_jdk_42_method_3_1 : decode jdk_42_method_3_code 1 = .ok (.aload_n 1, 1) := by decide +kernel
theorem d_jdk_42_method_3_2 : decode jdk_42_method_3_code 2 = .ok (.iconst 0, 1) := by decide +kernel
theorem d_jdk_42_method_3_3 : decode jdk_42_method_3_code 3 = .ok (.aload_n 1, 1) := by decide +kernel
theorem d_jdk_42_method_3_4 : decode jdk_42_method_3_code 4 = .ok (.arraylength, 1) := by decide +kernel
theorem d_jdk_42_method_3_5 : decode jdk_42_method_3_code 5 = .ok (.aconst_null, 1) := by decide +kernel
theorem d_jdk_42_method_3_6 : decode jdk_42_method_3_code 6 = .ok (.invokespecial 27, 3) := by decide +kernel
theorem pd__28_5bCIILjava_2flang_2fVoid_3b_29V : parseMethodDescriptor "([CIILjava/lang/Void;)V" = some ⟨[(.array .char), .int, .int, (.object "java/lang/Void")], none⟩ := by decide +kernel
theorem d_jdk_42_method_3_9 : decode jdk_42_method_3_code 9 = .ok (.return_, 1) := by decide +kernel
set_option maxRecDepth 65536 in
set_option maxHeartbeats 40000000 in
theorem m_s1e (l : Launch) (Z : State) (a0 : Array Value) (hw : ∀ d ∈ tables_1, d.before a0 Z = true) (h0 : Heap) (n0 : Nat) (Z0 : n0 ≤ h0.size) (wS : ∀ a ∈ Bundle.stringAtoms, a.before a0 Z = true) (hEL : EW Z a0 [("com/example/intackt/intackt/vhost/ExchangeType", 138), ("com/example/intackt/intackt/vhost/ExchangeType", 140), ("java/lang/String", 7)]) (xs : Addr) (E_xs : Exa Z h0 xs "java/lang/String") (F_v : Fld Z h0 xs "java/lang/String" "value" "[B" .null) (F_c : Fld Z h0 xs "java/lang/String" "coder" "B" (.int (0 : Int32))) (g_xs : n0 ≤ xs) (ba : Addr) (ka : ClassId) (dc : Value) (V_a : Arv Z h0 ba ka .char (0 : Int32) [] dc) :
    MetW l Z [] [("com/example/intackt/intackt/vhost/ExchangeType", 138), ("com/example/intackt/intackt/vhost/ExchangeType", 140), ("java/lang/String", 7)] (⟨"java/lang/String", "<init>", "([C)V"⟩ : MethodName) jdk_42_method_3_code 2 none ({ frames := 2, cells := 4, slots := 8, locals := 40 } : Room) #[(.ref xs), (.ref ba)] h0 n0 (fun v h => v = none ∧ Keep h0 h [xs] ∧ Exa Z h xs "java/lang/String" ∧ Fld Z h xs "java/lang/String" "coder" "B" (.int 0) ∧ ∃ (t : Addr) (kt : ClassId), Fld Z h xs "java/lang/String" "value" "[B" (.ref t) ∧ Arv Z h t kt .byte (0 : Int32) [] (.int 0)) := by
  refine MetW.of (plainFor_of_name pn_java_lang_String) ?_
  intro p e s m below meth c vm0 B hS HC K
  have CR := CHr.refl HC
  refine Go.cast (ef_s1e m xs ba) ?_
  refine Go.aloadN K d_jdk_42_method_3_0 rfl rfl (pc' := 1) rfl ?_
  refine Go.aloadN K d_jdk_42_method_3_1 rfl rfl (pc' := 2) rfl ?_
  refine Go.iconst K (v := 0) d_jdk_42_method_3_2 rfl (pc' := 3) rfl ?_
  refine Go.aloadN K d_jdk_42_method_3_3 rfl rfl (pc' := 4) rfl ?_
  refine Go.arraylength K V_a d_jdk_42_method_3_4 (pc' := 5) rfl ?_
  refine Go.aconstNull K d_jdk_42_method_3_5 (pc' := 6) rfl ?_
  refine Go.callCW K hS (y := (⟨"java/lang/String", "<init>", "([CIILjava/lang/Void;)V"⟩ : MethodName)) (W := 0) (kc := 4) (nc := 8) (a := xs) rfl (mvT K.cz (hw _ (List.mem_of_getElem? (i := 19) rfl))) (mvT K.cz (hw _ (List.mem_of_getElem? (i := 20) rfl))) (mvT K.cz (hw _ (List.mem_of_getElem? (i := 22) rfl))) (by decide) ((m_s4e l Z a0 hw h0 n0 Z0 wS hEL xs E_xs F_v F_c g_xs ba).pays (W := 0) K.cz (hw _ (List.mem_of_getElem? (i := 22) rfl)) (hw _ (List.mem_of_getElem? (i := 15) rfl)) (by decide) (by decide) hEL CR.1) rfl (argsL := [(.ref ba), (.int (0 : Int32)), (.int (0 : Int32)), .null]) (rest := []) (lenOf pd__28_5bCIILjava_2flang_2fVoid_3b_29V rfl) rfl (Nat.le_of_ble_eq_true rfl) (by decide) (by decide) frOf d_jdk_42_method_3_6 (pc' := 9) rfl ?_
  rintro v146 h144 Lc145 vm147 B148 ⟨⟨⟨rfl, Kq⟩, -⟩, -⟩ hrh144 hS K
  have CR2 := CR.trans hrh144
  show Go p l e _ _ m _ below meth c _ _ _ _ h144 _ _ (mkF m 9 #[.val (.ref xs), .val (.ref ba)] [])
  exact Go.retV K (by decide) (by decide) d_jdk_42_method_3_9 (own_end hEL K.cz CR2 ⟨rfl, Kq⟩)
theorem ef_wd (m : MethodId) (x : Int32) : entryFrame m #[(.int x)] 2 = mkF m 0 #[.val (.int x), .unset] [] := by first | (simp [entryFrame, mkF, argsToLocals, Value.category]; done) | rfl
theorem d_method_3_0 : decode method_3_code 0 = .ok (.iload_n 0, 1) := by decide +kernel
theorem d_method_3_1 : decode method_3_code 1 = .ok (.ifCond .ne 15, 3) := by decide +kernel
theorem d_method_3_4 : decode method_3_code 4 = .ok (.iconst 1, 1) := by decide +kernel
theorem d_method_3_5 : decode method_3_code 5 = .ok (.newarray .char, 2) := by decide +kernel
theorem d_method_3_7 : decode method_3_code 7 = .ok (.dup, 1) := by decide +kernel
theorem d_method_3_8 : decode method_3_code 8 = .ok (.iconst 0, 1) := by decide +kernel
theorem d_method_3_9 : decode method_3_code 9 = .ok (.bipush 35, 2) := by decide +kernel
theorem d_method_3_11 : decode method_3_code 11 = .ok (.castore, 1) := by decide +kernel
theorem d_method_3_12 : decode method_3_code 12 = .ok (.astore_n 1, 1) := by decide +kernel
theorem d_method_3_13 : decode method_3_code 13 = .ok (.goto 125, 3) := by decide +kernel
theorem d_method_3_138 : decode method_3_code 138 = .ok (.new 41, 3) := by decide +kernel
theorem d_method_3_141 : decode method_3_code 141 = .ok (.dup, 1) := by decide +kernel
theorem d_method_3_142 : decode method_3_code 142 = .ok (.aload_n 1, 1) := by decide +kernel
theorem d_method_3_143 : decode method_3_code 143 = .ok (.invokespecial 43, 3) := by decide +kernel
theorem pd__28_5bC_29V : parseMethodDescriptor "([C)V" = some ⟨[(.array .char)], none⟩ := by decide +kernel
theorem d_method_3_146 : decode method_3_code 146 = .ok (.areturn, 1) := by decide +kernel
theorem d_method_3_16 : decode method_3_code 16 = .ok (.iload_n 0, 1) := by decide +kernel
theorem d_method_3_17 : decode method_3_code 17 = .ok (.iconst 1, 1) := by decide +kernel
theorem d_method_3_18 : decode method_3_code 18 = .ok (.if_icmp .ne 15, 3) := by decide +kernel
theorem d_method_3_21 : decode method_3_code 21 = .ok (.iconst 1, 1) := by decide +kernel
theorem d_method_3_22 : decode method_3_code 22 = .ok (.newarray .char, 2) := by decide +kernel
theorem d_method_3_24 : decode method_3_code 24 = .ok (.dup, 1) := by decide +kernel
theorem d_method_3_25 : decode method_3_code 25 = .ok (.iconst 0, 1) := by decide +kernel
theorem d_method_3_26 : decode method_3_code 26 = .ok (.bipush 42, 2) := by decide +kernel
theorem d_method_3_28 : decode method_3_code 28 = .ok (.castore, 1) := by decide +kernel
theorem d_method_3_29 : decode method_3_code 29 = .ok (.astore_n 1, 1) := by decide +kernel
theorem d_method_3_30 : decode method_3_code 30 = .ok (.goto 108, 3) := by decide +kernel
theorem d_method_3_33 : decode method_3_code 33 = .ok (.iload_n 0, 1) := by decide +kernel
theorem d_method_3_34 : decode method_3_code 34 = .ok (.iconst 2, 1) := by decide +kernel
theorem d_method_3_35 : decode method_3_code 35 = .ok (.if_icmp .ne 15, 3) := by decide +kernel
theorem d_method_3_38 : decode method_3_code 38 = .ok (.iconst 1, 1) := by decide +kernel
theorem d_method_3_39 : decode method_3_code 39 = .ok (.newarray .char, 2) := by decide +kernel
theorem d_method_3_41 : decode method_3_code 41 = .ok (.dup, 1) := by decide +kernel
theorem d_method_3_42 : decode method_3_code 42 = .ok (.iconst 0, 1) := by decide +kernel
theorem d_method_3_43 : decode method_3_code 43 = .ok (.bipush 97, 2) := by decide +kernel
theorem d_method_3_45 : decode method_3_code 45 = .ok (.castore, 1) := by decide +kernel
theorem d_method_3_46 : decode method_3_code 46 = .ok (.astore_n 1, 1) := by decide +kernel
theorem d_method_3_47 : decode method_3_code 47 = .ok (.goto 91, 3) := by decide +kernel
theorem d_method_3_50 : decode method_3_code 50 = .ok (.iload_n 0, 1) := by decide +kernel
theorem d_method_3_51 : decode method_3_code 51 = .ok (.iconst 3, 1) := by decide +kernel
theorem d_method_3_52 : decode method_3_code 52 = .ok (.if_icmp .ne 15, 3) := by decide +kernel
theorem d_method_3_55 : decode method_3_code 55 = .ok (.iconst 1, 1) := by decide +kernel
theorem d_method_3_56 : decode method_3_code 56 = .ok (.newarray .char, 2) := by decide +kernel
theorem d_method_3_58 : decode method_3_code 58 = .ok (.dup, 1) := by decide +kernel
theorem d_method_3_59 : decode method_3_code 59 = .ok (.iconst 0, 1) := by decide +kernel
theorem d_method_3_60 : decode method_3_code 60 = .ok (.bipush 98, 2) := by decide +kernel
theorem d_method_3_62 : decode method_3_code 62 = .ok (.castore, 1) := by decide +kernel
theorem d_method_3_63 : decode method_3_code 63 = .ok (.astore_n 1, 1) := by decide +kernel
theorem d_method_3_64 : decode method_3_code 64 = .ok (.goto 74, 3) := by decide +kernel
theorem d_method_3_67 : decode method_3_code 67 = .ok (.iload_n 0, 1) := by decide +kernel
theorem d_method_3_68 : decode method_3_code 68 = .ok (.iconst 4, 1) := by decide +kernel
theorem d_method_3_69 : decode method_3_code 69 = .ok (.if_icmp .ne 10, 3) := by decide +kernel
theorem d_method_3_72 : decode method_3_code 72 = .ok (.iconst 0, 1) := by decide +kernel
theorem d_method_3_73 : decode method_3_code 73 = .ok (.newarray .char, 2) := by decide +kernel
theorem d_method_3_75 : decode method_3_code 75 = .ok (.astore_n 1, 1) := by decide +kernel
theorem d_method_3_76 : decode method_3_code 76 = .ok (.goto 62, 3) := by decide +kernel
theorem d_method_3_79 : decode method_3_code 79 = .ok (.iload_n 0, 1) := by decide +kernel
theorem d_method_3_80 : decode method_3_code 80 = .ok (.iconst 5, 1) := by decide +kernel
theorem d_method_3_81 : decode method_3_code 81 = .ok (.if_icmp .ne 20, 3) := by decide +kernel
theorem d_method_3_84 : decode method_3_code 84 = .ok (.iconst 2, 1) := by decide +kernel
theorem d_method_3_85 : decode method_3_code 85 = .ok (.newarray .char, 2) := by decide +kernel
theorem d_method_3_87 : decode method_3_code 87 = .ok (.dup, 1) := by decide +kernel
theorem d_method_3_88 : decode method_3_code 88 = .ok (.iconst 0, 1) := by decide +kernel
theorem d_method_3_89 : decode method_3_code 89 = .ok (.bipush 97, 2) := by decide +kernel
theorem d_method_3_91 : decode method_3_code 91 = .ok (.castore, 1) := by decide +kernel
theorem d_method_3_92 : decode method_3_code 92 = .ok (.dup, 1) := by decide +kernel
theorem d_method_3_93 : decode method_3_code 93 = .ok (.iconst 1, 1) := by decide +kernel
theorem d_method_3_94 : decode method_3_code 94 = .ok (.bipush 98, 2) := by decide +kernel
theorem d_method_3_96 : decode method_3_code 96 = .ok (.castore, 1) := by decide +kernel
theorem d_method_3_97 : decode method_3_code 97 = .ok (.astore_n 1, 1) := by decide +kernel
theorem d_method_3_98 : decode method_3_code 98 = .ok (.goto 40, 3) := by decide +kernel
theorem d_method_3_101 : decode method_3_code 101 = .ok (.iload_n 0, 1) := by decide +kernel
theorem d_method_3_102 : decode method_3_code 102 = .ok (.bipush 6, 2) := by decide +kernel
theorem d_method_3_104 : decode method_3_code 104 = .ok (.if_icmp .ne 20, 3) := by decide +kernel
theorem d_method_3_107 : decode method_3_code 107 = .ok (.iconst 2, 1) := by decide +kernel
theorem d_method_3_108 : decode method_3_code 108 = .ok (.newarray .char, 2) := by decide +kernel
theorem d_method_3_110 : decode method_3_code 110 = .ok (.dup, 1) := by decide +kernel
theorem d_method_3_111 : decode method_3_code 111 = .ok (.iconst 0, 1) := by decide +kernel
theorem d_method_3_112 : decode method_3_code 112 = .ok (.bipush 35, 2) := by decide +kernel
theorem d_method_3_114 : decode method_3_code 114 = .ok (.castore, 1) := by decide +kernel
theorem d_method_3_115 : decode method_3_code 115 = .ok (.dup, 1) := by decide +kernel
theorem d_method_3_116 : decode method_3_code 116 = .ok (.iconst 1, 1) := by decide +kernel
theorem d_method_3_117 : decode method_3_code 117 = .ok (.bipush 35, 2) := by decide +kernel
theorem d_method_3_119 : decode method_3_code 119 = .ok (.castore, 1) := by decide +kernel
theorem d_method_3_120 : decode method_3_code 120 = .ok (.astore_n 1, 1) := by decide +kernel
theorem d_method_3_121 : decode method_3_code 121 = .ok (.goto 17, 3) := by decide +kernel
theorem d_method_3_124 : decode method_3_code 124 = .ok (.iconst 2, 1) := by decide +kernel
theorem d_method_3_125 : decode method_3_code 125 = .ok (.newarray .char, 2) := by decide +kernel
theorem d_method_3_127 : decode method_3_code 127 = .ok (.dup, 1) := by decide +kernel
theorem d_method_3_128 : decode method_3_code 128 = .ok (.iconst 0, 1) := by decide +kernel
theorem d_method_3_129 : decode method_3_code 129 = .ok (.bipush 97, 2) := by decide +kernel
theorem d_method_3_131 : decode method_3_code 131 = .ok (.castore, 1) := by decide +kernel
theorem d_method_3_132 : decode method_3_code 132 = .ok (.dup, 1) := by decide +kernel
theorem d_method_3_133 : decode method_3_code 133 = .ok (.iconst 1, 1) := by decide +kernel
theorem d_method_3_134 : decode method_3_code 134 = .ok (.bipush 42, 2) := by decide +kernel
theorem d_method_3_136 : decode method_3_code 136 = .ok (.castore, 1) := by decide +kernel
theorem d_method_3_137 : decode method_3_code 137 = .ok (.astore_n 1, 1) := by decide +kernel
set_option maxRecDepth 65536 in
set_option maxHeartbeats 40000000 in
theorem m_wd (l : Launch) (Z : State) (a0 : Array Value) (hw : ∀ d ∈ tables_1, d.before a0 Z = true) (h0 : Heap) (n0 : Nat) (Z0 : n0 ≤ h0.size) (wS : ∀ a ∈ Bundle.stringAtoms, a.before a0 Z = true) (hEL : EW Z a0 [("com/example/intackt/intackt/vhost/ExchangeType", 138), ("com/example/intackt/intackt/vhost/ExchangeType", 140), ("java/lang/String", 7)]) (x : Int32) (hx : ¬ x < 0 ∧ x < 8) (od : Old Z n0 h0) (zc : Int32) (S1 : Sta Z Z.heap "java/lang/String" "COMPACT_STRINGS" "Z" (.int zc)) (P1 : ¬ (zc = (0 : Int32))) :
    MetW l Z [] [("com/example/intackt/intackt/vhost/ExchangeType", 138), ("com/example/intackt/intackt/vhost/ExchangeType", 140), ("java/lang/String", 7)] (⟨"com/example/intackt/intackt/vhost/ExchangeTypeKeyMatchesPinLaw", "word", "(I)Ljava/lang/String;"⟩ : MethodName) method_3_code 2 (some (.object "java/lang/String")) ({ frames := 5, cells := 6, slots := 14, locals := 90 } : Room) #[(.int x)] h0 n0 (fun v h => ∃ xs : Addr, v = some (.ref xs) ∧ h0.size ≤ xs ∧ Keep h0 h [] ∧ Str Z h xs (Wd x)) := by
  refine MetW.of (plainFor_of_name pn_com_example_intackt_intackt_vhost_ExchangeTypeKeyMatchesPinLaw) ?_
  intro p e s m below meth c vm0 B hS HC K
  have CR := CHr.refl HC
  have hws : ∀ d ∈ StrChars.Road.words, d.before a0 Z = true := fun d hd => hw d ((by decide +kernel : ∀ d ∈ StrChars.Road.words, d ∈ tables_1) d hd)
  refine Go.cast (ef_wd m _) ?_
  have kc0 := Keep.refl h0 []
  rcases own_8 hx with rfl | rfl | rfl | rfl | rfl | rfl | rfl | rfl
  · refine Go.iloadN K d_method_3_0 rfl (pc' := 1) rfl ?_
    refine Go.ifc K d_method_3_1 (by decide) (pcT := 16) (pcF := 4) (by decide) rfl (fun h1 => ?_) (fun h1 => ?_)
    · replace h1 : ¬ (0 : Int32) = 0 := h1
      exact absurd rfl h1
    · replace h1 : ¬ (¬ (0 : Int32) = 0) := h1
      refine Go.iconst K (v := 1) d_method_3_4 rfl (pc' := 5) rfl ?_
      refine Go.newP K (hw _ (List.mem_of_getElem? (i := 13) rfl)) (by decide) 1 (by decide) (by decide) (by decide) (by decide) d_method_3_5 (pc' := 7) rfl ?_
      intro h149 ba kA_ba eq151 E150 V_ba
      have sz_ba := Nat.le_trans kc0.1 (Nat.le_of_eq eq151.symm)
      have g_ba : n0 ≤ ba := Nat.le_trans Z0 (Nat.le_of_eq eq151.symm)
      have od152 := od.ext E150
      have z153 := Nat.le_trans Z0 E150.1
      have cr154 := CR.trans (CHr.ext E150 CR.1)
      have kc155 := kc0.ext E150
      have V156 : Arv Z h149 ba kA_ba .char (1 : Int32) [(.int (0 : Int32))] (.int (0 : Int32)) := V_ba.pad (pad_rep [] (.int (0 : Int32)) 1)
      refine Go.dup K d_method_3_7 rfl (pc' := 8) rfl ?_
      refine Go.iconst K (v := 0) d_method_3_8 rfl (pc' := 9) rfl ?_
      refine Go.bipush K (v := 35) d_method_3_9 rfl (pc' := 11) rfl ?_
      refine Go.castore K V156 0 rfl (Nat.le_of_ble_eq_true rfl) ⟨by decide, by decide⟩ g_ba d_method_3_11 (pc' := 12) rfl ?_
      intro h157 K158 V159
      replace V159 : Arv Z h157 ba kA_ba .char (1 : Int32) [(.int (nar .char (35 : Int32)))] (.int (0 : Int32)) := V159
      have cr160 := cr154.trans (CHr.keep K158 (sfS (Safe.arv K.cz.alike V156 (by decide)) sf0) cr154.1)
      have od162 := od152.keep K158 (allS g_ba all0)
      have z163 := Nat.le_trans z153 K158.1
      have kc164 := kc155.trans K158 (allS (Or.inr sz_ba) all0)
      refine Go.astoreN K d_method_3_12 rfl (Ls' := #[.val (.int (0 : Int32)), .val (.ref ba)]) rfl (pc' := 13) rfl ?_
      refine Go.goto K d_method_3_13 (pc' := 138) (by decide) (by decide) ?_
      have Vb0 := V159
      rw [own_n35] at Vb0
      refine Go.newO K (hw _ (List.mem_of_getElem? (i := 8) rfl)) (hw _ (List.mem_of_getElem? (i := 14) rfl)) (hw _ (List.mem_of_getElem? (i := 15) rfl)) (by decide) (by decide) d_method_3_138 (pc' := 141) rfl ?_
      intro h165 xs eq168 E166 E_xs D167
      have sz_xs := Nat.le_trans kc164.1 (Nat.le_of_eq eq168.symm)
      have ne169 : ba ≠ xs := own_ne Vb0.lt (Nat.le_of_eq eq168.symm)
      have g_xs : n0 ≤ xs := Nat.le_trans z163 (Nat.le_of_eq eq168.symm)
      have sf170 := Safe.ext E166 cr160.1 (Safe.new (Nat.le_of_eq eq168.symm))
      have f172 := Vb0.ext E166
      have od173 := od162.ext E166
      have z174 := Nat.le_trans z163 E166.1
      have cr175 := cr160.trans (CHr.ext E166 cr160.1)
      have kc176 := kc164.ext E166
      have f177 : Fld Z h165 xs "java/lang/String" "coder" "B" (.int (0 : Int32)) := D167 (Or.inr (hw _ (List.mem_of_getElem? (i := 39) rfl))) (ty := .byte) (by decide)
      have f178 : Fld Z h165 xs "java/lang/String" "value" "[B" .null := D167 (Or.inr (hw _ (List.mem_of_getElem? (i := 41) rfl))) (ty := (.array .byte)) (by decide)
      refine Go.dup K d_method_3_141 rfl (pc' := 142) rfl ?_
      refine Go.aloadN K d_method_3_142 rfl rfl (pc' := 143) rfl ?_
      have hp : ∀ c ∈ ([35] : List Int32), ¬ c < 0 ∧ ¬ (255 : Int32) < c := by decide
      refine Go.callC K (y := (⟨"java/lang/String", "<init>", "([C)V"⟩ : MethodName)) (W := 1) (kc := 1) (nc := 1) (a := xs) rfl (mvT K.cz (hw _ (List.mem_of_getElem? (i := 16) rfl))) (mvT K.cz (hw _ (List.mem_of_getElem? (i := 17) rfl))) (mvT K.cz (hw _ (List.mem_of_getElem? (i := 18) rfl))) (by decide) (paysNew (W := 1) K.cz hws (kI := 4) (hw _ (List.mem_of_getElem? (i := 14) rfl)) (cs := ([35] : List Int32)) (bs := ([35] : List Int32).map (fun c => c.toInt8.toInt32)) (n := 1) g_xs z174 E_xs f178 f177 f172 (S1.ext od173.2) P1 rfl rfl (by decide) (by decide) hp rfl (by decide) (by decide)) rfl (argsL := [(.ref ba)]) (rest := [(.ref xs)]) (lenOf pd__28_5bC_29V rfl) rfl (Nat.le_of_ble_eq_true rfl) (by decide) (by decide) (fun v h' L q => q.2.1) (fun v h' L q => q.2.2.1.1) d_method_3_143 (pc' := 146) rfl ?_
      rintro v181 h179 Lc180 ⟨rfl, Nq, Kq, Eq, Cq, t, kb, ht0, ht1, htne, Fq, Vq⟩
      have f182 := Safe.keep Kq (sfS sf170 sf0) cr175.1 sf170
      have cr183 := cr175.trans (CHr.keep Kq (sfS sf170 sf0) cr175.1)
      have f184 := f172.keep Kq (ninS ne169 nin0)
      have f185 := E_xs.keep Kq
      have od188 := od173.keep Kq (allS g_xs all0)
      have z189 := Nat.le_trans z174 Kq.1
      have kc190 := kc176.trans Kq (allS (Or.inr sz_xs) all0)
      have SX : Str Z h179 xs ([35] : List Int32) := ⟨Eq, Cq, t, kb, Fq, Vq⟩
      show Go p l e _ _ m _ below meth c _ _ _ _ h179 _ _ (mkF m 146 #[.val (.int (0 : Int32)), .val (.ref ba)] [(.ref xs)])
      exact Go.retA K rfl rfl rfl (by decide) (by decide) d_method_3_146 (own_end hEL K.cz cr183 ⟨xs, rfl, sz_xs, kc190, by rw [own_wd0]; exact SX⟩)
  · refine Go.iloadN K d_method_3_0 rfl (pc' := 1) rfl ?_
    refine Go.ifc K d_method_3_1 (by decide) (pcT := 16) (pcF := 4) (by decide) rfl (fun h1 => ?_) (fun h1 => ?_)
    · replace h1 : ¬ (1 : Int32) = 0 := h1
      refine Go.iloadN K d_method_3_16 rfl (pc' := 17) rfl ?_
      refine Go.iconst K (v := 1) d_method_3_17 rfl (pc' := 18) rfl ?_
      refine Go.icmp K d_method_3_18 (by decide) (pcT := 33) (pcF := 21) (by decide) rfl (fun h18 => ?_) (fun h18 => ?_)
      · replace h18 : ¬ (1 : Int32) = (1 : Int32) := h18
        exact absurd rfl h18
      · replace h18 : ¬ (¬ (1 : Int32) = (1 : Int32)) := h18
        refine Go.iconst K (v := 1) d_method_3_21 rfl (pc' := 22) rfl ?_
        refine Go.newP K (hw _ (List.mem_of_getElem? (i := 13) rfl)) (by decide) 1 (by decide) (by decide) (by decide) (by decide) d_method_3_22 (pc' := 24) rfl ?_
        intro h191 ba kA_ba eq193 E192 V_ba
        have sz_ba := Nat.le_trans kc0.1 (Nat.le_of_eq eq193.symm)
        have g_ba : n0 ≤ ba := Nat.le_trans Z0 (Nat.le_of_eq eq193.symm)
        have od194 := od.ext E192
        have z195 := Nat.le_trans Z0 E192.1
        have cr196 := CR.trans (CHr.ext E192 CR.1)
        have kc197 := kc0.ext E192
        have V198 : Arv Z h191 ba kA_ba .char (1 : Int32) [(.int (0 : Int32))] (.int (0 : Int32)) := V_ba.pad (pad_rep [] (.int (0 : Int32)) 1)
        refine Go.dup K d_method_3_24 rfl (pc' := 25) rfl ?_
        refine Go.iconst K (v := 0) d_method_3_25 rfl (pc' := 26) rfl ?_
        refine Go.bipush K (v := 42) d_method_3_26 rfl (pc' := 28) rfl ?_
        refine Go.castore K V198 0 rfl (Nat.le_of_ble_eq_true rfl) ⟨by decide, by decide⟩ g_ba d_method_3_28 (pc' := 29) rfl ?_
        intro h199 K200 V201
        replace V201 : Arv Z h199 ba kA_ba .char (1 : Int32) [(.int (nar .char (42 : Int32)))] (.int (0 : Int32)) := V201
        have cr202 := cr196.trans (CHr.keep K200 (sfS (Safe.arv K.cz.alike V198 (by decide)) sf0) cr196.1)
        have od204 := od194.keep K200 (allS g_ba all0)
        have z205 := Nat.le_trans z195 K200.1
        have kc206 := kc197.trans K200 (allS (Or.inr sz_ba) all0)
        refine Go.astoreN K d_method_3_29 rfl (Ls' := #[.val (.int (1 : Int32)), .val (.ref ba)]) rfl (pc' := 30) rfl ?_
        refine Go.goto K d_method_3_30 (pc' := 138) (by decide) (by decide) ?_
        have Vb0 := V201
        rw [own_n42] at Vb0
        refine Go.newO K (hw _ (List.mem_of_getElem? (i := 8) rfl)) (hw _ (List.mem_of_getElem? (i := 14) rfl)) (hw _ (List.mem_of_getElem? (i := 15) rfl)) (by decide) (by decide) d_method_3_138 (pc' := 141) rfl ?_
        intro h207 xs eq210 E208 E_xs D209
        have sz_xs := Nat.le_trans kc206.1 (Nat.le_of_eq eq210.symm)
        have ne211 : ba ≠ xs := own_ne Vb0.lt (Nat.le_of_eq eq210.symm)
        have g_xs : n0 ≤ xs := Nat.le_trans z205 (Nat.le_of_eq eq210.symm)
        have sf212 := Safe.ext E208 cr202.1 (Safe.new (Nat.le_of_eq eq210.symm))
        have f214 := Vb0.ext E208
        have od215 := od204.ext E208
        have z216 := Nat.le_trans z205 E208.1
        have cr217 := cr202.trans (CHr.ext E208 cr202.1)
        have kc218 := kc206.ext E208
        have f219 : Fld Z h207 xs "java/lang/String" "coder" "B" (.int (0 : Int32)) := D209 (Or.inr (hw _ (List.mem_of_getElem? (i := 39) rfl))) (ty := .byte) (by decide)
        have f220 : Fld Z h207 xs "java/lang/String" "value" "[B" .null := D209 (Or.inr (hw _ (List.mem_of_getElem? (i := 41) rfl))) (ty := (.array .byte)) (by decide)
        refine Go.dup K d_method_3_141 rfl (pc' := 142) rfl ?_
        refine Go.aloadN K d_method_3_142 rfl rfl (pc' := 143) rfl ?_
        have hp : ∀ c ∈ ([42] : List Int32), ¬ c < 0 ∧ ¬ (255 : Int32) < c := by decide
        refine Go.callC K (y := (⟨"java/lang/String", "<init>", "([C)V"⟩ : MethodName)) (W := 1) (kc := 1) (nc := 1) (a := xs) rfl (mvT K.cz (hw _ (List.mem_of_getElem? (i := 16) rfl))) (mvT K.cz (hw _ (List.mem_of_getElem? (i := 17) rfl))) (mvT K.cz (hw _ (List.mem_of_getElem? (i := 18) rfl))) (by decide) (paysNew (W := 1) K.cz hws (kI := 4) (hw _ (List.mem_of_getElem? (i := 14) rfl)) (cs := ([42] : List Int32)) (bs := ([42] : List Int32).map (fun c => c.toInt8.toInt32)) (n := 1) g_xs z216 E_xs f220 f219 f214 (S1.ext od215.2) P1 rfl rfl (by decide) (by decide) hp rfl (by decide) (by decide)) rfl (argsL := [(.ref ba)]) (rest := [(.ref xs)]) (lenOf pd__28_5bC_29V rfl) rfl (Nat.le_of_ble_eq_true rfl) (by decide) (by decide) (fun v h' L q => q.2.1) (fun v h' L q => q.2.2.1.1) d_method_3_143 (pc' := 146) rfl ?_
        rintro v223 h221 Lc222 ⟨rfl, Nq, Kq, Eq, Cq, t, kb, ht0, ht1, htne, Fq, Vq⟩
        have f224 := Safe.keep Kq (sfS sf212 sf0) cr217.1 sf212
        have cr225 := cr217.trans (CHr.keep Kq (sfS sf212 sf0) cr217.1)
        have f226 := f214.keep Kq (ninS ne211 nin0)
        have f227 := E_xs.keep Kq
        have od230 := od215.keep Kq (allS g_xs all0)
        have z231 := Nat.le_trans z216 Kq.1
        have kc232 := kc218.trans Kq (allS (Or.inr sz_xs) all0)
        have SX : Str Z h221 xs ([42] : List Int32) := ⟨Eq, Cq, t, kb, Fq, Vq⟩
        show Go p l e _ _ m _ below meth c _ _ _ _ h221 _ _ (mkF m 146 #[.val (.int (1 : Int32)), .val (.ref ba)] [(.ref xs)])
        exact Go.retA K rfl rfl rfl (by decide) (by decide) d_method_3_146 (own_end hEL K.cz cr225 ⟨xs, rfl, sz_xs, kc232, by rw [own_wd1]; exact SX⟩)
    · replace h1 : ¬ (¬ (1 : Int32) = 0) := h1
      exact absurd (by decide) h1
  · refine Go.iloadN K d_method_3_0 rfl (pc' := 1) rfl ?_
    refine Go.ifc K d_method_3_1 (by decide) (pcT := 16) (pcF := 4) (by decide) rfl (fun h1 => ?_) (fun h1 => ?_)
    · replace h1 : ¬ (2 : Int32) = 0 := h1
      refine Go.iloadN K d_method_3_16 rfl (pc' := 17) rfl ?_
      refine Go.iconst K (v := 1) d_method_3_17 rfl (pc' := 18) rfl ?_
      refine Go.icmp K d_method_3_18 (by decide) (pcT := 33) (pcF := 21) (by decide) rfl (fun h18 => ?_) (fun h18 => ?_)
      · replace h18 : ¬ (2 : Int32) = (1 : Int32) := h18
        refine Go.iloadN K d_method_3_33 rfl (pc' := 34) rfl ?_
        refine Go.iconst K (v := 2) d_method_3_34 rfl (pc' := 35) rfl ?_
        refine Go.icmp K d_method_3_35 (by decide) (pcT := 50) (pcF := 38) (by decide) rfl (fun h35 => ?_) (fun h35 => ?_)
        · replace h35 : ¬ (2 : Int32) = (2 : Int32) := h35
          exact absurd rfl h35
        · replace h35 : ¬ (¬ (2 : Int32) = (2 : Int32)) := h35
          refine Go.iconst K (v := 1) d_method_3_38 rfl (pc' := 39) rfl ?_
          refine Go.newP K (hw _ (List.mem_of_getElem? (i := 13) rfl)) (by decide) 1 (by decide) (by decide) (by decide) (by decide) d_method_3_39 (pc' := 41) rfl ?_
          intro h233 ba kA_ba eq235 E234 V_ba
          have sz_ba := Nat.le_trans kc0.1 (Nat.le_of_eq eq235.symm)
          have g_ba : n0 ≤ ba := Nat.le_trans Z0 (Nat.le_of_eq eq235.symm)
          have od236 := od.ext E234
          have z237 := Nat.le_trans Z0 E234.1
          have cr238 := CR.trans (CHr.ext E234 CR.1)
          have kc239 := kc0.ext E234
          have V240 : Arv Z h233 ba kA_ba .char (1 : Int32) [(.int (0 : Int32))] (.int (0 : Int32)) := V_ba.pad (pad_rep [] (.int (0 : Int32)) 1)
          refine Go.dup K d_method_3_41 rfl (pc' := 42) rfl ?_
          refine Go.iconst K (v := 0) d_method_3_42 rfl (pc' := 43) rfl ?_
          refine Go.bipush K (v := 97) d_method_3_43 rfl (pc' := 45) rfl ?_
          refine Go.castore K V240 0 rfl (Nat.le_of_ble_eq_true rfl) ⟨by decide, by decide⟩ g_ba d_method_3_45 (pc' := 46) rfl ?_
          intro h241 K242 V243
          replace V243 : Arv Z h241 ba kA_ba .char (1 : Int32) [(.int (nar .char (97 : Int32)))] (.int (0 : Int32)) := V243
          have cr244 := cr238.trans (CHr.keep K242 (sfS (Safe.arv K.cz.alike V240 (by decide)) sf0) cr238.1)
          have od246 := od236.keep K242 (allS g_ba all0)
          have z247 := Nat.le_trans z237 K242.1
          have kc248 := kc239.trans K242 (allS (Or.inr sz_ba) all0)
          refine Go.astoreN K d_method_3_46 rfl (Ls' := #[.val (.int (2 : Int32)), .val (.ref ba)]) rfl (pc' := 47) rfl ?_
          refine Go.goto K d_method_3_47 (pc' := 138) (by decide) (by decide) ?_
          have Vb0 := V243
          rw [own_n97] at Vb0
          refine Go.newO K (hw _ (List.mem_of_getElem? (i := 8) rfl)) (hw _ (List.mem_of_getElem? (i := 14) rfl)) (hw _ (List.mem_of_getElem? (i := 15) rfl)) (by decide) (by decide) d_method_3_138 (pc' := 141) rfl ?_
          intro h249 xs eq252 E250 E_xs D251
          have sz_xs := Nat.le_trans kc248.1 (Nat.le_of_eq eq252.symm)
          have ne253 : ba ≠ xs := own_ne Vb0.lt (Nat.le_of_eq eq252.symm)
          have g_xs : n0 ≤ xs := Nat.le_trans z247 (Nat.le_of_eq eq252.symm)
          have sf254 := Safe.ext E250 cr244.1 (Safe.new (Nat.le_of_eq eq252.symm))
          have f256 := Vb0.ext E250
          have od257 := od246.ext E250
          have z258 := Nat.le_trans z247 E250.1
          have cr259 := cr244.trans (CHr.ext E250 cr244.1)
          have kc260 := kc248.ext E250
          have f261 : Fld Z h249 xs "java/lang/String" "coder" "B" (.int (0 : Int32)) := D251 (Or.inr (hw _ (List.mem_of_getElem? (i := 39) rfl))) (ty := .byte) (by decide)
          have f262 : Fld Z h249 xs "java/lang/String" "value" "[B" .null := D251 (Or.inr (hw _ (List.mem_of_getElem? (i := 41) rfl))) (ty := (.array .byte)) (by decide)
          refine Go.dup K d_method_3_141 rfl (pc' := 142) rfl ?_
          refine Go.aloadN K d_method_3_142 rfl rfl (pc' := 143) rfl ?_
          have hp : ∀ c ∈ ([97] : List Int32), ¬ c < 0 ∧ ¬ (255 : Int32) < c := by decide
          refine Go.callC K (y := (⟨"java/lang/String", "<init>", "([C)V"⟩ : MethodName)) (W := 1) (kc := 1) (nc := 1) (a := xs) rfl (mvT K.cz (hw _ (List.mem_of_getElem? (i := 16) rfl))) (mvT K.cz (hw _ (List.mem_of_getElem? (i := 17) rfl))) (mvT K.cz (hw _ (List.mem_of_getElem? (i := 18) rfl))) (by decide) (paysNew (W := 1) K.cz hws (kI := 4) (hw _ (List.mem_of_getElem? (i := 14) rfl)) (cs := ([97] : List Int32)) (bs := ([97] : List Int32).map (fun c => c.toInt8.toInt32)) (n := 1) g_xs z258 E_xs f262 f261 f256 (S1.ext od257.2) P1 rfl rfl (by decide) (by decide) hp rfl (by decide) (by decide)) rfl (argsL := [(.ref ba)]) (rest := [(.ref xs)]) (lenOf pd__28_5bC_29V rfl) rfl (Nat.le_of_ble_eq_true rfl) (by decide) (by decide) (fun v h' L q => q.2.1) (fun v h' L q => q.2.2.1.1) d_method_3_143 (pc' := 146) rfl ?_
          rintro v265 h263 Lc264 ⟨rfl, Nq, Kq, Eq, Cq, t, kb, ht0, ht1, htne, Fq, Vq⟩
          have f266 := Safe.keep Kq (sfS sf254 sf0) cr259.1 sf254
          have cr267 := cr259.trans (CHr.keep Kq (sfS sf254 sf0) cr259.1)
          have f268 := f256.keep Kq (ninS ne253 nin0)
          have f269 := E_xs.keep Kq
          have od272 := od257.keep Kq (allS g_xs all0)
          have z273 := Nat.le_trans z258 Kq.1
          have kc274 := kc260.trans Kq (allS (Or.inr sz_xs) all0)
          have SX : Str Z h263 xs ([97] : List Int32) := ⟨Eq, Cq, t, kb, Fq, Vq⟩
          show Go p l e _ _ m _ below meth c _ _ _ _ h263 _ _ (mkF m 146 #[.val (.int (2 : Int32)), .val (.ref ba)] [(.ref xs)])
          exact Go.retA K rfl rfl rfl (by decide) (by decide) d_method_3_146 (own_end hEL K.cz cr267 ⟨xs, rfl, sz_xs, kc274, by rw [own_wd2]; exact SX⟩)
      · replace h18 : ¬ (¬ (2 : Int32) = (1 : Int32)) := h18
        exact absurd (by decide) h18
    · replace h1 : ¬ (¬ (2 : Int32) = 0) := h1
      exact absurd (by decide) h1
  · refine Go.iloadN K d_method_3_0 rfl (pc' := 1) rfl ?_
    refine Go.ifc K d_method_3_1 (by decide) (pcT := 16) (pcF := 4) (by decide) rfl (fun h1 => ?_) (fun h1 => ?_)
    · replace h1 : ¬ (3 : Int32) = 0 := h1
      refine Go.iloadN K d_method_3_16 rfl (pc' := 17) rfl ?_
      refine Go.iconst K (v := 1) d_method_3_17 rfl (pc' := 18) rfl ?_
      refine Go.icmp K d_method_3_18 (by decide) (pcT := 33) (pcF := 21) (by decide) rfl (fun h18 => ?_) (fun h18 => ?_)
      · replace h18 : ¬ (3 : Int32) = (1 : Int32) := h18
        refine Go.iloadN K d_method_3_33 rfl (pc' := 34) rfl ?_
        refine Go.iconst K (v := 2) d_method_3_34 rfl (pc' := 35) rfl ?_
        refine Go.icmp K d_method_3_35 (by decide) (pcT := 50) (pcF := 38) (by decide) rfl (fun h35 => ?_) (fun h35 => ?_)
        · replace h35 : ¬ (3 : Int32) = (2 : Int32) := h35
          refine Go.iloadN K d_method_3_50 rfl (pc' := 51) rfl ?_
          refine Go.iconst K (v := 3) d_method_3_51 rfl (pc' := 52) rfl ?_
          refine Go.icmp K d_method_3_52 (by decide) (pcT := 67) (pcF := 55) (by decide) rfl (fun h52 => ?_) (fun h52 => ?_)
          · replace h52 : ¬ (3 : Int32) = (3 : Int32) := h52
            exact absurd rfl h52
          · replace h52 : ¬ (¬ (3 : Int32) = (3 : Int32)) := h52
            refine Go.iconst K (v := 1) d_method_3_55 rfl (pc' := 56) rfl ?_
            refine Go.newP K (hw _ (List.mem_of_getElem? (i := 13) rfl)) (by decide) 1 (by decide) (by decide) (by decide) (by decide) d_method_3_56 (pc' := 58) rfl ?_
            intro h275 ba kA_ba eq277 E276 V_ba
            have sz_ba := Nat.le_trans kc0.1 (Nat.le_of_eq eq277.symm)
            have g_ba : n0 ≤ ba := Nat.le_trans Z0 (Nat.le_of_eq eq277.symm)
            have od278 := od.ext E276
            have z279 := Nat.le_trans Z0 E276.1
            have cr280 := CR.trans (CHr.ext E276 CR.1)
            have kc281 := kc0.ext E276
            have V282 : Arv Z h275 ba kA_ba .char (1 : Int32) [(.int (0 : Int32))] (.int (0 : Int32)) := V_ba.pad (pad_rep [] (.int (0 : Int32)) 1)
            refine Go.dup K d_method_3_58 rfl (pc' := 59) rfl ?_
            refine Go.iconst K (v := 0) d_method_3_59 rfl (pc' := 60) rfl ?_
            refine Go.bipush K (v := 98) d_method_3_60 rfl (pc' := 62) rfl ?_
            refine Go.castore K V282 0 rfl (Nat.le_of_ble_eq_true rfl) ⟨by decide, by decide⟩ g_ba d_method_3_62 (pc' := 63) rfl ?_
            intro h283 K284 V285
            replace V285 : Arv Z h283 ba kA_ba .char (1 : Int32) [(.int (nar .char (98 : Int32)))] (.int (0 : Int32)) := V285
            have cr286 := cr280.trans (CHr.keep K284 (sfS (Safe.arv K.cz.alike V282 (by decide)) sf0) cr280.1)
            have od288 := od278.keep K284 (allS g_ba all0)
            have z289 := Nat.le_trans z279 K284.1
            have kc290 := kc281.trans K284 (allS (Or.inr sz_ba) all0)
            refine Go.astoreN K d_method_3_63 rfl (Ls' := #[.val (.int (3 : Int32)), .val (.ref ba)]) rfl (pc' := 64) rfl ?_
            refine Go.goto K d_method_3_64 (pc' := 138) (by decide) (by decide) ?_
            have Vb0 := V285
            rw [own_n98] at Vb0
            refine Go.newO K (hw _ (List.mem_of_getElem? (i := 8) rfl)) (hw _ (List.mem_of_getElem? (i := 14) rfl)) (hw _ (List.mem_of_getElem? (i := 15) rfl)) (by decide) (by decide) d_method_3_138 (pc' := 141) rfl ?_
            intro h291 xs eq294 E292 E_xs D293
            have sz_xs := Nat.le_trans kc290.1 (Nat.le_of_eq eq294.symm)
            have ne295 : ba ≠ xs := own_ne Vb0.lt (Nat.le_of_eq eq294.symm)
            have g_xs : n0 ≤ xs := Nat.le_trans z289 (Nat.le_of_eq eq294.symm)
            have sf296 := Safe.ext E292 cr286.1 (Safe.new (Nat.le_of_eq eq294.symm))
            have f298 := Vb0.ext E292
            have od299 := od288.ext E292
            have z300 := Nat.le_trans z289 E292.1
            have cr301 := cr286.trans (CHr.ext E292 cr286.1)
            have kc302 := kc290.ext E292
            have f303 : Fld Z h291 xs "java/lang/String" "coder" "B" (.int (0 : Int32)) := D293 (Or.inr (hw _ (List.mem_of_getElem? (i := 39) rfl))) (ty := .byte) (by decide)
            have f304 : Fld Z h291 xs "java/lang/String" "value" "[B" .null := D293 (Or.inr (hw _ (List.mem_of_getElem? (i := 41) rfl))) (ty := (.array .byte)) (by decide)
            refine Go.dup K d_method_3_141 rfl (pc' := 142) rfl ?_
            refine Go.aloadN K d_method_3_142 rfl rfl (pc' := 143) rfl ?_
            have hp : ∀ c ∈ ([98] : List Int32), ¬ c < 0 ∧ ¬ (255 : Int32) < c := by decide
            refine Go.callC K (y := (⟨"java/lang/String", "<init>", "([C)V"⟩ : MethodName)) (W := 1) (kc := 1) (nc := 1) (a := xs) rfl (mvT K.cz (hw _ (List.mem_of_getElem? (i := 16) rfl))) (mvT K.cz (hw _ (List.mem_of_getElem? (i := 17) rfl))) (mvT K.cz (hw _ (List.mem_of_getElem? (i := 18) rfl))) (by decide) (paysNew (W := 1) K.cz hws (kI := 4) (hw _ (List.mem_of_getElem? (i := 14) rfl)) (cs := ([98] : List Int32)) (bs := ([98] : List Int32).map (fun c => c.toInt8.toInt32)) (n := 1) g_xs z300 E_xs f304 f303 f298 (S1.ext od299.2) P1 rfl rfl (by decide) (by decide) hp rfl (by decide) (by decide)) rfl (argsL := [(.ref ba)]) (rest := [(.ref xs)]) (lenOf pd__28_5bC_29V rfl) rfl (Nat.le_of_ble_eq_true rfl) (by decide) (by decide) (fun v h' L q => q.2.1) (fun v h' L q => q.2.2.1.1) d_method_3_143 (pc' := 146) rfl ?_
            rintro v307 h305 Lc306 ⟨rfl, Nq, Kq, Eq, Cq, t, kb, ht0, ht1, htne, Fq, Vq⟩
            have f308 := Safe.keep Kq (sfS sf296 sf0) cr301.1 sf296
            have cr309 := cr301.trans (CHr.keep Kq (sfS sf296 sf0) cr301.1)
            have f310 := f298.keep Kq (ninS ne295 nin0)
            have f311 := E_xs.keep Kq
            have od314 := od299.keep Kq (allS g_xs all0)
            have z315 := Nat.le_trans z300 Kq.1
            have kc316 := kc302.trans Kq (allS (Or.inr sz_xs) all0)
            have SX : Str Z h305 xs ([98] : List Int32) := ⟨Eq, Cq, t, kb, Fq, Vq⟩
            show Go p l e _ _ m _ below meth c _ _ _ _ h305 _ _ (mkF m 146 #[.val (.int (3 : Int32)), .val (.ref ba)] [(.ref xs)])
            exact Go.retA K rfl rfl rfl (by decide) (by decide) d_method_3_146 (own_end hEL K.cz cr309 ⟨xs, rfl, sz_xs, kc316, by rw [own_wd3]; exact SX⟩)
        · replace h35 : ¬ (¬ (3 : Int32) = (2 : Int32)) := h35
          exact absurd (by decide) h35
      · replace h18 : ¬ (¬ (3 : Int32) = (1 : Int32)) := h18
        exact absurd (by decide) h18
    · replace h1 : ¬ (¬ (3 : Int32) = 0) := h1
      exact absurd (by decide) h1
  · refine Go.iloadN K d_method_3_0 rfl (pc' := 1) rfl ?_
    refine Go.ifc K d_method_3_1 (by decide) (pcT := 16) (pcF := 4) (by decide) rfl (fun h1 => ?_) (fun h1 => ?_)
    · replace h1 : ¬ (4 : Int32) = 0 := h1
      refine Go.iloadN K d_method_3_16 rfl (pc' := 17) rfl ?_
      refine Go.iconst K (v := 1) d_method_3_17 rfl (pc' := 18) rfl ?_
      refine Go.icmp K d_method_3_18 (by decide) (pcT := 33) (pcF := 21) (by decide) rfl (fun h18 => ?_) (fun h18 => ?_)
      · replace h18 : ¬ (4 : Int32) = (1 : Int32) := h18
        refine Go.iloadN K d_method_3_33 rfl (pc' := 34) rfl ?_
        refine Go.iconst K (v := 2) d_method_3_34 rfl (pc' := 35) rfl ?_
        refine Go.icmp K d_method_3_35 (by decide) (pcT := 50) (pcF := 38) (by decide) rfl (fun h35 => ?_) (fun h35 => ?_)
        · replace h35 : ¬ (4 : Int32) = (2 : Int32) := h35
          refine Go.iloadN K d_method_3_50 rfl (pc' := 51) rfl ?_
          refine Go.iconst K (v := 3) d_method_3_51 rfl (pc' := 52) rfl ?_
          refine Go.icmp K d_method_3_52 (by decide) (pcT := 67) (pcF := 55) (by decide) rfl (fun h52 => ?_) (fun h52 => ?_)
          · replace h52 : ¬ (4 : Int32) = (3 : Int32) := h52
            refine Go.iloadN K d_method_3_67 rfl (pc' := 68) rfl ?_
            refine Go.iconst K (v := 4) d_method_3_68 rfl (pc' := 69) rfl ?_
            refine Go.icmp K d_method_3_69 (by decide) (pcT := 79) (pcF := 72) (by decide) rfl (fun h69 => ?_) (fun h69 => ?_)
            · replace h69 : ¬ (4 : Int32) = (4 : Int32) := h69
              exact absurd rfl h69
            · replace h69 : ¬ (¬ (4 : Int32) = (4 : Int32)) := h69
              refine Go.iconst K (v := 0) d_method_3_72 rfl (pc' := 73) rfl ?_
              refine Go.newP K (hw _ (List.mem_of_getElem? (i := 13) rfl)) (by decide) 0 (by decide) (by decide) (by decide) (by decide) d_method_3_73 (pc' := 75) rfl ?_
              intro h317 ba kA_ba eq319 E318 V_ba
              have sz_ba := Nat.le_trans kc0.1 (Nat.le_of_eq eq319.symm)
              have g_ba : n0 ≤ ba := Nat.le_trans Z0 (Nat.le_of_eq eq319.symm)
              have od320 := od.ext E318
              have z321 := Nat.le_trans Z0 E318.1
              have cr322 := CR.trans (CHr.ext E318 CR.1)
              have kc323 := kc0.ext E318
              have V324 : Arv Z h317 ba kA_ba .char (0 : Int32) [] (.int (0 : Int32)) := V_ba.pad (pad_rep [] (.int (0 : Int32)) 0)
              refine Go.astoreN K d_method_3_75 rfl (Ls' := #[.val (.int (4 : Int32)), .val (.ref ba)]) rfl (pc' := 76) rfl ?_
              refine Go.goto K d_method_3_76 (pc' := 138) (by decide) (by decide) ?_
              refine Go.newO K (hw _ (List.mem_of_getElem? (i := 8) rfl)) (hw _ (List.mem_of_getElem? (i := 14) rfl)) (hw _ (List.mem_of_getElem? (i := 15) rfl)) (by decide) (by decide) d_method_3_138 (pc' := 141) rfl ?_
              intro h325 xs eq328 E326 E_xs D327
              have sz_xs := Nat.le_trans kc323.1 (Nat.le_of_eq eq328.symm)
              have ne329 : ba ≠ xs := own_ne V324.lt (Nat.le_of_eq eq328.symm)
              have g_xs : n0 ≤ xs := Nat.le_trans z321 (Nat.le_of_eq eq328.symm)
              have sf330 := Safe.ext E326 cr322.1 (Safe.new (Nat.le_of_eq eq328.symm))
              have f332 := V324.ext E326
              have od333 := od320.ext E326
              have z334 := Nat.le_trans z321 E326.1
              have cr335 := cr322.trans (CHr.ext E326 cr322.1)
              have kc336 := kc323.ext E326
              have f337 : Fld Z h325 xs "java/lang/String" "coder" "B" (.int (0 : Int32)) := D327 (Or.inr (hw _ (List.mem_of_getElem? (i := 39) rfl))) (ty := .byte) (by decide)
              have f338 : Fld Z h325 xs "java/lang/String" "value" "[B" .null := D327 (Or.inr (hw _ (List.mem_of_getElem? (i := 41) rfl))) (ty := (.array .byte)) (by decide)
              refine Go.dup K d_method_3_141 rfl (pc' := 142) rfl ?_
              refine Go.aloadN K d_method_3_142 rfl rfl (pc' := 143) rfl ?_
              refine Go.callCW K hS (y := (⟨"java/lang/String", "<init>", "([C)V"⟩ : MethodName)) (W := 1) (kc := 4) (nc := 8) (a := xs) rfl (mvT K.cz (hw _ (List.mem_of_getElem? (i := 16) rfl))) (mvT K.cz (hw _ (List.mem_of_getElem? (i := 17) rfl))) (mvT K.cz (hw _ (List.mem_of_getElem? (i := 18) rfl))) (by decide) ((m_s1e l Z a0 hw h325 n0 z334 wS hEL xs E_xs f338 f337 g_xs ba kA_ba _ f332).pays (W := 1) K.cz (hw _ (List.mem_of_getElem? (i := 18) rfl)) (hw _ (List.mem_of_getElem? (i := 15) rfl)) (by decide) (by decide) hEL cr335.1) rfl (argsL := [(.ref ba)]) (rest := [(.ref xs)]) (lenOf pd__28_5bC_29V rfl) rfl (Nat.le_of_ble_eq_true rfl) (by decide) (by decide) frOf d_method_3_143 (pc' := 146) rfl ?_
              rintro v341 h339 Lc340 vm342 B343 ⟨⟨⟨rfl, Kq, Eq, Cq, t, kb, Fq, Vq⟩, -⟩, -⟩ hrh339 hS K
              have f344 := hrh339.safe E_xs.lt sf330
              have cr345 := cr335.trans (hrh339)
              have f346 := E_xs.keep Kq
              have od349 := od333.keep Kq (allS g_xs all0)
              have z350 := Nat.le_trans z334 Kq.1
              have kc351 := kc336.trans Kq (allS (Or.inr sz_xs) all0)
              have SX : Str Z h339 xs ([] : List Int32) := ⟨Eq, Cq, t, kb, Fq, Vq⟩
              show Go p l e _ _ m _ below meth c _ _ _ _ h339 _ _ (mkF m 146 #[.val (.int (4 : Int32)), .val (.ref ba)] [(.ref xs)])
              exact Go.retA K rfl rfl rfl (by decide) (by decide) d_method_3_146 (own_end hEL K.cz cr345 ⟨xs, rfl, sz_xs, kc351, by rw [own_wd4]; exact SX⟩)
          · replace h52 : ¬ (¬ (4 : Int32) = (3 : Int32)) := h52
            exact absurd (by decide) h52
        · replace h35 : ¬ (¬ (4 : Int32) = (2 : Int32)) := h35
          exact absurd (by decide) h35
      · replace h18 : ¬ (¬ (4 : Int32) = (1 : Int32)) := h18
        exact absurd (by decide) h18
    · replace h1 : ¬ (¬ (4 : Int32) = 0) := h1
      exact absurd (by decide) h1
  · refine Go.iloadN K d_method_3_0 rfl (pc' := 1) rfl ?_
    refine Go.ifc K d_method_3_1 (by decide) (pcT := 16) (pcF := 4) (by decide) rfl (fun h1 => ?_) (fun h1 => ?_)
    · replace h1 : ¬ (5 : Int32) = 0 := h1
      refine Go.iloadN K d_method_3_16 rfl (pc' := 17) rfl ?_
      refine Go.iconst K (v := 1) d_method_3_17 rfl (pc' := 18) rfl ?_
      refine Go.icmp K d_method_3_18 (by decide) (pcT := 33) (pcF := 21) (by decide) rfl (fun h18 => ?_) (fun h18 => ?_)
      · replace h18 : ¬ (5 : Int32) = (1 : Int32) := h18
        refine Go.iloadN K d_method_3_33 rfl (pc' := 34) rfl ?_
        refine Go.iconst K (v := 2) d_method_3_34 rfl (pc' := 35) rfl ?_
        refine Go.icmp K d_method_3_35 (by decide) (pcT := 50) (pcF := 38) (by decide) rfl (fun h35 => ?_) (fun h35 => ?_)
        · replace h35 : ¬ (5 : Int32) = (2 : Int32) := h35
          refine Go.iloadN K d_method_3_50 rfl (pc' := 51) rfl ?_
          refine Go.iconst K (v := 3) d_method_3_51 rfl (pc' := 52) rfl ?_
          refine Go.icmp K d_method_3_52 (by decide) (pcT := 67) (pcF := 55) (by decide) rfl (fun h52 => ?_) (fun h52 => ?_)
          · replace h52 : ¬ (5 : Int32) = (3 : Int32) := h52
            refine Go.iloadN K d_method_3_67 rfl (pc' := 68) rfl ?_
            refine Go.iconst K (v := 4) d_method_3_68 rfl (pc' := 69) rfl ?_
            refine Go.icmp K d_method_3_69 (by decide) (pcT := 79) (pcF := 72) (by decide) rfl (fun h69 => ?_) (fun h69 => ?_)
            · replace h69 : ¬ (5 : Int32) = (4 : Int32) := h69
              refine Go.iloadN K d_method_3_79 rfl (pc' := 80) rfl ?_
              refine Go.iconst K (v := 5) d_method_3_80 rfl (pc' := 81) rfl ?_
              refine Go.icmp K d_method_3_81 (by decide) (pcT := 101) (pcF := 84) (by decide) rfl (fun h81 => ?_) (fun h81 => ?_)
              · replace h81 : ¬ (5 : Int32) = (5 : Int32) := h81
                exact absurd rfl h81
              · replace h81 : ¬ (¬ (5 : Int32) = (5 : Int32)) := h81
                refine Go.iconst K (v := 2) d_method_3_84 rfl (pc' := 85) rfl ?_
                refine Go.newP K (hw _ (List.mem_of_getElem? (i := 13) rfl)) (by decide) 2 (by decide) (by decide) (by decide) (by decide) d_method_3_85 (pc' := 87) rfl ?_
                intro h352 ba kA_ba eq354 E353 V_ba
                have sz_ba := Nat.le_trans kc0.1 (Nat.le_of_eq eq354.symm)
                have g_ba : n0 ≤ ba := Nat.le_trans Z0 (Nat.le_of_eq eq354.symm)
                have od355 := od.ext E353
                have z356 := Nat.le_trans Z0 E353.1
                have cr357 := CR.trans (CHr.ext E353 CR.1)
                have kc358 := kc0.ext E353
                have V359 : Arv Z h352 ba kA_ba .char (2 : Int32) [(.int (0 : Int32)), (.int (0 : Int32))] (.int (0 : Int32)) := V_ba.pad (pad_rep [] (.int (0 : Int32)) 2)
                refine Go.dup K d_method_3_87 rfl (pc' := 88) rfl ?_
                refine Go.iconst K (v := 0) d_method_3_88 rfl (pc' := 89) rfl ?_
                refine Go.bipush K (v := 97) d_method_3_89 rfl (pc' := 91) rfl ?_
                refine Go.castore K V359 0 rfl (Nat.le_of_ble_eq_true rfl) ⟨by decide, by decide⟩ g_ba d_method_3_91 (pc' := 92) rfl ?_
                intro h360 K361 V362
                replace V362 : Arv Z h360 ba kA_ba .char (2 : Int32) [(.int (nar .char (97 : Int32))), (.int (0 : Int32))] (.int (0 : Int32)) := V362
                have cr363 := cr357.trans (CHr.keep K361 (sfS (Safe.arv K.cz.alike V359 (by decide)) sf0) cr357.1)
                have od365 := od355.keep K361 (allS g_ba all0)
                have z366 := Nat.le_trans z356 K361.1
                have kc367 := kc358.trans K361 (allS (Or.inr sz_ba) all0)
                refine Go.dup K d_method_3_92 rfl (pc' := 93) rfl ?_
                refine Go.iconst K (v := 1) d_method_3_93 rfl (pc' := 94) rfl ?_
                refine Go.bipush K (v := 98) d_method_3_94 rfl (pc' := 96) rfl ?_
                refine Go.castore K V362 1 rfl (Nat.le_of_ble_eq_true rfl) ⟨by decide, by decide⟩ g_ba d_method_3_96 (pc' := 97) rfl ?_
                intro h368 K369 V370
                replace V370 : Arv Z h368 ba kA_ba .char (2 : Int32) [(.int (nar .char (97 : Int32))), (.int (nar .char (98 : Int32)))] (.int (0 : Int32)) := V370
                have cr371 := cr363.trans (CHr.keep K369 (sfS (Safe.arv K.cz.alike V362 (by decide)) sf0) cr363.1)
                have od373 := od365.keep K369 (allS g_ba all0)
                have z374 := Nat.le_trans z366 K369.1
                have kc375 := kc367.trans K369 (allS (Or.inr sz_ba) all0)
                refine Go.astoreN K d_method_3_97 rfl (Ls' := #[.val (.int (5 : Int32)), .val (.ref ba)]) rfl (pc' := 98) rfl ?_
                refine Go.goto K d_method_3_98 (pc' := 138) (by decide) (by decide) ?_
                have Vb0 := V370
                rw [own_n97, own_n98] at Vb0
                refine Go.newO K (hw _ (List.mem_of_getElem? (i := 8) rfl)) (hw _ (List.mem_of_getElem? (i := 14) rfl)) (hw _ (List.mem_of_getElem? (i := 15) rfl)) (by decide) (by decide) d_method_3_138 (pc' := 141) rfl ?_
                intro h376 xs eq379 E377 E_xs D378
                have sz_xs := Nat.le_trans kc375.1 (Nat.le_of_eq eq379.symm)
                have ne380 : ba ≠ xs := own_ne Vb0.lt (Nat.le_of_eq eq379.symm)
                have g_xs : n0 ≤ xs := Nat.le_trans z374 (Nat.le_of_eq eq379.symm)
                have sf381 := Safe.ext E377 cr371.1 (Safe.new (Nat.le_of_eq eq379.symm))
                have f383 := Vb0.ext E377
                have od384 := od373.ext E377
                have z385 := Nat.le_trans z374 E377.1
                have cr386 := cr371.trans (CHr.ext E377 cr371.1)
                have kc387 := kc375.ext E377
                have f388 : Fld Z h376 xs "java/lang/String" "coder" "B" (.int (0 : Int32)) := D378 (Or.inr (hw _ (List.mem_of_getElem? (i := 39) rfl))) (ty := .byte) (by decide)
                have f389 : Fld Z h376 xs "java/lang/String" "value" "[B" .null := D378 (Or.inr (hw _ (List.mem_of_getElem? (i := 41) rfl))) (ty := (.array .byte)) (by decide)
                refine Go.dup K d_method_3_141 rfl (pc' := 142) rfl ?_
                refine Go.aloadN K d_method_3_142 rfl rfl (pc' := 143) rfl ?_
                have hp : ∀ c ∈ ([97, 98] : List Int32), ¬ c < 0 ∧ ¬ (255 : Int32) < c := by decide
                refine Go.callC K (y := (⟨"java/lang/String", "<init>", "([C)V"⟩ : MethodName)) (W := 1) (kc := 1) (nc := 2) (a := xs) rfl (mvT K.cz (hw _ (List.mem_of_getElem? (i := 16) rfl))) (mvT K.cz (hw _ (List.mem_of_getElem? (i := 17) rfl))) (mvT K.cz (hw _ (List.mem_of_getElem? (i := 18) rfl))) (by decide) (paysNew (W := 1) K.cz hws (kI := 4) (hw _ (List.mem_of_getElem? (i := 14) rfl)) (cs := ([97, 98] : List Int32)) (bs := ([97, 98] : List Int32).map (fun c => c.toInt8.toInt32)) (n := 2) g_xs z385 E_xs f389 f388 f383 (S1.ext od384.2) P1 rfl rfl (by decide) (by decide) hp rfl (by decide) (by decide)) rfl (argsL := [(.ref ba)]) (rest := [(.ref xs)]) (lenOf pd__28_5bC_29V rfl) rfl (Nat.le_of_ble_eq_true rfl) (by decide) (by decide) (fun v h' L q => q.2.1) (fun v h' L q => q.2.2.1.1) d_method_3_143 (pc' := 146) rfl ?_
                rintro v392 h390 Lc391 ⟨rfl, Nq, Kq, Eq, Cq, t, kb, ht0, ht1, htne, Fq, Vq⟩
                have f393 := Safe.keep Kq (sfS sf381 sf0) cr386.1 sf381
                have cr394 := cr386.trans (CHr.keep Kq (sfS sf381 sf0) cr386.1)
                have f395 := f383.keep Kq (ninS ne380 nin0)
                have f396 := E_xs.keep Kq
                have od399 := od384.keep Kq (allS g_xs all0)
                have z400 := Nat.le_trans z385 Kq.1
                have kc401 := kc387.trans Kq (allS (Or.inr sz_xs) all0)
                have SX : Str Z h390 xs ([97, 98] : List Int32) := ⟨Eq, Cq, t, kb, Fq, Vq⟩
                show Go p l e _ _ m _ below meth c _ _ _ _ h390 _ _ (mkF m 146 #[.val (.int (5 : Int32)), .val (.ref ba)] [(.ref xs)])
                exact Go.retA K rfl rfl rfl (by decide) (by decide) d_method_3_146 (own_end hEL K.cz cr394 ⟨xs, rfl, sz_xs, kc401, by rw [own_wd5]; exact SX⟩)
            · replace h69 : ¬ (¬ (5 : Int32) = (4 : Int32)) := h69
              exact absurd (by decide) h69
          · replace h52 : ¬ (¬ (5 : Int32) = (3 : Int32)) := h52
            exact absurd (by decide) h52
        · replace h35 : ¬ (¬ (5 : Int32) = (2 : Int32)) := h35
          exact absurd (by decide) h35
      · replace h18 : ¬ (¬ (5 : Int32) = (1 : Int32)) := h18
        exact absurd (by decide) h18
    · replace h1 : ¬ (¬ (5 : Int32) = 0) := h1
      exact absurd (by decide) h1
  · refine Go.iloadN K d_method_3_0 rfl (pc' := 1) rfl ?_
    refine Go.ifc K d_method_3_1 (by decide) (pcT := 16) (pcF := 4) (by decide) rfl (fun h1 => ?_) (fun h1 => ?_)
    · replace h1 : ¬ (6 : Int32) = 0 := h1
      refine Go.iloadN K d_method_3_16 rfl (pc' := 17) rfl ?_
      refine Go.iconst K (v := 1) d_method_3_17 rfl (pc' := 18) rfl ?_
      refine Go.icmp K d_method_3_18 (by decide) (pcT := 33) (pcF := 21) (by decide) rfl (fun h18 => ?_) (fun h18 => ?_)
      · replace h18 : ¬ (6 : Int32) = (1 : Int32) := h18
        refine Go.iloadN K d_method_3_33 rfl (pc' := 34) rfl ?_
        refine Go.iconst K (v := 2) d_method_3_34 rfl (pc' := 35) rfl ?_
        refine Go.icmp K d_method_3_35 (by decide) (pcT := 50) (pcF := 38) (by decide) rfl (fun h35 => ?_) (fun h35 => ?_)
        · replace h35 : ¬ (6 : Int32) = (2 : Int32) := h35
          refine Go.iloadN K d_method_3_50 rfl (pc' := 51) rfl ?_
          refine Go.iconst K (v := 3) d_method_3_51 rfl (pc' := 52) rfl ?_
          refine Go.icmp K d_method_3_52 (by decide) (pcT := 67) (pcF := 55) (by decide) rfl (fun h52 => ?_) (fun h52 => ?_)
          · replace h52 : ¬ (6 : Int32) = (3 : Int32) := h52
            refine Go.iloadN K d_method_3_67 rfl (pc' := 68) rfl ?_
            refine Go.iconst K (v := 4) d_method_3_68 rfl (pc' := 69) rfl ?_
            refine Go.icmp K d_method_3_69 (by decide) (pcT := 79) (pcF := 72) (by decide) rfl (fun h69 => ?_) (fun h69 => ?_)
            · replace h69 : ¬ (6 : Int32) = (4 : Int32) := h69
              refine Go.iloadN K d_method_3_79 rfl (pc' := 80) rfl ?_
              refine Go.iconst K (v := 5) d_method_3_80 rfl (pc' := 81) rfl ?_
              refine Go.icmp K d_method_3_81 (by decide) (pcT := 101) (pcF := 84) (by decide) rfl (fun h81 => ?_) (fun h81 => ?_)
              · replace h81 : ¬ (6 : Int32) = (5 : Int32) := h81
                refine Go.iloadN K d_method_3_101 rfl (pc' := 102) rfl ?_
                refine Go.bipush K (v := 6) d_method_3_102 rfl (pc' := 104) rfl ?_
                refine Go.icmp K d_method_3_104 (by decide) (pcT := 124) (pcF := 107) (by decide) rfl (fun h104 => ?_) (fun h104 => ?_)
                · replace h104 : ¬ (6 : Int32) = (6 : Int32) := h104
                  exact absurd rfl h104
                · replace h104 : ¬ (¬ (6 : Int32) = (6 : Int32)) := h104
                  refine Go.iconst K (v := 2) d_method_3_107 rfl (pc' := 108) rfl ?_
                  refine Go.newP K (hw _ (List.mem_of_getElem? (i := 13) rfl)) (by decide) 2 (by decide) (by decide) (by decide) (by decide) d_method_3_108 (pc' := 110) rfl ?_
                  intro h402 ba kA_ba eq404 E403 V_ba
                  have sz_ba := Nat.le_trans kc0.1 (Nat.le_of_eq eq404.symm)
                  have g_ba : n0 ≤ ba := Nat.le_trans Z0 (Nat.le_of_eq eq404.symm)
                  have od405 := od.ext E403
                  have z406 := Nat.le_trans Z0 E403.1
                  have cr407 := CR.trans (CHr.ext E403 CR.1)
                  have kc408 := kc0.ext E403
                  have V409 : Arv Z h402 ba kA_ba .char (2 : Int32) [(.int (0 : Int32)), (.int (0 : Int32))] (.int (0 : Int32)) := V_ba.pad (pad_rep [] (.int (0 : Int32)) 2)
                  refine Go.dup K d_method_3_110 rfl (pc' := 111) rfl ?_
                  refine Go.iconst K (v := 0) d_method_3_111 rfl (pc' := 112) rfl ?_
                  refine Go.bipush K (v := 35) d_method_3_112 rfl (pc' := 114) rfl ?_
                  refine Go.castore K V409 0 rfl (Nat.le_of_ble_eq_true rfl) ⟨by decide, by decide⟩ g_ba d_method_3_114 (pc' := 115) rfl ?_
                  intro h410 K411 V412
                  replace V412 : Arv Z h410 ba kA_ba .char (2 : Int32) [(.int (nar .char (35 : Int32))), (.int (0 : Int32))] (.int (0 : Int32)) := V412
                  have cr413 := cr407.trans (CHr.keep K411 (sfS (Safe.arv K.cz.alike V409 (by decide)) sf0) cr407.1)
                  have od415 := od405.keep K411 (allS g_ba all0)
                  have z416 := Nat.le_trans z406 K411.1
                  have kc417 := kc408.trans K411 (allS (Or.inr sz_ba) all0)
                  refine Go.dup K d_method_3_115 rfl (pc' := 116) rfl ?_
                  refine Go.iconst K (v := 1) d_method_3_116 rfl (pc' := 117) rfl ?_
                  refine Go.bipush K (v := 35) d_method_3_117 rfl (pc' := 119) rfl ?_
                  refine Go.castore K V412 1 rfl (Nat.le_of_ble_eq_true rfl) ⟨by decide, by decide⟩ g_ba d_method_3_119 (pc' := 120) rfl ?_
                  intro h418 K419 V420
                  replace V420 : Arv Z h418 ba kA_ba .char (2 : Int32) [(.int (nar .char (35 : Int32))), (.int (nar .char (35 : Int32)))] (.int (0 : Int32)) := V420
                  have cr421 := cr413.trans (CHr.keep K419 (sfS (Safe.arv K.cz.alike V412 (by decide)) sf0) cr413.1)
                  have od423 := od415.keep K419 (allS g_ba all0)
                  have z424 := Nat.le_trans z416 K419.1
                  have kc425 := kc417.trans K419 (allS (Or.inr sz_ba) all0)
                  refine Go.astoreN K d_method_3_120 rfl (Ls' := #[.val (.int (6 : Int32)), .val (.ref ba)]) rfl (pc' := 121) rfl ?_
                  refine Go.goto K d_method_3_121 (pc' := 138) (by decide) (by decide) ?_
                  have Vb0 := V420
                  rw [own_n35] at Vb0
                  refine Go.newO K (hw _ (List.mem_of_getElem? (i := 8) rfl)) (hw _ (List.mem_of_getElem? (i := 14) rfl)) (hw _ (List.mem_of_getElem? (i := 15) rfl)) (by decide) (by decide) d_method_3_138 (pc' := 141) rfl ?_
                  intro h426 xs eq429 E427 E_xs D428
                  have sz_xs := Nat.le_trans kc425.1 (Nat.le_of_eq eq429.symm)
                  have ne430 : ba ≠ xs := own_ne Vb0.lt (Nat.le_of_eq eq429.symm)
                  have g_xs : n0 ≤ xs := Nat.le_trans z424 (Nat.le_of_eq eq429.symm)
                  have sf431 := Safe.ext E427 cr421.1 (Safe.new (Nat.le_of_eq eq429.symm))
                  have f433 := Vb0.ext E427
                  have od434 := od423.ext E427
                  have z435 := Nat.le_trans z424 E427.1
                  have cr436 := cr421.trans (CHr.ext E427 cr421.1)
                  have kc437 := kc425.ext E427
                  have f438 : Fld Z h426 xs "java/lang/String" "coder" "B" (.int (0 : Int32)) := D428 (Or.inr (hw _ (List.mem_of_getElem? (i := 39) rfl))) (ty := .byte) (by decide)
                  have f439 : Fld Z h426 xs "java/lang/String" "value" "[B" .null := D428 (Or.inr (hw _ (List.mem_of_getElem? (i := 41) rfl))) (ty := (.array .byte)) (by decide)
                  refine Go.dup K d_method_3_141 rfl (pc' := 142) rfl ?_
                  refine Go.aloadN K d_method_3_142 rfl rfl (pc' := 143) rfl ?_
                  have hp : ∀ c ∈ ([35, 35] : List Int32), ¬ c < 0 ∧ ¬ (255 : Int32) < c := by decide
                  refine Go.callC K (y := (⟨"java/lang/String", "<init>", "([C)V"⟩ : MethodName)) (W := 1) (kc := 1) (nc := 2) (a := xs) rfl (mvT K.cz (hw _ (List.mem_of_getElem? (i := 16) rfl))) (mvT K.cz (hw _ (List.mem_of_getElem? (i := 17) rfl))) (mvT K.cz (hw _ (List.mem_of_getElem? (i := 18) rfl))) (by decide) (paysNew (W := 1) K.cz hws (kI := 4) (hw _ (List.mem_of_getElem? (i := 14) rfl)) (cs := ([35, 35] : List Int32)) (bs := ([35, 35] : List Int32).map (fun c => c.toInt8.toInt32)) (n := 2) g_xs z435 E_xs f439 f438 f433 (S1.ext od434.2) P1 rfl rfl (by decide) (by decide) hp rfl (by decide) (by decide)) rfl (argsL := [(.ref ba)]) (rest := [(.ref xs)]) (lenOf pd__28_5bC_29V rfl) rfl (Nat.le_of_ble_eq_true rfl) (by decide) (by decide) (fun v h' L q => q.2.1) (fun v h' L q => q.2.2.1.1) d_method_3_143 (pc' := 146) rfl ?_
                  rintro v442 h440 Lc441 ⟨rfl, Nq, Kq, Eq, Cq, t, kb, ht0, ht1, htne, Fq, Vq⟩
                  have f443 := Safe.keep Kq (sfS sf431 sf0) cr436.1 sf431
                  have cr444 := cr436.trans (CHr.keep Kq (sfS sf431 sf0) cr436.1)
                  have f445 := f433.keep Kq (ninS ne430 nin0)
                  have f446 := E_xs.keep Kq
                  have od449 := od434.keep Kq (allS g_xs all0)
                  have z450 := Nat.le_trans z435 Kq.1
                  have kc451 := kc437.trans Kq (allS (Or.inr sz_xs) all0)
                  have SX : Str Z h440 xs ([35, 35] : List Int32) := ⟨Eq, Cq, t, kb, Fq, Vq⟩
                  show Go p l e _ _ m _ below meth c _ _ _ _ h440 _ _ (mkF m 146 #[.val (.int (6 : Int32)), .val (.ref ba)] [(.ref xs)])
                  exact Go.retA K rfl rfl rfl (by decide) (by decide) d_method_3_146 (own_end hEL K.cz cr444 ⟨xs, rfl, sz_xs, kc451, by rw [own_wd6]; exact SX⟩)
              · replace h81 : ¬ (¬ (6 : Int32) = (5 : Int32)) := h81
                exact absurd (by decide) h81
            · replace h69 : ¬ (¬ (6 : Int32) = (4 : Int32)) := h69
              exact absurd (by decide) h69
          · replace h52 : ¬ (¬ (6 : Int32) = (3 : Int32)) := h52
            exact absurd (by decide) h52
        · replace h35 : ¬ (¬ (6 : Int32) = (2 : Int32)) := h35
          exact absurd (by decide) h35
      · replace h18 : ¬ (¬ (6 : Int32) = (1 : Int32)) := h18
        exact absurd (by decide) h18
    · replace h1 : ¬ (¬ (6 : Int32) = 0) := h1
      exact absurd (by decide) h1
  · refine Go.iloadN K d_method_3_0 rfl (pc' := 1) rfl ?_
    refine Go.ifc K d_method_3_1 (by decide) (pcT := 16) (pcF := 4) (by decide) rfl (fun h1 => ?_) (fun h1 => ?_)
    · replace h1 : ¬ (7 : Int32) = 0 := h1
      refine Go.iloadN K d_method_3_16 rfl (pc' := 17) rfl ?_
      refine Go.iconst K (v := 1) d_method_3_17 rfl (pc' := 18) rfl ?_
      refine Go.icmp K d_method_3_18 (by decide) (pcT := 33) (pcF := 21) (by decide) rfl (fun h18 => ?_) (fun h18 => ?_)
      · replace h18 : ¬ (7 : Int32) = (1 : Int32) := h18
        refine Go.iloadN K d_method_3_33 rfl (pc' := 34) rfl ?_
        refine Go.iconst K (v := 2) d_method_3_34 rfl (pc' := 35) rfl ?_
        refine Go.icmp K d_method_3_35 (by decide) (pcT := 50) (pcF := 38) (by decide) rfl (fun h35 => ?_) (fun h35 => ?_)
        · replace h35 : ¬ (7 : Int32) = (2 : Int32) := h35
          refine Go.iloadN K d_method_3_50 rfl (pc' := 51) rfl ?_
          refine Go.iconst K (v := 3) d_method_3_51 rfl (pc' := 52) rfl ?_
          refine Go.icmp K d_method_3_52 (by decide) (pcT := 67) (pcF := 55) (by decide) rfl (fun h52 => ?_) (fun h52 => ?_)
          · replace h52 : ¬ (7 : Int32) = (3 : Int32) := h52
            refine Go.iloadN K d_method_3_67 rfl (pc' := 68) rfl ?_
            refine Go.iconst K (v := 4) d_method_3_68 rfl (pc' := 69) rfl ?_
            refine Go.icmp K d_method_3_69 (by decide) (pcT := 79) (pcF := 72) (by decide) rfl (fun h69 => ?_) (fun h69 => ?_)
            · replace h69 : ¬ (7 : Int32) = (4 : Int32) := h69
              refine Go.iloadN K d_method_3_79 rfl (pc' := 80) rfl ?_
              refine Go.iconst K (v := 5) d_method_3_80 rfl (pc' := 81) rfl ?_
              refine Go.icmp K d_method_3_81 (by decide) (pcT := 101) (pcF := 84) (by decide) rfl (fun h81 => ?_) (fun h81 => ?_)
              · replace h81 : ¬ (7 : Int32) = (5 : Int32) := h81
                refine Go.iloadN K d_method_3_101 rfl (pc' := 102) rfl ?_
                refine Go.bipush K (v := 6) d_method_3_102 rfl (pc' := 104) rfl ?_
                refine Go.icmp K d_method_3_104 (by decide) (pcT := 124) (pcF := 107) (by decide) rfl (fun h104 => ?_) (fun h104 => ?_)
                · replace h104 : ¬ (7 : Int32) = (6 : Int32) := h104
                  refine Go.iconst K (v := 2) d_method_3_124 rfl (pc' := 125) rfl ?_
                  refine Go.newP K (hw _ (List.mem_of_getElem? (i := 13) rfl)) (by decide) 2 (by decide) (by decide) (by decide) (by decide) d_method_3_125 (pc' := 127) rfl ?_
                  intro h452 ba kA_ba eq454 E453 V_ba
                  have sz_ba := Nat.le_trans kc0.1 (Nat.le_of_eq eq454.symm)
                  have g_ba : n0 ≤ ba := Nat.le_trans Z0 (Nat.le_of_eq eq454.symm)
                  have od455 := od.ext E453
                  have z456 := Nat.le_trans Z0 E453.1
                  have cr457 := CR.trans (CHr.ext E453 CR.1)
                  have kc458 := kc0.ext E453
                  have V459 : Arv Z h452 ba kA_ba .char (2 : Int32) [(.int (0 : Int32)), (.int (0 : Int32))] (.int (0 : Int32)) := V_ba.pad (pad_rep [] (.int (0 : Int32)) 2)
                  refine Go.dup K d_method_3_127 rfl (pc' := 128) rfl ?_
                  refine Go.iconst K (v := 0) d_method_3_128 rfl (pc' := 129) rfl ?_
                  refine Go.bipush K (v := 97) d_method_3_129 rfl (pc' := 131) rfl ?_
                  refine Go.castore K V459 0 rfl (Nat.le_of_ble_eq_true rfl) ⟨by decide, by decide⟩ g_ba d_method_3_131 (pc' := 132) rfl ?_
                  intro h460 K461 V462
                  replace V462 : Arv Z h460 ba kA_ba .char (2 : Int32) [(.int (nar .char (97 : Int32))), (.int (0 : Int32))] (.int (0 : Int32)) := V462
                  have cr463 := cr457.trans (CHr.keep K461 (sfS (Safe.arv K.cz.alike V459 (by decide)) sf0) cr457.1)
                  have od465 := od455.keep K461 (allS g_ba all0)
                  have z466 := Nat.le_trans z456 K461.1
                  have kc467 := kc458.trans K461 (allS (Or.inr sz_ba) all0)
                  refine Go.dup K d_method_3_132 rfl (pc' := 133) rfl ?_
                  refine Go.iconst K (v := 1) d_method_3_133 rfl (pc' := 134) rfl ?_
                  refine Go.bipush K (v := 42) d_method_3_134 rfl (pc' := 136) rfl ?_
                  refine Go.castore K V462 1 rfl (Nat.le_of_ble_eq_true rfl) ⟨by decide, by decide⟩ g_ba d_method_3_136 (pc' := 137) rfl ?_
                  intro h468 K469 V470
                  replace V470 : Arv Z h468 ba kA_ba .char (2 : Int32) [(.int (nar .char (97 : Int32))), (.int (nar .char (42 : Int32)))] (.int (0 : Int32)) := V470
                  have cr471 := cr463.trans (CHr.keep K469 (sfS (Safe.arv K.cz.alike V462 (by decide)) sf0) cr463.1)
                  have od473 := od465.keep K469 (allS g_ba all0)
                  have z474 := Nat.le_trans z466 K469.1
                  have kc475 := kc467.trans K469 (allS (Or.inr sz_ba) all0)
                  refine Go.astoreN K d_method_3_137 rfl (Ls' := #[.val (.int (7 : Int32)), .val (.ref ba)]) rfl (pc' := 138) rfl ?_
                  have Vb0 := V470
                  rw [own_n97, own_n42] at Vb0
                  refine Go.newO K (hw _ (List.mem_of_getElem? (i := 8) rfl)) (hw _ (List.mem_of_getElem? (i := 14) rfl)) (hw _ (List.mem_of_getElem? (i := 15) rfl)) (by decide) (by decide) d_method_3_138 (pc' := 141) rfl ?_
                  intro h476 xs eq479 E477 E_xs D478
                  have sz_xs := Nat.le_trans kc475.1 (Nat.le_of_eq eq479.symm)
                  have ne480 : ba ≠ xs := own_ne Vb0.lt (Nat.le_of_eq eq479.symm)
                  have g_xs : n0 ≤ xs := Nat.le_trans z474 (Nat.le_of_eq eq479.symm)
                  have sf481 := Safe.ext E477 cr471.1 (Safe.new (Nat.le_of_eq eq479.symm))
                  have f483 := Vb0.ext E477
                  have od484 := od473.ext E477
                  have z485 := Nat.le_trans z474 E477.1
                  have cr486 := cr471.trans (CHr.ext E477 cr471.1)
                  have kc487 := kc475.ext E477
                  have f488 : Fld Z h476 xs "java/lang/String" "coder" "B" (.int (0 : Int32)) := D478 (Or.inr (hw _ (List.mem_of_getElem? (i := 39) rfl))) (ty := .byte) (by decide)
                  have f489 : Fld Z h476 xs "java/lang/String" "value" "[B" .null := D478 (Or.inr (hw _ (List.mem_of_getElem? (i := 41) rfl))) (ty := (.array .byte)) (by decide)
                  refine Go.dup K d_method_3_141 rfl (pc' := 142) rfl ?_
                  refine Go.aloadN K d_method_3_142 rfl rfl (pc' := 143) rfl ?_
                  have hp : ∀ c ∈ ([97, 42] : List Int32), ¬ c < 0 ∧ ¬ (255 : Int32) < c := by decide
                  refine Go.callC K (y := (⟨"java/lang/String", "<init>", "([C)V"⟩ : MethodName)) (W := 1) (kc := 1) (nc := 2) (a := xs) rfl (mvT K.cz (hw _ (List.mem_of_getElem? (i := 16) rfl))) (mvT K.cz (hw _ (List.mem_of_getElem? (i := 17) rfl))) (mvT K.cz (hw _ (List.mem_of_getElem? (i := 18) rfl))) (by decide) (paysNew (W := 1) K.cz hws (kI := 4) (hw _ (List.mem_of_getElem? (i := 14) rfl)) (cs := ([97, 42] : List Int32)) (bs := ([97, 42] : List Int32).map (fun c => c.toInt8.toInt32)) (n := 2) g_xs z485 E_xs f489 f488 f483 (S1.ext od484.2) P1 rfl rfl (by decide) (by decide) hp rfl (by decide) (by decide)) rfl (argsL := [(.ref ba)]) (rest := [(.ref xs)]) (lenOf pd__28_5bC_29V rfl) rfl (Nat.le_of_ble_eq_true rfl) (by decide) (by decide) (fun v h' L q => q.2.1) (fun v h' L q => q.2.2.1.1) d_method_3_143 (pc' := 146) rfl ?_
                  rintro v492 h490 Lc491 ⟨rfl, Nq, Kq, Eq, Cq, t, kb, ht0, ht1, htne, Fq, Vq⟩
                  have f493 := Safe.keep Kq (sfS sf481 sf0) cr486.1 sf481
                  have cr494 := cr486.trans (CHr.keep Kq (sfS sf481 sf0) cr486.1)
                  have f495 := f483.keep Kq (ninS ne480 nin0)
                  have f496 := E_xs.keep Kq
                  have od499 := od484.keep Kq (allS g_xs all0)
                  have z500 := Nat.le_trans z485 Kq.1
                  have kc501 := kc487.trans Kq (allS (Or.inr sz_xs) all0)
                  have SX : Str Z h490 xs ([97, 42] : List Int32) := ⟨Eq, Cq, t, kb, Fq, Vq⟩
                  show Go p l e _ _ m _ below meth c _ _ _ _ h490 _ _ (mkF m 146 #[.val (.int (7 : Int32)), .val (.ref ba)] [(.ref xs)])
                  exact Go.retA K rfl rfl rfl (by decide) (by decide) d_method_3_146 (own_end hEL K.cz cr494 ⟨xs, rfl, sz_xs, kc501, by rw [own_wd7]; exact SX⟩)
                · replace h104 : ¬ (¬ (7 : Int32) = (6 : Int32)) := h104
                  exact absurd (by decide) h104
              · replace h81 : ¬ (¬ (7 : Int32) = (5 : Int32)) := h81
                exact absurd (by decide) h81
            · replace h69 : ¬ (¬ (7 : Int32) = (4 : Int32)) := h69
              exact absurd (by decide) h69
          · replace h52 : ¬ (¬ (7 : Int32) = (3 : Int32)) := h52
            exact absurd (by decide) h52
        · replace h35 : ¬ (¬ (7 : Int32) = (2 : Int32)) := h35
          exact absurd (by decide) h35
      · replace h18 : ¬ (¬ (7 : Int32) = (1 : Int32)) := h18
        exact absurd (by decide) h18
    · replace h1 : ¬ (¬ (7 : Int32) = 0) := h1
      exact absurd (by decide) h1
theorem ef_ws (m : MethodId) (x : Int32) (c0 : Int32) (c1 : Int32) (c2 : Int32) : entryFrame m #[(.int x), (.int c0), (.int c1), (.int c2)] 4 = mkF m 0 #[.val (.int x), .val (.int c0), .val (.int c1), .val (.int c2)] [] := by first | (simp [entryFrame, mkF, argsToLocals, Value.category]; done) | rfl
theorem d_method_4_0 : decode method_4_code 0 = .ok (.iload_n 0, 1) := by decide +kernel
theorem d_method_4_1 : decode method_4_code 1 = .ok (.ifCond .ne 8, 3) := by decide +kernel
theorem d_method_4_4 : decode method_4_code 4 = .ok (.iconst 0, 1) := by decide +kernel
theorem d_method_4_5 : decode method_4_code 5 = .ok (.anewarray 41, 3) := by decide +kernel
theorem d_method_4_8 : decode method_4_code 8 = .ok (.areturn, 1) := by decide +kernel
theorem d_method_4_9 : decode method_4_code 9 = .ok (.iload_n 0, 1) := by decide +kernel
theorem d_method_4_10 : decode method_4_code 10 = .ok (.iconst 1, 1) := by decide +kernel
theorem d_method_4_11 : decode method_4_code 11 = .ok (.if_icmp .ne 15, 3) := by decide +kernel
theorem d_method_4_14 : decode method_4_code 14 = .ok (.iconst 1, 1) := by decide +kernel
theorem d_method_4_15 : decode method_4_code 15 = .ok (.anewarray 41, 3) := by decide +kernel
theorem d_method_4_18 : decode method_4_code 18 = .ok (.dup, 1) := by decide +kernel
theorem d_method_4_19 : decode method_4_code 19 = .ok (.iconst 0, 1) := by decide +kernel
theorem d_method_4_20 : decode method_4_code 20 = .ok (.iload_n 1, 1) := by decide +kernel
theorem d_method_4_21 : decode method_4_code 21 = .ok (.invokestatic 46, 3) := by decide +kernel
theorem pd__28I_29Ljava_2flang_2fString_3b : parseMethodDescriptor "(I)Ljava/lang/String;" = some ⟨[.int], some (.object "java/lang/String")⟩ := by decide +kernel
theorem d_method_4_24 : decode method_4_code 24 = .ok (.aastore, 1) := by decide +kernel
theorem d_method_4_25 : decode method_4_code 25 = .ok (.areturn, 1) := by decide +kernel
theorem d_method_4_26 : decode method_4_code 26 = .ok (.iload_n 0, 1) := by decide +kernel
theorem d_method_4_27 : decode method_4_code 27 = .ok (.iconst 2, 1) := by decide +kernel
theorem d_method_4_28 : decode method_4_code 28 = .ok (.if_icmp .ne 22, 3) := by decide +kernel
theorem d_method_4_31 : decode method_4_code 31 = .ok (.iconst 2, 1) := by decide +kernel
theorem d_method_4_32 : decode method_4_code 32 = .ok (.anewarray 41, 3) := by decide +kernel
theorem d_method_4_35 : decode method_4_code 35 = .ok (.dup, 1) := by decide +kernel
theorem d_method_4_36 : decode method_4_code 36 = .ok (.iconst 0, 1) := by decide +kernel
theorem d_method_4_37 : decode method_4_code 37 = .ok (.iload_n 1, 1) := by decide +kernel
theorem d_method_4_38 : decode method_4_code 38 = .ok (.invokestatic 46, 3) := by decide +kernel
theorem d_method_4_41 : decode method_4_code 41 = .ok (.aastore, 1) := by decide +kernel
theorem d_method_4_42 : decode method_4_code 42 = .ok (.dup, 1) := by decide +kernel
theorem d_method_4_43 : decode method_4_code 43 = .ok (.iconst 1, 1) := by decide +kernel
theorem d_method_4_44 : decode method_4_code 44 = .ok (.iload_n 2, 1) := by decide +kernel
theorem d_method_4_45 : decode method_4_code 45 = .ok (.invokestatic 46, 3) := by decide +kernel
theorem d_method_4_48 : decode method_4_code 48 = .ok (.aastore, 1) := by decide +kernel
theorem d_method_4_49 : decode method_4_code 49 = .ok (.areturn, 1) := by decide +kernel
theorem d_method_4_50 : decode method_4_code 50 = .ok (.iconst 3, 1) := by decide +kernel
theorem d_method_4_51 : decode method_4_code 51 = .ok (.anewarray 41, 3) := by decide +kernel
theorem d_method_4_54 : decode method_4_code 54 = .ok (.dup, 1) := by decide +kernel
theorem d_method_4_55 : decode method_4_code 55 = .ok (.iconst 0, 1) := by decide +kernel
theorem d_method_4_56 : decode method_4_code 56 = .ok (.iload_n 1, 1) := by decide +kernel
theorem d_method_4_57 : decode method_4_code 57 = .ok (.invokestatic 46, 3) := by decide +kernel
theorem d_method_4_60 : decode method_4_code 60 = .ok (.aastore, 1) := by decide +kernel
theorem d_method_4_61 : decode method_4_code 61 = .ok (.dup, 1) := by decide +kernel
theorem d_method_4_62 : decode method_4_code 62 = .ok (.iconst 1, 1) := by decide +kernel
theorem d_method_4_63 : decode method_4_code 63 = .ok (.iload_n 2, 1) := by decide +kernel
theorem d_method_4_64 : decode method_4_code 64 = .ok (.invokestatic 46, 3) := by decide +kernel
theorem d_method_4_67 : decode method_4_code 67 = .ok (.aastore, 1) := by decide +kernel
theorem d_method_4_68 : decode method_4_code 68 = .ok (.dup, 1) := by decide +kernel
theorem d_method_4_69 : decode method_4_code 69 = .ok (.iconst 2, 1) := by decide +kernel
theorem d_method_4_70 : decode method_4_code 70 = .ok (.iload_n 3, 1) := by decide +kernel
theorem d_method_4_71 : decode method_4_code 71 = .ok (.invokestatic 46, 3) := by decide +kernel
theorem d_method_4_74 : decode method_4_code 74 = .ok (.aastore, 1) := by decide +kernel
theorem d_method_4_75 : decode method_4_code 75 = .ok (.areturn, 1) := by decide +kernel
set_option maxRecDepth 65536 in
set_option maxHeartbeats 40000000 in
theorem m_ws (l : Launch) (Z : State) (a0 : Array Value) (hw : ∀ d ∈ tables_1, d.before a0 Z = true) (h0 : Heap) (n0 : Nat) (Z0 : n0 ≤ h0.size) (wS : ∀ a ∈ Bundle.stringAtoms, a.before a0 Z = true) (hEL : EW Z a0 [("com/example/intackt/intackt/vhost/ExchangeType", 138), ("com/example/intackt/intackt/vhost/ExchangeType", 140), ("java/lang/String", 7)]) (x c0 c1 c2 : Int32) (nn : Nat) (hx : x = Int32.ofNat nn) (hnn : nn ≤ 3) (hc0 : ¬ c0 < 0 ∧ c0 < 8) (hc1 : ¬ c1 < 0 ∧ c1 < 8) (hc2 : ¬ c2 < 0 ∧ c2 < 8) (od : Old Z n0 h0) (zc : Int32) (S1 : Sta Z Z.heap "java/lang/String" "COMPACT_STRINGS" "Z" (.int zc)) (P1 : ¬ (zc = (0 : Int32))) :
    MetW l Z [] [("com/example/intackt/intackt/vhost/ExchangeType", 138), ("com/example/intackt/intackt/vhost/ExchangeType", 140), ("java/lang/String", 7)] (⟨"com/example/intackt/intackt/vhost/ExchangeTypeKeyMatchesPinLaw", "words", "(IIII)[Ljava/lang/String;"⟩ : MethodName) method_4_code 4 (some (.array (.object "java/lang/String"))) ({ frames := 6, cells := 19, slots := 45, locals := 130 } : Room) #[(.int x), (.int c0), (.int c1), (.int c2)] h0 n0 (fun v h => ∃ (ar : Addr) (kA : ClassId) (xs : List Addr), v = some (.ref ar) ∧ h0.size ≤ ar ∧ Keep h0 h [] ∧ xs.length = nn ∧ Arv Z h ar kA (.object "java/lang/String") (Int32.ofNat nn) (xs.map Value.ref) .null ∧ ∀ i, i < nn → Str Z h (xs.getD i 0) (Wd ([c0, c1, c2].getD i 0))) := by
  refine MetW.of (plainFor_of_name pn_com_example_intackt_intackt_vhost_ExchangeTypeKeyMatchesPinLaw) ?_
  intro p e s m below meth c vm0 B hS HC K
  have CR := CHr.refl HC
  subst hx
  refine Go.cast (ef_ws m _ c0 c1 c2) ?_
  have kc0 := Keep.refl h0 []
  rcases (by omega : nn = 0 ∨ nn = 1 ∨ nn = 2 ∨ nn = 3) with rfl | rfl | rfl | rfl
  · refine Go.iloadN K d_method_4_0 rfl (pc' := 1) rfl ?_
    refine Go.ifc K d_method_4_1 (by decide) (pcT := 9) (pcF := 4) (by decide) rfl (fun h1 => ?_) (fun h1 => ?_)
    · replace h1 : ¬ (Int32.ofNat 0) = 0 := h1
      exact absurd rfl h1
    · replace h1 : ¬ (¬ (Int32.ofNat 0) = 0) := h1
      refine Go.iconst K (v := 0) d_method_4_4 rfl (pc' := 5) rfl ?_
      refine Go.newR K (hw _ (List.mem_of_getElem? (i := 8) rfl)) (hw _ (List.mem_of_getElem? (i := 9) rfl)) (by decide) 0 (by decide) (by decide) (by decide) (by decide) d_method_4_5 (pc' := 8) rfl ?_
      intro h502 ar kA_ar eq504 E503 V_ar O_ar
      have sz_ar := Nat.le_trans kc0.1 (Nat.le_of_eq eq504.symm)
      have g_ar : n0 ≤ ar := Nat.le_trans Z0 (Nat.le_of_eq eq504.symm)
      have od505 := od.ext E503
      have z506 := Nat.le_trans Z0 E503.1
      have cr507 := CR.trans (CHr.ext E503 CR.1)
      have kc508 := kc0.ext E503
      have V509 : Arv Z h502 ar kA_ar (.object "java/lang/String") (0 : Int32) [] .null := V_ar.pad (pad_rep [] .null 0)
      have hS_ : ∀ i, i < 0 → Str Z h502 (([] : List Addr).getD i 0) (Wd ([c0, c1, c2].getD i 0)) := fun i hi => match i, hi with
        | i, hi => absurd hi (by omega)
      exact Go.retA K rfl rfl rfl (by decide) (by decide) d_method_4_8 (own_end hEL K.cz cr507 ⟨ar, kA_ar, [], rfl, sz_ar, kc508, rfl, V509, hS_⟩)
  · refine Go.iloadN K d_method_4_0 rfl (pc' := 1) rfl ?_
    refine Go.ifc K d_method_4_1 (by decide) (pcT := 9) (pcF := 4) (by decide) rfl (fun h1 => ?_) (fun h1 => ?_)
    · replace h1 : ¬ (Int32.ofNat 1) = 0 := h1
      refine Go.iloadN K d_method_4_9 rfl (pc' := 10) rfl ?_
      refine Go.iconst K (v := 1) d_method_4_10 rfl (pc' := 11) rfl ?_
      refine Go.icmp K d_method_4_11 (by decide) (pcT := 26) (pcF := 14) (by decide) rfl (fun h11 => ?_) (fun h11 => ?_)
      · replace h11 : ¬ (Int32.ofNat 1) = (1 : Int32) := h11
        exact absurd rfl h11
      · replace h11 : ¬ (¬ (Int32.ofNat 1) = (1 : Int32)) := h11
        refine Go.iconst K (v := 1) d_method_4_14 rfl (pc' := 15) rfl ?_
        refine Go.newR K (hw _ (List.mem_of_getElem? (i := 8) rfl)) (hw _ (List.mem_of_getElem? (i := 9) rfl)) (by decide) 1 (by decide) (by decide) (by decide) (by decide) d_method_4_15 (pc' := 18) rfl ?_
        intro h510 ar kA_ar eq512 E511 V_ar O_ar
        have sz_ar := Nat.le_trans kc0.1 (Nat.le_of_eq eq512.symm)
        have g_ar : n0 ≤ ar := Nat.le_trans Z0 (Nat.le_of_eq eq512.symm)
        have od513 := od.ext E511
        have z514 := Nat.le_trans Z0 E511.1
        have cr515 := CR.trans (CHr.ext E511 CR.1)
        have kc516 := kc0.ext E511
        have V517 : Arv Z h510 ar kA_ar (.object "java/lang/String") (1 : Int32) [.null] .null := V_ar.pad (pad_rep [] .null 1)
        refine Go.dup K d_method_4_18 rfl (pc' := 19) rfl ?_
        refine Go.iconst K (v := 0) d_method_4_19 rfl (pc' := 20) rfl ?_
        refine Go.iloadN K d_method_4_20 rfl (pc' := 21) rfl ?_
        refine Go.callSW K hS (y := (⟨"com/example/intackt/intackt/vhost/ExchangeTypeKeyMatchesPinLaw", "word", "(I)Ljava/lang/String;"⟩ : MethodName)) (W := 3) (kc := 6) (nc := 14) (mvT K.cz (hw _ (List.mem_of_getElem? (i := 10) rfl))) (mvT K.cz (hw _ (List.mem_of_getElem? (i := 11) rfl))) (mvT K.cz (hw _ (List.mem_of_getElem? (i := 6) rfl))) (mvT K.cz (hw _ (List.mem_of_getElem? (i := 12) rfl))) (by decide) ((m_wd l Z a0 hw h510 n0 z514 wS hEL c0 hc0 od513 zc S1 P1).pays (W := 3) K.cz (hw _ (List.mem_of_getElem? (i := 12) rfl)) (hw _ (List.mem_of_getElem? (i := 6) rfl)) (by decide) (by decide) hEL cr515.1) rfl (argsL := [(.int c0)]) (rest := [(.int (0 : Int32)), (.ref ar), (.ref ar)]) (lenOf pd__28I_29Ljava_2flang_2fString_3b rfl) rfl (Nat.le_of_ble_eq_true rfl) (by decide) (by decide) frOf d_method_4_21 (pc' := 24) rfl ?_
        rintro v520 h518 Lc519 vm521 B522 ⟨⟨⟨x0, rfl, hle0, Kq0, Sx0⟩, -⟩, -⟩ hrh518 hS K
        have cr523 := cr515.trans (hrh518)
        have f524 := V517.keep Kq0 nin0
        have od525 := od513.keep Kq0 all0
        have z526 := Nat.le_trans z514 Kq0.1
        have kc527 := kc516.trans Kq0 all0
        show Go p l e _ _ m _ below meth c _ _ _ _ h518 _ _ (mkF m 24 #[.val (.int (Int32.ofNat 1)), .val (.int c0), .val (.int c1), .val (.int c2)] [(.ref x0), (.int (0 : Int32)), (.ref ar), (.ref ar)])
        refine Go.aastore K f524 (Or.inr ⟨_, rfl, O_ar, (Ins.self Sx0.1)⟩) 0 rfl (Nat.le_of_ble_eq_true rfl) ⟨by decide, by decide⟩ g_ar d_method_4_24 (pc' := 25) rfl ?_
        intro h528 K529 V530
        replace V530 : Arv Z h528 ar kA_ar (.object "java/lang/String") (1 : Int32) [(.ref x0)] .null := V530
        have cr531 := cr523.trans (CHr.keep K529 (sfS (Safe.arv K.cz.alike f524 (by decide)) sf0) cr523.1)
        have f533 := Str.keepB (hw _ (List.mem_of_getElem? (i := 14) rfl)) Sx0 K529 f524
        have od534 := od525.keep K529 (allS g_ar all0)
        have z535 := Nat.le_trans z526 K529.1
        have kc536 := kc527.trans K529 (allS (Or.inr sz_ar) all0)
        have hS_ : ∀ i, i < 1 → Str Z h528 (([x0] : List Addr).getD i 0) (Wd ([c0, c1, c2].getD i 0)) := fun i hi => match i, hi with
          | 0, _ => f533
          | i + 1, hi => absurd hi (by omega)
        exact Go.retA K rfl rfl rfl (by decide) (by decide) d_method_4_25 (own_end hEL K.cz cr531 ⟨ar, kA_ar, [x0], rfl, sz_ar, kc536, rfl, V530, hS_⟩)
    · replace h1 : ¬ (¬ (Int32.ofNat 1) = 0) := h1
      exact absurd (by decide) h1
  · refine Go.iloadN K d_method_4_0 rfl (pc' := 1) rfl ?_
    refine Go.ifc K d_method_4_1 (by decide) (pcT := 9) (pcF := 4) (by decide) rfl (fun h1 => ?_) (fun h1 => ?_)
    · replace h1 : ¬ (Int32.ofNat 2) = 0 := h1
      refine Go.iloadN K d_method_4_9 rfl (pc' := 10) rfl ?_
      refine Go.iconst K (v := 1) d_method_4_10 rfl (pc' := 11) rfl ?_
      refine Go.icmp K d_method_4_11 (by decide) (pcT := 26) (pcF := 14) (by decide) rfl (fun h11 => ?_) (fun h11 => ?_)
      · replace h11 : ¬ (Int32.ofNat 2) = (1 : Int32) := h11
        refine Go.iloadN K d_method_4_26 rfl (pc' := 27) rfl ?_
        refine Go.iconst K (v := 2) d_method_4_27 rfl (pc' := 28) rfl ?_
        refine Go.icmp K d_method_4_28 (by decide) (pcT := 50) (pcF := 31) (by decide) rfl (fun h28 => ?_) (fun h28 => ?_)
        · replace h28 : ¬ (Int32.ofNat 2) = (2 : Int32) := h28
          exact absurd rfl h28
        · replace h28 : ¬ (¬ (Int32.ofNat 2) = (2 : Int32)) := h28
          refine Go.iconst K (v := 2) d_method_4_31 rfl (pc' := 32) rfl ?_
          refine Go.newR K (hw _ (List.mem_of_getElem? (i := 8) rfl)) (hw _ (List.mem_of_getElem? (i := 9) rfl)) (by decide) 2 (by decide) (by decide) (by decide) (by decide) d_method_4_32 (pc' := 35) rfl ?_
          intro h537 ar kA_ar eq539 E538 V_ar O_ar
          have sz_ar := Nat.le_trans kc0.1 (Nat.le_of_eq eq539.symm)
          have g_ar : n0 ≤ ar := Nat.le_trans Z0 (Nat.le_of_eq eq539.symm)
          have od540 := od.ext E538
          have z541 := Nat.le_trans Z0 E538.1
          have cr542 := CR.trans (CHr.ext E538 CR.1)
          have kc543 := kc0.ext E538
          have V544 : Arv Z h537 ar kA_ar (.object "java/lang/String") (2 : Int32) [.null, .null] .null := V_ar.pad (pad_rep [] .null 2)
          refine Go.dup K d_method_4_35 rfl (pc' := 36) rfl ?_
          refine Go.iconst K (v := 0) d_method_4_36 rfl (pc' := 37) rfl ?_
          refine Go.iloadN K d_method_4_37 rfl (pc' := 38) rfl ?_
          refine Go.callSW K hS (y := (⟨"com/example/intackt/intackt/vhost/ExchangeTypeKeyMatchesPinLaw", "word", "(I)Ljava/lang/String;"⟩ : MethodName)) (W := 3) (kc := 6) (nc := 14) (mvT K.cz (hw _ (List.mem_of_getElem? (i := 10) rfl))) (mvT K.cz (hw _ (List.mem_of_getElem? (i := 11) rfl))) (mvT K.cz (hw _ (List.mem_of_getElem? (i := 6) rfl))) (mvT K.cz (hw _ (List.mem_of_getElem? (i := 12) rfl))) (by decide) ((m_wd l Z a0 hw h537 n0 z541 wS hEL c0 hc0 od540 zc S1 P1).pays (W := 3) K.cz (hw _ (List.mem_of_getElem? (i := 12) rfl)) (hw _ (List.mem_of_getElem? (i := 6) rfl)) (by decide) (by decide) hEL cr542.1) rfl (argsL := [(.int c0)]) (rest := [(.int (0 : Int32)), (.ref ar), (.ref ar)]) (lenOf pd__28I_29Ljava_2flang_2fString_3b rfl) rfl (Nat.le_of_ble_eq_true rfl) (by decide) (by decide) frOf d_method_4_38 (pc' := 41) rfl ?_
          rintro v547 h545 Lc546 vm548 B549 ⟨⟨⟨x0, rfl, hle0, Kq0, Sx0⟩, -⟩, -⟩ hrh545 hS K
          have cr550 := cr542.trans (hrh545)
          have f551 := V544.keep Kq0 nin0
          have od552 := od540.keep Kq0 all0
          have z553 := Nat.le_trans z541 Kq0.1
          have kc554 := kc543.trans Kq0 all0
          show Go p l e _ _ m _ below meth c _ _ _ _ h545 _ _ (mkF m 41 #[.val (.int (Int32.ofNat 2)), .val (.int c0), .val (.int c1), .val (.int c2)] [(.ref x0), (.int (0 : Int32)), (.ref ar), (.ref ar)])
          refine Go.aastore K f551 (Or.inr ⟨_, rfl, O_ar, (Ins.self Sx0.1)⟩) 0 rfl (Nat.le_of_ble_eq_true rfl) ⟨by decide, by decide⟩ g_ar d_method_4_41 (pc' := 42) rfl ?_
          intro h555 K556 V557
          replace V557 : Arv Z h555 ar kA_ar (.object "java/lang/String") (2 : Int32) [(.ref x0), .null] .null := V557
          have cr558 := cr550.trans (CHr.keep K556 (sfS (Safe.arv K.cz.alike f551 (by decide)) sf0) cr550.1)
          have f560 := Str.keepB (hw _ (List.mem_of_getElem? (i := 14) rfl)) Sx0 K556 f551
          have od561 := od552.keep K556 (allS g_ar all0)
          have z562 := Nat.le_trans z553 K556.1
          have kc563 := kc554.trans K556 (allS (Or.inr sz_ar) all0)
          refine Go.dup K d_method_4_42 rfl (pc' := 43) rfl ?_
          refine Go.iconst K (v := 1) d_method_4_43 rfl (pc' := 44) rfl ?_
          refine Go.iloadN K d_method_4_44 rfl (pc' := 45) rfl ?_
          refine Go.callSW K hS (y := (⟨"com/example/intackt/intackt/vhost/ExchangeTypeKeyMatchesPinLaw", "word", "(I)Ljava/lang/String;"⟩ : MethodName)) (W := 3) (kc := 6) (nc := 14) (mvT K.cz (hw _ (List.mem_of_getElem? (i := 10) rfl))) (mvT K.cz (hw _ (List.mem_of_getElem? (i := 11) rfl))) (mvT K.cz (hw _ (List.mem_of_getElem? (i := 6) rfl))) (mvT K.cz (hw _ (List.mem_of_getElem? (i := 12) rfl))) (by decide) ((m_wd l Z a0 hw h555 n0 z562 wS hEL c1 hc1 od561 zc S1 P1).pays (W := 3) K.cz (hw _ (List.mem_of_getElem? (i := 12) rfl)) (hw _ (List.mem_of_getElem? (i := 6) rfl)) (by decide) (by decide) hEL cr558.1) rfl (argsL := [(.int c1)]) (rest := [(.int (1 : Int32)), (.ref ar), (.ref ar)]) (lenOf pd__28I_29Ljava_2flang_2fString_3b rfl) rfl (Nat.le_of_ble_eq_true rfl) (by decide) (by decide) frOf d_method_4_45 (pc' := 48) rfl ?_
          rintro v566 h564 Lc565 vm567 B568 ⟨⟨⟨x1, rfl, hle1, Kq1, Sx1⟩, -⟩, -⟩ hrh564 hS K
          have cr569 := cr558.trans (hrh564)
          have f570 := f560.keep0 Kq1
          have f571 := V557.keep Kq1 nin0
          have od572 := od561.keep Kq1 all0
          have z573 := Nat.le_trans z562 Kq1.1
          have kc574 := kc563.trans Kq1 all0
          show Go p l e _ _ m _ below meth c _ _ _ _ h564 _ _ (mkF m 48 #[.val (.int (Int32.ofNat 2)), .val (.int c0), .val (.int c1), .val (.int c2)] [(.ref x1), (.int (1 : Int32)), (.ref ar), (.ref ar)])
          refine Go.aastore K f571 (Or.inr ⟨_, rfl, O_ar, (Ins.self Sx1.1)⟩) 1 rfl (Nat.le_of_ble_eq_true rfl) ⟨by decide, by decide⟩ g_ar d_method_4_48 (pc' := 49) rfl ?_
          intro h575 K576 V577
          replace V577 : Arv Z h575 ar kA_ar (.object "java/lang/String") (2 : Int32) [(.ref x0), (.ref x1)] .null := V577
          have cr578 := cr569.trans (CHr.keep K576 (sfS (Safe.arv K.cz.alike f571 (by decide)) sf0) cr569.1)
          have f579 := Str.keepB (hw _ (List.mem_of_getElem? (i := 14) rfl)) f570 K576 f571
          have f581 := Str.keepB (hw _ (List.mem_of_getElem? (i := 14) rfl)) Sx1 K576 f571
          have od582 := od572.keep K576 (allS g_ar all0)
          have z583 := Nat.le_trans z573 K576.1
          have kc584 := kc574.trans K576 (allS (Or.inr sz_ar) all0)
          have hS_ : ∀ i, i < 2 → Str Z h575 (([x0, x1] : List Addr).getD i 0) (Wd ([c0, c1, c2].getD i 0)) := fun i hi => match i, hi with
            | 0, _ => f579
            | 1, _ => f581
            | i + 2, hi => absurd hi (by omega)
          exact Go.retA K rfl rfl rfl (by decide) (by decide) d_method_4_49 (own_end hEL K.cz cr578 ⟨ar, kA_ar, [x0, x1], rfl, sz_ar, kc584, rfl, V577, hS_⟩)
      · replace h11 : ¬ (¬ (Int32.ofNat 2) = (1 : Int32)) := h11
        exact absurd (by decide) h11
    · replace h1 : ¬ (¬ (Int32.ofNat 2) = 0) := h1
      exact absurd (by decide) h1
  · refine Go.iloadN K d_method_4_0 rfl (pc' := 1) rfl ?_
    refine Go.ifc K d_method_4_1 (by decide) (pcT := 9) (pcF := 4) (by decide) rfl (fun h1 => ?_) (fun h1 => ?_)
    · replace h1 : ¬ (Int32.ofNat 3) = 0 := h1
      refine Go.iloadN K d_method_4_9 rfl (pc' := 10) rfl ?_
      refine Go.iconst K (v := 1) d_method_4_10 rfl (pc' := 11) rfl ?_
      refine Go.icmp K d_method_4_11 (by decide) (pcT := 26) (pcF := 14) (by decide) rfl (fun h11 => ?_) (fun h11 => ?_)
      · replace h11 : ¬ (Int32.ofNat 3) = (1 : Int32) := h11
        refine Go.iloadN K d_method_4_26 rfl (pc' := 27) rfl ?_
        refine Go.iconst K (v := 2) d_method_4_27 rfl (pc' := 28) rfl ?_
        refine Go.icmp K d_method_4_28 (by decide) (pcT := 50) (pcF := 31) (by decide) rfl (fun h28 => ?_) (fun h28 => ?_)
        · replace h28 : ¬ (Int32.ofNat 3) = (2 : Int32) := h28
          refine Go.iconst K (v := 3) d_method_4_50 rfl (pc' := 51) rfl ?_
          refine Go.newR K (hw _ (List.mem_of_getElem? (i := 8) rfl)) (hw _ (List.mem_of_getElem? (i := 9) rfl)) (by decide) 3 (by decide) (by decide) (by decide) (by decide) d_method_4_51 (pc' := 54) rfl ?_
          intro h585 ar kA_ar eq587 E586 V_ar O_ar
          have sz_ar := Nat.le_trans kc0.1 (Nat.le_of_eq eq587.symm)
          have g_ar : n0 ≤ ar := Nat.le_trans Z0 (Nat.le_of_eq eq587.symm)
          have od588 := od.ext E586
          have z589 := Nat.le_trans Z0 E586.1
          have cr590 := CR.trans (CHr.ext E586 CR.1)
          have kc591 := kc0.ext E586
          have V592 : Arv Z h585 ar kA_ar (.object "java/lang/String") (3 : Int32) [.null, .null, .null] .null := V_ar.pad (pad_rep [] .null 3)
          refine Go.dup K d_method_4_54 rfl (pc' := 55) rfl ?_
          refine Go.iconst K (v := 0) d_method_4_55 rfl (pc' := 56) rfl ?_
          refine Go.iloadN K d_method_4_56 rfl (pc' := 57) rfl ?_
          refine Go.callSW K hS (y := (⟨"com/example/intackt/intackt/vhost/ExchangeTypeKeyMatchesPinLaw", "word", "(I)Ljava/lang/String;"⟩ : MethodName)) (W := 3) (kc := 6) (nc := 14) (mvT K.cz (hw _ (List.mem_of_getElem? (i := 10) rfl))) (mvT K.cz (hw _ (List.mem_of_getElem? (i := 11) rfl))) (mvT K.cz (hw _ (List.mem_of_getElem? (i := 6) rfl))) (mvT K.cz (hw _ (List.mem_of_getElem? (i := 12) rfl))) (by decide) ((m_wd l Z a0 hw h585 n0 z589 wS hEL c0 hc0 od588 zc S1 P1).pays (W := 3) K.cz (hw _ (List.mem_of_getElem? (i := 12) rfl)) (hw _ (List.mem_of_getElem? (i := 6) rfl)) (by decide) (by decide) hEL cr590.1) rfl (argsL := [(.int c0)]) (rest := [(.int (0 : Int32)), (.ref ar), (.ref ar)]) (lenOf pd__28I_29Ljava_2flang_2fString_3b rfl) rfl (Nat.le_of_ble_eq_true rfl) (by decide) (by decide) frOf d_method_4_57 (pc' := 60) rfl ?_
          rintro v595 h593 Lc594 vm596 B597 ⟨⟨⟨x0, rfl, hle0, Kq0, Sx0⟩, -⟩, -⟩ hrh593 hS K
          have cr598 := cr590.trans (hrh593)
          have f599 := V592.keep Kq0 nin0
          have od600 := od588.keep Kq0 all0
          have z601 := Nat.le_trans z589 Kq0.1
          have kc602 := kc591.trans Kq0 all0
          show Go p l e _ _ m _ below meth c _ _ _ _ h593 _ _ (mkF m 60 #[.val (.int (Int32.ofNat 3)), .val (.int c0), .val (.int c1), .val (.int c2)] [(.ref x0), (.int (0 : Int32)), (.ref ar), (.ref ar)])
          refine Go.aastore K f599 (Or.inr ⟨_, rfl, O_ar, (Ins.self Sx0.1)⟩) 0 rfl (Nat.le_of_ble_eq_true rfl) ⟨by decide, by decide⟩ g_ar d_method_4_60 (pc' := 61) rfl ?_
          intro h603 K604 V605
          replace V605 : Arv Z h603 ar kA_ar (.object "java/lang/String") (3 : Int32) [(.ref x0), .null, .null] .null := V605
          have cr606 := cr598.trans (CHr.keep K604 (sfS (Safe.arv K.cz.alike f599 (by decide)) sf0) cr598.1)
          have f608 := Str.keepB (hw _ (List.mem_of_getElem? (i := 14) rfl)) Sx0 K604 f599
          have od609 := od600.keep K604 (allS g_ar all0)
          have z610 := Nat.le_trans z601 K604.1
          have kc611 := kc602.trans K604 (allS (Or.inr sz_ar) all0)
          refine Go.dup K d_method_4_61 rfl (pc' := 62) rfl ?_
          refine Go.iconst K (v := 1) d_method_4_62 rfl (pc' := 63) rfl ?_
          refine Go.iloadN K d_method_4_63 rfl (pc' := 64) rfl ?_
          refine Go.callSW K hS (y := (⟨"com/example/intackt/intackt/vhost/ExchangeTypeKeyMatchesPinLaw", "word", "(I)Ljava/lang/String;"⟩ : MethodName)) (W := 3) (kc := 6) (nc := 14) (mvT K.cz (hw _ (List.mem_of_getElem? (i := 10) rfl))) (mvT K.cz (hw _ (List.mem_of_getElem? (i := 11) rfl))) (mvT K.cz (hw _ (List.mem_of_getElem? (i := 6) rfl))) (mvT K.cz (hw _ (List.mem_of_getElem? (i := 12) rfl))) (by decide) ((m_wd l Z a0 hw h603 n0 z610 wS hEL c1 hc1 od609 zc S1 P1).pays (W := 3) K.cz (hw _ (List.mem_of_getElem? (i := 12) rfl)) (hw _ (List.mem_of_getElem? (i := 6) rfl)) (by decide) (by decide) hEL cr606.1) rfl (argsL := [(.int c1)]) (rest := [(.int (1 : Int32)), (.ref ar), (.ref ar)]) (lenOf pd__28I_29Ljava_2flang_2fString_3b rfl) rfl (Nat.le_of_ble_eq_true rfl) (by decide) (by decide) frOf d_method_4_64 (pc' := 67) rfl ?_
          rintro v614 h612 Lc613 vm615 B616 ⟨⟨⟨x1, rfl, hle1, Kq1, Sx1⟩, -⟩, -⟩ hrh612 hS K
          have cr617 := cr606.trans (hrh612)
          have f618 := f608.keep0 Kq1
          have f619 := V605.keep Kq1 nin0
          have od620 := od609.keep Kq1 all0
          have z621 := Nat.le_trans z610 Kq1.1
          have kc622 := kc611.trans Kq1 all0
          show Go p l e _ _ m _ below meth c _ _ _ _ h612 _ _ (mkF m 67 #[.val (.int (Int32.ofNat 3)), .val (.int c0), .val (.int c1), .val (.int c2)] [(.ref x1), (.int (1 : Int32)), (.ref ar), (.ref ar)])
          refine Go.aastore K f619 (Or.inr ⟨_, rfl, O_ar, (Ins.self Sx1.1)⟩) 1 rfl (Nat.le_of_ble_eq_true rfl) ⟨by decide, by decide⟩ g_ar d_method_4_67 (pc' := 68) rfl ?_
          intro h623 K624 V625
          replace V625 : Arv Z h623 ar kA_ar (.object "java/lang/String") (3 : Int32) [(.ref x0), (.ref x1), .null] .null := V625
          have cr626 := cr617.trans (CHr.keep K624 (sfS (Safe.arv K.cz.alike f619 (by decide)) sf0) cr617.1)
          have f627 := Str.keepB (hw _ (List.mem_of_getElem? (i := 14) rfl)) f618 K624 f619
          have f629 := Str.keepB (hw _ (List.mem_of_getElem? (i := 14) rfl)) Sx1 K624 f619
          have od630 := od620.keep K624 (allS g_ar all0)
          have z631 := Nat.le_trans z621 K624.1
          have kc632 := kc622.trans K624 (allS (Or.inr sz_ar) all0)
          refine Go.dup K d_method_4_68 rfl (pc' := 69) rfl ?_
          refine Go.iconst K (v := 2) d_method_4_69 rfl (pc' := 70) rfl ?_
          refine Go.iloadN K d_method_4_70 rfl (pc' := 71) rfl ?_
          refine Go.callSW K hS (y := (⟨"com/example/intackt/intackt/vhost/ExchangeTypeKeyMatchesPinLaw", "word", "(I)Ljava/lang/String;"⟩ : MethodName)) (W := 3) (kc := 6) (nc := 14) (mvT K.cz (hw _ (List.mem_of_getElem? (i := 10) rfl))) (mvT K.cz (hw _ (List.mem_of_getElem? (i := 11) rfl))) (mvT K.cz (hw _ (List.mem_of_getElem? (i := 6) rfl))) (mvT K.cz (hw _ (List.mem_of_getElem? (i := 12) rfl))) (by decide) ((m_wd l Z a0 hw h623 n0 z631 wS hEL c2 hc2 od630 zc S1 P1).pays (W := 3) K.cz (hw _ (List.mem_of_getElem? (i := 12) rfl)) (hw _ (List.mem_of_getElem? (i := 6) rfl)) (by decide) (by decide) hEL cr626.1) rfl (argsL := [(.int c2)]) (rest := [(.int (2 : Int32)), (.ref ar), (.ref ar)]) (lenOf pd__28I_29Ljava_2flang_2fString_3b rfl) rfl (Nat.le_of_ble_eq_true rfl) (by decide) (by decide) frOf d_method_4_71 (pc' := 74) rfl ?_
          rintro v635 h633 Lc634 vm636 B637 ⟨⟨⟨x2, rfl, hle2, Kq2, Sx2⟩, -⟩, -⟩ hrh633 hS K
          have cr638 := cr626.trans (hrh633)
          have f639 := f627.keep0 Kq2
          have f640 := f629.keep0 Kq2
          have f641 := V625.keep Kq2 nin0
          have od642 := od630.keep Kq2 all0
          have z643 := Nat.le_trans z631 Kq2.1
          have kc644 := kc632.trans Kq2 all0
          show Go p l e _ _ m _ below meth c _ _ _ _ h633 _ _ (mkF m 74 #[.val (.int (Int32.ofNat 3)), .val (.int c0), .val (.int c1), .val (.int c2)] [(.ref x2), (.int (2 : Int32)), (.ref ar), (.ref ar)])
          refine Go.aastore K f641 (Or.inr ⟨_, rfl, O_ar, (Ins.self Sx2.1)⟩) 2 rfl (Nat.le_of_ble_eq_true rfl) ⟨by decide, by decide⟩ g_ar d_method_4_74 (pc' := 75) rfl ?_
          intro h645 K646 V647
          replace V647 : Arv Z h645 ar kA_ar (.object "java/lang/String") (3 : Int32) [(.ref x0), (.ref x1), (.ref x2)] .null := V647
          have cr648 := cr638.trans (CHr.keep K646 (sfS (Safe.arv K.cz.alike f641 (by decide)) sf0) cr638.1)
          have f649 := Str.keepB (hw _ (List.mem_of_getElem? (i := 14) rfl)) f639 K646 f641
          have f650 := Str.keepB (hw _ (List.mem_of_getElem? (i := 14) rfl)) f640 K646 f641
          have f652 := Str.keepB (hw _ (List.mem_of_getElem? (i := 14) rfl)) Sx2 K646 f641
          have od653 := od642.keep K646 (allS g_ar all0)
          have z654 := Nat.le_trans z643 K646.1
          have kc655 := kc644.trans K646 (allS (Or.inr sz_ar) all0)
          have hS_ : ∀ i, i < 3 → Str Z h645 (([x0, x1, x2] : List Addr).getD i 0) (Wd ([c0, c1, c2].getD i 0)) := fun i hi => match i, hi with
            | 0, _ => f649
            | 1, _ => f650
            | 2, _ => f652
            | i + 3, hi => absurd hi (by omega)
          exact Go.retA K rfl rfl rfl (by decide) (by decide) d_method_4_75 (own_end hEL K.cz cr648 ⟨ar, kA_ar, [x0, x1, x2], rfl, sz_ar, kc655, rfl, V647, hS_⟩)
        · replace h28 : ¬ (¬ (Int32.ofNat 3) = (2 : Int32)) := h28
          exact absurd (by decide) h28
      · replace h11 : ¬ (¬ (Int32.ofNat 3) = (1 : Int32)) := h11
        exact absurd (by decide) h11
    · replace h1 : ¬ (¬ (Int32.ofNat 3) = 0) := h1
      exact absurd (by decide) h1
def bv (b : Bool) : Value := .int (bi b)
def phF (hb : Nat → Bool) : Nat → Nat → List Bool → List Bool
  | 0, _, lv => lv
  | r + 1, i, lv => phF hb r (i + 1) (if (lv.getD i false && hb i) = true then lv.set (i + 1) true else lv)
def inF (hb eb : Nat → Bool) (lv : List Bool) : Nat → Nat → List Bool → List Bool
  | 0, _, nv => nv
  | r + 1, i, nv => inF hb eb lv r (i + 1) (if (lv.getD i false && hb i) = true then nv.set i true else if (lv.getD i false && eb i) = true then nv.set (i + 1) true else nv)
def outF (hb : Nat → Bool) (eb : Nat → Nat → Bool) (pn : Nat) : Nat → Nat → List Bool → List Bool
  | 0, _, lv => lv
  | r + 1, j, lv => outF hb eb pn r (j + 1) (phF hb pn 0 (inF hb (eb j) lv pn 0 (List.replicate (pn + 1) false)))
theorem phF_len (hb : Nat → Bool) : ∀ (r i : Nat) (lv : List Bool), (phF hb r i lv).length = lv.length
  | 0, _, _ => rfl
  | r + 1, i, lv => by rw [phF, phF_len hb r]; split <;> simp
theorem inF_len (hb eb : Nat → Bool) (lv : List Bool) : ∀ (r i : Nat) (nv : List Bool), (inF hb eb lv r i nv).length = nv.length
  | 0, _, _ => rfl
  | r + 1, i, nv => by rw [inF, inF_len hb eb lv r]; split <;> (try split) <;> simp
theorem own_bat {lv : List Bool} {i : Nat} (h4 : lv.length ≤ 4000) (hi : i < lv.length) : (lv.map bv).getD (Int32.ofNat i).toNatClampNeg (.int 0) = .int (bi (lv.getD i false)) := by
  rw [own_cl (by omega)]
  simp [List.getD_eq_getElem?_getD, hi, bv]
theorem own_rat {xs : List Addr} {i : Nat} (h4 : xs.length ≤ 4000) (hi : i < xs.length) : (xs.map Value.ref).getD (Int32.ofNat i).toNatClampNeg .null = .ref (xs.getD i 0) := by
  rw [own_cl (by omega)]
  simp [List.getD_eq_getElem?_getD, hi]
theorem own_p1 (i : Nat) : Int32.ofNat i + (1 : Int32) = Int32.ofNat (i + 1) := own_plus 1
theorem own_mset {lv : List Bool} {i : Nat} : (lv.map bv).set i (.int (nar .boolean (1 : Int32))) = (lv.set i true).map bv := by
  rw [List.map_set]; rfl
theorem own_65 {x : Int32} (h : ¬ (255 : Int32) < x) : ¬ (65535 : Int32) < x := by
  rw [Int32.lt_iff_toInt_lt] at h ⊢
  have e0 : (255 : Int32).toInt = 255 := by decide
  have e1 : (65535 : Int32).toInt = 65535 := by decide
  omega
theorem own_b65 {cs : List Int32} (h : ∀ c ∈ cs, ¬ c < 0 ∧ ¬ (255 : Int32) < c) : ∀ c ∈ cs, ¬ c < 0 ∧ ¬ (65535 : Int32) < c := fun c q => ⟨(h c q).1, own_65 (h c q).2⟩
theorem own_cod {cs : List Int32} (h : ∀ c ∈ cs, ¬ c < 0 ∧ ¬ (255 : Int32) < c) : StrChars.Road.CodA cs 0 (Int32.ofNat cs.length) (cs.map fun c => Value.int (StrChars.lo8 c)) := Or.inl ⟨rfl, rfl, rfl, fun c q => (h c q).2⟩
theorem own_l2 {n : Nat} (h : n ≤ 2) : n ≤ 4000 := by omega
theorem own_rep (m : Nat) : ([] ++ List.replicate m (Value.int (0 : Int32))) = (List.replicate m false).map bv := by simp [bv, bi]
theorem own_35 : ([35] : List Int32).length ≤ 2 ∧ ∀ c ∈ ([35] : List Int32), ¬ c < 0 ∧ ¬ (255 : Int32) < c := by decide
theorem own_42 : ([42] : List Int32).length ≤ 2 ∧ ∀ c ∈ ([42] : List Int32), ¬ c < 0 ∧ ¬ (255 : Int32) < c := by decide
theorem d_prog_5_method_11_2 : decode prog_5_method_11_code 2 = .ok (.iload_n 2, 1) := by decide +kernel
theorem d_prog_5_method_11_3 : decode prog_5_method_11_code 3 = .ok (.aload_n 0, 1) := by decide +kernel
theorem d_prog_5_method_11_4 : decode prog_5_method_11_code 4 = .ok (.arraylength, 1) := by decide +kernel
theorem d_prog_5_method_11_5 : decode prog_5_method_11_code 5 = .ok (.if_icmp .ge 32, 3) := by decide +kernel
theorem d_prog_5_method_11_37 : decode prog_5_method_11_code 37 = .ok (.return_, 1) := by decide +kernel
theorem d_prog_5_method_11_8 : decode prog_5_method_11_code 8 = .ok (.aload_n 1, 1) := by decide +kernel
theorem d_prog_5_method_11_9 : decode prog_5_method_11_code 9 = .ok (.iload_n 2, 1) := by decide +kernel
theorem d_prog_5_method_11_10 : decode prog_5_method_11_code 10 = .ok (.baload, 1) := by decide +kernel
theorem d_prog_5_method_11_11 : decode prog_5_method_11_code 11 = .ok (.ifCond .eq 20, 3) := by decide +kernel
theorem d_prog_5_method_11_31 : decode prog_5_method_11_code 31 = .ok (.iinc 2 1, 3) := by decide +kernel
theorem d_prog_5_method_11_34 : decode prog_5_method_11_code 34 = .ok (.goto (-32), 3) := by decide +kernel
theorem d_prog_5_method_11_14 : decode prog_5_method_11_code 14 = .ok (.aload_n 0, 1) := by decide +kernel
theorem d_prog_5_method_11_15 : decode prog_5_method_11_code 15 = .ok (.iload_n 2, 1) := by decide +kernel
theorem d_prog_5_method_11_16 : decode prog_5_method_11_code 16 = .ok (.aaload, 1) := by decide +kernel
theorem d_prog_5_method_11_17 : decode prog_5_method_11_code 17 = .ok (.ldc 138, 2) := by decide +kernel
theorem d_prog_5_method_11_19 : decode prog_5_method_11_code 19 = .ok (.invokevirtual 90, 3) := by decide +kernel
theorem pd__28Ljava_2flang_2fObject_3b_29Z : parseMethodDescriptor "(Ljava/lang/Object;)Z" = some ⟨[(.object "java/lang/Object")], some .boolean⟩ := by decide +kernel
theorem d_prog_5_method_11_22 : decode prog_5_method_11_code 22 = .ok (.ifCond .eq 9, 3) := by decide +kernel
theorem d_prog_5_method_11_25 : decode prog_5_method_11_code 25 = .ok (.aload_n 1, 1) := by decide +kernel
theorem d_prog_5_method_11_26 : decode prog_5_method_11_code 26 = .ok (.iload_n 2, 1) := by decide +kernel
theorem d_prog_5_method_11_27 : decode prog_5_method_11_code 27 = .ok (.iconst 1, 1) := by decide +kernel
theorem d_prog_5_method_11_28 : decode prog_5_method_11_code 28 = .ok (.iadd, 1) := by decide +kernel
theorem d_prog_5_method_11_29 : decode prog_5_method_11_code 29 = .ok (.iconst 1, 1) := by decide +kernel
theorem d_prog_5_method_11_30 : decode prog_5_method_11_code 30 = .ok (.bastore, 1) := by decide +kernel
set_option maxRecDepth 65536 in
set_option maxHeartbeats 40000000 in
theorem loop_ph {p : Program} {l : Launch} {e : Env} {s : State} {m : MethodId} {args : Array Value} {below : List Frame} {meth : Method} {c : Code} {vmS : Vm} {Z : State} {a0 : Array Value} (hw : ∀ d ∈ tables_1, d.before a0 Z = true) (wS : ∀ a ∈ Bundle.stringAtoms, a.before a0 Z = true) (hEL : EW Z a0 [("com/example/intackt/intackt/vhost/ExchangeType", 138), ("com/example/intackt/intackt/vhost/ExchangeType", 140), ("java/lang/String", 7)]) (hwe : ∀ d ∈ StrChars.Road.wordsEq, d.before a0 Z = true) (h0 : Heap) (n0 : Nat) (zc : Int32) (S1 : Sta Z Z.heap "java/lang/String" "COMPACT_STRINGS" "Z" (.int zc)) (P1 : ¬ (zc = (0 : Int32))) (pn : Nat) (hpn : pn ≤ 3) (xp : List Addr) (hxp : xp.length = pn) (pcs : Nat → List Int32) (hpb : ∀ i, (pcs i).length ≤ 2 ∧ ∀ c ∈ pcs i, ¬ c < 0 ∧ ¬ (255 : Int32) < c) (pa : Addr) (ka : ClassId) (V_pa : Arv Z h0 pa ka (.object "java/lang/String") (Int32.ofNat pn) (xp.map Value.ref) .null) (hst : ∀ i, i < pn → Str Z h0 (xp.getD i 0) (pcs i)) (hb : Nat → Bool) (hhb : ∀ i, i < pn → hb i = decide (pcs i = [35])) (bz : Addr) (kz : ClassId) (lv0 : List Bool) (V_bz : Arv Z h0 bz kz .boolean (Int32.ofNat (pn + 1)) (lv0.map bv) (.int 0)) (g_bz : n0 ≤ bz) (hpz : pa ≠ bz) :
    ∀ (r i : Nat), i + r = pn → ∀ (vm0 : Vm) (B : Nat) (K : Ctx p (s.setVm vm0) m meth c Z "com/example/intackt/intackt/vhost/ExchangeType" prog_5_method_11_code 3 none "passHashes" ({ frames := 2, cells := 2, slots := 8, locals := 32 } : Room) (FW s ({ frames := 2, cells := 2, slots := 8, locals := 32 } : Room)) B) (hS : s.Since vm0 B) (h : Heap) (zh : n0 ≤ h.size) (CR : CHr Z [("com/example/intackt/intackt/vhost/ExchangeType", 138), ("com/example/intackt/intackt/vhost/ExchangeType", 140), ("java/lang/String", 7)] vmS h0 vm0 h) (odh : Old Z n0 h) (kc : Keep h0 h [bz]) (lv : List Bool) (hlv : lv.length = pn + 1) (Vb : Arv Z h bz kz .boolean (Int32.ofNat (pn + 1)) (lv.map bv) (.int 0)) (f : Bool) (hf : LitF s vm0 Z h "com/example/intackt/intackt/vhost/ExchangeType" 138 [35] f) (k n : Nat) (hk : k + pot f 2 ≤ 2) (hn : n + pot f 8 ≤ 8),
    Go p l e ({ frames := 2, cells := 2, slots := 8, locals := 32 } : Room) (s.setVm vm0) m args below meth c n0 (fun v vm h => (v = none ∧ Keep h0 h [bz] ∧ Arv Z h bz kz .boolean (Int32.ofNat (pn + 1)) ((phF hb r i lv).map bv) (.int 0)) ∧ CHr Z [("com/example/intackt/intackt/vhost/ExchangeType", 138), ("com/example/intackt/intackt/vhost/ExchangeType", 140), ("java/lang/String", 7)] vmS h0 vm h) (FW s ({ frames := 2, cells := 2, slots := 8, locals := 32 } : Room)) B h k n (mkF m 2 #[.val (.ref pa), .val (.ref bz), .val (.int (Int32.ofNat i))] []) := by
  intro r
  induction r with
  | zero =>
    intro i hr vm0 B K hS h zh CR odh kc lv hlv Vb f hf k n hk hn
    have hi : i = pn := by omega
    have Vpa := V_pa.keep kc (ninS hpz nin0)
    refine Go.iloadN K d_prog_5_method_11_2 rfl (pc' := 3) rfl ?_
    refine Go.aloadN K d_prog_5_method_11_3 rfl rfl (pc' := 4) rfl ?_
    refine Go.arraylength K Vpa d_prog_5_method_11_4 (pc' := 5) rfl ?_
    refine Go.icmp K d_prog_5_method_11_5 (by decide) (pcT := 37) (pcF := 8) (by decide) rfl (fun h5 => ?_) (fun h5 => ?_)
    · replace h5 : ¬ (Int32.ofNat i) < (Int32.ofNat pn) := h5
      exact Go.retV K (by show _ ≤ 2; omega) (by show _ ≤ 8; omega) d_prog_5_method_11_37 (own_end hEL K.cz CR ⟨rfl, kc, Vb⟩)
    · replace h5 : ¬ (¬ (Int32.ofNat i) < (Int32.ofNat pn)) := h5
      exact absurd ((own_lt4 hpn (by omega)).mp (Decidable.not_not.mp h5)) (by omega)
  | succ r ih =>
    intro i hr vm0 B K hS h zh CR odh kc lv hlv Vb f hf k n hk hn
    have hi : i < pn := by omega
    have Vpa := V_pa.keep kc (ninS hpz nin0)
    refine Go.iloadN K d_prog_5_method_11_2 rfl (pc' := 3) rfl ?_
    refine Go.aloadN K d_prog_5_method_11_3 rfl rfl (pc' := 4) rfl ?_
    refine Go.arraylength K Vpa d_prog_5_method_11_4 (pc' := 5) rfl ?_
    refine Go.icmp K d_prog_5_method_11_5 (by decide) (pcT := 37) (pcF := 8) (by decide) rfl (fun h5 => ?_) (fun h5 => ?_)
    · replace h5 : ¬ (Int32.ofNat i) < (Int32.ofNat pn) := h5
      exact absurd ((own_lt4 hpn (by omega)).mpr hi) h5
    · replace h5 : ¬ (¬ (Int32.ofNat i) < (Int32.ofNat pn)) := h5
      refine Go.aloadN K d_prog_5_method_11_8 rfl rfl (pc' := 9) rfl ?_
      refine Go.iloadN K d_prog_5_method_11_9 rfl (pc' := 10) rfl ?_
      refine Go.bzload K (v := (.int (bi (lv.getD i false)))) Vb (own_in (by omega) (by omega)) (own_bat (by omega) (by omega)) d_prog_5_method_11_10 (pc' := 11) rfl ?_
      refine Go.ifc K d_prog_5_method_11_11 (by decide) (pcT := 31) (pcF := 14) (by decide) rfl (fun h11 => ?_) (fun h11 => ?_)
      · replace h11 : (bi (lv.getD i false)) = 0 := h11
        have hl := bi_0 h11
        refine Go.iinc K d_prog_5_method_11_31 rfl (Ls' := #[.val (.ref pa), .val (.ref bz), .val (.int (Int32.ofNat (i + 1)))]) (by rw [own_inc]; rfl) (pc' := 34) rfl ?_
        refine Go.goto K d_prog_5_method_11_34 (pc' := 2) (by decide) (by decide) ?_
        have e1 : phF hb (r + 1) i lv = phF hb r (i + 1) lv := by simp [phF, hl, -List.getD_eq_getElem?_getD]
        rw [e1]
        exact ih (i + 1) (by omega) _ _ K hS _ zh CR odh kc _ hlv Vb f hf _ _ (by omega) (by omega)
      · replace h11 : ¬ ((bi (lv.getD i false)) = 0) := h11
        have hl := bi_1 h11
        refine Go.aloadN K d_prog_5_method_11_14 rfl rfl (pc' := 15) rfl ?_
        refine Go.iloadN K d_prog_5_method_11_15 rfl (pc' := 16) rfl ?_
        refine Go.aaload K (v := (.ref (xp.getD i 0))) Vpa (own_in (by omega) hi) (own_rat (by omega) (by omega)) d_prog_5_method_11_16 (pc' := 17) rfl ?_
        have Sp := (hst i hi).keepB (hw _ (List.mem_of_getElem? (i := 14) rfl)) kc V_bz
        refine Go.ldcB K hS (i := 4) (hw _ (List.mem_of_getElem? (i := 73) rfl)) wS hEL (by decide) CR.1 (cs := [35]) (by decide +kernel) (by decide) f hf (by decide) (by decide) (i4 := 8) rfl (by show _ ≤ 2; omega) (by show _ ≤ 8; omega) d_prog_5_method_11_17 (pc' := 19) rfl ?_
        intro la vm660 h656 B661 E657 hr658 hS Wm659 L_la S_la K
        have f666 := Vpa.ext E657
        have f667 := Vb.ext E657
        have f668 := hf.ext E657
        have f669 := Sp.ext E657
        have od670 := odh.ext E657
        have z671 := Nat.le_trans zh E657.1
        have cr672 := CR.trans (hr658)
        have kc673 := kc.ext E657
        have L674 := LitF.later f668 Wm659
        obtain ⟨ea1, eb1, ta1, ka1, ec1, ed1⟩ := id f669
        obtain ⟨fa1, fb1, tb1, kb1, fc1, fd1⟩ := id S_la
        refine Go.callV K (y := (⟨"java/lang/String", "equals", "(Ljava/lang/Object;)Z"⟩ : MethodName)) (z := (⟨"java/lang/String", "equals", "(Ljava/lang/Object;)Z"⟩ : MethodName)) (W := 0) (kc := 0) (nc := 0) (a := (xp.getD i 0)) (mvT K.cz (hw _ (List.mem_of_getElem? (i := 76) rfl))) (mvT K.cz (hw _ (List.mem_of_getElem? (i := 77) rfl))) (notFace_of_selects (args := #[]) (mvT K.cz (hw _ (List.mem_of_getElem? (i := 79) rfl)))) (mvT K.cz (hw _ (List.mem_of_getElem? (i := 79) rfl))) (mvT K.cz (hw _ (List.mem_of_getElem? (i := 78) rfl))) (by decide) ea1 (paysEq (W := 0) K.cz hwe (kI := 4) (hw _ (List.mem_of_getElem? (i := 14) rfl)) (cs := (pcs i)) (cs' := [35]) ea1 ec1 eb1 ed1 (own_cod (hpb i).2) (own_b65 (hpb i).2) (own_l2 (hpb i).1) fa1 fc1 fb1 fd1 (own_cod own_35.2) (own_b65 own_35.2) (own_l2 own_35.1) (S1.ext od670.2) P1 (by decide) (by decide)) rfl (argsL := [(.ref la)]) (rest := []) (lenOf pd__28Ljava_2flang_2fObject_3b_29Z rfl) rfl (Nat.le_of_ble_eq_true rfl) (by show _ ≤ 2; omega) (by show _ ≤ 8; omega) (fun v h' L q => q.2.1 ▸ (Fr.nil _)) (fun v h' L q => q.2.2 ▸ Nat.le_refl _) d_prog_5_method_11_19 (pc' := 22) rfl ?_
        rintro v677 h675 Lc676 ⟨qv, rfl, eh⟩
        obtain rfl := eh.symm
        rcases qv with ⟨rfl, qe1⟩ | ⟨rfl, qe1⟩
        · show Go p l e _ _ m _ below meth c _ _ _ _ h656 _ _ (mkF m 22 #[.val (.ref pa), .val (.ref bz), .val (.int (Int32.ofNat i))] [(.int (1 : Int32))])
          refine Go.ifc K d_prog_5_method_11_22 (by decide) (pcT := 31) (pcF := 25) (by decide) rfl (fun h22 => ?_) (fun h22 => ?_)
          · replace h22 : (1 : Int32) = 0 := h22
            exact absurd h22 (by decide)
          · replace h22 : ¬ ((1 : Int32) = 0) := h22
            have hbi : hb i = true := (hhb i hi).trans (decide_eq_true qe1)
            refine Go.aloadN K d_prog_5_method_11_25 rfl rfl (pc' := 26) rfl ?_
            refine Go.iloadN K d_prog_5_method_11_26 rfl (pc' := 27) rfl ?_
            refine Go.iconst K (v := 1) d_prog_5_method_11_27 rfl (pc' := 28) rfl ?_
            refine Go.iadd K d_prog_5_method_11_28 (pc' := 29) rfl ?_
            rw [own_p1]
            refine Go.iconst K (v := 1) d_prog_5_method_11_29 rfl (pc' := 30) rfl ?_
            refine Go.bzstore K f667 (i + 1) (own_cl (by omega)) (by rw [List.length_map]; omega) (own_in (by omega) (by omega)) g_bz d_prog_5_method_11_30 (pc' := 31) rfl ?_
            intro h678 K679 V2
            have cr680 := cr672.trans (CHr.keep K679 (sfS (Safe.arv K.cz.alike f667 (by decide)) sf0) cr672.1)
            have f681 := f666.keep K679 (ninS hpz nin0)
            have f683 := LitF.keepB (hw _ (List.mem_of_getElem? (i := 14) rfl)) L_la K679 f667
            have f684 := Str.keepB (hw _ (List.mem_of_getElem? (i := 14) rfl)) f669 K679 f667
            have f685 := Str.keepB (hw _ (List.mem_of_getElem? (i := 14) rfl)) S_la K679 f667
            have od686 := od670.keep K679 (allS g_bz all0)
            have z687 := Nat.le_trans z671 K679.1
            have kc688 := kc673.trans K679 (allS (Or.inl (List.mem_of_getElem? (i := 0) rfl)) all0)
            rw [own_mset] at V2
            refine Go.iinc K d_prog_5_method_11_31 rfl (Ls' := #[.val (.ref pa), .val (.ref bz), .val (.int (Int32.ofNat (i + 1)))]) (by rw [own_inc]; rfl) (pc' := 34) rfl ?_
            refine Go.goto K d_prog_5_method_11_34 (pc' := 2) (by decide) (by decide) ?_
            have e1 : phF hb (r + 1) i lv = phF hb r (i + 1) (lv.set (i + 1) true) := by simp [phF, hl, hbi, -List.getD_eq_getElem?_getD]
            rw [e1]
            exact ih (i + 1) (by omega) _ _ K hS _ z687 cr680 od686 kc688 _ (by rw [List.length_set]; exact hlv) V2 true f683 _ _ (by have : pot true 2 = 0 := rfl; omega) (by have : pot true 8 = 0 := rfl; omega)
        · show Go p l e _ _ m _ below meth c _ _ _ _ h656 _ _ (mkF m 22 #[.val (.ref pa), .val (.ref bz), .val (.int (Int32.ofNat i))] [(.int (0 : Int32))])
          refine Go.ifc K d_prog_5_method_11_22 (by decide) (pcT := 31) (pcF := 25) (by decide) rfl (fun h22 => ?_) (fun h22 => ?_)
          · replace h22 : (0 : Int32) = 0 := h22
            have hbi : hb i = false := (hhb i hi).trans (decide_eq_false qe1)
            refine Go.iinc K d_prog_5_method_11_31 rfl (Ls' := #[.val (.ref pa), .val (.ref bz), .val (.int (Int32.ofNat (i + 1)))]) (by rw [own_inc]; rfl) (pc' := 34) rfl ?_
            refine Go.goto K d_prog_5_method_11_34 (pc' := 2) (by decide) (by decide) ?_
            have e1 : phF hb (r + 1) i lv = phF hb r (i + 1) lv := by simp [phF, hl, hbi, -List.getD_eq_getElem?_getD]
            rw [e1]
            exact ih (i + 1) (by omega) _ _ K hS _ z671 cr672 od670 kc673 _ hlv f667 true L_la _ _ (by have : pot true 2 = 0 := rfl; omega) (by have : pot true 8 = 0 := rfl; omega)
          · replace h22 : ¬ ((0 : Int32) = 0) := h22
            exact absurd rfl h22
theorem ef_ph (m : MethodId) (pa : Addr) (bz : Addr) : entryFrame m #[(.ref pa), (.ref bz)] 3 = mkF m 0 #[.val (.ref pa), .val (.ref bz), .unset] [] := by first | (simp [entryFrame, mkF, argsToLocals, Value.category]; done) | rfl
theorem d_prog_5_method_11_0 : decode prog_5_method_11_code 0 = .ok (.iconst 0, 1) := by decide +kernel
theorem d_prog_5_method_11_1 : decode prog_5_method_11_code 1 = .ok (.istore_n 2, 1) := by decide +kernel
theorem pn_com_example_intackt_intackt_vhost_ExchangeType : plainName "com/example/intackt/intackt/vhost/ExchangeType" = true := by first | (simp [plainName, overriddenIn]; done) | decide +kernel
set_option maxRecDepth 65536 in
set_option maxHeartbeats 40000000 in
theorem m_ph (l : Launch) (Z : State) (a0 : Array Value) (hw : ∀ d ∈ tables_1, d.before a0 Z = true) (h0 : Heap) (n0 : Nat) (Z0 : n0 ≤ h0.size) (wS : ∀ a ∈ Bundle.stringAtoms, a.before a0 Z = true) (hEL : EW Z a0 [("com/example/intackt/intackt/vhost/ExchangeType", 138), ("com/example/intackt/intackt/vhost/ExchangeType", 140), ("java/lang/String", 7)]) (od : Old Z n0 h0) (zc : Int32) (S1 : Sta Z Z.heap "java/lang/String" "COMPACT_STRINGS" "Z" (.int zc)) (P1 : ¬ (zc = (0 : Int32))) (pn : Nat) (hpn : pn ≤ 3) (xp : List Addr) (hxp : xp.length = pn) (pcs : Nat → List Int32) (hpb : ∀ i, (pcs i).length ≤ 2 ∧ ∀ c ∈ pcs i, ¬ c < 0 ∧ ¬ (255 : Int32) < c) (pa : Addr) (ka : ClassId) (V_pa : Arv Z h0 pa ka (.object "java/lang/String") (Int32.ofNat pn) (xp.map Value.ref) .null) (hst : ∀ i, i < pn → Str Z h0 (xp.getD i 0) (pcs i)) (hb : Nat → Bool) (hhb : ∀ i, i < pn → hb i = decide (pcs i = [35])) (bz : Addr) (kz : ClassId) (lv0 : List Bool) (V_bz : Arv Z h0 bz kz .boolean (Int32.ofNat (pn + 1)) (lv0.map bv) (.int 0)) (g_bz : n0 ≤ bz) (hlv : lv0.length = pn + 1) :
    MetW l Z [] [("com/example/intackt/intackt/vhost/ExchangeType", 138), ("com/example/intackt/intackt/vhost/ExchangeType", 140), ("java/lang/String", 7)] (⟨"com/example/intackt/intackt/vhost/ExchangeType", "passHashes", "([Ljava/lang/String;[Z)V"⟩ : MethodName) prog_5_method_11_code 3 none ({ frames := 2, cells := 2, slots := 8, locals := 32 } : Room) #[(.ref pa), (.ref bz)] h0 n0 (fun v h => v = none ∧ Keep h0 h [bz] ∧ Arv Z h bz kz .boolean (Int32.ofNat (pn + 1)) ((phF hb pn 0 lv0).map bv) (.int 0)) := by
  refine MetW.of (plainFor_of_name pn_com_example_intackt_intackt_vhost_ExchangeType) ?_
  intro p e s m below meth c vm0 B hS HC K
  have CR := CHr.refl HC
  have hwe : ∀ d ∈ StrChars.Road.wordsEq, d.before a0 Z = true := fun d hd => hw d ((by decide +kernel : ∀ d ∈ StrChars.Road.wordsEq, d ∈ tables_1) d hd)
  refine Go.cast (ef_ph m pa bz) ?_
  refine Go.iconst K (v := 0) d_prog_5_method_11_0 rfl (pc' := 1) rfl ?_
  refine Go.istoreN K d_prog_5_method_11_1 (Ls' := #[.val (.ref pa), .val (.ref bz), .val (.int (0 : Int32))]) rfl (pc' := 2) rfl ?_
  exact loop_ph hw wS hEL hwe h0 n0 zc S1 P1 pn hpn xp hxp pcs hpb pa ka V_pa hst hb hhb bz kz lv0 V_bz g_bz (own_tyne V_pa V_bz (by decide)) pn 0 (by omega) _ _ K hS _ Z0 CR od (Keep.refl _ _) lv0 hlv V_bz false (fun q => nomatch q) 0 0 (by decide) (by decide)
theorem d_prog_5_method_10_49 : decode prog_5_method_10_code 49 = .ok (.iload 8, 2) := by decide +kernel
theorem d_prog_5_method_10_51 : decode prog_5_method_10_code 51 = .ok (.aload_n 0, 1) := by decide +kernel
theorem d_prog_5_method_10_52 : decode prog_5_method_10_code 52 = .ok (.arraylength, 1) := by decide +kernel
theorem d_prog_5_method_10_53 : decode prog_5_method_10_code 53 = .ok (.if_icmp .ge 76, 3) := by decide +kernel
theorem d_prog_5_method_10_56 : decode prog_5_method_10_code 56 = .ok (.aload_n 2, 1) := by decide +kernel
theorem d_prog_5_method_10_57 : decode prog_5_method_10_code 57 = .ok (.iload 8, 2) := by decide +kernel
theorem d_prog_5_method_10_59 : decode prog_5_method_10_code 59 = .ok (.baload, 1) := by decide +kernel
theorem d_prog_5_method_10_60 : decode prog_5_method_10_code 60 = .ok (.ifCond .eq 24, 3) := by decide +kernel
theorem d_prog_5_method_10_84 : decode prog_5_method_10_code 84 = .ok (.aload_n 2, 1) := by decide +kernel
theorem d_prog_5_method_10_85 : decode prog_5_method_10_code 85 = .ok (.iload 8, 2) := by decide +kernel
theorem d_prog_5_method_10_87 : decode prog_5_method_10_code 87 = .ok (.baload, 1) := by decide +kernel
theorem d_prog_5_method_10_88 : decode prog_5_method_10_code 88 = .ok (.ifCond .eq 35, 3) := by decide +kernel
theorem d_prog_5_method_10_123 : decode prog_5_method_10_code 123 = .ok (.iinc 8 1, 3) := by decide +kernel
theorem d_prog_5_method_10_126 : decode prog_5_method_10_code 126 = .ok (.goto (-77), 3) := by decide +kernel
theorem d_prog_5_method_10_63 : decode prog_5_method_10_code 63 = .ok (.aload_n 0, 1) := by decide +kernel
theorem d_prog_5_method_10_64 : decode prog_5_method_10_code 64 = .ok (.iload 8, 2) := by decide +kernel
theorem d_prog_5_method_10_66 : decode prog_5_method_10_code 66 = .ok (.aaload, 1) := by decide +kernel
theorem d_prog_5_method_10_67 : decode prog_5_method_10_code 67 = .ok (.ldc 138, 2) := by decide +kernel
theorem d_prog_5_method_10_69 : decode prog_5_method_10_code 69 = .ok (.invokevirtual 90, 3) := by decide +kernel
theorem d_prog_5_method_10_72 : decode prog_5_method_10_code 72 = .ok (.ifCond .eq 12, 3) := by decide +kernel
theorem d_prog_5_method_10_75 : decode prog_5_method_10_code 75 = .ok (.aload 7, 2) := by decide +kernel
theorem d_prog_5_method_10_77 : decode prog_5_method_10_code 77 = .ok (.iload 8, 2) := by decide +kernel
theorem d_prog_5_method_10_79 : decode prog_5_method_10_code 79 = .ok (.iconst 1, 1) := by decide +kernel
theorem d_prog_5_method_10_80 : decode prog_5_method_10_code 80 = .ok (.bastore, 1) := by decide +kernel
theorem d_prog_5_method_10_81 : decode prog_5_method_10_code 81 = .ok (.goto 42, 3) := by decide +kernel
theorem d_prog_5_method_10_91 : decode prog_5_method_10_code 91 = .ok (.aload_n 0, 1) := by decide +kernel
theorem d_prog_5_method_10_92 : decode prog_5_method_10_code 92 = .ok (.iload 8, 2) := by decide +kernel
theorem d_prog_5_method_10_94 : decode prog_5_method_10_code 94 = .ok (.aaload, 1) := by decide +kernel
theorem d_prog_5_method_10_95 : decode prog_5_method_10_code 95 = .ok (.ldc 140, 2) := by decide +kernel
theorem d_prog_5_method_10_97 : decode prog_5_method_10_code 97 = .ok (.invokevirtual 90, 3) := by decide +kernel
theorem d_prog_5_method_10_100 : decode prog_5_method_10_code 100 = .ok (.ifCond .ne 15, 3) := by decide +kernel
theorem d_prog_5_method_10_115 : decode prog_5_method_10_code 115 = .ok (.aload 7, 2) := by decide +kernel
theorem d_prog_5_method_10_117 : decode prog_5_method_10_code 117 = .ok (.iload 8, 2) := by decide +kernel
theorem d_prog_5_method_10_119 : decode prog_5_method_10_code 119 = .ok (.iconst 1, 1) := by decide +kernel
theorem d_prog_5_method_10_120 : decode prog_5_method_10_code 120 = .ok (.iadd, 1) := by decide +kernel
theorem d_prog_5_method_10_121 : decode prog_5_method_10_code 121 = .ok (.iconst 1, 1) := by decide +kernel
theorem d_prog_5_method_10_122 : decode prog_5_method_10_code 122 = .ok (.bastore, 1) := by decide +kernel
theorem d_prog_5_method_10_103 : decode prog_5_method_10_code 103 = .ok (.aload_n 0, 1) := by decide +kernel
theorem d_prog_5_method_10_104 : decode prog_5_method_10_code 104 = .ok (.iload 8, 2) := by decide +kernel
theorem d_prog_5_method_10_106 : decode prog_5_method_10_code 106 = .ok (.aaload, 1) := by decide +kernel
theorem d_prog_5_method_10_107 : decode prog_5_method_10_code 107 = .ok (.aload 6, 2) := by decide +kernel
theorem d_prog_5_method_10_109 : decode prog_5_method_10_code 109 = .ok (.invokevirtual 90, 3) := by decide +kernel
theorem d_prog_5_method_10_112 : decode prog_5_method_10_code 112 = .ok (.ifCond .eq 11, 3) := by decide +kernel
set_option maxRecDepth 65536 in
set_option maxHeartbeats 40000000 in
theorem loop_in {p : Program} {l : Launch} {e : Env} {s : State} {m : MethodId} {args : Array Value} {below : List Frame} {meth : Method} {c : Code} {vmS : Vm} {Z : State} {a0 : Array Value} (hw : ∀ d ∈ tables_1, d.before a0 Z = true) (wS : ∀ a ∈ Bundle.stringAtoms, a.before a0 Z = true) (hEL : EW Z a0 [("com/example/intackt/intackt/vhost/ExchangeType", 138), ("com/example/intackt/intackt/vhost/ExchangeType", 140), ("java/lang/String", 7)]) (hwe : ∀ d ∈ StrChars.Road.wordsEq, d.before a0 Z = true) (h0 : Heap) (n0 : Nat) (zc : Int32) (S1 : Sta Z Z.heap "java/lang/String" "COMPACT_STRINGS" "Z" (.int zc)) (P1 : ¬ (zc = (0 : Int32))) (pn : Nat) (hpn : pn ≤ 3) (xp : List Addr) (hxp : xp.length = pn) (pcs : Nat → List Int32) (hpb : ∀ i, (pcs i).length ≤ 2 ∧ ∀ c ∈ pcs i, ¬ c < 0 ∧ ¬ (255 : Int32) < c) (pa : Addr) (ka : ClassId) (V_pa : Arv Z h0 pa ka (.object "java/lang/String") (Int32.ofNat pn) (xp.map Value.ref) .null) (hst : ∀ i, i < pn → Str Z h0 (xp.getD i 0) (pcs i)) (hb : Nat → Bool) (hhb : ∀ i, i < pn → hb i = decide (pcs i = [35])) (ra wr bz nz : Addr) (kz kn : ClassId) (wcs : List Int32) (hwb : wcs.length ≤ 2 ∧ ∀ c ∈ wcs, ¬ c < 0 ∧ ¬ (255 : Int32) < c) (S_wr : Str Z h0 wr wcs) (lv : List Bool) (hlv : lv.length = pn + 1) (g_nz : n0 ≤ nz) (sz_nz : h0.size ≤ nz) (hzn : bz ≠ nz) (eb : Nat → Bool) (heb : ∀ i, i < pn → eb i = (decide (pcs i = [42]) || decide (pcs i = wcs))) (NF : List Bool) (FB : Bool) (KM NM : Nat) (hKM : KM ≤ 16) (hNM : NM ≤ 64) (x4 x5 : Int32) (Hc : ∀ (vm0 : Vm) (B : Nat) (K : Ctx p (s.setVm vm0) m meth c Z "com/example/intackt/intackt/vhost/ExchangeType" prog_5_method_10_code 9 (some .boolean) "topicMatches" ({ frames := 3, cells := 16, slots := 64, locals := 56 } : Room) (FW s ({ frames := 3, cells := 16, slots := 64, locals := 56 } : Room)) B) (hS : s.Since vm0 B) (h : Heap) (zh : n0 ≤ h.size) (CR : CHr Z [("com/example/intackt/intackt/vhost/ExchangeType", 138), ("com/example/intackt/intackt/vhost/ExchangeType", 140), ("java/lang/String", 7)] vmS h0 vm0 h) (odh : Old Z n0 h) (kc : Keep h0 h []) (Vz : Arv Z h bz kz .boolean (Int32.ofNat (pn + 1)) (lv.map bv) (.int 0)) (Vn : Arv Z h nz kn .boolean (Int32.ofNat (pn + 1)) (NF.map bv) (.int 0)) (f : Bool) (hf : LitF s vm0 Z h "com/example/intackt/intackt/vhost/ExchangeType" 138 [35] f) (g : Bool) (hg : LitF s vm0 Z h "com/example/intackt/intackt/vhost/ExchangeType" 140 [42] g) (k n : Nat) (hk : k + pot f 2 + pot g 2 ≤ KM) (hn : n + pot f 8 + pot g 8 ≤ NM), Go p l e ({ frames := 3, cells := 16, slots := 64, locals := 56 } : Room) (s.setVm vm0) m args below meth c n0 (fun v vm h => (v = some (.int (bi FB)) ∧ Keep h0 h []) ∧ CHr Z [("com/example/intackt/intackt/vhost/ExchangeType", 138), ("com/example/intackt/intackt/vhost/ExchangeType", 140), ("java/lang/String", 7)] vmS h0 vm h) (FW s ({ frames := 3, cells := 16, slots := 64, locals := 56 } : Room)) B h k n (mkF m 129 #[.val (.ref pa), .val (.ref ra), .val (.ref bz), .val (.ref ra), .val (.int x4), .val (.int x5), .val (.ref wr), .val (.ref nz), .val (.int (Int32.ofNat pn))] [])) :
    ∀ (r i : Nat), i + r = pn → ∀ (vm0 : Vm) (B : Nat) (K : Ctx p (s.setVm vm0) m meth c Z "com/example/intackt/intackt/vhost/ExchangeType" prog_5_method_10_code 9 (some .boolean) "topicMatches" ({ frames := 3, cells := 16, slots := 64, locals := 56 } : Room) (FW s ({ frames := 3, cells := 16, slots := 64, locals := 56 } : Room)) B) (hS : s.Since vm0 B) (h : Heap) (zh : n0 ≤ h.size) (CR : CHr Z [("com/example/intackt/intackt/vhost/ExchangeType", 138), ("com/example/intackt/intackt/vhost/ExchangeType", 140), ("java/lang/String", 7)] vmS h0 vm0 h) (odh : Old Z n0 h) (kc : Keep h0 h []) (Vz : Arv Z h bz kz .boolean (Int32.ofNat (pn + 1)) (lv.map bv) (.int 0)) (nv : List Bool) (hnv : nv.length = pn + 1) (Vn : Arv Z h nz kn .boolean (Int32.ofNat (pn + 1)) (nv.map bv) (.int 0)) (hNF : inF hb eb lv r i nv = NF) (f : Bool) (hf : LitF s vm0 Z h "com/example/intackt/intackt/vhost/ExchangeType" 138 [35] f) (g : Bool) (hg : LitF s vm0 Z h "com/example/intackt/intackt/vhost/ExchangeType" 140 [42] g) (k n : Nat) (hk : k + pot f 2 + pot g 2 ≤ KM) (hn : n + pot f 8 + pot g 8 ≤ NM),
    Go p l e ({ frames := 3, cells := 16, slots := 64, locals := 56 } : Room) (s.setVm vm0) m args below meth c n0 (fun v vm h => (v = some (.int (bi FB)) ∧ Keep h0 h []) ∧ CHr Z [("com/example/intackt/intackt/vhost/ExchangeType", 138), ("com/example/intackt/intackt/vhost/ExchangeType", 140), ("java/lang/String", 7)] vmS h0 vm h) (FW s ({ frames := 3, cells := 16, slots := 64, locals := 56 } : Room)) B h k n (mkF m 49 #[.val (.ref pa), .val (.ref ra), .val (.ref bz), .val (.ref ra), .val (.int x4), .val (.int x5), .val (.ref wr), .val (.ref nz), .val (.int (Int32.ofNat i))] []) := by
  intro r
  induction r with
  | zero =>
    intro i hr vm0 B K hS h zh CR odh kc Vz nv hnv Vn hNF f hf g hg k n hk hn
    have hi : i = pn := by omega
    have hiI : Int32.ofNat i = Int32.ofNat pn := by rw [hi]
    have Vpa := V_pa.keep kc nin0
    have hpz : pa ≠ nz := own_tyne Vpa Vn (by decide)
    refine Go.iload K d_prog_5_method_10_49 rfl (pc' := 51) rfl ?_
    refine Go.aloadN K d_prog_5_method_10_51 rfl rfl (pc' := 52) rfl ?_
    refine Go.arraylength K Vpa d_prog_5_method_10_52 (pc' := 53) rfl ?_
    refine Go.icmp K d_prog_5_method_10_53 (by decide) (pcT := 129) (pcF := 56) (by decide) rfl (fun h53 => ?_) (fun h53 => ?_)
    · replace h53 : ¬ (Int32.ofNat i) < (Int32.ofNat pn) := h53
      rw [hiI]
      exact Hc _ _ K hS _ zh CR odh kc Vz (by rw [← hNF]; exact Vn) f hf g hg k n hk hn
    · replace h53 : ¬ (¬ (Int32.ofNat i) < (Int32.ofNat pn)) := h53
      exact absurd ((own_lt4 hpn (by omega)).mp (Decidable.not_not.mp h53)) (by omega)
  | succ r ih =>
    intro i hr vm0 B K hS h zh CR odh kc Vz nv hnv Vn hNF f hf g hg k n hk hn
    have hi : i < pn := by omega
    have Vpa := V_pa.keep kc nin0
    have hpz : pa ≠ nz := own_tyne Vpa Vn (by decide)
    refine Go.iload K d_prog_5_method_10_49 rfl (pc' := 51) rfl ?_
    refine Go.aloadN K d_prog_5_method_10_51 rfl rfl (pc' := 52) rfl ?_
    refine Go.arraylength K Vpa d_prog_5_method_10_52 (pc' := 53) rfl ?_
    refine Go.icmp K d_prog_5_method_10_53 (by decide) (pcT := 129) (pcF := 56) (by decide) rfl (fun h53 => ?_) (fun h53 => ?_)
    · replace h53 : ¬ (Int32.ofNat i) < (Int32.ofNat pn) := h53
      exact absurd ((own_lt4 hpn (by omega)).mpr hi) h53
    · replace h53 : ¬ (¬ (Int32.ofNat i) < (Int32.ofNat pn)) := h53
      refine Go.aloadN K d_prog_5_method_10_56 rfl rfl (pc' := 57) rfl ?_
      refine Go.iload K d_prog_5_method_10_57 rfl (pc' := 59) rfl ?_
      refine Go.bzload K (v := (.int (bi (lv.getD i false)))) Vz (own_in (by omega) (by omega)) (own_bat (by omega) (by omega)) d_prog_5_method_10_59 (pc' := 60) rfl ?_
      refine Go.ifc K d_prog_5_method_10_60 (by decide) (pcT := 84) (pcF := 63) (by decide) rfl (fun h60 => ?_) (fun h60 => ?_)
      · replace h60 : (bi (lv.getD i false)) = 0 := h60
        have hl := bi_0 h60
        refine Go.aloadN K d_prog_5_method_10_84 rfl rfl (pc' := 85) rfl ?_
        refine Go.iload K d_prog_5_method_10_85 rfl (pc' := 87) rfl ?_
        refine Go.bzload K (v := (.int (bi (lv.getD i false)))) Vz (own_in (by omega) (by omega)) (own_bat (by omega) (by omega)) d_prog_5_method_10_87 (pc' := 88) rfl ?_
        refine Go.ifc K d_prog_5_method_10_88 (by decide) (pcT := 123) (pcF := 91) (by decide) rfl (fun h88 => ?_) (fun h88 => ?_)
        · replace h88 : (bi (lv.getD i false)) = 0 := h88
          refine Go.iinc K d_prog_5_method_10_123 rfl (Ls' := #[.val (.ref pa), .val (.ref ra), .val (.ref bz), .val (.ref ra), .val (.int x4), .val (.int x5), .val (.ref wr), .val (.ref nz), .val (.int (Int32.ofNat (i + 1)))]) (by rw [own_inc]; rfl) (pc' := 126) rfl ?_
          refine Go.goto K d_prog_5_method_10_126 (pc' := 49) (by decide) (by decide) ?_
          have e1 : inF hb eb lv (r + 1) i nv = inF hb eb lv r (i + 1) nv := by simp [inF, hl, -List.getD_eq_getElem?_getD]
          exact ih (i + 1) (by omega) _ _ K hS _ zh CR odh kc Vz _ hnv Vn (e1.symm.trans hNF) f hf g hg _ _ (by have : pot true 2 = 0 := rfl; have : pot true 8 = 0 := rfl; omega) (by have : pot true 2 = 0 := rfl; have : pot true 8 = 0 := rfl; omega)
        · replace h88 : ¬ ((bi (lv.getD i false)) = 0) := h88
          exact absurd h60 h88
      · replace h60 : ¬ ((bi (lv.getD i false)) = 0) := h60
        have hl := bi_1 h60
        refine Go.aloadN K d_prog_5_method_10_63 rfl rfl (pc' := 64) rfl ?_
        refine Go.iload K d_prog_5_method_10_64 rfl (pc' := 66) rfl ?_
        refine Go.aaload K (v := (.ref (xp.getD i 0))) Vpa (own_in (by omega) hi) (own_rat (by omega) (by omega)) d_prog_5_method_10_66 (pc' := 67) rfl ?_
        refine Go.ldcB K hS (i := 4) (hw _ (List.mem_of_getElem? (i := 73) rfl)) wS hEL (by decide) CR.1 (cs := [35]) (by decide +kernel) (by decide) f hf (by decide) (by decide) (i4 := 8) rfl (by show _ ≤ 16; have : pot true 2 = 0 := rfl; have : pot true 8 = 0 := rfl; omega) (by show _ ≤ 64; have : pot true 2 = 0 := rfl; have : pot true 8 = 0 := rfl; omega) d_prog_5_method_10_67 (pc' := 69) rfl ?_
        intro la vm693 h689 B694 E690 hr691 hS Wm692 L_la S_la K
        have f700 := Vpa.ext E690
        have f701 := Vz.ext E690
        have f702 := Vn.ext E690
        have f703 := hf.ext E690
        have f704 := hg.ext E690
        have od705 := odh.ext E690
        have z706 := Nat.le_trans zh E690.1
        have cr707 := CR.trans (hr691)
        have kc708 := kc.ext E690
        have L709 := LitF.later f703 Wm692
        have L710 := LitF.later f704 Wm692
        obtain ⟨ea2, eb2, ta2, ka2, ec2, ed2⟩ := id ((hst i hi).keep0 kc708)
        obtain ⟨fa2, fb2, tb2, kb2, fc2, fd2⟩ := id S_la
        refine Go.callV K (y := (⟨"java/lang/String", "equals", "(Ljava/lang/Object;)Z"⟩ : MethodName)) (z := (⟨"java/lang/String", "equals", "(Ljava/lang/Object;)Z"⟩ : MethodName)) (W := 0) (kc := 0) (nc := 0) (a := (xp.getD i 0)) (mvT K.cz (hw _ (List.mem_of_getElem? (i := 76) rfl))) (mvT K.cz (hw _ (List.mem_of_getElem? (i := 77) rfl))) (notFace_of_selects (args := #[]) (mvT K.cz (hw _ (List.mem_of_getElem? (i := 79) rfl)))) (mvT K.cz (hw _ (List.mem_of_getElem? (i := 79) rfl))) (mvT K.cz (hw _ (List.mem_of_getElem? (i := 78) rfl))) (by decide) ea2 (paysEq (W := 0) K.cz hwe (kI := 4) (hw _ (List.mem_of_getElem? (i := 14) rfl)) (cs := (pcs i)) (cs' := [35]) ea2 ec2 eb2 ed2 (own_cod (hpb i).2) (own_b65 (hpb i).2) (own_l2 (hpb i).1) fa2 fc2 fb2 fd2 (own_cod own_35.2) (own_b65 own_35.2) (own_l2 own_35.1) (S1.ext od705.2) P1 (by decide) (by decide)) rfl (argsL := [(.ref la)]) (rest := []) (lenOf pd__28Ljava_2flang_2fObject_3b_29Z rfl) rfl (Nat.le_of_ble_eq_true rfl) (by show _ ≤ 16; have : pot true 2 = 0 := rfl; have : pot true 8 = 0 := rfl; omega) (by show _ ≤ 64; have : pot true 2 = 0 := rfl; have : pot true 8 = 0 := rfl; omega) (fun v h' L q => q.2.1 ▸ (Fr.nil _)) (fun v h' L q => q.2.2 ▸ Nat.le_refl _) d_prog_5_method_10_69 (pc' := 72) rfl ?_
        rintro v713 h711 Lc712 ⟨qv, rfl, eh⟩
        obtain rfl := eh.symm
        rcases qv with ⟨rfl, qe2⟩ | ⟨rfl, qe2⟩
        · show Go p l e _ _ m _ below meth c _ _ _ _ h689 _ _ (mkF m 72 #[.val (.ref pa), .val (.ref ra), .val (.ref bz), .val (.ref ra), .val (.int x4), .val (.int x5), .val (.ref wr), .val (.ref nz), .val (.int (Int32.ofNat i))] [(.int (1 : Int32))])
          refine Go.ifc K d_prog_5_method_10_72 (by decide) (pcT := 84) (pcF := 75) (by decide) rfl (fun h72 => ?_) (fun h72 => ?_)
          · replace h72 : (1 : Int32) = 0 := h72
            exact absurd h72 (by decide)
          · replace h72 : ¬ ((1 : Int32) = 0) := h72
            have hbi : hb i = true := (hhb i hi).trans (decide_eq_true qe2)
            refine Go.aload K d_prog_5_method_10_75 rfl rfl (pc' := 77) rfl ?_
            refine Go.iload K d_prog_5_method_10_77 rfl (pc' := 79) rfl ?_
            refine Go.iconst K (v := 1) d_prog_5_method_10_79 rfl (pc' := 80) rfl ?_
            refine Go.bzstore K f702 i (own_cl (by omega)) (by rw [List.length_map]; omega) (own_in (by omega) (by omega)) g_nz d_prog_5_method_10_80 (pc' := 81) rfl ?_
            intro h714 K715 V2
            have cr716 := cr707.trans (CHr.keep K715 (sfS (Safe.arv K.cz.alike f702 (by decide)) sf0) cr707.1)
            have f717 := f700.keep K715 (ninS hpz nin0)
            have f718 := f701.keep K715 (ninS hzn nin0)
            have f720 := LitF.keepB (hw _ (List.mem_of_getElem? (i := 14) rfl)) L_la K715 f702
            have f721 := LitF.keepB (hw _ (List.mem_of_getElem? (i := 14) rfl)) L710 K715 f702
            have f722 := Str.keepB (hw _ (List.mem_of_getElem? (i := 14) rfl)) S_la K715 f702
            have od723 := od705.keep K715 (allS g_nz all0)
            have z724 := Nat.le_trans z706 K715.1
            have kc725 := kc708.trans K715 (allS (Or.inr sz_nz) all0)
            rw [own_mset] at V2
            refine Go.goto K d_prog_5_method_10_81 (pc' := 123) (by decide) (by decide) ?_
            refine Go.iinc K d_prog_5_method_10_123 rfl (Ls' := #[.val (.ref pa), .val (.ref ra), .val (.ref bz), .val (.ref ra), .val (.int x4), .val (.int x5), .val (.ref wr), .val (.ref nz), .val (.int (Int32.ofNat (i + 1)))]) (by rw [own_inc]; rfl) (pc' := 126) rfl ?_
            refine Go.goto K d_prog_5_method_10_126 (pc' := 49) (by decide) (by decide) ?_
            have e1 : inF hb eb lv (r + 1) i nv = inF hb eb lv r (i + 1) (nv.set i true) := by simp [inF, hl, hbi, -List.getD_eq_getElem?_getD]
            exact ih (i + 1) (by omega) _ _ K hS _ z724 cr716 od723 kc725 f718 _ (by rw [List.length_set]; exact hnv) V2 (e1.symm.trans hNF) true f720 g f721 _ _ (by have : pot true 2 = 0 := rfl; have : pot true 8 = 0 := rfl; omega) (by have : pot true 2 = 0 := rfl; have : pot true 8 = 0 := rfl; omega)
        · show Go p l e _ _ m _ below meth c _ _ _ _ h689 _ _ (mkF m 72 #[.val (.ref pa), .val (.ref ra), .val (.ref bz), .val (.ref ra), .val (.int x4), .val (.int x5), .val (.ref wr), .val (.ref nz), .val (.int (Int32.ofNat i))] [(.int (0 : Int32))])
          refine Go.ifc K d_prog_5_method_10_72 (by decide) (pcT := 84) (pcF := 75) (by decide) rfl (fun h72 => ?_) (fun h72 => ?_)
          · replace h72 : (0 : Int32) = 0 := h72
            have hbi : hb i = false := (hhb i hi).trans (decide_eq_false qe2)
            refine Go.aloadN K d_prog_5_method_10_84 rfl rfl (pc' := 85) rfl ?_
            refine Go.iload K d_prog_5_method_10_85 rfl (pc' := 87) rfl ?_
            refine Go.bzload K (v := (.int (bi (lv.getD i false)))) f701 (own_in (by omega) (by omega)) (own_bat (by omega) (by omega)) d_prog_5_method_10_87 (pc' := 88) rfl ?_
            refine Go.ifc K d_prog_5_method_10_88 (by decide) (pcT := 123) (pcF := 91) (by decide) rfl (fun h88 => ?_) (fun h88 => ?_)
            · replace h88 : (bi (lv.getD i false)) = 0 := h88
              exact absurd h88 h60
            · replace h88 : ¬ ((bi (lv.getD i false)) = 0) := h88
              refine Go.aloadN K d_prog_5_method_10_91 rfl rfl (pc' := 92) rfl ?_
              refine Go.iload K d_prog_5_method_10_92 rfl (pc' := 94) rfl ?_
              refine Go.aaload K (v := (.ref (xp.getD i 0))) f700 (own_in (by omega) hi) (own_rat (by omega) (by omega)) d_prog_5_method_10_94 (pc' := 95) rfl ?_
              refine Go.ldcB K hS (i := 4) (hw _ (List.mem_of_getElem? (i := 86) rfl)) wS hEL (by decide) cr707.1 (cs := [42]) (by decide +kernel) (by decide) g L710 (by decide) (by decide) (i4 := 8) rfl (by show _ ≤ 16; have : pot true 2 = 0 := rfl; have : pot true 8 = 0 := rfl; omega) (by show _ ≤ 64; have : pot true 2 = 0 := rfl; have : pot true 8 = 0 := rfl; omega) d_prog_5_method_10_95 (pc' := 97) rfl ?_
              intro lb vm730 h726 B731 E727 hr728 hS Wm729 L_lb S_lb K
              have f738 := f700.ext E727
              have f739 := f701.ext E727
              have f740 := f702.ext E727
              have f741 := L_la.ext E727
              have f742 := L710.ext E727
              have f743 := S_la.ext E727
              have od744 := od705.ext E727
              have z745 := Nat.le_trans z706 E727.1
              have cr746 := cr707.trans (hr728)
              have kc747 := kc708.ext E727
              have L748 := LitF.later f741 Wm729
              have L749 := LitF.later f742 Wm729
              obtain ⟨ea3, eb3, ta3, ka3, ec3, ed3⟩ := id ((hst i hi).keep0 kc747)
              obtain ⟨fa3, fb3, tb3, kb3, fc3, fd3⟩ := id S_lb
              refine Go.callV K (y := (⟨"java/lang/String", "equals", "(Ljava/lang/Object;)Z"⟩ : MethodName)) (z := (⟨"java/lang/String", "equals", "(Ljava/lang/Object;)Z"⟩ : MethodName)) (W := 0) (kc := 0) (nc := 0) (a := (xp.getD i 0)) (mvT K.cz (hw _ (List.mem_of_getElem? (i := 76) rfl))) (mvT K.cz (hw _ (List.mem_of_getElem? (i := 77) rfl))) (notFace_of_selects (args := #[]) (mvT K.cz (hw _ (List.mem_of_getElem? (i := 79) rfl)))) (mvT K.cz (hw _ (List.mem_of_getElem? (i := 79) rfl))) (mvT K.cz (hw _ (List.mem_of_getElem? (i := 78) rfl))) (by decide) ea3 (paysEq (W := 0) K.cz hwe (kI := 4) (hw _ (List.mem_of_getElem? (i := 14) rfl)) (cs := (pcs i)) (cs' := [42]) ea3 ec3 eb3 ed3 (own_cod (hpb i).2) (own_b65 (hpb i).2) (own_l2 (hpb i).1) fa3 fc3 fb3 fd3 (own_cod own_42.2) (own_b65 own_42.2) (own_l2 own_42.1) (S1.ext od744.2) P1 (by decide) (by decide)) rfl (argsL := [(.ref lb)]) (rest := []) (lenOf pd__28Ljava_2flang_2fObject_3b_29Z rfl) rfl (Nat.le_of_ble_eq_true rfl) (by show _ ≤ 16; have : pot true 2 = 0 := rfl; have : pot true 8 = 0 := rfl; omega) (by show _ ≤ 64; have : pot true 2 = 0 := rfl; have : pot true 8 = 0 := rfl; omega) (fun v h' L q => q.2.1 ▸ (Fr.nil _)) (fun v h' L q => q.2.2 ▸ Nat.le_refl _) d_prog_5_method_10_97 (pc' := 100) rfl ?_
              rintro v752 h750 Lc751 ⟨qv, rfl, eh⟩
              obtain rfl := eh.symm
              rcases qv with ⟨rfl, qe3⟩ | ⟨rfl, qe3⟩
              · show Go p l e _ _ m _ below meth c _ _ _ _ h726 _ _ (mkF m 100 #[.val (.ref pa), .val (.ref ra), .val (.ref bz), .val (.ref ra), .val (.int x4), .val (.int x5), .val (.ref wr), .val (.ref nz), .val (.int (Int32.ofNat i))] [(.int (1 : Int32))])
                refine Go.ifc K d_prog_5_method_10_100 (by decide) (pcT := 115) (pcF := 103) (by decide) rfl (fun h100 => ?_) (fun h100 => ?_)
                · replace h100 : ¬ (1 : Int32) = 0 := h100
                  have hei : eb i = true := (heb i hi).trans (by rw [decide_eq_true qe3]; rfl)
                  refine Go.aload K d_prog_5_method_10_115 rfl rfl (pc' := 117) rfl ?_
                  refine Go.iload K d_prog_5_method_10_117 rfl (pc' := 119) rfl ?_
                  refine Go.iconst K (v := 1) d_prog_5_method_10_119 rfl (pc' := 120) rfl ?_
                  refine Go.iadd K d_prog_5_method_10_120 (pc' := 121) rfl ?_
                  rw [own_p1]
                  refine Go.iconst K (v := 1) d_prog_5_method_10_121 rfl (pc' := 122) rfl ?_
                  refine Go.bzstore K f740 (i + 1) (own_cl (by omega)) (by rw [List.length_map]; omega) (own_in (by omega) (by omega)) g_nz d_prog_5_method_10_122 (pc' := 123) rfl ?_
                  intro h753 K754 V2
                  have cr755 := cr746.trans (CHr.keep K754 (sfS (Safe.arv K.cz.alike f740 (by decide)) sf0) cr746.1)
                  have f756 := f738.keep K754 (ninS hpz nin0)
                  have f757 := f739.keep K754 (ninS hzn nin0)
                  have f759 := LitF.keepB (hw _ (List.mem_of_getElem? (i := 14) rfl)) L748 K754 f740
                  have f760 := LitF.keepB (hw _ (List.mem_of_getElem? (i := 14) rfl)) L_lb K754 f740
                  have f761 := Str.keepB (hw _ (List.mem_of_getElem? (i := 14) rfl)) f743 K754 f740
                  have f762 := Str.keepB (hw _ (List.mem_of_getElem? (i := 14) rfl)) S_lb K754 f740
                  have od763 := od744.keep K754 (allS g_nz all0)
                  have z764 := Nat.le_trans z745 K754.1
                  have kc765 := kc747.trans K754 (allS (Or.inr sz_nz) all0)
                  rw [own_mset] at V2
                  refine Go.iinc K d_prog_5_method_10_123 rfl (Ls' := #[.val (.ref pa), .val (.ref ra), .val (.ref bz), .val (.ref ra), .val (.int x4), .val (.int x5), .val (.ref wr), .val (.ref nz), .val (.int (Int32.ofNat (i + 1)))]) (by rw [own_inc]; rfl) (pc' := 126) rfl ?_
                  refine Go.goto K d_prog_5_method_10_126 (pc' := 49) (by decide) (by decide) ?_
                  have e1 : inF hb eb lv (r + 1) i nv = inF hb eb lv r (i + 1) (nv.set (i + 1) true) := by simp [inF, hl, hbi, hei, -List.getD_eq_getElem?_getD]
                  exact ih (i + 1) (by omega) _ _ K hS _ z764 cr755 od763 kc765 f757 _ (by rw [List.length_set]; exact hnv) V2 (e1.symm.trans hNF) true f759 true f760 _ _ (by have : pot true 2 = 0 := rfl; have : pot true 8 = 0 := rfl; omega) (by have : pot true 2 = 0 := rfl; have : pot true 8 = 0 := rfl; omega)
                · replace h100 : ¬ (¬ (1 : Int32) = 0) := h100
                  exact absurd (by decide) h100
              · show Go p l e _ _ m _ below meth c _ _ _ _ h726 _ _ (mkF m 100 #[.val (.ref pa), .val (.ref ra), .val (.ref bz), .val (.ref ra), .val (.int x4), .val (.int x5), .val (.ref wr), .val (.ref nz), .val (.int (Int32.ofNat i))] [(.int (0 : Int32))])
                refine Go.ifc K d_prog_5_method_10_100 (by decide) (pcT := 115) (pcF := 103) (by decide) rfl (fun h100 => ?_) (fun h100 => ?_)
                · replace h100 : ¬ (0 : Int32) = 0 := h100
                  exact absurd rfl h100
                · replace h100 : ¬ (¬ (0 : Int32) = 0) := h100
                  refine Go.aloadN K d_prog_5_method_10_103 rfl rfl (pc' := 104) rfl ?_
                  refine Go.iload K d_prog_5_method_10_104 rfl (pc' := 106) rfl ?_
                  refine Go.aaload K (v := (.ref (xp.getD i 0))) f738 (own_in (by omega) hi) (own_rat (by omega) (by omega)) d_prog_5_method_10_106 (pc' := 107) rfl ?_
                  refine Go.aload K d_prog_5_method_10_107 rfl rfl (pc' := 109) rfl ?_
                  obtain ⟨ea4, eb4, ta4, ka4, ec4, ed4⟩ := id ((hst i hi).keep0 kc747)
                  obtain ⟨fa4, fb4, tb4, kb4, fc4, fd4⟩ := id (S_wr.keep0 kc747)
                  refine Go.callV K (y := (⟨"java/lang/String", "equals", "(Ljava/lang/Object;)Z"⟩ : MethodName)) (z := (⟨"java/lang/String", "equals", "(Ljava/lang/Object;)Z"⟩ : MethodName)) (W := 0) (kc := 0) (nc := 0) (a := (xp.getD i 0)) (mvT K.cz (hw _ (List.mem_of_getElem? (i := 76) rfl))) (mvT K.cz (hw _ (List.mem_of_getElem? (i := 77) rfl))) (notFace_of_selects (args := #[]) (mvT K.cz (hw _ (List.mem_of_getElem? (i := 79) rfl)))) (mvT K.cz (hw _ (List.mem_of_getElem? (i := 79) rfl))) (mvT K.cz (hw _ (List.mem_of_getElem? (i := 78) rfl))) (by decide) ea4 (paysEq (W := 0) K.cz hwe (kI := 4) (hw _ (List.mem_of_getElem? (i := 14) rfl)) (cs := (pcs i)) (cs' := wcs) ea4 ec4 eb4 ed4 (own_cod (hpb i).2) (own_b65 (hpb i).2) (own_l2 (hpb i).1) fa4 fc4 fb4 fd4 (own_cod hwb.2) (own_b65 hwb.2) (own_l2 hwb.1) (S1.ext od744.2) P1 (by decide) (by decide)) rfl (argsL := [(.ref wr)]) (rest := []) (lenOf pd__28Ljava_2flang_2fObject_3b_29Z rfl) rfl (Nat.le_of_ble_eq_true rfl) (by show _ ≤ 16; have : pot true 2 = 0 := rfl; have : pot true 8 = 0 := rfl; omega) (by show _ ≤ 64; have : pot true 2 = 0 := rfl; have : pot true 8 = 0 := rfl; omega) (fun v h' L q => q.2.1 ▸ (Fr.nil _)) (fun v h' L q => q.2.2 ▸ Nat.le_refl _) d_prog_5_method_10_109 (pc' := 112) rfl ?_
                  rintro v768 h766 Lc767 ⟨qv, rfl, eh⟩
                  obtain rfl := eh.symm
                  rcases qv with ⟨rfl, qe4⟩ | ⟨rfl, qe4⟩
                  · show Go p l e _ _ m _ below meth c _ _ _ _ h726 _ _ (mkF m 112 #[.val (.ref pa), .val (.ref ra), .val (.ref bz), .val (.ref ra), .val (.int x4), .val (.int x5), .val (.ref wr), .val (.ref nz), .val (.int (Int32.ofNat i))] [(.int (1 : Int32))])
                    refine Go.ifc K d_prog_5_method_10_112 (by decide) (pcT := 123) (pcF := 115) (by decide) rfl (fun h112 => ?_) (fun h112 => ?_)
                    · replace h112 : (1 : Int32) = 0 := h112
                      exact absurd h112 (by decide)
                    · replace h112 : ¬ ((1 : Int32) = 0) := h112
                      have hei : eb i = true := (heb i hi).trans (by rw [decide_eq_true qe4, Bool.or_true])
                      refine Go.aload K d_prog_5_method_10_115 rfl rfl (pc' := 117) rfl ?_
                      refine Go.iload K d_prog_5_method_10_117 rfl (pc' := 119) rfl ?_
                      refine Go.iconst K (v := 1) d_prog_5_method_10_119 rfl (pc' := 120) rfl ?_
                      refine Go.iadd K d_prog_5_method_10_120 (pc' := 121) rfl ?_
                      rw [own_p1]
                      refine Go.iconst K (v := 1) d_prog_5_method_10_121 rfl (pc' := 122) rfl ?_
                      refine Go.bzstore K f740 (i + 1) (own_cl (by omega)) (by rw [List.length_map]; omega) (own_in (by omega) (by omega)) g_nz d_prog_5_method_10_122 (pc' := 123) rfl ?_
                      intro h769 K770 V2
                      have cr771 := cr746.trans (CHr.keep K770 (sfS (Safe.arv K.cz.alike f740 (by decide)) sf0) cr746.1)
                      have f772 := f738.keep K770 (ninS hpz nin0)
                      have f773 := f739.keep K770 (ninS hzn nin0)
                      have f775 := LitF.keepB (hw _ (List.mem_of_getElem? (i := 14) rfl)) L748 K770 f740
                      have f776 := LitF.keepB (hw _ (List.mem_of_getElem? (i := 14) rfl)) L_lb K770 f740
                      have f777 := Str.keepB (hw _ (List.mem_of_getElem? (i := 14) rfl)) f743 K770 f740
                      have f778 := Str.keepB (hw _ (List.mem_of_getElem? (i := 14) rfl)) S_lb K770 f740
                      have od779 := od744.keep K770 (allS g_nz all0)
                      have z780 := Nat.le_trans z745 K770.1
                      have kc781 := kc747.trans K770 (allS (Or.inr sz_nz) all0)
                      rw [own_mset] at V2
                      refine Go.iinc K d_prog_5_method_10_123 rfl (Ls' := #[.val (.ref pa), .val (.ref ra), .val (.ref bz), .val (.ref ra), .val (.int x4), .val (.int x5), .val (.ref wr), .val (.ref nz), .val (.int (Int32.ofNat (i + 1)))]) (by rw [own_inc]; rfl) (pc' := 126) rfl ?_
                      refine Go.goto K d_prog_5_method_10_126 (pc' := 49) (by decide) (by decide) ?_
                      have e1 : inF hb eb lv (r + 1) i nv = inF hb eb lv r (i + 1) (nv.set (i + 1) true) := by simp [inF, hl, hbi, hei, -List.getD_eq_getElem?_getD]
                      exact ih (i + 1) (by omega) _ _ K hS _ z780 cr771 od779 kc781 f773 _ (by rw [List.length_set]; exact hnv) V2 (e1.symm.trans hNF) true f775 true f776 _ _ (by have : pot true 2 = 0 := rfl; have : pot true 8 = 0 := rfl; omega) (by have : pot true 2 = 0 := rfl; have : pot true 8 = 0 := rfl; omega)
                  · show Go p l e _ _ m _ below meth c _ _ _ _ h726 _ _ (mkF m 112 #[.val (.ref pa), .val (.ref ra), .val (.ref bz), .val (.ref ra), .val (.int x4), .val (.int x5), .val (.ref wr), .val (.ref nz), .val (.int (Int32.ofNat i))] [(.int (0 : Int32))])
                    refine Go.ifc K d_prog_5_method_10_112 (by decide) (pcT := 123) (pcF := 115) (by decide) rfl (fun h112 => ?_) (fun h112 => ?_)
                    · replace h112 : (0 : Int32) = 0 := h112
                      have hei : eb i = false := (heb i hi).trans (by rw [decide_eq_false qe3, decide_eq_false qe4]; rfl)
                      refine Go.iinc K d_prog_5_method_10_123 rfl (Ls' := #[.val (.ref pa), .val (.ref ra), .val (.ref bz), .val (.ref ra), .val (.int x4), .val (.int x5), .val (.ref wr), .val (.ref nz), .val (.int (Int32.ofNat (i + 1)))]) (by rw [own_inc]; rfl) (pc' := 126) rfl ?_
                      refine Go.goto K d_prog_5_method_10_126 (pc' := 49) (by decide) (by decide) ?_
                      have e1 : inF hb eb lv (r + 1) i nv = inF hb eb lv r (i + 1) nv := by simp [inF, hl, hbi, hei, -List.getD_eq_getElem?_getD]
                      exact ih (i + 1) (by omega) _ _ K hS _ z745 cr746 od744 kc747 f739 _ hnv f740 (e1.symm.trans hNF) true L748 true L_lb _ _ (by have : pot true 2 = 0 := rfl; have : pot true 8 = 0 := rfl; omega) (by have : pot true 2 = 0 := rfl; have : pot true 8 = 0 := rfl; omega)
                    · replace h112 : ¬ ((0 : Int32) = 0) := h112
                      exact absurd rfl h112
          · replace h72 : ¬ ((0 : Int32) = 0) := h72
            exact absurd rfl h72
theorem own_nb (b : Bool) : nar .boolean (bi b) = bi b := by cases b <;> decide
theorem d_prog_5_method_10_25 : decode prog_5_method_10_code 25 = .ok (.iload 5, 2) := by decide +kernel
theorem d_prog_5_method_10_27 : decode prog_5_method_10_code 27 = .ok (.iload 4, 2) := by decide +kernel
theorem d_prog_5_method_10_29 : decode prog_5_method_10_code 29 = .ok (.if_icmp .ge 115, 3) := by decide +kernel
theorem d_prog_5_method_10_144 : decode prog_5_method_10_code 144 = .ok (.aload_n 2, 1) := by decide +kernel
theorem d_prog_5_method_10_145 : decode prog_5_method_10_code 145 = .ok (.aload_n 0, 1) := by decide +kernel
theorem d_prog_5_method_10_146 : decode prog_5_method_10_code 146 = .ok (.arraylength, 1) := by decide +kernel
theorem d_prog_5_method_10_147 : decode prog_5_method_10_code 147 = .ok (.baload, 1) := by decide +kernel
theorem d_prog_5_method_10_148 : decode prog_5_method_10_code 148 = .ok (.ireturn, 1) := by decide +kernel
theorem d_prog_5_method_10_32 : decode prog_5_method_10_code 32 = .ok (.aload_n 3, 1) := by decide +kernel
theorem d_prog_5_method_10_33 : decode prog_5_method_10_code 33 = .ok (.iload 5, 2) := by decide +kernel
theorem d_prog_5_method_10_35 : decode prog_5_method_10_code 35 = .ok (.aaload, 1) := by decide +kernel
theorem d_prog_5_method_10_36 : decode prog_5_method_10_code 36 = .ok (.astore 6, 2) := by decide +kernel
theorem d_prog_5_method_10_38 : decode prog_5_method_10_code 38 = .ok (.aload_n 0, 1) := by decide +kernel
theorem d_prog_5_method_10_39 : decode prog_5_method_10_code 39 = .ok (.arraylength, 1) := by decide +kernel
theorem d_prog_5_method_10_40 : decode prog_5_method_10_code 40 = .ok (.iconst 1, 1) := by decide +kernel
theorem d_prog_5_method_10_41 : decode prog_5_method_10_code 41 = .ok (.iadd, 1) := by decide +kernel
theorem d_prog_5_method_10_42 : decode prog_5_method_10_code 42 = .ok (.newarray .boolean, 2) := by decide +kernel
theorem d_prog_5_method_10_44 : decode prog_5_method_10_code 44 = .ok (.astore 7, 2) := by decide +kernel
theorem d_prog_5_method_10_46 : decode prog_5_method_10_code 46 = .ok (.iconst 0, 1) := by decide +kernel
theorem d_prog_5_method_10_47 : decode prog_5_method_10_code 47 = .ok (.istore 8, 2) := by decide +kernel
theorem d_prog_5_method_10_129 : decode prog_5_method_10_code 129 = .ok (.aload_n 0, 1) := by decide +kernel
theorem d_prog_5_method_10_130 : decode prog_5_method_10_code 130 = .ok (.aload 7, 2) := by decide +kernel
theorem d_prog_5_method_10_132 : decode prog_5_method_10_code 132 = .ok (.invokestatic 134, 3) := by decide +kernel
theorem pd__28_5bLjava_2flang_2fString_3b_5bZ_29V : parseMethodDescriptor "([Ljava/lang/String;[Z)V" = some ⟨[(.array (.object "java/lang/String")), (.array .boolean)], none⟩ := by decide +kernel
theorem d_prog_5_method_10_135 : decode prog_5_method_10_code 135 = .ok (.aload 7, 2) := by decide +kernel
theorem d_prog_5_method_10_137 : decode prog_5_method_10_code 137 = .ok (.astore_n 2, 1) := by decide +kernel
theorem d_prog_5_method_10_138 : decode prog_5_method_10_code 138 = .ok (.iinc 5 1, 3) := by decide +kernel
theorem d_prog_5_method_10_141 : decode prog_5_method_10_code 141 = .ok (.goto (-116), 3) := by decide +kernel
set_option maxRecDepth 65536 in
set_option maxHeartbeats 40000000 in
theorem loop_out {p : Program} {l : Launch} {e : Env} {s : State} {m : MethodId} {args : Array Value} {below : List Frame} {meth : Method} {c : Code} {vmS : Vm} {Z : State} {a0 : Array Value} (hw : ∀ d ∈ tables_1, d.before a0 Z = true) (wS : ∀ a ∈ Bundle.stringAtoms, a.before a0 Z = true) (hEL : EW Z a0 [("com/example/intackt/intackt/vhost/ExchangeType", 138), ("com/example/intackt/intackt/vhost/ExchangeType", 140), ("java/lang/String", 7)]) (hwe : ∀ d ∈ StrChars.Road.wordsEq, d.before a0 Z = true) (h0 : Heap) (n0 : Nat) (zc : Int32) (S1 : Sta Z Z.heap "java/lang/String" "COMPACT_STRINGS" "Z" (.int zc)) (P1 : ¬ (zc = (0 : Int32))) (pn : Nat) (hpn : pn ≤ 3) (xp : List Addr) (hxp : xp.length = pn) (pcs : Nat → List Int32) (hpb : ∀ i, (pcs i).length ≤ 2 ∧ ∀ c ∈ pcs i, ¬ c < 0 ∧ ¬ (255 : Int32) < c) (pa : Addr) (ka : ClassId) (V_pa : Arv Z h0 pa ka (.object "java/lang/String") (Int32.ofNat pn) (xp.map Value.ref) .null) (hst : ∀ i, i < pn → Str Z h0 (xp.getD i 0) (pcs i)) (hb : Nat → Bool) (hhb : ∀ i, i < pn → hb i = decide (pcs i = [35])) (ra : Addr) (kr : ClassId) (rn : Nat) (hrn : rn ≤ 3) (xr : List Addr) (hxr : xr.length = rn) (rcs : Nat → List Int32) (hrb : ∀ i, (rcs i).length ≤ 2 ∧ ∀ c ∈ rcs i, ¬ c < 0 ∧ ¬ (255 : Int32) < c) (V_ra : Arv Z h0 ra kr (.object "java/lang/String") (Int32.ofNat rn) (xr.map Value.ref) .null) (hsr : ∀ i, i < rn → Str Z h0 (xr.getD i 0) (rcs i)) (eb : Nat → Nat → Bool) (heb : ∀ j, j < rn → ∀ i, i < pn → eb j i = (decide (pcs i = [42]) || decide (pcs i = rcs j))) (FB : Bool) :
    ∀ (r i : Nat), i + r = rn → ∀ (vm0 : Vm) (B : Nat) (K : Ctx p (s.setVm vm0) m meth c Z "com/example/intackt/intackt/vhost/ExchangeType" prog_5_method_10_code 9 (some .boolean) "topicMatches" ({ frames := 3, cells := 16, slots := 64, locals := 56 } : Room) (FW s ({ frames := 3, cells := 16, slots := 64, locals := 56 } : Room)) B) (hS : s.Since vm0 B) (h : Heap) (zh : n0 ≤ h.size) (CR : CHr Z [("com/example/intackt/intackt/vhost/ExchangeType", 138), ("com/example/intackt/intackt/vhost/ExchangeType", 140), ("java/lang/String", 7)] vmS h0 vm0 h) (odh : Old Z n0 h) (kc : Keep h0 h []) (bz : Addr) (kz : ClassId) (lv : List Bool) (hlv : lv.length = pn + 1) (Vz : Arv Z h bz kz .boolean (Int32.ofNat (pn + 1)) (lv.map bv) (.int 0)) (g_bz : n0 ≤ bz) (sz_bz : h0.size ≤ bz) (hFB : (outF hb eb pn r i lv).getD pn false = FB) (s6 s7 s8 : Slot) (hsl : (s6 = .unset ∧ s7 = .unset ∧ s8 = .unset) ∨ ∃ (a6 a7 : Addr) (x8 : Int32), s6 = .val (.ref a6) ∧ s7 = .val (.ref a7) ∧ s8 = .val (.int x8)) (f : Bool) (hf : LitF s vm0 Z h "com/example/intackt/intackt/vhost/ExchangeType" 138 [35] f) (g : Bool) (hg : LitF s vm0 Z h "com/example/intackt/intackt/vhost/ExchangeType" 140 [42] g) (k n : Nat) (hk : k + pot f 2 + pot g 2 ≤ 16 - 3 * r) (hn : n + pot f 8 + pot g 8 ≤ 64 - 12 * r),
    Go p l e ({ frames := 3, cells := 16, slots := 64, locals := 56 } : Room) (s.setVm vm0) m args below meth c n0 (fun v vm h => (v = some (.int (bi FB)) ∧ Keep h0 h []) ∧ CHr Z [("com/example/intackt/intackt/vhost/ExchangeType", 138), ("com/example/intackt/intackt/vhost/ExchangeType", 140), ("java/lang/String", 7)] vmS h0 vm h) (FW s ({ frames := 3, cells := 16, slots := 64, locals := 56 } : Room)) B h k n (mkF m 25 #[.val (.ref pa), .val (.ref ra), .val (.ref bz), .val (.ref ra), .val (.int (Int32.ofNat rn)), .val (.int (Int32.ofNat i)), s6, s7, s8] []) := by
  intro r
  induction r with
  | zero =>
    intro i hr vm0 B K hS h zh CR odh kc bz kz lv hlv Vz g_bz sz_bz hFB s6 s7 s8 hsl f hf g hg k n hk hn
    have hi : i = rn := by omega
    have Vpa := V_pa.keep kc nin0
    have Vra := V_ra.keep kc nin0
    refine Go.iload K d_prog_5_method_10_25 rfl (pc' := 27) rfl ?_
    refine Go.iload K d_prog_5_method_10_27 rfl (pc' := 29) rfl ?_
    refine Go.icmp K d_prog_5_method_10_29 (by decide) (pcT := 144) (pcF := 32) (by decide) rfl (fun h29 => ?_) (fun h29 => ?_)
    · replace h29 : ¬ (Int32.ofNat i) < (Int32.ofNat rn) := h29
      refine Go.aloadN K d_prog_5_method_10_144 rfl rfl (pc' := 145) rfl ?_
      refine Go.aloadN K d_prog_5_method_10_145 rfl rfl (pc' := 146) rfl ?_
      refine Go.arraylength K Vpa d_prog_5_method_10_146 (pc' := 147) rfl ?_
      refine Go.bzload K (v := (.int (bi (lv.getD pn false)))) Vz (own_in (by omega) (by omega)) (own_bat (by omega) (by omega)) d_prog_5_method_10_147 (pc' := 148) rfl ?_
      exact Go.retN K (by simp) (by show _ ≤ 16; omega) (by show _ ≤ 64; omega) d_prog_5_method_10_148 (own_end hEL K.cz CR ⟨by rw [own_nb]; exact congrArg (fun b => some (Value.int (bi b))) hFB, kc⟩)
    · replace h29 : ¬ (¬ (Int32.ofNat i) < (Int32.ofNat rn)) := h29
      exact absurd ((own_lt4 hrn (by omega)).mp (Decidable.not_not.mp h29)) (by omega)
  | succ r ih =>
    intro i hr vm0 B K hS h zh CR odh kc bz kz lv hlv Vz g_bz sz_bz hFB s6 s7 s8 hsl f hf g hg k n hk hn
    have hi : i < rn := by omega
    have Vpa := V_pa.keep kc nin0
    have Vra := V_ra.keep kc nin0
    rcases hsl with ⟨rfl, rfl, rfl⟩ | ⟨a6, a7, x8, rfl, rfl, rfl⟩
    · refine Go.iload K d_prog_5_method_10_25 rfl (pc' := 27) rfl ?_
      refine Go.iload K d_prog_5_method_10_27 rfl (pc' := 29) rfl ?_
      refine Go.icmp K d_prog_5_method_10_29 (by decide) (pcT := 144) (pcF := 32) (by decide) rfl (fun h29 => ?_) (fun h29 => ?_)
      · replace h29 : ¬ (Int32.ofNat i) < (Int32.ofNat rn) := h29
        exact absurd ((own_lt4 hrn (by omega)).mpr hi) h29
      · replace h29 : ¬ (¬ (Int32.ofNat i) < (Int32.ofNat rn)) := h29
        refine Go.aloadN K d_prog_5_method_10_32 rfl rfl (pc' := 33) rfl ?_
        refine Go.iload K d_prog_5_method_10_33 rfl (pc' := 35) rfl ?_
        refine Go.aaload K (v := (.ref (xr.getD i 0))) Vra (own_in (by omega) hi) (own_rat (by omega) (by omega)) d_prog_5_method_10_35 (pc' := 36) rfl ?_
        refine Go.astore K d_prog_5_method_10_36 rfl (Ls' := #[.val (.ref pa), .val (.ref ra), .val (.ref bz), .val (.ref ra), .val (.int (Int32.ofNat rn)), .val (.int (Int32.ofNat i)), .val (.ref (xr.getD i 0)), .unset, .unset]) rfl (pc' := 38) rfl ?_
        refine Go.aloadN K d_prog_5_method_10_38 rfl rfl (pc' := 39) rfl ?_
        refine Go.arraylength K Vpa d_prog_5_method_10_39 (pc' := 40) rfl ?_
        refine Go.iconst K (v := 1) d_prog_5_method_10_40 rfl (pc' := 41) rfl ?_
        refine Go.iadd K d_prog_5_method_10_41 (pc' := 42) rfl ?_
        rw [own_p1]
        refine Go.newP K (hw _ (List.mem_of_getElem? (i := 63) rfl)) (own_nn (by omega)) 4 (by rw [own_cl (by omega)]; omega) (by decide) (by show _ ≤ 16; have : pot true 2 = 0 := rfl; have : pot true 8 = 0 := rfl; omega) (by show _ ≤ 64; have : pot true 2 = 0 := rfl; have : pot true 8 = 0 := rfl; omega) d_prog_5_method_10_42 (pc' := 44) rfl ?_
        intro h782 nz kA_nz eq784 E783 V_nz
        have sz_nz := Nat.le_trans kc.1 (Nat.le_of_eq eq784.symm)
        have ne785 : bz ≠ nz := own_ne Vz.lt (Nat.le_of_eq eq784.symm)
        have ne786 : ra ≠ nz := own_ne Vra.lt (Nat.le_of_eq eq784.symm)
        have ne787 : pa ≠ nz := own_ne Vpa.lt (Nat.le_of_eq eq784.symm)
        have g_nz : n0 ≤ nz := Nat.le_trans zh (Nat.le_of_eq eq784.symm)
        have f793 := Vpa.ext E783
        have f794 := Vra.ext E783
        have f795 := Vz.ext E783
        have f796 := hf.ext E783
        have f797 := hg.ext E783
        have od798 := odh.ext E783
        have z799 := Nat.le_trans zh E783.1
        have cr800 := CR.trans (CHr.ext E783 CR.1)
        have kc801 := kc.ext E783
        have V802 : Arv Z h782 nz kA_nz .boolean (Int32.ofNat (pn + 1)) [] (.int (0 : Int32)) := V_nz.pad (pad_rep [] (.int (0 : Int32)) 0)
        have Vn0 := V_nz.pad (pad_rep [] (.int (0 : Int32)) (pn + 1))
        rw [own_rep] at Vn0
        refine Go.astore K d_prog_5_method_10_44 rfl (Ls' := #[.val (.ref pa), .val (.ref ra), .val (.ref bz), .val (.ref ra), .val (.int (Int32.ofNat rn)), .val (.int (Int32.ofNat i)), .val (.ref (xr.getD i 0)), .val (.ref nz), .unset]) rfl (pc' := 46) rfl ?_
        refine Go.iconst K (v := 0) d_prog_5_method_10_46 rfl (pc' := 47) rfl ?_
        refine Go.istore K d_prog_5_method_10_47 (Ls' := #[.val (.ref pa), .val (.ref ra), .val (.ref bz), .val (.ref ra), .val (.int (Int32.ofNat rn)), .val (.int (Int32.ofNat i)), .val (.ref (xr.getD i 0)), .val (.ref nz), .val (.int (0 : Int32))]) rfl (pc' := 49) rfl ?_
        refine loop_in hw wS hEL hwe h0 n0 zc S1 P1 pn hpn xp hxp pcs hpb pa ka V_pa hst hb hhb ra (xr.getD i 0) bz nz kz kA_nz (rcs i) (hrb i) (hsr i hi) lv hlv g_nz sz_nz ne785 (eb i) (heb i hi) _ FB (14 - 3 * r) (56 - 12 * r) (by omega) (by omega) (Int32.ofNat rn) (Int32.ofNat i) ?_ pn 0 (by omega) _ _ K hS _ z799 cr800 od798 kc801 f795 _ (by simp) Vn0 rfl f f796 g f797 _ _ (by omega) (by omega)
        intro vm1 B1 K hS hh zh1 CR1 odh1 kc1 Vz1 Vn1 f1 hf1 g1 hg1 k1 n1 hk1 hn1
        have hNl : (inF hb (eb i) lv pn 0 (List.replicate (pn + 1) false)).length = pn + 1 := by rw [inF_len, List.length_replicate]
        refine Go.aloadN K d_prog_5_method_10_129 rfl rfl (pc' := 130) rfl ?_
        refine Go.aload K d_prog_5_method_10_130 rfl rfl (pc' := 132) rfl ?_
        refine Go.callSX K hS (y := (⟨"com/example/intackt/intackt/vhost/ExchangeType", "passHashes", "([Ljava/lang/String;[Z)V"⟩ : MethodName)) (W := 0) (kc := 2) (nc := 8) (mvT K.cz (hw _ (List.mem_of_getElem? (i := 64) rfl))) (mvT K.cz (hw _ (List.mem_of_getElem? (i := 65) rfl))) (mvT K.cz (hw _ (List.mem_of_getElem? (i := 1) rfl))) (mvT K.cz (hw _ (List.mem_of_getElem? (i := 66) rfl))) (by decide) ((m_ph l Z a0 hw hh n0 zh1 wS hEL odh1 zc S1 P1 pn hpn xp hxp pcs hpb pa ka (V_pa.keep kc1 nin0) (fun i hi => (hst i hi).keep0 kc1) hb hhb nz kA_nz _ Vn1 g_nz hNl).pays (W := 0) K.cz (hw _ (List.mem_of_getElem? (i := 66) rfl)) (hw _ (List.mem_of_getElem? (i := 1) rfl)) (by decide) (by decide) hEL CR1.1) rfl (argsL := [(.ref pa), (.ref nz)]) (rest := []) (lenOf pd__28_5bLjava_2flang_2fString_3b_5bZ_29V rfl) rfl (Nat.le_of_ble_eq_true rfl) (by show _ ≤ 16; have : pot true 2 = 0 := rfl; have : pot true 8 = 0 := rfl; omega) (by show _ ≤ 64; have : pot true 2 = 0 := rfl; have : pot true 8 = 0 := rfl; omega) frOf d_prog_5_method_10_132 (pc' := 135) rfl ?_
        rintro v805 h803 Lc804 vm807 B808 ⟨⟨⟨rfl, Kq, V3⟩, -⟩, -⟩ hrh803 Wm806 hS K
        have cr809 := CR1.trans (hrh803)
        have f811 := LitF.keepB (hw _ (List.mem_of_getElem? (i := 14) rfl)) hf1 Kq Vn1
        have f812 := LitF.keepB (hw _ (List.mem_of_getElem? (i := 14) rfl)) hg1 Kq Vn1
        have od813 := odh1.keep Kq (allS g_nz all0)
        have z814 := Nat.le_trans zh1 Kq.1
        have kc815 := kc1.trans Kq (allS (Or.inr sz_nz) all0)
        have L816 := LitF.later f811 Wm806
        have L817 := LitF.later f812 Wm806
        show Go p l e _ _ m _ below meth c _ _ _ _ h803 _ _ (mkF m 135 #[.val (.ref pa), .val (.ref ra), .val (.ref bz), .val (.ref ra), .val (.int (Int32.ofNat rn)), .val (.int (Int32.ofNat i)), .val (.ref (xr.getD i 0)), .val (.ref nz), .val (.int (Int32.ofNat pn))] [])
        refine Go.aload K d_prog_5_method_10_135 rfl rfl (pc' := 137) rfl ?_
        refine Go.astoreN K d_prog_5_method_10_137 rfl (Ls' := #[.val (.ref pa), .val (.ref ra), .val (.ref nz), .val (.ref ra), .val (.int (Int32.ofNat rn)), .val (.int (Int32.ofNat i)), .val (.ref (xr.getD i 0)), .val (.ref nz), .val (.int (Int32.ofNat pn))]) rfl (pc' := 138) rfl ?_
        refine Go.iinc K d_prog_5_method_10_138 rfl (Ls' := #[.val (.ref pa), .val (.ref ra), .val (.ref nz), .val (.ref ra), .val (.int (Int32.ofNat rn)), .val (.int (Int32.ofNat (i + 1))), .val (.ref (xr.getD i 0)), .val (.ref nz), .val (.int (Int32.ofNat pn))]) (by rw [own_inc]; rfl) (pc' := 141) rfl ?_
        refine Go.goto K d_prog_5_method_10_141 (pc' := 25) (by decide) (by decide) ?_
        exact ih (i + 1) (by omega) _ _ K hS _ z814 cr809 od813 kc815 nz kA_nz _ (by rw [phF_len]; exact hNl) V3 g_nz sz_nz hFB _ _ _ (Or.inr ⟨_, _, _, rfl, rfl, rfl⟩) f1 L816 g1 L817 _ _ (by omega) (by omega)
    · refine Go.iload K d_prog_5_method_10_25 rfl (pc' := 27) rfl ?_
      refine Go.iload K d_prog_5_method_10_27 rfl (pc' := 29) rfl ?_
      refine Go.icmp K d_prog_5_method_10_29 (by decide) (pcT := 144) (pcF := 32) (by decide) rfl (fun h29 => ?_) (fun h29 => ?_)
      · replace h29 : ¬ (Int32.ofNat i) < (Int32.ofNat rn) := h29
        exact absurd ((own_lt4 hrn (by omega)).mpr hi) h29
      · replace h29 : ¬ (¬ (Int32.ofNat i) < (Int32.ofNat rn)) := h29
        refine Go.aloadN K d_prog_5_method_10_32 rfl rfl (pc' := 33) rfl ?_
        refine Go.iload K d_prog_5_method_10_33 rfl (pc' := 35) rfl ?_
        refine Go.aaload K (v := (.ref (xr.getD i 0))) Vra (own_in (by omega) hi) (own_rat (by omega) (by omega)) d_prog_5_method_10_35 (pc' := 36) rfl ?_
        refine Go.astore K d_prog_5_method_10_36 rfl (Ls' := #[.val (.ref pa), .val (.ref ra), .val (.ref bz), .val (.ref ra), .val (.int (Int32.ofNat rn)), .val (.int (Int32.ofNat i)), .val (.ref (xr.getD i 0)), .val (.ref a7), .val (.int x8)]) rfl (pc' := 38) rfl ?_
        refine Go.aloadN K d_prog_5_method_10_38 rfl rfl (pc' := 39) rfl ?_
        refine Go.arraylength K Vpa d_prog_5_method_10_39 (pc' := 40) rfl ?_
        refine Go.iconst K (v := 1) d_prog_5_method_10_40 rfl (pc' := 41) rfl ?_
        refine Go.iadd K d_prog_5_method_10_41 (pc' := 42) rfl ?_
        rw [own_p1]
        refine Go.newP K (hw _ (List.mem_of_getElem? (i := 63) rfl)) (own_nn (by omega)) 4 (by rw [own_cl (by omega)]; omega) (by decide) (by show _ ≤ 16; have : pot true 2 = 0 := rfl; have : pot true 8 = 0 := rfl; omega) (by show _ ≤ 64; have : pot true 2 = 0 := rfl; have : pot true 8 = 0 := rfl; omega) d_prog_5_method_10_42 (pc' := 44) rfl ?_
        intro h818 nz kA_nz eq820 E819 V_nz
        have sz_nz := Nat.le_trans kc.1 (Nat.le_of_eq eq820.symm)
        have ne821 : bz ≠ nz := own_ne Vz.lt (Nat.le_of_eq eq820.symm)
        have ne822 : ra ≠ nz := own_ne Vra.lt (Nat.le_of_eq eq820.symm)
        have ne823 : pa ≠ nz := own_ne Vpa.lt (Nat.le_of_eq eq820.symm)
        have g_nz : n0 ≤ nz := Nat.le_trans zh (Nat.le_of_eq eq820.symm)
        have f829 := Vpa.ext E819
        have f830 := Vra.ext E819
        have f831 := Vz.ext E819
        have f832 := hf.ext E819
        have f833 := hg.ext E819
        have od834 := odh.ext E819
        have z835 := Nat.le_trans zh E819.1
        have cr836 := CR.trans (CHr.ext E819 CR.1)
        have kc837 := kc.ext E819
        have V838 : Arv Z h818 nz kA_nz .boolean (Int32.ofNat (pn + 1)) [] (.int (0 : Int32)) := V_nz.pad (pad_rep [] (.int (0 : Int32)) 0)
        have Vn0 := V_nz.pad (pad_rep [] (.int (0 : Int32)) (pn + 1))
        rw [own_rep] at Vn0
        refine Go.astore K d_prog_5_method_10_44 rfl (Ls' := #[.val (.ref pa), .val (.ref ra), .val (.ref bz), .val (.ref ra), .val (.int (Int32.ofNat rn)), .val (.int (Int32.ofNat i)), .val (.ref (xr.getD i 0)), .val (.ref nz), .val (.int x8)]) rfl (pc' := 46) rfl ?_
        refine Go.iconst K (v := 0) d_prog_5_method_10_46 rfl (pc' := 47) rfl ?_
        refine Go.istore K d_prog_5_method_10_47 (Ls' := #[.val (.ref pa), .val (.ref ra), .val (.ref bz), .val (.ref ra), .val (.int (Int32.ofNat rn)), .val (.int (Int32.ofNat i)), .val (.ref (xr.getD i 0)), .val (.ref nz), .val (.int (0 : Int32))]) rfl (pc' := 49) rfl ?_
        refine loop_in hw wS hEL hwe h0 n0 zc S1 P1 pn hpn xp hxp pcs hpb pa ka V_pa hst hb hhb ra (xr.getD i 0) bz nz kz kA_nz (rcs i) (hrb i) (hsr i hi) lv hlv g_nz sz_nz ne821 (eb i) (heb i hi) _ FB (14 - 3 * r) (56 - 12 * r) (by omega) (by omega) (Int32.ofNat rn) (Int32.ofNat i) ?_ pn 0 (by omega) _ _ K hS _ z835 cr836 od834 kc837 f831 _ (by simp) Vn0 rfl f f832 g f833 _ _ (by omega) (by omega)
        intro vm1 B1 K hS hh zh1 CR1 odh1 kc1 Vz1 Vn1 f1 hf1 g1 hg1 k1 n1 hk1 hn1
        have hNl : (inF hb (eb i) lv pn 0 (List.replicate (pn + 1) false)).length = pn + 1 := by rw [inF_len, List.length_replicate]
        refine Go.aloadN K d_prog_5_method_10_129 rfl rfl (pc' := 130) rfl ?_
        refine Go.aload K d_prog_5_method_10_130 rfl rfl (pc' := 132) rfl ?_
        refine Go.callSX K hS (y := (⟨"com/example/intackt/intackt/vhost/ExchangeType", "passHashes", "([Ljava/lang/String;[Z)V"⟩ : MethodName)) (W := 0) (kc := 2) (nc := 8) (mvT K.cz (hw _ (List.mem_of_getElem? (i := 64) rfl))) (mvT K.cz (hw _ (List.mem_of_getElem? (i := 65) rfl))) (mvT K.cz (hw _ (List.mem_of_getElem? (i := 1) rfl))) (mvT K.cz (hw _ (List.mem_of_getElem? (i := 66) rfl))) (by decide) ((m_ph l Z a0 hw hh n0 zh1 wS hEL odh1 zc S1 P1 pn hpn xp hxp pcs hpb pa ka (V_pa.keep kc1 nin0) (fun i hi => (hst i hi).keep0 kc1) hb hhb nz kA_nz _ Vn1 g_nz hNl).pays (W := 0) K.cz (hw _ (List.mem_of_getElem? (i := 66) rfl)) (hw _ (List.mem_of_getElem? (i := 1) rfl)) (by decide) (by decide) hEL CR1.1) rfl (argsL := [(.ref pa), (.ref nz)]) (rest := []) (lenOf pd__28_5bLjava_2flang_2fString_3b_5bZ_29V rfl) rfl (Nat.le_of_ble_eq_true rfl) (by show _ ≤ 16; have : pot true 2 = 0 := rfl; have : pot true 8 = 0 := rfl; omega) (by show _ ≤ 64; have : pot true 2 = 0 := rfl; have : pot true 8 = 0 := rfl; omega) frOf d_prog_5_method_10_132 (pc' := 135) rfl ?_
        rintro v841 h839 Lc840 vm843 B844 ⟨⟨⟨rfl, Kq, V3⟩, -⟩, -⟩ hrh839 Wm842 hS K
        have cr845 := CR1.trans (hrh839)
        have f847 := LitF.keepB (hw _ (List.mem_of_getElem? (i := 14) rfl)) hf1 Kq Vn1
        have f848 := LitF.keepB (hw _ (List.mem_of_getElem? (i := 14) rfl)) hg1 Kq Vn1
        have od849 := odh1.keep Kq (allS g_nz all0)
        have z850 := Nat.le_trans zh1 Kq.1
        have kc851 := kc1.trans Kq (allS (Or.inr sz_nz) all0)
        have L852 := LitF.later f847 Wm842
        have L853 := LitF.later f848 Wm842
        show Go p l e _ _ m _ below meth c _ _ _ _ h839 _ _ (mkF m 135 #[.val (.ref pa), .val (.ref ra), .val (.ref bz), .val (.ref ra), .val (.int (Int32.ofNat rn)), .val (.int (Int32.ofNat i)), .val (.ref (xr.getD i 0)), .val (.ref nz), .val (.int (Int32.ofNat pn))] [])
        refine Go.aload K d_prog_5_method_10_135 rfl rfl (pc' := 137) rfl ?_
        refine Go.astoreN K d_prog_5_method_10_137 rfl (Ls' := #[.val (.ref pa), .val (.ref ra), .val (.ref nz), .val (.ref ra), .val (.int (Int32.ofNat rn)), .val (.int (Int32.ofNat i)), .val (.ref (xr.getD i 0)), .val (.ref nz), .val (.int (Int32.ofNat pn))]) rfl (pc' := 138) rfl ?_
        refine Go.iinc K d_prog_5_method_10_138 rfl (Ls' := #[.val (.ref pa), .val (.ref ra), .val (.ref nz), .val (.ref ra), .val (.int (Int32.ofNat rn)), .val (.int (Int32.ofNat (i + 1))), .val (.ref (xr.getD i 0)), .val (.ref nz), .val (.int (Int32.ofNat pn))]) (by rw [own_inc]; rfl) (pc' := 141) rfl ?_
        refine Go.goto K d_prog_5_method_10_141 (pc' := 25) (by decide) (by decide) ?_
        exact ih (i + 1) (by omega) _ _ K hS _ z850 cr845 od849 kc851 nz kA_nz _ (by rw [phF_len]; exact hNl) V3 g_nz sz_nz hFB _ _ _ (Or.inr ⟨_, _, _, rfl, rfl, rfl⟩) f1 L852 g1 L853 _ _ (by omega) (by omega)
theorem ef_tm (m : MethodId) (pa : Addr) (ra : Addr) : entryFrame m #[(.ref pa), (.ref ra)] 9 = mkF m 0 #[.val (.ref pa), .val (.ref ra), .unset, .unset, .unset, .unset, .unset, .unset, .unset] [] := by first | (simp [entryFrame, mkF, argsToLocals, Value.category]; done) | rfl
theorem d_prog_5_method_10_0 : decode prog_5_method_10_code 0 = .ok (.aload_n 0, 1) := by decide +kernel
theorem d_prog_5_method_10_1 : decode prog_5_method_10_code 1 = .ok (.arraylength, 1) := by decide +kernel
theorem d_prog_5_method_10_2 : decode prog_5_method_10_code 2 = .ok (.iconst 1, 1) := by decide +kernel
theorem d_prog_5_method_10_3 : decode prog_5_method_10_code 3 = .ok (.iadd, 1) := by decide +kernel
theorem d_prog_5_method_10_4 : decode prog_5_method_10_code 4 = .ok (.newarray .boolean, 2) := by decide +kernel
theorem d_prog_5_method_10_6 : decode prog_5_method_10_code 6 = .ok (.astore_n 2, 1) := by decide +kernel
theorem d_prog_5_method_10_7 : decode prog_5_method_10_code 7 = .ok (.aload_n 2, 1) := by decide +kernel
theorem d_prog_5_method_10_8 : decode prog_5_method_10_code 8 = .ok (.iconst 0, 1) := by decide +kernel
theorem d_prog_5_method_10_9 : decode prog_5_method_10_code 9 = .ok (.iconst 1, 1) := by decide +kernel
theorem d_prog_5_method_10_10 : decode prog_5_method_10_code 10 = .ok (.bastore, 1) := by decide +kernel
theorem d_prog_5_method_10_11 : decode prog_5_method_10_code 11 = .ok (.aload_n 0, 1) := by decide +kernel
theorem d_prog_5_method_10_12 : decode prog_5_method_10_code 12 = .ok (.aload_n 2, 1) := by decide +kernel
theorem d_prog_5_method_10_13 : decode prog_5_method_10_code 13 = .ok (.invokestatic 134, 3) := by decide +kernel
theorem d_prog_5_method_10_16 : decode prog_5_method_10_code 16 = .ok (.aload_n 1, 1) := by decide +kernel
theorem d_prog_5_method_10_17 : decode prog_5_method_10_code 17 = .ok (.astore_n 3, 1) := by decide +kernel
theorem d_prog_5_method_10_18 : decode prog_5_method_10_code 18 = .ok (.aload_n 3, 1) := by decide +kernel
theorem d_prog_5_method_10_19 : decode prog_5_method_10_code 19 = .ok (.arraylength, 1) := by decide +kernel
theorem d_prog_5_method_10_20 : decode prog_5_method_10_code 20 = .ok (.istore 4, 2) := by decide +kernel
theorem d_prog_5_method_10_22 : decode prog_5_method_10_code 22 = .ok (.iconst 0, 1) := by decide +kernel
theorem d_prog_5_method_10_23 : decode prog_5_method_10_code 23 = .ok (.istore 5, 2) := by decide +kernel
set_option maxRecDepth 65536 in
set_option maxHeartbeats 40000000 in
theorem m_tm (l : Launch) (Z : State) (a0 : Array Value) (hw : ∀ d ∈ tables_1, d.before a0 Z = true) (h0 : Heap) (n0 : Nat) (Z0 : n0 ≤ h0.size) (wS : ∀ a ∈ Bundle.stringAtoms, a.before a0 Z = true) (hEL : EW Z a0 [("com/example/intackt/intackt/vhost/ExchangeType", 138), ("com/example/intackt/intackt/vhost/ExchangeType", 140), ("java/lang/String", 7)]) (od : Old Z n0 h0) (zc : Int32) (S1 : Sta Z Z.heap "java/lang/String" "COMPACT_STRINGS" "Z" (.int zc)) (P1 : ¬ (zc = (0 : Int32))) (pn : Nat) (hpn : pn ≤ 3) (xp : List Addr) (hxp : xp.length = pn) (pcs : Nat → List Int32) (hpb : ∀ i, (pcs i).length ≤ 2 ∧ ∀ c ∈ pcs i, ¬ c < 0 ∧ ¬ (255 : Int32) < c) (pa : Addr) (ka : ClassId) (V_pa : Arv Z h0 pa ka (.object "java/lang/String") (Int32.ofNat pn) (xp.map Value.ref) .null) (hst : ∀ i, i < pn → Str Z h0 (xp.getD i 0) (pcs i)) (hb : Nat → Bool) (hhb : ∀ i, i < pn → hb i = decide (pcs i = [35])) (ra : Addr) (kr : ClassId) (rn : Nat) (hrn : rn ≤ 3) (xr : List Addr) (hxr : xr.length = rn) (rcs : Nat → List Int32) (hrb : ∀ i, (rcs i).length ≤ 2 ∧ ∀ c ∈ rcs i, ¬ c < 0 ∧ ¬ (255 : Int32) < c) (V_ra : Arv Z h0 ra kr (.object "java/lang/String") (Int32.ofNat rn) (xr.map Value.ref) .null) (hsr : ∀ i, i < rn → Str Z h0 (xr.getD i 0) (rcs i)) (eb : Nat → Nat → Bool) (heb : ∀ j, j < rn → ∀ i, i < pn → eb j i = (decide (pcs i = [42]) || decide (pcs i = rcs j))) (FB : Bool) (hFB : (outF hb eb pn rn 0 (phF hb pn 0 ((List.replicate (pn + 1) false).set 0 true))).getD pn false = FB) :
    MetW l Z [] [("com/example/intackt/intackt/vhost/ExchangeType", 138), ("com/example/intackt/intackt/vhost/ExchangeType", 140), ("java/lang/String", 7)] (⟨"com/example/intackt/intackt/vhost/ExchangeType", "topicMatches", "([Ljava/lang/String;[Ljava/lang/String;)Z"⟩ : MethodName) prog_5_method_10_code 9 (some .boolean) ({ frames := 3, cells := 16, slots := 64, locals := 56 } : Room) #[(.ref pa), (.ref ra)] h0 n0 (fun v h => v = some (.int (bi FB)) ∧ Keep h0 h []) := by
  refine MetW.of (plainFor_of_name pn_com_example_intackt_intackt_vhost_ExchangeType) ?_
  intro p e s m below meth c vm0 B hS HC K
  have CR := CHr.refl HC
  have hwe : ∀ d ∈ StrChars.Road.wordsEq, d.before a0 Z = true := fun d hd => hw d ((by decide +kernel : ∀ d ∈ StrChars.Road.wordsEq, d ∈ tables_1) d hd)
  refine Go.cast (ef_tm m pa ra) ?_
  have kc0 := Keep.refl h0 []
  refine Go.aloadN K d_prog_5_method_10_0 rfl rfl (pc' := 1) rfl ?_
  refine Go.arraylength K V_pa d_prog_5_method_10_1 (pc' := 2) rfl ?_
  refine Go.iconst K (v := 1) d_prog_5_method_10_2 rfl (pc' := 3) rfl ?_
  refine Go.iadd K d_prog_5_method_10_3 (pc' := 4) rfl ?_
  rw [own_p1]
  refine Go.newP K (hw _ (List.mem_of_getElem? (i := 63) rfl)) (own_nn (by omega)) 4 (by rw [own_cl (by omega)]; omega) (by decide) (by decide) (by decide) d_prog_5_method_10_4 (pc' := 6) rfl ?_
  intro h854 bz kA_bz eq856 E855 V_bz
  have sz_bz := Nat.le_trans kc0.1 (Nat.le_of_eq eq856.symm)
  have ne857 : ra ≠ bz := own_ne V_ra.lt (Nat.le_of_eq eq856.symm)
  have ne858 : pa ≠ bz := own_ne V_pa.lt (Nat.le_of_eq eq856.symm)
  have g_bz : n0 ≤ bz := Nat.le_trans Z0 (Nat.le_of_eq eq856.symm)
  have f861 := V_pa.ext E855
  have f862 := V_ra.ext E855
  have od863 := od.ext E855
  have z864 := Nat.le_trans Z0 E855.1
  have cr865 := CR.trans (CHr.ext E855 CR.1)
  have kc866 := kc0.ext E855
  have V867 : Arv Z h854 bz kA_bz .boolean (Int32.ofNat (pn + 1)) [] (.int (0 : Int32)) := V_bz.pad (pad_rep [] (.int (0 : Int32)) 0)
  have Vb0 := V_bz.pad (pad_rep [] (.int (0 : Int32)) (pn + 1))
  rw [own_rep] at Vb0
  refine Go.astoreN K d_prog_5_method_10_6 rfl (Ls' := #[.val (.ref pa), .val (.ref ra), .val (.ref bz), .unset, .unset, .unset, .unset, .unset, .unset]) rfl (pc' := 7) rfl ?_
  refine Go.aloadN K d_prog_5_method_10_7 rfl rfl (pc' := 8) rfl ?_
  refine Go.iconst K (v := 0) d_prog_5_method_10_8 rfl (pc' := 9) rfl ?_
  refine Go.iconst K (v := 1) d_prog_5_method_10_9 rfl (pc' := 10) rfl ?_
  refine Go.bzstore K Vb0 0 rfl (by simp) (own_in (i := 0) (by omega) (by omega)) g_bz d_prog_5_method_10_10 (pc' := 11) rfl ?_
  intro h868 K869 V2
  have cr870 := cr865.trans (CHr.keep K869 (sfS (Safe.arv K.cz.alike Vb0 (by decide)) sf0) cr865.1)
  have f871 := f861.keep K869 (ninS ne858 nin0)
  have f872 := f862.keep K869 (ninS ne857 nin0)
  have od874 := od863.keep K869 (allS g_bz all0)
  have z875 := Nat.le_trans z864 K869.1
  have kc876 := kc866.trans K869 (allS (Or.inr sz_bz) all0)
  rw [own_mset] at V2
  refine Go.aloadN K d_prog_5_method_10_11 rfl rfl (pc' := 12) rfl ?_
  refine Go.aloadN K d_prog_5_method_10_12 rfl rfl (pc' := 13) rfl ?_
  refine Go.callSW K hS (y := (⟨"com/example/intackt/intackt/vhost/ExchangeType", "passHashes", "([Ljava/lang/String;[Z)V"⟩ : MethodName)) (W := 0) (kc := 2) (nc := 8) (mvT K.cz (hw _ (List.mem_of_getElem? (i := 64) rfl))) (mvT K.cz (hw _ (List.mem_of_getElem? (i := 65) rfl))) (mvT K.cz (hw _ (List.mem_of_getElem? (i := 1) rfl))) (mvT K.cz (hw _ (List.mem_of_getElem? (i := 66) rfl))) (by decide) ((m_ph l Z a0 hw h868 n0 z875 wS hEL od874 zc S1 P1 pn hpn xp hxp pcs hpb pa ka f871 (fun i hi => (hst i hi).keep0 kc876) hb hhb bz kA_bz _ V2 g_bz (by simp)).pays (W := 0) K.cz (hw _ (List.mem_of_getElem? (i := 66) rfl)) (hw _ (List.mem_of_getElem? (i := 1) rfl)) (by decide) (by decide) hEL cr870.1) rfl (argsL := [(.ref pa), (.ref bz)]) (rest := []) (lenOf pd__28_5bLjava_2flang_2fString_3b_5bZ_29V rfl) rfl (Nat.le_of_ble_eq_true rfl) (by decide) (by decide) frOf d_prog_5_method_10_13 (pc' := 16) rfl ?_
  rintro v879 h877 Lc878 vm880 B881 ⟨⟨⟨rfl, Kq, V3⟩, -⟩, -⟩ hrh877 hS K
  have cr882 := cr870.trans (hrh877)
  have f883 := f871.keep Kq (ninS ne858 nin0)
  have f884 := f872.keep Kq (ninS ne857 nin0)
  have od886 := od874.keep Kq (allS g_bz all0)
  have z887 := Nat.le_trans z875 Kq.1
  have kc888 := kc876.trans Kq (allS (Or.inr sz_bz) all0)
  show Go p l e _ _ m _ below meth c _ _ _ _ h877 _ _ (mkF m 16 #[.val (.ref pa), .val (.ref ra), .val (.ref bz), .unset, .unset, .unset, .unset, .unset, .unset] [])
  refine Go.aloadN K d_prog_5_method_10_16 rfl rfl (pc' := 17) rfl ?_
  refine Go.astoreN K d_prog_5_method_10_17 rfl (Ls' := #[.val (.ref pa), .val (.ref ra), .val (.ref bz), .val (.ref ra), .unset, .unset, .unset, .unset, .unset]) rfl (pc' := 18) rfl ?_
  refine Go.aloadN K d_prog_5_method_10_18 rfl rfl (pc' := 19) rfl ?_
  refine Go.arraylength K f884 d_prog_5_method_10_19 (pc' := 20) rfl ?_
  refine Go.istore K d_prog_5_method_10_20 (Ls' := #[.val (.ref pa), .val (.ref ra), .val (.ref bz), .val (.ref ra), .val (.int (Int32.ofNat rn)), .unset, .unset, .unset, .unset]) rfl (pc' := 22) rfl ?_
  refine Go.iconst K (v := 0) d_prog_5_method_10_22 rfl (pc' := 23) rfl ?_
  refine Go.istore K d_prog_5_method_10_23 (Ls' := #[.val (.ref pa), .val (.ref ra), .val (.ref bz), .val (.ref ra), .val (.int (Int32.ofNat rn)), .val (.int (0 : Int32)), .unset, .unset, .unset]) rfl (pc' := 25) rfl ?_
  exact loop_out hw wS hEL hwe h0 n0 zc S1 P1 pn hpn xp hxp pcs hpb pa ka V_pa hst hb hhb ra kr rn hrn xr hxr rcs hrb V_ra hsr eb heb FB rn 0 (by omega) _ _ K hS _ z887 cr882 od886 kc888 bz kA_bz _ (by rw [phF_len]; simp) V3 g_bz sz_bz hFB _ _ _ (Or.inl ⟨rfl, rfl, rfl⟩) false (fun q => nomatch q) false (fun q => nomatch q) _ _ (by have : pot false 2 = 2 := rfl; omega) (by have : pot false 8 = 8 := rfl; omega)
def M1B (h0 : Bool) (e0 : Nat → Bool) (n s : Nat) : Bool := h0 || (decide (n = s + 1) && e0 s)
def M2B (h0 h1 : Bool) (e0 e1 : Nat → Bool) (n s : Nat) : Bool := bif h0 then M1B h1 e1 n s || (decide (s + 1 ≤ n) && M1B h1 e1 n (s + 1)) || (decide (s + 2 ≤ n) && M1B h1 e1 n (s + 2)) || (decide (s + 3 ≤ n) && M1B h1 e1 n (s + 3)) else decide (s < n) && e0 s && M1B h1 e1 n (s + 1)
def M3B (h0 h1 h2 : Bool) (e0 e1 e2 : Nat → Bool) (n s : Nat) : Bool := bif h0 then M2B h1 h2 e1 e2 n s || (decide (s + 1 ≤ n) && M2B h1 h2 e1 e2 n (s + 1)) || (decide (s + 2 ≤ n) && M2B h1 h2 e1 e2 n (s + 2)) || (decide (s + 3 ≤ n) && M2B h1 h2 e1 e2 n (s + 3)) else decide (s < n) && e0 s && M2B h1 h2 e1 e2 n (s + 1)
theorem M1_eq (q : Int32) (rl : List Int32) (n s : Nat) : M1 q rl n s = M1B (decide (q = 0)) (fun s => sg q (rl.getD s 0)) n s := rfl
theorem M2_eq (q0 q1 : Int32) (rl : List Int32) (n s : Nat) : M2 q0 q1 rl n s = M2B (decide (q0 = 0)) (decide (q1 = 0)) (fun s => sg q0 (rl.getD s 0)) (fun s => sg q1 (rl.getD s 0)) n s := by
  by_cases h : q0 = 0
  · simp only [M2, M2B, M1_eq, if_pos h, decide_eq_true h, cond_true]
  · simp only [M2, M2B, M1_eq, if_neg h, decide_eq_false h, cond_false]
theorem M3_eq (q0 q1 q2 : Int32) (rl : List Int32) (n s : Nat) : M3 q0 q1 q2 rl n s = M3B (decide (q0 = 0)) (decide (q1 = 0)) (decide (q2 = 0)) (fun s => sg q0 (rl.getD s 0)) (fun s => sg q1 (rl.getD s 0)) (fun s => sg q2 (rl.getD s 0)) n s := by
  by_cases h : q0 = 0
  · simp only [M3, M3B, M2_eq, if_pos h, decide_eq_true h, cond_true]
  · simp only [M3, M3B, M2_eq, if_neg h, decide_eq_false h, cond_false]
def at3 (a b c : Bool) (i : Nat) : Bool := match i with | 0 => a | 1 => b | 2 => c | _ => false
def at9 (a b c d e f g h k : Bool) (j i : Nat) : Bool := match j with | 0 => at3 a b c i | 1 => at3 d e f i | 2 => at3 g h k i | _ => false
def topic (hb : Nat → Bool) (eb : Nat → Nat → Bool) (pn rn : Nat) : Bool := (outF hb eb pn rn 0 (phF hb pn 0 ((List.replicate (pn + 1) false).set 0 true))).getD pn false
def MX (hb : Nat → Bool) (eb : Nat → Nat → Bool) (pn rn : Nat) : Bool := match pn with
  | 0 => decide (rn = 0)
  | 1 => M1B (hb 0) (fun s => eb s 0) rn 0
  | 2 => M2B (hb 0) (hb 1) (fun s => eb s 0) (fun s => eb s 1) rn 0
  | _ => M3B (hb 0) (hb 1) (hb 2) (fun s => eb s 0) (fun s => eb s 1) (fun s => eb s 2) rn 0
theorem law0 : ∀ rn : Fin 4, topic (at3 false false false) (at9 false false false false false false false false false) 0 rn.val = MX (at3 false false false) (at9 false false false false false false false false false) 0 rn.val := by decide +kernel
theorem law1 : ∀ (rn : Fin 4) (h0 a d g : Bool), topic (at3 h0 false false) (at9 a false false d false false g false false) 1 rn.val = MX (at3 h0 false false) (at9 a false false d false false g false false) 1 rn.val := by decide +kernel
theorem law2 : ∀ (rn : Fin 4) (h0 h1 a b d e g h : Bool), topic (at3 h0 h1 false) (at9 a b false d e false g h false) 2 rn.val = MX (at3 h0 h1 false) (at9 a b false d e false g h false) 2 rn.val := by decide +kernel
theorem law3 : ∀ (rn : Fin 4) (h0 h1 h2 a b c d e f g h k : Bool), topic (at3 h0 h1 h2) (at9 a b c d e f g h k) 3 rn.val = MX (at3 h0 h1 h2) (at9 a b c d e f g h k) 3 rn.val := by decide +kernel
theorem M1B_c {h0 : Bool} {e0 f0 : Nat → Bool} {n s : Nat} (H0 : ∀ t, t < n → e0 t = f0 t) : M1B h0 e0 n s = M1B h0 f0 n s := by
  unfold M1B
  by_cases q : n = s + 1
  · rw [H0 s (by omega)]
  · simp [q]
theorem M2B_c {h0 h1 : Bool} {e0 f0 e1 f1 : Nat → Bool} {n s : Nat} (H0 : ∀ t, t < n → e0 t = f0 t) (H1 : ∀ t, t < n → e1 t = f1 t) : M2B h0 h1 e0 e1 n s = M2B h0 h1 f0 f1 n s := by
  unfold M2B
  rw [M1B_c (s := s) H1, M1B_c (s := s + 1) H1, M1B_c (s := s + 2) H1, M1B_c (s := s + 3) H1]
  by_cases q : s < n
  · rw [H0 s q]
  · simp [q]
theorem M3B_c {h0 h1 h2 : Bool} {e0 f0 e1 f1 e2 f2 : Nat → Bool} {n s : Nat} (H0 : ∀ t, t < n → e0 t = f0 t) (H1 : ∀ t, t < n → e1 t = f1 t) (H2 : ∀ t, t < n → e2 t = f2 t) : M3B h0 h1 h2 e0 e1 e2 n s = M3B h0 h1 h2 f0 f1 f2 n s := by
  unfold M3B
  rw [M2B_c (s := s) H1 H2, M2B_c (s := s + 1) H1 H2, M2B_c (s := s + 2) H1 H2, M2B_c (s := s + 3) H1 H2]
  by_cases q : s < n
  · rw [H0 s q]
  · simp [q]
theorem own_h {x : Int32} (h : ¬ x < 0 ∧ x < 8) : decide (x = 0) = decide (Wd x = [35]) := by
  rcases own_8 h with rfl | rfl | rfl | rfl | rfl | rfl | rfl | rfl <;> decide
theorem own_e {x y : Int32} (h : ¬ x < 0 ∧ x < 8) (k : ¬ y < 0 ∧ y < 8) : sg x y = (decide (Wd x = [42]) || decide (Wd x = Wd y)) := by
  rcases own_8 h with rfl | rfl | rfl | rfl | rfl | rfl | rfl | rfl <;> rcases own_8 k with rfl | rfl | rfl | rfl | rfl | rfl | rfl | rfl <;> decide
theorem own_and3N (x : Int32) : ∃ n : Nat, n ≤ 3 ∧ (x &&& 3) = Int32.ofNat n := by
  have q := c_and x 3 (by decide)
  have e3 : (3 : Int32).toInt = 3 := by decide
  obtain ⟨i, hi⟩ := own_small (n := 4) q.1 (by omega)
  exact ⟨i.val, by omega, hi⟩
theorem own_and7 (x : Int32) : ¬ (x &&& 7) < 0 ∧ (x &&& 7) < 8 := by
  have q := c_and x 7 (by decide)
  have e0 : (0 : Int32).toInt = 0 := by decide
  have e7 : (7 : Int32).toInt = 7 := by decide
  have e8 : (8 : Int32).toInt = 8 := by decide
  rw [Int32.lt_iff_toInt_lt, Int32.lt_iff_toInt_lt]
  omega
theorem own_wdB {c0 c1 c2 : Int32} (h0 : ¬ c0 < 0 ∧ c0 < 8) (h1 : ¬ c1 < 0 ∧ c1 < 8) (h2 : ¬ c2 < 0 ∧ c2 < 8) (i : Nat) : (Wd ([c0, c1, c2].getD i 0)).length ≤ 2 ∧ ∀ c ∈ Wd ([c0, c1, c2].getD i 0), ¬ c < 0 ∧ ¬ (255 : Int32) < c :=
  match i with
  | 0 => own_wdb h0
  | 1 => own_wdb h1
  | 2 => own_wdb h2
  | _ + 3 => own_wdb (x := 0) (by decide)
theorem ef_or (m : MethodId) (ty : Addr) : entryFrame m #[(.ref ty)] 1 = mkF m 0 #[.val (.ref ty)] [] := by first | (simp [entryFrame, mkF, argsToLocals, Value.category]; done) | rfl
theorem d_jdk_37_method_2_0 : decode jdk_37_method_2_code 0 = .ok (.aload_n 0, 1) := by decide +kernel
theorem d_jdk_37_method_2_1 : decode jdk_37_method_2_code 1 = .ok (.getfield 7, 3) := by decide +kernel
theorem d_jdk_37_method_2_4 : decode jdk_37_method_2_code 4 = .ok (.ireturn, 1) := by decide +kernel
theorem pn_java_lang_Enum : plainName "java/lang/Enum" = true := by first | (simp [plainName, overriddenIn]; done) | decide +kernel
set_option maxRecDepth 65536 in
set_option maxHeartbeats 40000000 in
theorem m_or1 (l : Launch) (Z : State) (a0 : Array Value) (hw : ∀ d ∈ tables_1, d.before a0 Z = true) (h0 : Heap) (n0 : Nat) (Z0 : n0 ≤ h0.size) (ty : Addr) (E_ty : Exa Z h0 ty "com/example/intackt/intackt/vhost/ExchangeType") (F_or : Fld Z h0 ty "java/lang/Enum" "ordinal" "I" (.int (1 : Int32))) :
    Met l Z [] (⟨"java/lang/Enum", "ordinal", "()I"⟩ : MethodName) jdk_37_method_2_code 1 (some .int) ({ frames := 0, cells := 0, slots := 0, locals := 0 } : Room) #[(.ref ty)] h0 n0 (fun v h => v = some (.int (1 : Int32)) ∧ h0 = h) := by
  refine Met.of (plainFor_of_name pn_java_lang_Enum) ?_
  intro p e s m below meth c F K
  refine Go.cast (ef_or m ty) ?_
  refine Go.aloadN K d_jdk_37_method_2_0 rfl rfl (pc' := 1) rfl ?_
  refine Go.getF K (host := "") (Or.inl (hw _ (List.mem_of_getElem? (i := 54) rfl))) Via.refl F_or d_jdk_37_method_2_1 (pc' := 4) rfl ?_
  exact Go.retI K (by decide) (by decide) d_jdk_37_method_2_4 (fun _ _ _ _ => ⟨rfl, rfl⟩)
theorem d_ts : decode prog_5_method_7_code 4 = .ok (.tableswitch 42 1 3 #[37, 28, 37], 28) := by decide +kernel
theorem ef_km (m : MethodId) (ty : Addr) (pa : Addr) (ra : Addr) : entryFrame m #[(.ref ty), (.ref pa), (.ref ra)] 4 = mkF m 0 #[.val (.ref ty), .val (.ref pa), .val (.ref ra), .unset] [] := by first | (simp [entryFrame, mkF, argsToLocals, Value.category]; done) | rfl
theorem d_prog_5_method_7_0 : decode prog_5_method_7_code 0 = .ok (.aload_n 0, 1) := by decide +kernel
theorem pd__28_29I : parseMethodDescriptor "()I" = some ⟨[], some .int⟩ := by decide +kernel
theorem d_prog_5_method_7_1 : decode prog_5_method_7_code 1 = .ok (.invokevirtual 108, 3) := by decide +kernel
theorem d_prog_5_method_7_41 : decode prog_5_method_7_code 41 = .ok (.iconst 1, 1) := by decide +kernel
theorem d_prog_5_method_7_42 : decode prog_5_method_7_code 42 = .ok (.istore_n 3, 1) := by decide +kernel
theorem d_prog_5_method_7_43 : decode prog_5_method_7_code 43 = .ok (.goto 20, 3) := by decide +kernel
theorem d_prog_5_method_7_63 : decode prog_5_method_7_code 63 = .ok (.iload_n 3, 1) := by decide +kernel
theorem d_prog_5_method_7_64 : decode prog_5_method_7_code 64 = .ok (.ireturn, 1) := by decide +kernel
set_option maxRecDepth 65536 in
set_option maxHeartbeats 40000000 in
theorem m_km1 (l : Launch) (Z : State) (a0 : Array Value) (hw : ∀ d ∈ tables_1, d.before a0 Z = true) (h0 : Heap) (n0 : Nat) (Z0 : n0 ≤ h0.size) (ty : Addr) (E_ty : Exa Z h0 ty "com/example/intackt/intackt/vhost/ExchangeType") (F_or : Fld Z h0 ty "java/lang/Enum" "ordinal" "I" (.int (1 : Int32))) (pa ra : Addr) :
    Met l Z [] (⟨"com/example/intackt/intackt/vhost/ExchangeType", "keyMatches", "([Ljava/lang/String;[Ljava/lang/String;)Z"⟩ : MethodName) prog_5_method_7_code 4 (some .boolean) ({ frames := 1, cells := 0, slots := 0, locals := 14 } : Room) #[(.ref ty), (.ref pa), (.ref ra)] h0 n0 (fun v h => v = some (.int 1) ∧ h0 = h) := by
  refine Met.of (plainFor_of_name pn_com_example_intackt_intackt_vhost_ExchangeType) ?_
  intro p e s m below meth c F K
  refine Go.cast (ef_km m ty pa ra) ?_
  refine Go.aloadN K d_prog_5_method_7_0 rfl rfl (pc' := 1) rfl ?_
  refine Go.callVU K (y := (⟨"com/example/intackt/intackt/vhost/ExchangeType", "ordinal", "()I"⟩ : MethodName)) (z := (⟨"java/lang/Enum", "ordinal", "()I"⟩ : MethodName)) (owner := "java/lang/Enum") (W := 0) (kc := 0) (nc := 0) (a := ty) (mvT K.cz (hw _ (List.mem_of_getElem? (i := 47) rfl))) (mvT K.cz (hw _ (List.mem_of_getElem? (i := 48) rfl))) (mvT K.cz (hw _ (List.mem_of_getElem? (i := 49) rfl))) (by decide) (mvT K.cz (hw _ (List.mem_of_getElem? (i := 51) rfl))) (mvT K.cz (hw _ (List.mem_of_getElem? (i := 50) rfl))) E_ty ((m_or1 l Z a0 hw h0 n0 Z0 ty E_ty F_or).pays (W := 0) K.cz (hw _ (List.mem_of_getElem? (i := 53) rfl)) (hw _ (List.mem_of_getElem? (i := 52) rfl)) (by decide) (by decide)) rfl (argsL := []) (rest := []) (lenOf pd__28_29I rfl) rfl (Nat.le_of_ble_eq_true rfl) (by decide) (by decide) frOf grOf d_prog_5_method_7_1 (pc' := 4) rfl ?_
  rintro vq h889 Lq ⟨⟨⟨rfl, eh⟩, -⟩, -⟩
  obtain rfl := eh
  show Go p l e _ _ m _ below meth c _ _ _ _ h0 _ _ (mkF m 4 #[.val (.ref ty), .val (.ref pa), .val (.ref ra), .unset] [(.int (1 : Int32))])
  refine Go.tswIn K d_ts (o := 37) (by decide) (by decide) (by decide) (pc' := 41) (by decide) ?_
  refine Go.iconst K (v := 1) d_prog_5_method_7_41 rfl (pc' := 42) rfl ?_
  refine Go.istoreN K d_prog_5_method_7_42 (Ls' := #[.val (.ref ty), .val (.ref pa), .val (.ref ra), .val (.int (1 : Int32))]) rfl (pc' := 43) rfl ?_
  refine Go.goto K d_prog_5_method_7_43 (pc' := 63) (by decide) (by decide) ?_
  refine Go.iloadN K d_prog_5_method_7_63 rfl (pc' := 64) rfl ?_
  exact Go.retN K (by simp) (by decide) (by decide) d_prog_5_method_7_64 (fun _ _ _ _ => ⟨rfl, rfl⟩)
set_option maxRecDepth 65536 in
set_option maxHeartbeats 40000000 in
theorem m_or2 (l : Launch) (Z : State) (a0 : Array Value) (hw : ∀ d ∈ tables_1, d.before a0 Z = true) (h0 : Heap) (n0 : Nat) (Z0 : n0 ≤ h0.size) (ty : Addr) (E_ty : Exa Z h0 ty "com/example/intackt/intackt/vhost/ExchangeType") (F_or : Fld Z h0 ty "java/lang/Enum" "ordinal" "I" (.int (2 : Int32))) :
    Met l Z [] (⟨"java/lang/Enum", "ordinal", "()I"⟩ : MethodName) jdk_37_method_2_code 1 (some .int) ({ frames := 0, cells := 0, slots := 0, locals := 0 } : Room) #[(.ref ty)] h0 n0 (fun v h => v = some (.int (2 : Int32)) ∧ h0 = h) := by
  refine Met.of (plainFor_of_name pn_java_lang_Enum) ?_
  intro p e s m below meth c F K
  refine Go.cast (ef_or m ty) ?_
  refine Go.aloadN K d_jdk_37_method_2_0 rfl rfl (pc' := 1) rfl ?_
  refine Go.getF K (host := "") (Or.inl (hw _ (List.mem_of_getElem? (i := 54) rfl))) Via.refl F_or d_jdk_37_method_2_1 (pc' := 4) rfl ?_
  exact Go.retI K (by decide) (by decide) d_jdk_37_method_2_4 (fun _ _ _ _ => ⟨rfl, rfl⟩)
theorem d_prog_5_method_7_32 : decode prog_5_method_7_code 32 = .ok (.aload_n 1, 1) := by decide +kernel
theorem d_prog_5_method_7_33 : decode prog_5_method_7_code 33 = .ok (.aload_n 2, 1) := by decide +kernel
theorem d_prog_5_method_7_34 : decode prog_5_method_7_code 34 = .ok (.invokestatic 112, 3) := by decide +kernel
theorem pd__28_5bLjava_2flang_2fString_3b_5bLjava_2flang_2fString_3b_29Z : parseMethodDescriptor "([Ljava/lang/String;[Ljava/lang/String;)Z" = some ⟨[(.array (.object "java/lang/String")), (.array (.object "java/lang/String"))], some .boolean⟩ := by decide +kernel
theorem d_prog_5_method_7_37 : decode prog_5_method_7_code 37 = .ok (.istore_n 3, 1) := by decide +kernel
theorem d_prog_5_method_7_38 : decode prog_5_method_7_code 38 = .ok (.goto 25, 3) := by decide +kernel
set_option maxRecDepth 65536 in
set_option maxHeartbeats 40000000 in
theorem m_km2 (l : Launch) (Z : State) (a0 : Array Value) (hw : ∀ d ∈ tables_1, d.before a0 Z = true) (h0 : Heap) (n0 : Nat) (Z0 : n0 ≤ h0.size) (wS : ∀ a ∈ Bundle.stringAtoms, a.before a0 Z = true) (hEL : EW Z a0 [("com/example/intackt/intackt/vhost/ExchangeType", 138), ("com/example/intackt/intackt/vhost/ExchangeType", 140), ("java/lang/String", 7)]) (ty : Addr) (E_ty : Exa Z h0 ty "com/example/intackt/intackt/vhost/ExchangeType") (F_or : Fld Z h0 ty "java/lang/Enum" "ordinal" "I" (.int (2 : Int32))) (od : Old Z n0 h0) (zc : Int32) (S1 : Sta Z Z.heap "java/lang/String" "COMPACT_STRINGS" "Z" (.int zc)) (P1 : ¬ (zc = (0 : Int32))) (pn : Nat) (hpn : pn ≤ 3) (xp : List Addr) (hxp : xp.length = pn) (pcs : Nat → List Int32) (hpb : ∀ i, (pcs i).length ≤ 2 ∧ ∀ c ∈ pcs i, ¬ c < 0 ∧ ¬ (255 : Int32) < c) (pa : Addr) (ka : ClassId) (V_pa : Arv Z h0 pa ka (.object "java/lang/String") (Int32.ofNat pn) (xp.map Value.ref) .null) (hst : ∀ i, i < pn → Str Z h0 (xp.getD i 0) (pcs i)) (hb : Nat → Bool) (hhb : ∀ i, i < pn → hb i = decide (pcs i = [35])) (ra : Addr) (kr : ClassId) (rn : Nat) (hrn : rn ≤ 3) (xr : List Addr) (hxr : xr.length = rn) (rcs : Nat → List Int32) (hrb : ∀ i, (rcs i).length ≤ 2 ∧ ∀ c ∈ rcs i, ¬ c < 0 ∧ ¬ (255 : Int32) < c) (V_ra : Arv Z h0 ra kr (.object "java/lang/String") (Int32.ofNat rn) (xr.map Value.ref) .null) (hsr : ∀ i, i < rn → Str Z h0 (xr.getD i 0) (rcs i)) (eb : Nat → Nat → Bool) (heb : ∀ j, j < rn → ∀ i, i < pn → eb j i = (decide (pcs i = [42]) || decide (pcs i = rcs j))) (FB : Bool) (hFB : (outF hb eb pn rn 0 (phF hb pn 0 ((List.replicate (pn + 1) false).set 0 true))).getD pn false = FB) :
    MetW l Z [] [("com/example/intackt/intackt/vhost/ExchangeType", 138), ("com/example/intackt/intackt/vhost/ExchangeType", 140), ("java/lang/String", 7)] (⟨"com/example/intackt/intackt/vhost/ExchangeType", "keyMatches", "([Ljava/lang/String;[Ljava/lang/String;)Z"⟩ : MethodName) prog_5_method_7_code 4 (some .boolean) ({ frames := 4, cells := 16, slots := 64, locals := 80 } : Room) #[(.ref ty), (.ref pa), (.ref ra)] h0 n0 (fun v h => v = some (.int (bi FB)) ∧ Keep h0 h []) := by
  refine MetW.of (plainFor_of_name pn_com_example_intackt_intackt_vhost_ExchangeType) ?_
  intro p e s m below meth c vm0 B hS HC K
  have CR := CHr.refl HC
  refine Go.cast (ef_km m ty pa ra) ?_
  refine Go.aloadN K d_prog_5_method_7_0 rfl rfl (pc' := 1) rfl ?_
  refine Go.callVU K (y := (⟨"com/example/intackt/intackt/vhost/ExchangeType", "ordinal", "()I"⟩ : MethodName)) (z := (⟨"java/lang/Enum", "ordinal", "()I"⟩ : MethodName)) (owner := "java/lang/Enum") (W := 0) (kc := 0) (nc := 0) (a := ty) (mvT K.cz (hw _ (List.mem_of_getElem? (i := 47) rfl))) (mvT K.cz (hw _ (List.mem_of_getElem? (i := 48) rfl))) (mvT K.cz (hw _ (List.mem_of_getElem? (i := 49) rfl))) (by decide) (mvT K.cz (hw _ (List.mem_of_getElem? (i := 51) rfl))) (mvT K.cz (hw _ (List.mem_of_getElem? (i := 50) rfl))) E_ty ((m_or2 l Z a0 hw h0 n0 Z0 ty E_ty F_or).pays (W := 0) K.cz (hw _ (List.mem_of_getElem? (i := 53) rfl)) (hw _ (List.mem_of_getElem? (i := 52) rfl)) (by decide) (by decide)) rfl (argsL := []) (rest := []) (lenOf pd__28_29I rfl) rfl (Nat.le_of_ble_eq_true rfl) (by decide) (by decide) frOf grOf d_prog_5_method_7_1 (pc' := 4) rfl ?_
  rintro vq h890 Lq ⟨⟨⟨rfl, eh⟩, -⟩, -⟩
  obtain rfl := eh
  show Go p l e _ _ m _ below meth c _ _ _ _ h0 _ _ (mkF m 4 #[.val (.ref ty), .val (.ref pa), .val (.ref ra), .unset] [(.int (2 : Int32))])
  refine Go.tswIn K d_ts (o := 28) (by decide) (by decide) (by decide) (pc' := 32) (by decide) ?_
  refine Go.aloadN K d_prog_5_method_7_32 rfl rfl (pc' := 33) rfl ?_
  refine Go.aloadN K d_prog_5_method_7_33 rfl rfl (pc' := 34) rfl ?_
  refine Go.callSW K hS (y := (⟨"com/example/intackt/intackt/vhost/ExchangeType", "topicMatches", "([Ljava/lang/String;[Ljava/lang/String;)Z"⟩ : MethodName)) (W := 0) (kc := 16) (nc := 64) (mvT K.cz (hw _ (List.mem_of_getElem? (i := 60) rfl))) (mvT K.cz (hw _ (List.mem_of_getElem? (i := 61) rfl))) (mvT K.cz (hw _ (List.mem_of_getElem? (i := 1) rfl))) (mvT K.cz (hw _ (List.mem_of_getElem? (i := 62) rfl))) (by decide) ((m_tm l Z a0 hw h0 n0 Z0 wS hEL od zc S1 P1 pn hpn xp hxp pcs hpb pa ka V_pa hst hb hhb ra kr rn hrn xr hxr rcs hrb V_ra hsr eb heb FB hFB).pays (W := 0) K.cz (hw _ (List.mem_of_getElem? (i := 62) rfl)) (hw _ (List.mem_of_getElem? (i := 1) rfl)) (by decide) (by decide) hEL CR.1) rfl (argsL := [(.ref pa), (.ref ra)]) (rest := []) (lenOf pd__28_5bLjava_2flang_2fString_3b_5bLjava_2flang_2fString_3b_29Z rfl) rfl (Nat.le_of_ble_eq_true rfl) (by decide) (by decide) frOf d_prog_5_method_7_34 (pc' := 37) rfl ?_
  rintro v893 h891 Lc892 vm894 B895 ⟨⟨⟨rfl, Kq⟩, -⟩, -⟩ hrh891 hS K
  have CR2 := CR.trans hrh891
  show Go p l e _ _ m _ below meth c _ _ _ _ h891 _ _ (mkF m 37 #[.val (.ref ty), .val (.ref pa), .val (.ref ra), .unset] [(.int (bi FB))])
  refine Go.istoreN K d_prog_5_method_7_37 (Ls' := #[.val (.ref ty), .val (.ref pa), .val (.ref ra), .val (.int (bi FB))]) rfl (pc' := 38) rfl ?_
  refine Go.goto K d_prog_5_method_7_38 (pc' := 63) (by decide) (by decide) ?_
  refine Go.iloadN K d_prog_5_method_7_63 rfl (pc' := 64) rfl ?_
  exact Go.retN K (by simp) (by decide) (by decide) d_prog_5_method_7_64 (own_end hEL K.cz CR2 ⟨by rw [own_nb], Kq⟩)
set_option maxRecDepth 65536 in
set_option maxHeartbeats 40000000 in
theorem m_or3 (l : Launch) (Z : State) (a0 : Array Value) (hw : ∀ d ∈ tables_1, d.before a0 Z = true) (h0 : Heap) (n0 : Nat) (Z0 : n0 ≤ h0.size) (ty : Addr) (E_ty : Exa Z h0 ty "com/example/intackt/intackt/vhost/ExchangeType") (F_or : Fld Z h0 ty "java/lang/Enum" "ordinal" "I" (.int (3 : Int32))) :
    Met l Z [] (⟨"java/lang/Enum", "ordinal", "()I"⟩ : MethodName) jdk_37_method_2_code 1 (some .int) ({ frames := 0, cells := 0, slots := 0, locals := 0 } : Room) #[(.ref ty)] h0 n0 (fun v h => v = some (.int (3 : Int32)) ∧ h0 = h) := by
  refine Met.of (plainFor_of_name pn_java_lang_Enum) ?_
  intro p e s m below meth c F K
  refine Go.cast (ef_or m ty) ?_
  refine Go.aloadN K d_jdk_37_method_2_0 rfl rfl (pc' := 1) rfl ?_
  refine Go.getF K (host := "") (Or.inl (hw _ (List.mem_of_getElem? (i := 54) rfl))) Via.refl F_or d_jdk_37_method_2_1 (pc' := 4) rfl ?_
  exact Go.retI K (by decide) (by decide) d_jdk_37_method_2_4 (fun _ _ _ _ => ⟨rfl, rfl⟩)
set_option maxRecDepth 65536 in
set_option maxHeartbeats 40000000 in
theorem m_km3 (l : Launch) (Z : State) (a0 : Array Value) (hw : ∀ d ∈ tables_1, d.before a0 Z = true) (h0 : Heap) (n0 : Nat) (Z0 : n0 ≤ h0.size) (ty : Addr) (E_ty : Exa Z h0 ty "com/example/intackt/intackt/vhost/ExchangeType") (F_or : Fld Z h0 ty "java/lang/Enum" "ordinal" "I" (.int (3 : Int32))) (pa ra : Addr) :
    Met l Z [] (⟨"com/example/intackt/intackt/vhost/ExchangeType", "keyMatches", "([Ljava/lang/String;[Ljava/lang/String;)Z"⟩ : MethodName) prog_5_method_7_code 4 (some .boolean) ({ frames := 1, cells := 0, slots := 0, locals := 14 } : Room) #[(.ref ty), (.ref pa), (.ref ra)] h0 n0 (fun v h => v = some (.int 1) ∧ h0 = h) := by
  refine Met.of (plainFor_of_name pn_com_example_intackt_intackt_vhost_ExchangeType) ?_
  intro p e s m below meth c F K
  refine Go.cast (ef_km m ty pa ra) ?_
  refine Go.aloadN K d_prog_5_method_7_0 rfl rfl (pc' := 1) rfl ?_
  refine Go.callVU K (y := (⟨"com/example/intackt/intackt/vhost/ExchangeType", "ordinal", "()I"⟩ : MethodName)) (z := (⟨"java/lang/Enum", "ordinal", "()I"⟩ : MethodName)) (owner := "java/lang/Enum") (W := 0) (kc := 0) (nc := 0) (a := ty) (mvT K.cz (hw _ (List.mem_of_getElem? (i := 47) rfl))) (mvT K.cz (hw _ (List.mem_of_getElem? (i := 48) rfl))) (mvT K.cz (hw _ (List.mem_of_getElem? (i := 49) rfl))) (by decide) (mvT K.cz (hw _ (List.mem_of_getElem? (i := 51) rfl))) (mvT K.cz (hw _ (List.mem_of_getElem? (i := 50) rfl))) E_ty ((m_or3 l Z a0 hw h0 n0 Z0 ty E_ty F_or).pays (W := 0) K.cz (hw _ (List.mem_of_getElem? (i := 53) rfl)) (hw _ (List.mem_of_getElem? (i := 52) rfl)) (by decide) (by decide)) rfl (argsL := []) (rest := []) (lenOf pd__28_29I rfl) rfl (Nat.le_of_ble_eq_true rfl) (by decide) (by decide) frOf grOf d_prog_5_method_7_1 (pc' := 4) rfl ?_
  rintro vq h896 Lq ⟨⟨⟨rfl, eh⟩, -⟩, -⟩
  obtain rfl := eh
  show Go p l e _ _ m _ below meth c _ _ _ _ h0 _ _ (mkF m 4 #[.val (.ref ty), .val (.ref pa), .val (.ref ra), .unset] [(.int (3 : Int32))])
  refine Go.tswIn K d_ts (o := 37) (by decide) (by decide) (by decide) (pc' := 41) (by decide) ?_
  refine Go.iconst K (v := 1) d_prog_5_method_7_41 rfl (pc' := 42) rfl ?_
  refine Go.istoreN K d_prog_5_method_7_42 (Ls' := #[.val (.ref ty), .val (.ref pa), .val (.ref ra), .val (.int (1 : Int32))]) rfl (pc' := 43) rfl ?_
  refine Go.goto K d_prog_5_method_7_43 (pc' := 63) (by decide) (by decide) ?_
  refine Go.iloadN K d_prog_5_method_7_63 rfl (pc' := 64) rfl ?_
  exact Go.retN K (by simp) (by decide) (by decide) d_prog_5_method_7_64 (fun _ _ _ _ => ⟨rfl, rfl⟩)
theorem pd__28IIII_29_5bLjava_2flang_2fString_3b : parseMethodDescriptor "(IIII)[Ljava/lang/String;" = some ⟨[.int, .int, .int, .int], some (.array (.object "java/lang/String"))⟩ := by decide +kernel
set_option maxRecDepth 65536 in
set_option maxHeartbeats 40000000 in
theorem segA1 {p : Program} {l : Launch} {e : Env} {s : State} {m : MethodId} {args : Array Value} {below : List Frame} {meth : Method} {c : Code} {vmS vm0 : Vm} {B : Nat} {Z : State} {a0 : Array Value} (hw : ∀ d ∈ tables_1, d.before a0 Z = true) (wS : ∀ a ∈ Bundle.stringAtoms, a.before a0 Z = true) (hEL : EW Z a0 [("com/example/intackt/intackt/vhost/ExchangeType", 138), ("com/example/intackt/intackt/vhost/ExchangeType", 140), ("java/lang/String", 7)]) (K : Ctx p (s.setVm vm0) m meth c Z x.cls code maxLocals ret x.name room_1 (FW s room_1) B) (hS : s.Since vm0 B) (h0 h : Heap) (n0 : Nat) (zh : n0 ≤ h.size) (CR : CHr Z [("com/example/intackt/intackt/vhost/ExchangeType", 138), ("com/example/intackt/intackt/vhost/ExchangeType", 140), ("java/lang/String", 7)] vmS h0 vm0 h) (odh : Old Z n0 h) (zc : Int32) (S1 : Sta Z Z.heap "java/lang/String" "COMPACT_STRINGS" "Z" (.int zc)) (P1 : ¬ (zc = (0 : Int32))) (ty : Addr) (E_ty : Exa Z h ty "com/example/intackt/intackt/vhost/ExchangeType") (F_or : Fld Z h ty "java/lang/Enum" "ordinal" "I" (.int (1 : Int32))) (p0 p1 p2 sl c0 c1 c2 r0 r1 r2 : Int32) (hsl : sl < 2) (pn rn : Nat) (hpn : pn ≤ 3) (hrn : rn ≤ 3) (hc0 : ¬ c0 < 0 ∧ c0 < 8) (hc1 : ¬ c1 < 0 ∧ c1 < 8) (hc2 : ¬ c2 < 0 ∧ c2 < 8) (hr0 : ¬ r0 < 0 ∧ r0 < 8) (hr1 : ¬ r1 < 0 ∧ r1 < 8) (hr2 : ¬ r2 < 0 ∧ r2 < 8) (rr : Addr) (kk : ClassId) (V_rr : Arv Z h rr kk .int (3 : Int32) ([r0, r1, r2].map Value.int) (.int 0)) (k n : Nat) (hk : k ≤ 1) (hn : n ≤ 3) :
    Go p l e room_1 (s.setVm vm0) m args below meth c n0 (fun v vm h => v = some (.int 1) ∧ CHr Z [("com/example/intackt/intackt/vhost/ExchangeType", 138), ("com/example/intackt/intackt/vhost/ExchangeType", 140), ("java/lang/String", 7)] vmS h0 vm h) (FW s room_1) B h k n (mkF m 98 #[.val (.int p0), .val (.int p1), .val (.int p2), .val (.int sl), .val (.ref ty), .val (.int (Int32.ofNat pn)), .val (.int c0), .val (.int c1), .val (.int c2), .val (.int (Int32.ofNat rn)), .val (.ref rr), .unset, .unset, .unset, .unset] []) := by
  refine Go.iload K at_98 rfl (pc' := 100) rfl ?_
  refine Go.iload K at_100 rfl (pc' := 102) rfl ?_
  refine Go.iload K at_102 rfl (pc' := 104) rfl ?_
  refine Go.iload K at_104 rfl (pc' := 106) rfl ?_
  refine Go.callSW K hS (y := (⟨"com/example/intackt/intackt/vhost/ExchangeTypeKeyMatchesPinLaw", "words", "(IIII)[Ljava/lang/String;"⟩ : MethodName)) (W := 0) (kc := 19) (nc := 45) (mvT K.cz (hw _ (List.mem_of_getElem? (i := 4) rfl))) (mvT K.cz (hw _ (List.mem_of_getElem? (i := 5) rfl))) (mvT K.cz (hw _ (List.mem_of_getElem? (i := 6) rfl))) (mvT K.cz (hw _ (List.mem_of_getElem? (i := 7) rfl))) (by decide) ((m_ws l Z a0 hw h n0 zh wS hEL _ c0 c1 c2 pn rfl hpn hc0 hc1 hc2 odh zc S1 P1).pays (W := 0) K.cz (hw _ (List.mem_of_getElem? (i := 7) rfl)) (hw _ (List.mem_of_getElem? (i := 6) rfl)) (by decide) (by decide) hEL CR.1) rfl (argsL := [(.int (Int32.ofNat pn)), (.int c0), (.int c1), (.int c2)]) (rest := []) (lenOf pd__28IIII_29_5bLjava_2flang_2fString_3b rfl) rfl (Nat.le_of_ble_eq_true rfl) (by show _ ≤ 64; omega) (by show _ ≤ 3328; omega) frOf at_106 (pc' := 109) rfl ?_
  rintro v899 h897 Lc898 vm900 B901 ⟨⟨⟨pa, ka, xp, rfl, hle1, Kp1, hxp, V_pa, hst⟩, -⟩, -⟩ hrh897 hS K
  have cr902 := CR.trans (hrh897)
  have f903 := E_ty.keep Kp1
  have f904 := F_or.keep Kp1 nin0
  have f905 := V_rr.keep Kp1 nin0
  have od906 := odh.keep Kp1 all0
  have z907 := Nat.le_trans zh Kp1.1
  show Go p l e _ _ m _ below meth c _ _ _ _ h897 _ _ (mkF m 109 #[.val (.int p0), .val (.int p1), .val (.int p2), .val (.int sl), .val (.ref ty), .val (.int (Int32.ofNat pn)), .val (.int c0), .val (.int c1), .val (.int c2), .val (.int (Int32.ofNat rn)), .val (.ref rr), .unset, .unset, .unset, .unset] [(.ref pa)])
  refine Go.astore K at_109 rfl (Ls' := #[.val (.int p0), .val (.int p1), .val (.int p2), .val (.int sl), .val (.ref ty), .val (.int (Int32.ofNat pn)), .val (.int c0), .val (.int c1), .val (.int c2), .val (.int (Int32.ofNat rn)), .val (.ref rr), .val (.ref pa), .unset, .unset, .unset]) rfl (pc' := 111) rfl ?_
  refine Go.iload K at_111 rfl (pc' := 113) rfl ?_
  refine Go.aload K at_113 rfl rfl (pc' := 115) rfl ?_
  refine Go.iconst K (v := 0) at_115 rfl (pc' := 116) rfl ?_
  refine Go.iaload K (v := (.int r0)) f905 ⟨by decide, by decide⟩ rfl at_116 (pc' := 117) rfl ?_
  refine Go.aload K at_117 rfl rfl (pc' := 119) rfl ?_
  refine Go.iconst K (v := 1) at_119 rfl (pc' := 120) rfl ?_
  refine Go.iaload K (v := (.int r1)) f905 ⟨by decide, by decide⟩ rfl at_120 (pc' := 121) rfl ?_
  refine Go.aload K at_121 rfl rfl (pc' := 123) rfl ?_
  refine Go.iconst K (v := 2) at_123 rfl (pc' := 124) rfl ?_
  refine Go.iaload K (v := (.int r2)) f905 ⟨by decide, by decide⟩ rfl at_124 (pc' := 125) rfl ?_
  refine Go.callSW K hS (y := (⟨"com/example/intackt/intackt/vhost/ExchangeTypeKeyMatchesPinLaw", "words", "(IIII)[Ljava/lang/String;"⟩ : MethodName)) (W := 0) (kc := 19) (nc := 45) (mvT K.cz (hw _ (List.mem_of_getElem? (i := 4) rfl))) (mvT K.cz (hw _ (List.mem_of_getElem? (i := 5) rfl))) (mvT K.cz (hw _ (List.mem_of_getElem? (i := 6) rfl))) (mvT K.cz (hw _ (List.mem_of_getElem? (i := 7) rfl))) (by decide) ((m_ws l Z a0 hw h897 n0 z907 wS hEL _ r0 r1 r2 rn rfl hrn hr0 hr1 hr2 od906 zc S1 P1).pays (W := 0) K.cz (hw _ (List.mem_of_getElem? (i := 7) rfl)) (hw _ (List.mem_of_getElem? (i := 6) rfl)) (by decide) (by decide) hEL cr902.1) rfl (argsL := [(.int (Int32.ofNat rn)), (.int r0), (.int r1), (.int r2)]) (rest := []) (lenOf pd__28IIII_29_5bLjava_2flang_2fString_3b rfl) rfl (Nat.le_of_ble_eq_true rfl) (by show _ ≤ 64; omega) (by show _ ≤ 3328; omega) frOf at_125 (pc' := 128) rfl ?_
  rintro v910 h908 Lc909 vm911 B912 ⟨⟨⟨ra, kr, xr, rfl, hle2, Kp2, hxr, V_ra, hsr⟩, -⟩, -⟩ hrh908 hS K
  have cr913 := cr902.trans (hrh908)
  have f914 := f903.keep Kp2
  have f915 := f904.keep Kp2 nin0
  have f916 := f905.keep Kp2 nin0
  have f917 := V_pa.keep Kp2 nin0
  have od918 := od906.keep Kp2 all0
  have z919 := Nat.le_trans z907 Kp2.1
  have hst2 := fun i hi => (hst i hi).keep0 Kp2
  show Go p l e _ _ m _ below meth c _ _ _ _ h908 _ _ (mkF m 128 #[.val (.int p0), .val (.int p1), .val (.int p2), .val (.int sl), .val (.ref ty), .val (.int (Int32.ofNat pn)), .val (.int c0), .val (.int c1), .val (.int c2), .val (.int (Int32.ofNat rn)), .val (.ref rr), .val (.ref pa), .unset, .unset, .unset] [(.ref ra)])
  refine Go.astore K at_128 rfl (Ls' := #[.val (.int p0), .val (.int p1), .val (.int p2), .val (.int sl), .val (.ref ty), .val (.int (Int32.ofNat pn)), .val (.int c0), .val (.int c1), .val (.int c2), .val (.int (Int32.ofNat rn)), .val (.ref rr), .val (.ref pa), .val (.ref ra), .unset, .unset]) rfl (pc' := 130) rfl ?_
  refine Go.iloadN K at_130 rfl (pc' := 131) rfl ?_
  refine Go.iconst K (v := 2) at_131 rfl (pc' := 132) rfl ?_
  refine Go.icmp K at_132 (by decide) (pcT := 141) (pcF := 135) (by decide) rfl (fun h132 => ?_) (fun h132 => ?_)
  · replace h132 : ¬ sl < (2 : Int32) := h132
    exact absurd hsl h132
  · replace h132 : ¬ (¬ sl < (2 : Int32)) := h132
    refine Go.iconst K (v := 1) at_135 rfl (pc' := 136) rfl ?_
    refine Go.istore K at_136 (Ls' := #[.val (.int p0), .val (.int p1), .val (.int p2), .val (.int sl), .val (.ref ty), .val (.int (Int32.ofNat pn)), .val (.int c0), .val (.int c1), .val (.int c2), .val (.int (Int32.ofNat rn)), .val (.ref rr), .val (.ref pa), .val (.ref ra), .val (.int (1 : Int32)), .unset]) rfl (pc' := 138) rfl ?_
    refine Go.goto K at_138 (pc' := 221) (by decide) (by decide) ?_
    refine Go.aload K at_221 rfl rfl (pc' := 223) rfl ?_
    refine Go.aload K at_223 rfl rfl (pc' := 225) rfl ?_
    refine Go.aload K at_225 rfl rfl (pc' := 227) rfl ?_
    refine Go.callV K (y := (⟨"com/example/intackt/intackt/vhost/ExchangeType", "keyMatches", "([Ljava/lang/String;[Ljava/lang/String;)Z"⟩ : MethodName)) (z := (⟨"com/example/intackt/intackt/vhost/ExchangeType", "keyMatches", "([Ljava/lang/String;[Ljava/lang/String;)Z"⟩ : MethodName)) (W := 0) (kc := 0) (nc := 0) (a := ty) (mvT K.cz (hw _ (List.mem_of_getElem? (i := 42) rfl))) (mvT K.cz (hw _ (List.mem_of_getElem? (i := 43) rfl))) (notFace_of_selects (args := #[]) (mvT K.cz (hw _ (List.mem_of_getElem? (i := 45) rfl)))) (mvT K.cz (hw _ (List.mem_of_getElem? (i := 45) rfl))) (mvT K.cz (hw _ (List.mem_of_getElem? (i := 44) rfl))) (by decide) f914 ((m_km1 l Z a0 hw h908 n0 z919 ty f914 f915 pa ra).pays (W := 0) K.cz (hw _ (List.mem_of_getElem? (i := 46) rfl)) (hw _ (List.mem_of_getElem? (i := 1) rfl)) (by decide) (by decide)) rfl (argsL := [(.ref pa), (.ref ra)]) (rest := []) (lenOf pd__28_5bLjava_2flang_2fString_3b_5bLjava_2flang_2fString_3b_29Z rfl) rfl (Nat.le_of_ble_eq_true rfl) (by show _ ≤ 64; omega) (by show _ ≤ 3328; omega) frOf grOf at_227 (pc' := 230) rfl ?_
    rintro v922 h920 Lc921 ⟨⟨⟨rfl, eh⟩, -⟩, -⟩
    obtain rfl := eh
    show Go p l e _ _ m _ below meth c _ _ _ _ h908 _ _ (mkF m 230 #[.val (.int p0), .val (.int p1), .val (.int p2), .val (.int sl), .val (.ref ty), .val (.int (Int32.ofNat pn)), .val (.int c0), .val (.int c1), .val (.int c2), .val (.int (Int32.ofNat rn)), .val (.ref rr), .val (.ref pa), .val (.ref ra), .val (.int (1 : Int32)), .unset] [(.int (1 : Int32))])
    refine Go.istore K at_230 (Ls' := #[.val (.int p0), .val (.int p1), .val (.int p2), .val (.int sl), .val (.ref ty), .val (.int (Int32.ofNat pn)), .val (.int c0), .val (.int c1), .val (.int c2), .val (.int (Int32.ofNat rn)), .val (.ref rr), .val (.ref pa), .val (.ref ra), .val (.int (1 : Int32)), .val (.int (1 : Int32))]) rfl (pc' := 232) rfl ?_
    refine Go.iload K at_232 rfl (pc' := 234) rfl ?_
    refine Go.iload K at_234 rfl (pc' := 236) rfl ?_
    refine Go.icmp K at_236 (by decide) (pcT := 243) (pcF := 239) (by decide) rfl (fun h236 => ?_) (fun h236 => ?_)
    · replace h236 : ¬ (1 : Int32) = (1 : Int32) := h236
      exact absurd rfl h236
    · replace h236 : ¬ (¬ (1 : Int32) = (1 : Int32)) := h236
      refine Go.iconst K (v := 1) at_239 rfl (pc' := 240) rfl ?_
      refine Go.goto K at_240 (pc' := 244) (by decide) (by decide) ?_
      exact Go.retN K (by simp) (by show _ ≤ 64; omega) (by show _ ≤ 3328; omega) at_244 (own_end hEL K.cz cr913 rfl)
set_option maxRecDepth 65536 in
set_option maxHeartbeats 40000000 in
theorem segA3 {p : Program} {l : Launch} {e : Env} {s : State} {m : MethodId} {args : Array Value} {below : List Frame} {meth : Method} {c : Code} {vmS vm0 : Vm} {B : Nat} {Z : State} {a0 : Array Value} (hw : ∀ d ∈ tables_1, d.before a0 Z = true) (wS : ∀ a ∈ Bundle.stringAtoms, a.before a0 Z = true) (hEL : EW Z a0 [("com/example/intackt/intackt/vhost/ExchangeType", 138), ("com/example/intackt/intackt/vhost/ExchangeType", 140), ("java/lang/String", 7)]) (K : Ctx p (s.setVm vm0) m meth c Z x.cls code maxLocals ret x.name room_1 (FW s room_1) B) (hS : s.Since vm0 B) (h0 h : Heap) (n0 : Nat) (zh : n0 ≤ h.size) (CR : CHr Z [("com/example/intackt/intackt/vhost/ExchangeType", 138), ("com/example/intackt/intackt/vhost/ExchangeType", 140), ("java/lang/String", 7)] vmS h0 vm0 h) (odh : Old Z n0 h) (zc : Int32) (S1 : Sta Z Z.heap "java/lang/String" "COMPACT_STRINGS" "Z" (.int zc)) (P1 : ¬ (zc = (0 : Int32))) (ty : Addr) (E_ty : Exa Z h ty "com/example/intackt/intackt/vhost/ExchangeType") (F_or : Fld Z h ty "java/lang/Enum" "ordinal" "I" (.int (3 : Int32))) (p0 p1 p2 sl c0 c1 c2 r0 r1 r2 : Int32) (hsl : sl < 2) (pn rn : Nat) (hpn : pn ≤ 3) (hrn : rn ≤ 3) (hc0 : ¬ c0 < 0 ∧ c0 < 8) (hc1 : ¬ c1 < 0 ∧ c1 < 8) (hc2 : ¬ c2 < 0 ∧ c2 < 8) (hr0 : ¬ r0 < 0 ∧ r0 < 8) (hr1 : ¬ r1 < 0 ∧ r1 < 8) (hr2 : ¬ r2 < 0 ∧ r2 < 8) (rr : Addr) (kk : ClassId) (V_rr : Arv Z h rr kk .int (3 : Int32) ([r0, r1, r2].map Value.int) (.int 0)) (k n : Nat) (hk : k ≤ 1) (hn : n ≤ 3) :
    Go p l e room_1 (s.setVm vm0) m args below meth c n0 (fun v vm h => v = some (.int 1) ∧ CHr Z [("com/example/intackt/intackt/vhost/ExchangeType", 138), ("com/example/intackt/intackt/vhost/ExchangeType", 140), ("java/lang/String", 7)] vmS h0 vm h) (FW s room_1) B h k n (mkF m 98 #[.val (.int p0), .val (.int p1), .val (.int p2), .val (.int sl), .val (.ref ty), .val (.int (Int32.ofNat pn)), .val (.int c0), .val (.int c1), .val (.int c2), .val (.int (Int32.ofNat rn)), .val (.ref rr), .unset, .unset, .unset, .unset] []) := by
  refine Go.iload K at_98 rfl (pc' := 100) rfl ?_
  refine Go.iload K at_100 rfl (pc' := 102) rfl ?_
  refine Go.iload K at_102 rfl (pc' := 104) rfl ?_
  refine Go.iload K at_104 rfl (pc' := 106) rfl ?_
  refine Go.callSW K hS (y := (⟨"com/example/intackt/intackt/vhost/ExchangeTypeKeyMatchesPinLaw", "words", "(IIII)[Ljava/lang/String;"⟩ : MethodName)) (W := 0) (kc := 19) (nc := 45) (mvT K.cz (hw _ (List.mem_of_getElem? (i := 4) rfl))) (mvT K.cz (hw _ (List.mem_of_getElem? (i := 5) rfl))) (mvT K.cz (hw _ (List.mem_of_getElem? (i := 6) rfl))) (mvT K.cz (hw _ (List.mem_of_getElem? (i := 7) rfl))) (by decide) ((m_ws l Z a0 hw h n0 zh wS hEL _ c0 c1 c2 pn rfl hpn hc0 hc1 hc2 odh zc S1 P1).pays (W := 0) K.cz (hw _ (List.mem_of_getElem? (i := 7) rfl)) (hw _ (List.mem_of_getElem? (i := 6) rfl)) (by decide) (by decide) hEL CR.1) rfl (argsL := [(.int (Int32.ofNat pn)), (.int c0), (.int c1), (.int c2)]) (rest := []) (lenOf pd__28IIII_29_5bLjava_2flang_2fString_3b rfl) rfl (Nat.le_of_ble_eq_true rfl) (by show _ ≤ 64; omega) (by show _ ≤ 3328; omega) frOf at_106 (pc' := 109) rfl ?_
  rintro v925 h923 Lc924 vm926 B927 ⟨⟨⟨pa, ka, xp, rfl, hle1, Kp1, hxp, V_pa, hst⟩, -⟩, -⟩ hrh923 hS K
  have cr928 := CR.trans (hrh923)
  have f929 := E_ty.keep Kp1
  have f930 := F_or.keep Kp1 nin0
  have f931 := V_rr.keep Kp1 nin0
  have od932 := odh.keep Kp1 all0
  have z933 := Nat.le_trans zh Kp1.1
  show Go p l e _ _ m _ below meth c _ _ _ _ h923 _ _ (mkF m 109 #[.val (.int p0), .val (.int p1), .val (.int p2), .val (.int sl), .val (.ref ty), .val (.int (Int32.ofNat pn)), .val (.int c0), .val (.int c1), .val (.int c2), .val (.int (Int32.ofNat rn)), .val (.ref rr), .unset, .unset, .unset, .unset] [(.ref pa)])
  refine Go.astore K at_109 rfl (Ls' := #[.val (.int p0), .val (.int p1), .val (.int p2), .val (.int sl), .val (.ref ty), .val (.int (Int32.ofNat pn)), .val (.int c0), .val (.int c1), .val (.int c2), .val (.int (Int32.ofNat rn)), .val (.ref rr), .val (.ref pa), .unset, .unset, .unset]) rfl (pc' := 111) rfl ?_
  refine Go.iload K at_111 rfl (pc' := 113) rfl ?_
  refine Go.aload K at_113 rfl rfl (pc' := 115) rfl ?_
  refine Go.iconst K (v := 0) at_115 rfl (pc' := 116) rfl ?_
  refine Go.iaload K (v := (.int r0)) f931 ⟨by decide, by decide⟩ rfl at_116 (pc' := 117) rfl ?_
  refine Go.aload K at_117 rfl rfl (pc' := 119) rfl ?_
  refine Go.iconst K (v := 1) at_119 rfl (pc' := 120) rfl ?_
  refine Go.iaload K (v := (.int r1)) f931 ⟨by decide, by decide⟩ rfl at_120 (pc' := 121) rfl ?_
  refine Go.aload K at_121 rfl rfl (pc' := 123) rfl ?_
  refine Go.iconst K (v := 2) at_123 rfl (pc' := 124) rfl ?_
  refine Go.iaload K (v := (.int r2)) f931 ⟨by decide, by decide⟩ rfl at_124 (pc' := 125) rfl ?_
  refine Go.callSW K hS (y := (⟨"com/example/intackt/intackt/vhost/ExchangeTypeKeyMatchesPinLaw", "words", "(IIII)[Ljava/lang/String;"⟩ : MethodName)) (W := 0) (kc := 19) (nc := 45) (mvT K.cz (hw _ (List.mem_of_getElem? (i := 4) rfl))) (mvT K.cz (hw _ (List.mem_of_getElem? (i := 5) rfl))) (mvT K.cz (hw _ (List.mem_of_getElem? (i := 6) rfl))) (mvT K.cz (hw _ (List.mem_of_getElem? (i := 7) rfl))) (by decide) ((m_ws l Z a0 hw h923 n0 z933 wS hEL _ r0 r1 r2 rn rfl hrn hr0 hr1 hr2 od932 zc S1 P1).pays (W := 0) K.cz (hw _ (List.mem_of_getElem? (i := 7) rfl)) (hw _ (List.mem_of_getElem? (i := 6) rfl)) (by decide) (by decide) hEL cr928.1) rfl (argsL := [(.int (Int32.ofNat rn)), (.int r0), (.int r1), (.int r2)]) (rest := []) (lenOf pd__28IIII_29_5bLjava_2flang_2fString_3b rfl) rfl (Nat.le_of_ble_eq_true rfl) (by show _ ≤ 64; omega) (by show _ ≤ 3328; omega) frOf at_125 (pc' := 128) rfl ?_
  rintro v936 h934 Lc935 vm937 B938 ⟨⟨⟨ra, kr, xr, rfl, hle2, Kp2, hxr, V_ra, hsr⟩, -⟩, -⟩ hrh934 hS K
  have cr939 := cr928.trans (hrh934)
  have f940 := f929.keep Kp2
  have f941 := f930.keep Kp2 nin0
  have f942 := f931.keep Kp2 nin0
  have f943 := V_pa.keep Kp2 nin0
  have od944 := od932.keep Kp2 all0
  have z945 := Nat.le_trans z933 Kp2.1
  have hst2 := fun i hi => (hst i hi).keep0 Kp2
  show Go p l e _ _ m _ below meth c _ _ _ _ h934 _ _ (mkF m 128 #[.val (.int p0), .val (.int p1), .val (.int p2), .val (.int sl), .val (.ref ty), .val (.int (Int32.ofNat pn)), .val (.int c0), .val (.int c1), .val (.int c2), .val (.int (Int32.ofNat rn)), .val (.ref rr), .val (.ref pa), .unset, .unset, .unset] [(.ref ra)])
  refine Go.astore K at_128 rfl (Ls' := #[.val (.int p0), .val (.int p1), .val (.int p2), .val (.int sl), .val (.ref ty), .val (.int (Int32.ofNat pn)), .val (.int c0), .val (.int c1), .val (.int c2), .val (.int (Int32.ofNat rn)), .val (.ref rr), .val (.ref pa), .val (.ref ra), .unset, .unset]) rfl (pc' := 130) rfl ?_
  refine Go.iloadN K at_130 rfl (pc' := 131) rfl ?_
  refine Go.iconst K (v := 2) at_131 rfl (pc' := 132) rfl ?_
  refine Go.icmp K at_132 (by decide) (pcT := 141) (pcF := 135) (by decide) rfl (fun h132 => ?_) (fun h132 => ?_)
  · replace h132 : ¬ sl < (2 : Int32) := h132
    exact absurd hsl h132
  · replace h132 : ¬ (¬ sl < (2 : Int32)) := h132
    refine Go.iconst K (v := 1) at_135 rfl (pc' := 136) rfl ?_
    refine Go.istore K at_136 (Ls' := #[.val (.int p0), .val (.int p1), .val (.int p2), .val (.int sl), .val (.ref ty), .val (.int (Int32.ofNat pn)), .val (.int c0), .val (.int c1), .val (.int c2), .val (.int (Int32.ofNat rn)), .val (.ref rr), .val (.ref pa), .val (.ref ra), .val (.int (1 : Int32)), .unset]) rfl (pc' := 138) rfl ?_
    refine Go.goto K at_138 (pc' := 221) (by decide) (by decide) ?_
    refine Go.aload K at_221 rfl rfl (pc' := 223) rfl ?_
    refine Go.aload K at_223 rfl rfl (pc' := 225) rfl ?_
    refine Go.aload K at_225 rfl rfl (pc' := 227) rfl ?_
    refine Go.callV K (y := (⟨"com/example/intackt/intackt/vhost/ExchangeType", "keyMatches", "([Ljava/lang/String;[Ljava/lang/String;)Z"⟩ : MethodName)) (z := (⟨"com/example/intackt/intackt/vhost/ExchangeType", "keyMatches", "([Ljava/lang/String;[Ljava/lang/String;)Z"⟩ : MethodName)) (W := 0) (kc := 0) (nc := 0) (a := ty) (mvT K.cz (hw _ (List.mem_of_getElem? (i := 42) rfl))) (mvT K.cz (hw _ (List.mem_of_getElem? (i := 43) rfl))) (notFace_of_selects (args := #[]) (mvT K.cz (hw _ (List.mem_of_getElem? (i := 45) rfl)))) (mvT K.cz (hw _ (List.mem_of_getElem? (i := 45) rfl))) (mvT K.cz (hw _ (List.mem_of_getElem? (i := 44) rfl))) (by decide) f940 ((m_km3 l Z a0 hw h934 n0 z945 ty f940 f941 pa ra).pays (W := 0) K.cz (hw _ (List.mem_of_getElem? (i := 46) rfl)) (hw _ (List.mem_of_getElem? (i := 1) rfl)) (by decide) (by decide)) rfl (argsL := [(.ref pa), (.ref ra)]) (rest := []) (lenOf pd__28_5bLjava_2flang_2fString_3b_5bLjava_2flang_2fString_3b_29Z rfl) rfl (Nat.le_of_ble_eq_true rfl) (by show _ ≤ 64; omega) (by show _ ≤ 3328; omega) frOf grOf at_227 (pc' := 230) rfl ?_
    rintro v948 h946 Lc947 ⟨⟨⟨rfl, eh⟩, -⟩, -⟩
    obtain rfl := eh
    show Go p l e _ _ m _ below meth c _ _ _ _ h934 _ _ (mkF m 230 #[.val (.int p0), .val (.int p1), .val (.int p2), .val (.int sl), .val (.ref ty), .val (.int (Int32.ofNat pn)), .val (.int c0), .val (.int c1), .val (.int c2), .val (.int (Int32.ofNat rn)), .val (.ref rr), .val (.ref pa), .val (.ref ra), .val (.int (1 : Int32)), .unset] [(.int (1 : Int32))])
    refine Go.istore K at_230 (Ls' := #[.val (.int p0), .val (.int p1), .val (.int p2), .val (.int sl), .val (.ref ty), .val (.int (Int32.ofNat pn)), .val (.int c0), .val (.int c1), .val (.int c2), .val (.int (Int32.ofNat rn)), .val (.ref rr), .val (.ref pa), .val (.ref ra), .val (.int (1 : Int32)), .val (.int (1 : Int32))]) rfl (pc' := 232) rfl ?_
    refine Go.iload K at_232 rfl (pc' := 234) rfl ?_
    refine Go.iload K at_234 rfl (pc' := 236) rfl ?_
    refine Go.icmp K at_236 (by decide) (pcT := 243) (pcF := 239) (by decide) rfl (fun h236 => ?_) (fun h236 => ?_)
    · replace h236 : ¬ (1 : Int32) = (1 : Int32) := h236
      exact absurd rfl h236
    · replace h236 : ¬ (¬ (1 : Int32) = (1 : Int32)) := h236
      refine Go.iconst K (v := 1) at_239 rfl (pc' := 240) rfl ?_
      refine Go.goto K at_240 (pc' := 244) (by decide) (by decide) ?_
      exact Go.retN K (by simp) (by show _ ≤ 64; omega) (by show _ ≤ 3328; omega) at_244 (own_end hEL K.cz cr939 rfl)
theorem pd__28III_5bIII_29Z : parseMethodDescriptor "(III[III)Z" = some ⟨[.int, .int, .int, (.array .int), .int, .int], some .boolean⟩ := by decide +kernel
set_option maxRecDepth 65536 in
set_option maxHeartbeats 40000000 in
theorem segB {p : Program} {l : Launch} {e : Env} {s : State} {m : MethodId} {args : Array Value} {below : List Frame} {meth : Method} {c : Code} {vmS vm0 : Vm} {B : Nat} {Z : State} {a0 : Array Value} (hw : ∀ d ∈ tables_1, d.before a0 Z = true) (wS : ∀ a ∈ Bundle.stringAtoms, a.before a0 Z = true) (hEL : EW Z a0 [("com/example/intackt/intackt/vhost/ExchangeType", 138), ("com/example/intackt/intackt/vhost/ExchangeType", 140), ("java/lang/String", 7)]) (K : Ctx p (s.setVm vm0) m meth c Z x.cls code maxLocals ret x.name room_1 (FW s room_1) B) (hS : s.Since vm0 B) (h0 h : Heap) (n0 : Nat) (zh : n0 ≤ h.size) (CR : CHr Z [("com/example/intackt/intackt/vhost/ExchangeType", 138), ("com/example/intackt/intackt/vhost/ExchangeType", 140), ("java/lang/String", 7)] vmS h0 vm0 h) (odh : Old Z n0 h) (zc : Int32) (S1 : Sta Z Z.heap "java/lang/String" "COMPACT_STRINGS" "Z" (.int zc)) (P1 : ¬ (zc = (0 : Int32))) (ty : Addr) (E_ty : Exa Z h ty "com/example/intackt/intackt/vhost/ExchangeType") (F_or : Fld Z h ty "java/lang/Enum" "ordinal" "I" (.int (2 : Int32))) (p0 p1 p2 sl c0 c1 c2 r0 r1 r2 : Int32) (hsl : ¬ sl < 2) (pn rn : Nat) (hpn : pn ≤ 3) (hrn : rn ≤ 3) (hc0 : ¬ c0 < 0 ∧ c0 < 8) (hc1 : ¬ c1 < 0 ∧ c1 < 8) (hc2 : ¬ c2 < 0 ∧ c2 < 8) (hr0 : ¬ r0 < 0 ∧ r0 < 8) (hr1 : ¬ r1 < 0 ∧ r1 < 8) (hr2 : ¬ r2 < 0 ∧ r2 < 8) (rr : Addr) (kk : ClassId) (V_rr : Arv Z h rr kk .int (3 : Int32) ([r0, r1, r2].map Value.int) (.int 0)) (k n : Nat) (hk : k ≤ 1) (hn : n ≤ 3) :
    Go p l e room_1 (s.setVm vm0) m args below meth c n0 (fun v vm h => v = some (.int 1) ∧ CHr Z [("com/example/intackt/intackt/vhost/ExchangeType", 138), ("com/example/intackt/intackt/vhost/ExchangeType", 140), ("java/lang/String", 7)] vmS h0 vm h) (FW s room_1) B h k n (mkF m 98 #[.val (.int p0), .val (.int p1), .val (.int p2), .val (.int sl), .val (.ref ty), .val (.int (Int32.ofNat pn)), .val (.int c0), .val (.int c1), .val (.int c2), .val (.int (Int32.ofNat rn)), .val (.ref rr), .unset, .unset, .unset, .unset] []) := by
  refine Go.iload K at_98 rfl (pc' := 100) rfl ?_
  refine Go.iload K at_100 rfl (pc' := 102) rfl ?_
  refine Go.iload K at_102 rfl (pc' := 104) rfl ?_
  refine Go.iload K at_104 rfl (pc' := 106) rfl ?_
  refine Go.callSW K hS (y := (⟨"com/example/intackt/intackt/vhost/ExchangeTypeKeyMatchesPinLaw", "words", "(IIII)[Ljava/lang/String;"⟩ : MethodName)) (W := 0) (kc := 19) (nc := 45) (mvT K.cz (hw _ (List.mem_of_getElem? (i := 4) rfl))) (mvT K.cz (hw _ (List.mem_of_getElem? (i := 5) rfl))) (mvT K.cz (hw _ (List.mem_of_getElem? (i := 6) rfl))) (mvT K.cz (hw _ (List.mem_of_getElem? (i := 7) rfl))) (by decide) ((m_ws l Z a0 hw h n0 zh wS hEL _ c0 c1 c2 pn rfl hpn hc0 hc1 hc2 odh zc S1 P1).pays (W := 0) K.cz (hw _ (List.mem_of_getElem? (i := 7) rfl)) (hw _ (List.mem_of_getElem? (i := 6) rfl)) (by decide) (by decide) hEL CR.1) rfl (argsL := [(.int (Int32.ofNat pn)), (.int c0), (.int c1), (.int c2)]) (rest := []) (lenOf pd__28IIII_29_5bLjava_2flang_2fString_3b rfl) rfl (Nat.le_of_ble_eq_true rfl) (by show _ ≤ 64; omega) (by show _ ≤ 3328; omega) frOf at_106 (pc' := 109) rfl ?_
  rintro v951 h949 Lc950 vm952 B953 ⟨⟨⟨pa, ka, xp, rfl, hle1, Kp1, hxp, V_pa, hst⟩, -⟩, -⟩ hrh949 hS K
  have cr954 := CR.trans (hrh949)
  have f955 := E_ty.keep Kp1
  have f956 := F_or.keep Kp1 nin0
  have f957 := V_rr.keep Kp1 nin0
  have od958 := odh.keep Kp1 all0
  have z959 := Nat.le_trans zh Kp1.1
  show Go p l e _ _ m _ below meth c _ _ _ _ h949 _ _ (mkF m 109 #[.val (.int p0), .val (.int p1), .val (.int p2), .val (.int sl), .val (.ref ty), .val (.int (Int32.ofNat pn)), .val (.int c0), .val (.int c1), .val (.int c2), .val (.int (Int32.ofNat rn)), .val (.ref rr), .unset, .unset, .unset, .unset] [(.ref pa)])
  refine Go.astore K at_109 rfl (Ls' := #[.val (.int p0), .val (.int p1), .val (.int p2), .val (.int sl), .val (.ref ty), .val (.int (Int32.ofNat pn)), .val (.int c0), .val (.int c1), .val (.int c2), .val (.int (Int32.ofNat rn)), .val (.ref rr), .val (.ref pa), .unset, .unset, .unset]) rfl (pc' := 111) rfl ?_
  refine Go.iload K at_111 rfl (pc' := 113) rfl ?_
  refine Go.aload K at_113 rfl rfl (pc' := 115) rfl ?_
  refine Go.iconst K (v := 0) at_115 rfl (pc' := 116) rfl ?_
  refine Go.iaload K (v := (.int r0)) f957 ⟨by decide, by decide⟩ rfl at_116 (pc' := 117) rfl ?_
  refine Go.aload K at_117 rfl rfl (pc' := 119) rfl ?_
  refine Go.iconst K (v := 1) at_119 rfl (pc' := 120) rfl ?_
  refine Go.iaload K (v := (.int r1)) f957 ⟨by decide, by decide⟩ rfl at_120 (pc' := 121) rfl ?_
  refine Go.aload K at_121 rfl rfl (pc' := 123) rfl ?_
  refine Go.iconst K (v := 2) at_123 rfl (pc' := 124) rfl ?_
  refine Go.iaload K (v := (.int r2)) f957 ⟨by decide, by decide⟩ rfl at_124 (pc' := 125) rfl ?_
  refine Go.callSW K hS (y := (⟨"com/example/intackt/intackt/vhost/ExchangeTypeKeyMatchesPinLaw", "words", "(IIII)[Ljava/lang/String;"⟩ : MethodName)) (W := 0) (kc := 19) (nc := 45) (mvT K.cz (hw _ (List.mem_of_getElem? (i := 4) rfl))) (mvT K.cz (hw _ (List.mem_of_getElem? (i := 5) rfl))) (mvT K.cz (hw _ (List.mem_of_getElem? (i := 6) rfl))) (mvT K.cz (hw _ (List.mem_of_getElem? (i := 7) rfl))) (by decide) ((m_ws l Z a0 hw h949 n0 z959 wS hEL _ r0 r1 r2 rn rfl hrn hr0 hr1 hr2 od958 zc S1 P1).pays (W := 0) K.cz (hw _ (List.mem_of_getElem? (i := 7) rfl)) (hw _ (List.mem_of_getElem? (i := 6) rfl)) (by decide) (by decide) hEL cr954.1) rfl (argsL := [(.int (Int32.ofNat rn)), (.int r0), (.int r1), (.int r2)]) (rest := []) (lenOf pd__28IIII_29_5bLjava_2flang_2fString_3b rfl) rfl (Nat.le_of_ble_eq_true rfl) (by show _ ≤ 64; omega) (by show _ ≤ 3328; omega) frOf at_125 (pc' := 128) rfl ?_
  rintro v962 h960 Lc961 vm963 B964 ⟨⟨⟨ra, kr, xr, rfl, hle2, Kp2, hxr, V_ra, hsr⟩, -⟩, -⟩ hrh960 hS K
  have cr965 := cr954.trans (hrh960)
  have f966 := f955.keep Kp2
  have f967 := f956.keep Kp2 nin0
  have f968 := f957.keep Kp2 nin0
  have f969 := V_pa.keep Kp2 nin0
  have od970 := od958.keep Kp2 all0
  have z971 := Nat.le_trans z959 Kp2.1
  have hst2 := fun i hi => (hst i hi).keep0 Kp2
  show Go p l e _ _ m _ below meth c _ _ _ _ h960 _ _ (mkF m 128 #[.val (.int p0), .val (.int p1), .val (.int p2), .val (.int sl), .val (.ref ty), .val (.int (Int32.ofNat pn)), .val (.int c0), .val (.int c1), .val (.int c2), .val (.int (Int32.ofNat rn)), .val (.ref rr), .val (.ref pa), .unset, .unset, .unset] [(.ref ra)])
  refine Go.astore K at_128 rfl (Ls' := #[.val (.int p0), .val (.int p1), .val (.int p2), .val (.int sl), .val (.ref ty), .val (.int (Int32.ofNat pn)), .val (.int c0), .val (.int c1), .val (.int c2), .val (.int (Int32.ofNat rn)), .val (.ref rr), .val (.ref pa), .val (.ref ra), .unset, .unset]) rfl (pc' := 130) rfl ?_
  refine Go.iloadN K at_130 rfl (pc' := 131) rfl ?_
  refine Go.iconst K (v := 2) at_131 rfl (pc' := 132) rfl ?_
  refine Go.icmp K at_132 (by decide) (pcT := 141) (pcF := 135) (by decide) rfl (fun h132 => ?_) (fun h132 => ?_)
  · replace h132 : ¬ sl < (2 : Int32) := h132
    have hrl : ([r0, r1, r2] : List Int32).length = 3 := rfl
    rcases (by omega : pn = 0 ∨ pn = 1 ∨ pn = 2 ∨ pn = 3) with rfl | rfl | rfl | rfl
    · refine Go.iload K at_141 rfl (pc' := 143) rfl ?_
      refine Go.ifc K at_143 (by decide) (pcT := 161) (pcF := 146) (by decide) rfl (fun h143 => ?_) (fun h143 => ?_)
      · replace h143 : ¬ (Int32.ofNat 0) = 0 := h143
        exact absurd rfl h143
      · replace h143 : ¬ (¬ (Int32.ofNat 0) = 0) := h143
        refine Go.iload K at_146 rfl (pc' := 148) rfl ?_
        refine Go.ifc K at_148 (by decide) (pcT := 155) (pcF := 151) (by decide) rfl (fun h148 => ?_) (fun h148 => ?_)
        · replace h148 : ¬ (Int32.ofNat rn) = 0 := h148
          have hz : ¬ rn = 0 := fun q => h148 (by rw [q]; rfl)
          refine Go.iconst K (v := 0) at_155 rfl (pc' := 156) rfl ?_
          refine Go.istore K at_156 (Ls' := #[.val (.int p0), .val (.int p1), .val (.int p2), .val (.int sl), .val (.ref ty), .val (.int (Int32.ofNat 0)), .val (.int c0), .val (.int c1), .val (.int c2), .val (.int (Int32.ofNat rn)), .val (.ref rr), .val (.ref pa), .val (.ref ra), .val (.int (0 : Int32)), .unset]) rfl (pc' := 158) rfl ?_
          refine Go.goto K at_158 (pc' := 221) (by decide) (by decide) ?_
          refine Go.aload K at_221 rfl rfl (pc' := 223) rfl ?_
          refine Go.aload K at_223 rfl rfl (pc' := 225) rfl ?_
          refine Go.aload K at_225 rfl rfl (pc' := 227) rfl ?_
          have hhb : ∀ i, i < 0 → (at3 false false false) i = decide (Wd ([c0, c1, c2].getD i 0) = [35]) := fun i hi => match i, hi with
            | i, hi => absurd hi (by omega)
          have heb : ∀ j, j < rn → ∀ i, i < 0 → (at9 false false false false false false false false false) j i = (decide (Wd ([c0, c1, c2].getD i 0) = [42]) || decide (Wd ([c0, c1, c2].getD i 0) = Wd ([r0, r1, r2].getD j 0))) := fun j hj i hi => match j, (show j < 3 by omega), i, hi with
            | _, _, i, hi => absurd hi (by omega)
          refine Go.callVW K hS (y := (⟨"com/example/intackt/intackt/vhost/ExchangeType", "keyMatches", "([Ljava/lang/String;[Ljava/lang/String;)Z"⟩ : MethodName)) (z := (⟨"com/example/intackt/intackt/vhost/ExchangeType", "keyMatches", "([Ljava/lang/String;[Ljava/lang/String;)Z"⟩ : MethodName)) (W := 0) (kc := 16) (nc := 64) (a := ty) (mvT K.cz (hw _ (List.mem_of_getElem? (i := 42) rfl))) (mvT K.cz (hw _ (List.mem_of_getElem? (i := 43) rfl))) (notFace_of_selects (args := #[]) (mvT K.cz (hw _ (List.mem_of_getElem? (i := 45) rfl)))) (mvT K.cz (hw _ (List.mem_of_getElem? (i := 45) rfl))) (mvT K.cz (hw _ (List.mem_of_getElem? (i := 44) rfl))) (by decide) f966 ((m_km2 l Z a0 hw h960 n0 z971 wS hEL ty f966 f967 od970 zc S1 P1 0 hpn xp hxp (fun i => Wd ([c0, c1, c2].getD i 0)) (own_wdB hc0 hc1 hc2) pa ka f969 hst2 (at3 false false false) hhb ra kr rn hrn xr hxr (fun i => Wd ([r0, r1, r2].getD i 0)) (own_wdB hr0 hr1 hr2) V_ra hsr (at9 false false false false false false false false false) heb (false) ((law0 ⟨rn, by omega⟩ ).trans (decide_eq_false hz))).pays (W := 0) K.cz (hw _ (List.mem_of_getElem? (i := 46) rfl)) (hw _ (List.mem_of_getElem? (i := 1) rfl)) (by decide) (by decide) hEL cr965.1) rfl (argsL := [(.ref pa), (.ref ra)]) (rest := []) (lenOf pd__28_5bLjava_2flang_2fString_3b_5bLjava_2flang_2fString_3b_29Z rfl) rfl (Nat.le_of_ble_eq_true rfl) (by show _ ≤ 64; omega) (by show _ ≤ 3328; omega) frOf at_227 (pc' := 230) rfl ?_
          rintro v974 h972 Lc973 vm975 B976 ⟨⟨⟨rfl, Kq⟩, -⟩, -⟩ hrh972 hS K
          have CR9 := cr965.trans hrh972
          show Go p l e _ _ m _ below meth c _ _ _ _ h972 _ _ (mkF m 230 #[.val (.int p0), .val (.int p1), .val (.int p2), .val (.int sl), .val (.ref ty), .val (.int (Int32.ofNat 0)), .val (.int c0), .val (.int c1), .val (.int c2), .val (.int (Int32.ofNat rn)), .val (.ref rr), .val (.ref pa), .val (.ref ra), .val (.int (0 : Int32)), .unset] [(.int (bi (false)))])
          refine Go.istore K at_230 (Ls' := #[.val (.int p0), .val (.int p1), .val (.int p2), .val (.int sl), .val (.ref ty), .val (.int (Int32.ofNat 0)), .val (.int c0), .val (.int c1), .val (.int c2), .val (.int (Int32.ofNat rn)), .val (.ref rr), .val (.ref pa), .val (.ref ra), .val (.int (0 : Int32)), .val (.int (bi (false)))]) rfl (pc' := 232) rfl ?_
          refine Go.iload K at_232 rfl (pc' := 234) rfl ?_
          refine Go.iload K at_234 rfl (pc' := 236) rfl ?_
          refine Go.icmp K at_236 (by decide) (pcT := 243) (pcF := 239) (by decide) rfl (fun h236 => ?_) (fun h236 => ?_)
          · replace h236 : ¬ (bi (false)) = (0 : Int32) := h236
            exact absurd rfl h236
          · replace h236 : ¬ (¬ (bi (false)) = (0 : Int32)) := h236
            refine Go.iconst K (v := 1) at_239 rfl (pc' := 240) rfl ?_
            refine Go.goto K at_240 (pc' := 244) (by decide) (by decide) ?_
            exact Go.retN K (by simp) (by show _ ≤ 64; omega) (by show _ ≤ 3328; omega) at_244 (own_end hEL K.cz CR9 rfl)
        · replace h148 : ¬ (¬ (Int32.ofNat rn) = 0) := h148
          have hz : rn = 0 := own_inj (n := 0) (by decide) (by omega) (Decidable.not_not.mp h148)
          refine Go.iconst K (v := 1) at_151 rfl (pc' := 152) rfl ?_
          refine Go.goto K at_152 (pc' := 156) (by decide) (by decide) ?_
          refine Go.istore K at_156 (Ls' := #[.val (.int p0), .val (.int p1), .val (.int p2), .val (.int sl), .val (.ref ty), .val (.int (Int32.ofNat 0)), .val (.int c0), .val (.int c1), .val (.int c2), .val (.int (Int32.ofNat rn)), .val (.ref rr), .val (.ref pa), .val (.ref ra), .val (.int (1 : Int32)), .unset]) rfl (pc' := 158) rfl ?_
          refine Go.goto K at_158 (pc' := 221) (by decide) (by decide) ?_
          refine Go.aload K at_221 rfl rfl (pc' := 223) rfl ?_
          refine Go.aload K at_223 rfl rfl (pc' := 225) rfl ?_
          refine Go.aload K at_225 rfl rfl (pc' := 227) rfl ?_
          have hhb : ∀ i, i < 0 → (at3 false false false) i = decide (Wd ([c0, c1, c2].getD i 0) = [35]) := fun i hi => match i, hi with
            | i, hi => absurd hi (by omega)
          have heb : ∀ j, j < rn → ∀ i, i < 0 → (at9 false false false false false false false false false) j i = (decide (Wd ([c0, c1, c2].getD i 0) = [42]) || decide (Wd ([c0, c1, c2].getD i 0) = Wd ([r0, r1, r2].getD j 0))) := fun j hj i hi => match j, (show j < 3 by omega), i, hi with
            | _, _, i, hi => absurd hi (by omega)
          refine Go.callVW K hS (y := (⟨"com/example/intackt/intackt/vhost/ExchangeType", "keyMatches", "([Ljava/lang/String;[Ljava/lang/String;)Z"⟩ : MethodName)) (z := (⟨"com/example/intackt/intackt/vhost/ExchangeType", "keyMatches", "([Ljava/lang/String;[Ljava/lang/String;)Z"⟩ : MethodName)) (W := 0) (kc := 16) (nc := 64) (a := ty) (mvT K.cz (hw _ (List.mem_of_getElem? (i := 42) rfl))) (mvT K.cz (hw _ (List.mem_of_getElem? (i := 43) rfl))) (notFace_of_selects (args := #[]) (mvT K.cz (hw _ (List.mem_of_getElem? (i := 45) rfl)))) (mvT K.cz (hw _ (List.mem_of_getElem? (i := 45) rfl))) (mvT K.cz (hw _ (List.mem_of_getElem? (i := 44) rfl))) (by decide) f966 ((m_km2 l Z a0 hw h960 n0 z971 wS hEL ty f966 f967 od970 zc S1 P1 0 hpn xp hxp (fun i => Wd ([c0, c1, c2].getD i 0)) (own_wdB hc0 hc1 hc2) pa ka f969 hst2 (at3 false false false) hhb ra kr rn hrn xr hxr (fun i => Wd ([r0, r1, r2].getD i 0)) (own_wdB hr0 hr1 hr2) V_ra hsr (at9 false false false false false false false false false) heb (true) ((law0 ⟨rn, by omega⟩ ).trans (decide_eq_true hz))).pays (W := 0) K.cz (hw _ (List.mem_of_getElem? (i := 46) rfl)) (hw _ (List.mem_of_getElem? (i := 1) rfl)) (by decide) (by decide) hEL cr965.1) rfl (argsL := [(.ref pa), (.ref ra)]) (rest := []) (lenOf pd__28_5bLjava_2flang_2fString_3b_5bLjava_2flang_2fString_3b_29Z rfl) rfl (Nat.le_of_ble_eq_true rfl) (by show _ ≤ 64; omega) (by show _ ≤ 3328; omega) frOf at_227 (pc' := 230) rfl ?_
          rintro v979 h977 Lc978 vm980 B981 ⟨⟨⟨rfl, Kq⟩, -⟩, -⟩ hrh977 hS K
          have CR9 := cr965.trans hrh977
          show Go p l e _ _ m _ below meth c _ _ _ _ h977 _ _ (mkF m 230 #[.val (.int p0), .val (.int p1), .val (.int p2), .val (.int sl), .val (.ref ty), .val (.int (Int32.ofNat 0)), .val (.int c0), .val (.int c1), .val (.int c2), .val (.int (Int32.ofNat rn)), .val (.ref rr), .val (.ref pa), .val (.ref ra), .val (.int (1 : Int32)), .unset] [(.int (bi (true)))])
          refine Go.istore K at_230 (Ls' := #[.val (.int p0), .val (.int p1), .val (.int p2), .val (.int sl), .val (.ref ty), .val (.int (Int32.ofNat 0)), .val (.int c0), .val (.int c1), .val (.int c2), .val (.int (Int32.ofNat rn)), .val (.ref rr), .val (.ref pa), .val (.ref ra), .val (.int (1 : Int32)), .val (.int (bi (true)))]) rfl (pc' := 232) rfl ?_
          refine Go.iload K at_232 rfl (pc' := 234) rfl ?_
          refine Go.iload K at_234 rfl (pc' := 236) rfl ?_
          refine Go.icmp K at_236 (by decide) (pcT := 243) (pcF := 239) (by decide) rfl (fun h236 => ?_) (fun h236 => ?_)
          · replace h236 : ¬ (bi (true)) = (1 : Int32) := h236
            exact absurd rfl h236
          · replace h236 : ¬ (¬ (bi (true)) = (1 : Int32)) := h236
            refine Go.iconst K (v := 1) at_239 rfl (pc' := 240) rfl ?_
            refine Go.goto K at_240 (pc' := 244) (by decide) (by decide) ?_
            exact Go.retN K (by simp) (by show _ ≤ 64; omega) (by show _ ≤ 3328; omega) at_244 (own_end hEL K.cz CR9 rfl)
    · refine Go.iload K at_141 rfl (pc' := 143) rfl ?_
      refine Go.ifc K at_143 (by decide) (pcT := 161) (pcF := 146) (by decide) rfl (fun h143 => ?_) (fun h143 => ?_)
      · replace h143 : ¬ (Int32.ofNat 1) = 0 := h143
        refine Go.iload K at_161 rfl (pc' := 163) rfl ?_
        refine Go.iconst K (v := 1) at_163 rfl (pc' := 164) rfl ?_
        refine Go.icmp K at_164 (by decide) (pcT := 182) (pcF := 167) (by decide) rfl (fun h164 => ?_) (fun h164 => ?_)
        · replace h164 : ¬ (Int32.ofNat 1) = (1 : Int32) := h164
          exact absurd rfl h164
        · replace h164 : ¬ (¬ (Int32.ofNat 1) = (1 : Int32)) := h164
          refine Go.iload K at_167 rfl (pc' := 169) rfl ?_
          refine Go.aload K at_169 rfl rfl (pc' := 171) rfl ?_
          refine Go.iload K at_171 rfl (pc' := 173) rfl ?_
          refine Go.iconst K (v := 0) at_173 rfl (pc' := 174) rfl ?_
          refine Go.callS K (y := (⟨"com/example/intackt/intackt/vhost/ExchangeTypeKeyMatchesPinLaw", "m1", "(I[III)Z"⟩ : MethodName)) (W := 0) (kc := 0) (nc := 0) (mvT K.cz (hw _ (List.mem_of_getElem? (i := 91) rfl))) (mvT K.cz (hw _ (List.mem_of_getElem? (i := 92) rfl))) (mvT K.cz (hw _ (List.mem_of_getElem? (i := 6) rfl))) (mvT K.cz (hw _ (List.mem_of_getElem? (i := 93) rfl))) (by decide) ((m_m1 l Z a0 hw h960 n0 z971 c0 rr kk [r0, r1, r2] hrl f968 _ _ rn 0 rfl rfl hrn (by decide)).pays (W := 0) K.cz (hw _ (List.mem_of_getElem? (i := 93) rfl)) (hw _ (List.mem_of_getElem? (i := 6) rfl)) (by decide) (by decide)) rfl (argsL := [(.int c0), (.ref rr), (.int (Int32.ofNat rn)), (.int (0 : Int32))]) (rest := []) (lenOf pd__28I_5bIII_29Z rfl) rfl (Nat.le_of_ble_eq_true rfl) (by show _ ≤ 64; omega) (by show _ ≤ 3328; omega) frOf grOf at_174 (pc' := 177) rfl ?_
          rintro v984 h982 Lc983 ⟨⟨⟨rfl, eh⟩, -⟩, -⟩
          obtain rfl := eh
          show Go p l e _ _ m _ below meth c _ _ _ _ h960 _ _ (mkF m 177 #[.val (.int p0), .val (.int p1), .val (.int p2), .val (.int sl), .val (.ref ty), .val (.int (Int32.ofNat 1)), .val (.int c0), .val (.int c1), .val (.int c2), .val (.int (Int32.ofNat rn)), .val (.ref rr), .val (.ref pa), .val (.ref ra), .unset, .unset] [(.int (bi (M1 c0 [r0, r1, r2] rn 0)))])
          refine Go.istore K at_177 (Ls' := #[.val (.int p0), .val (.int p1), .val (.int p2), .val (.int sl), .val (.ref ty), .val (.int (Int32.ofNat 1)), .val (.int c0), .val (.int c1), .val (.int c2), .val (.int (Int32.ofNat rn)), .val (.ref rr), .val (.ref pa), .val (.ref ra), .val (.int (bi (M1 c0 [r0, r1, r2] rn 0))), .unset]) rfl (pc' := 179) rfl ?_
          refine Go.goto K at_179 (pc' := 221) (by decide) (by decide) ?_
          refine Go.aload K at_221 rfl rfl (pc' := 223) rfl ?_
          refine Go.aload K at_223 rfl rfl (pc' := 225) rfl ?_
          refine Go.aload K at_225 rfl rfl (pc' := 227) rfl ?_
          have hhb : ∀ i, i < 1 → (at3 (decide (c0 = 0)) false false) i = decide (Wd ([c0, c1, c2].getD i 0) = [35]) := fun i hi => match i, hi with
            | 0, _ => own_h hc0
            | i + 1, hi => absurd hi (by omega)
          have heb : ∀ j, j < rn → ∀ i, i < 1 → (at9 (sg c0 r0) false false (sg c0 r1) false false (sg c0 r2) false false) j i = (decide (Wd ([c0, c1, c2].getD i 0) = [42]) || decide (Wd ([c0, c1, c2].getD i 0) = Wd ([r0, r1, r2].getD j 0))) := fun j hj i hi => match j, (show j < 3 by omega), i, hi with
            | 0, _, 0, _ => own_e hc0 hr0
            | 1, _, 0, _ => own_e hc0 hr1
            | 2, _, 0, _ => own_e hc0 hr2
            | j + 3, hj, _, _ => absurd hj (by omega)
            | 0, _, i + 1, hi => absurd hi (by omega)
            | 1, _, i + 1, hi => absurd hi (by omega)
            | 2, _, i + 1, hi => absurd hi (by omega)
          refine Go.callVW K hS (y := (⟨"com/example/intackt/intackt/vhost/ExchangeType", "keyMatches", "([Ljava/lang/String;[Ljava/lang/String;)Z"⟩ : MethodName)) (z := (⟨"com/example/intackt/intackt/vhost/ExchangeType", "keyMatches", "([Ljava/lang/String;[Ljava/lang/String;)Z"⟩ : MethodName)) (W := 0) (kc := 16) (nc := 64) (a := ty) (mvT K.cz (hw _ (List.mem_of_getElem? (i := 42) rfl))) (mvT K.cz (hw _ (List.mem_of_getElem? (i := 43) rfl))) (notFace_of_selects (args := #[]) (mvT K.cz (hw _ (List.mem_of_getElem? (i := 45) rfl)))) (mvT K.cz (hw _ (List.mem_of_getElem? (i := 45) rfl))) (mvT K.cz (hw _ (List.mem_of_getElem? (i := 44) rfl))) (by decide) f966 ((m_km2 l Z a0 hw h960 n0 z971 wS hEL ty f966 f967 od970 zc S1 P1 1 hpn xp hxp (fun i => Wd ([c0, c1, c2].getD i 0)) (own_wdB hc0 hc1 hc2) pa ka f969 hst2 (at3 (decide (c0 = 0)) false false) hhb ra kr rn hrn xr hxr (fun i => Wd ([r0, r1, r2].getD i 0)) (own_wdB hr0 hr1 hr2) V_ra hsr (at9 (sg c0 r0) false false (sg c0 r1) false false (sg c0 r2) false false) heb (M1 c0 [r0, r1, r2] rn 0) ((law1 ⟨rn, by omega⟩ _ _ _ _).trans ((M1B_c (e0 := fun s => (at9 (sg c0 r0) false false (sg c0 r1) false false (sg c0 r2) false false) s 0) (f0 := fun s => sg c0 ([r0, r1, r2].getD s 0)) (fun t ht => match t, (show t < 3 by omega) with | 0, _ => rfl | 1, _ => rfl | 2, _ => rfl | t + 3, q => absurd q (by omega))).trans (M1_eq c0 [r0, r1, r2] rn 0).symm))).pays (W := 0) K.cz (hw _ (List.mem_of_getElem? (i := 46) rfl)) (hw _ (List.mem_of_getElem? (i := 1) rfl)) (by decide) (by decide) hEL cr965.1) rfl (argsL := [(.ref pa), (.ref ra)]) (rest := []) (lenOf pd__28_5bLjava_2flang_2fString_3b_5bLjava_2flang_2fString_3b_29Z rfl) rfl (Nat.le_of_ble_eq_true rfl) (by show _ ≤ 64; omega) (by show _ ≤ 3328; omega) frOf at_227 (pc' := 230) rfl ?_
          rintro v987 h985 Lc986 vm988 B989 ⟨⟨⟨rfl, Kq⟩, -⟩, -⟩ hrh985 hS K
          have CR9 := cr965.trans hrh985
          show Go p l e _ _ m _ below meth c _ _ _ _ h985 _ _ (mkF m 230 #[.val (.int p0), .val (.int p1), .val (.int p2), .val (.int sl), .val (.ref ty), .val (.int (Int32.ofNat 1)), .val (.int c0), .val (.int c1), .val (.int c2), .val (.int (Int32.ofNat rn)), .val (.ref rr), .val (.ref pa), .val (.ref ra), .val (.int (bi (M1 c0 [r0, r1, r2] rn 0))), .unset] [(.int (bi (M1 c0 [r0, r1, r2] rn 0)))])
          refine Go.istore K at_230 (Ls' := #[.val (.int p0), .val (.int p1), .val (.int p2), .val (.int sl), .val (.ref ty), .val (.int (Int32.ofNat 1)), .val (.int c0), .val (.int c1), .val (.int c2), .val (.int (Int32.ofNat rn)), .val (.ref rr), .val (.ref pa), .val (.ref ra), .val (.int (bi (M1 c0 [r0, r1, r2] rn 0))), .val (.int (bi (M1 c0 [r0, r1, r2] rn 0)))]) rfl (pc' := 232) rfl ?_
          refine Go.iload K at_232 rfl (pc' := 234) rfl ?_
          refine Go.iload K at_234 rfl (pc' := 236) rfl ?_
          refine Go.icmp K at_236 (by decide) (pcT := 243) (pcF := 239) (by decide) rfl (fun h236 => ?_) (fun h236 => ?_)
          · replace h236 : ¬ (bi (M1 c0 [r0, r1, r2] rn 0)) = (bi (M1 c0 [r0, r1, r2] rn 0)) := h236
            exact absurd rfl h236
          · replace h236 : ¬ (¬ (bi (M1 c0 [r0, r1, r2] rn 0)) = (bi (M1 c0 [r0, r1, r2] rn 0))) := h236
            refine Go.iconst K (v := 1) at_239 rfl (pc' := 240) rfl ?_
            refine Go.goto K at_240 (pc' := 244) (by decide) (by decide) ?_
            exact Go.retN K (by simp) (by show _ ≤ 64; omega) (by show _ ≤ 3328; omega) at_244 (own_end hEL K.cz CR9 rfl)
      · replace h143 : ¬ (¬ (Int32.ofNat 1) = 0) := h143
        exact absurd (by decide) h143
    · refine Go.iload K at_141 rfl (pc' := 143) rfl ?_
      refine Go.ifc K at_143 (by decide) (pcT := 161) (pcF := 146) (by decide) rfl (fun h143 => ?_) (fun h143 => ?_)
      · replace h143 : ¬ (Int32.ofNat 2) = 0 := h143
        refine Go.iload K at_161 rfl (pc' := 163) rfl ?_
        refine Go.iconst K (v := 1) at_163 rfl (pc' := 164) rfl ?_
        refine Go.icmp K at_164 (by decide) (pcT := 182) (pcF := 167) (by decide) rfl (fun h164 => ?_) (fun h164 => ?_)
        · replace h164 : ¬ (Int32.ofNat 2) = (1 : Int32) := h164
          refine Go.iload K at_182 rfl (pc' := 184) rfl ?_
          refine Go.iconst K (v := 2) at_184 rfl (pc' := 185) rfl ?_
          refine Go.icmp K at_185 (by decide) (pcT := 205) (pcF := 188) (by decide) rfl (fun h185 => ?_) (fun h185 => ?_)
          · replace h185 : ¬ (Int32.ofNat 2) = (2 : Int32) := h185
            exact absurd rfl h185
          · replace h185 : ¬ (¬ (Int32.ofNat 2) = (2 : Int32)) := h185
            refine Go.iload K at_188 rfl (pc' := 190) rfl ?_
            refine Go.iload K at_190 rfl (pc' := 192) rfl ?_
            refine Go.aload K at_192 rfl rfl (pc' := 194) rfl ?_
            refine Go.iload K at_194 rfl (pc' := 196) rfl ?_
            refine Go.iconst K (v := 0) at_196 rfl (pc' := 197) rfl ?_
            refine Go.callS K (y := (⟨"com/example/intackt/intackt/vhost/ExchangeTypeKeyMatchesPinLaw", "m2", "(II[III)Z"⟩ : MethodName)) (W := 0) (kc := 0) (nc := 0) (mvT K.cz (hw _ (List.mem_of_getElem? (i := 88) rfl))) (mvT K.cz (hw _ (List.mem_of_getElem? (i := 89) rfl))) (mvT K.cz (hw _ (List.mem_of_getElem? (i := 6) rfl))) (mvT K.cz (hw _ (List.mem_of_getElem? (i := 90) rfl))) (by decide) ((m_m2 l Z a0 hw h960 n0 z971 c0 c1 rr kk [r0, r1, r2] hrl f968 _ _ rn 0 rfl rfl hrn (by decide)).pays (W := 0) K.cz (hw _ (List.mem_of_getElem? (i := 90) rfl)) (hw _ (List.mem_of_getElem? (i := 6) rfl)) (by decide) (by decide)) rfl (argsL := [(.int c0), (.int c1), (.ref rr), (.int (Int32.ofNat rn)), (.int (0 : Int32))]) (rest := []) (lenOf pd__28II_5bIII_29Z rfl) rfl (Nat.le_of_ble_eq_true rfl) (by show _ ≤ 64; omega) (by show _ ≤ 3328; omega) frOf grOf at_197 (pc' := 200) rfl ?_
            rintro v992 h990 Lc991 ⟨⟨⟨rfl, eh⟩, -⟩, -⟩
            obtain rfl := eh
            show Go p l e _ _ m _ below meth c _ _ _ _ h960 _ _ (mkF m 200 #[.val (.int p0), .val (.int p1), .val (.int p2), .val (.int sl), .val (.ref ty), .val (.int (Int32.ofNat 2)), .val (.int c0), .val (.int c1), .val (.int c2), .val (.int (Int32.ofNat rn)), .val (.ref rr), .val (.ref pa), .val (.ref ra), .unset, .unset] [(.int (bi (M2 c0 c1 [r0, r1, r2] rn 0)))])
            refine Go.istore K at_200 (Ls' := #[.val (.int p0), .val (.int p1), .val (.int p2), .val (.int sl), .val (.ref ty), .val (.int (Int32.ofNat 2)), .val (.int c0), .val (.int c1), .val (.int c2), .val (.int (Int32.ofNat rn)), .val (.ref rr), .val (.ref pa), .val (.ref ra), .val (.int (bi (M2 c0 c1 [r0, r1, r2] rn 0))), .unset]) rfl (pc' := 202) rfl ?_
            refine Go.goto K at_202 (pc' := 221) (by decide) (by decide) ?_
            refine Go.aload K at_221 rfl rfl (pc' := 223) rfl ?_
            refine Go.aload K at_223 rfl rfl (pc' := 225) rfl ?_
            refine Go.aload K at_225 rfl rfl (pc' := 227) rfl ?_
            have hhb : ∀ i, i < 2 → (at3 (decide (c0 = 0)) (decide (c1 = 0)) false) i = decide (Wd ([c0, c1, c2].getD i 0) = [35]) := fun i hi => match i, hi with
              | 0, _ => own_h hc0
              | 1, _ => own_h hc1
              | i + 2, hi => absurd hi (by omega)
            have heb : ∀ j, j < rn → ∀ i, i < 2 → (at9 (sg c0 r0) (sg c1 r0) false (sg c0 r1) (sg c1 r1) false (sg c0 r2) (sg c1 r2) false) j i = (decide (Wd ([c0, c1, c2].getD i 0) = [42]) || decide (Wd ([c0, c1, c2].getD i 0) = Wd ([r0, r1, r2].getD j 0))) := fun j hj i hi => match j, (show j < 3 by omega), i, hi with
              | 0, _, 0, _ => own_e hc0 hr0
              | 0, _, 1, _ => own_e hc1 hr0
              | 1, _, 0, _ => own_e hc0 hr1
              | 1, _, 1, _ => own_e hc1 hr1
              | 2, _, 0, _ => own_e hc0 hr2
              | 2, _, 1, _ => own_e hc1 hr2
              | j + 3, hj, _, _ => absurd hj (by omega)
              | 0, _, i + 2, hi => absurd hi (by omega)
              | 1, _, i + 2, hi => absurd hi (by omega)
              | 2, _, i + 2, hi => absurd hi (by omega)
            refine Go.callVW K hS (y := (⟨"com/example/intackt/intackt/vhost/ExchangeType", "keyMatches", "([Ljava/lang/String;[Ljava/lang/String;)Z"⟩ : MethodName)) (z := (⟨"com/example/intackt/intackt/vhost/ExchangeType", "keyMatches", "([Ljava/lang/String;[Ljava/lang/String;)Z"⟩ : MethodName)) (W := 0) (kc := 16) (nc := 64) (a := ty) (mvT K.cz (hw _ (List.mem_of_getElem? (i := 42) rfl))) (mvT K.cz (hw _ (List.mem_of_getElem? (i := 43) rfl))) (notFace_of_selects (args := #[]) (mvT K.cz (hw _ (List.mem_of_getElem? (i := 45) rfl)))) (mvT K.cz (hw _ (List.mem_of_getElem? (i := 45) rfl))) (mvT K.cz (hw _ (List.mem_of_getElem? (i := 44) rfl))) (by decide) f966 ((m_km2 l Z a0 hw h960 n0 z971 wS hEL ty f966 f967 od970 zc S1 P1 2 hpn xp hxp (fun i => Wd ([c0, c1, c2].getD i 0)) (own_wdB hc0 hc1 hc2) pa ka f969 hst2 (at3 (decide (c0 = 0)) (decide (c1 = 0)) false) hhb ra kr rn hrn xr hxr (fun i => Wd ([r0, r1, r2].getD i 0)) (own_wdB hr0 hr1 hr2) V_ra hsr (at9 (sg c0 r0) (sg c1 r0) false (sg c0 r1) (sg c1 r1) false (sg c0 r2) (sg c1 r2) false) heb (M2 c0 c1 [r0, r1, r2] rn 0) ((law2 ⟨rn, by omega⟩ _ _ _ _ _ _ _ _).trans ((M2B_c (e0 := fun s => (at9 (sg c0 r0) (sg c1 r0) false (sg c0 r1) (sg c1 r1) false (sg c0 r2) (sg c1 r2) false) s 0) (f0 := fun s => sg c0 ([r0, r1, r2].getD s 0)) (e1 := fun s => (at9 (sg c0 r0) (sg c1 r0) false (sg c0 r1) (sg c1 r1) false (sg c0 r2) (sg c1 r2) false) s 1) (f1 := fun s => sg c1 ([r0, r1, r2].getD s 0)) (fun t ht => match t, (show t < 3 by omega) with | 0, _ => rfl | 1, _ => rfl | 2, _ => rfl | t + 3, q => absurd q (by omega)) (fun t ht => match t, (show t < 3 by omega) with | 0, _ => rfl | 1, _ => rfl | 2, _ => rfl | t + 3, q => absurd q (by omega))).trans (M2_eq c0 c1 [r0, r1, r2] rn 0).symm))).pays (W := 0) K.cz (hw _ (List.mem_of_getElem? (i := 46) rfl)) (hw _ (List.mem_of_getElem? (i := 1) rfl)) (by decide) (by decide) hEL cr965.1) rfl (argsL := [(.ref pa), (.ref ra)]) (rest := []) (lenOf pd__28_5bLjava_2flang_2fString_3b_5bLjava_2flang_2fString_3b_29Z rfl) rfl (Nat.le_of_ble_eq_true rfl) (by show _ ≤ 64; omega) (by show _ ≤ 3328; omega) frOf at_227 (pc' := 230) rfl ?_
            rintro v995 h993 Lc994 vm996 B997 ⟨⟨⟨rfl, Kq⟩, -⟩, -⟩ hrh993 hS K
            have CR9 := cr965.trans hrh993
            show Go p l e _ _ m _ below meth c _ _ _ _ h993 _ _ (mkF m 230 #[.val (.int p0), .val (.int p1), .val (.int p2), .val (.int sl), .val (.ref ty), .val (.int (Int32.ofNat 2)), .val (.int c0), .val (.int c1), .val (.int c2), .val (.int (Int32.ofNat rn)), .val (.ref rr), .val (.ref pa), .val (.ref ra), .val (.int (bi (M2 c0 c1 [r0, r1, r2] rn 0))), .unset] [(.int (bi (M2 c0 c1 [r0, r1, r2] rn 0)))])
            refine Go.istore K at_230 (Ls' := #[.val (.int p0), .val (.int p1), .val (.int p2), .val (.int sl), .val (.ref ty), .val (.int (Int32.ofNat 2)), .val (.int c0), .val (.int c1), .val (.int c2), .val (.int (Int32.ofNat rn)), .val (.ref rr), .val (.ref pa), .val (.ref ra), .val (.int (bi (M2 c0 c1 [r0, r1, r2] rn 0))), .val (.int (bi (M2 c0 c1 [r0, r1, r2] rn 0)))]) rfl (pc' := 232) rfl ?_
            refine Go.iload K at_232 rfl (pc' := 234) rfl ?_
            refine Go.iload K at_234 rfl (pc' := 236) rfl ?_
            refine Go.icmp K at_236 (by decide) (pcT := 243) (pcF := 239) (by decide) rfl (fun h236 => ?_) (fun h236 => ?_)
            · replace h236 : ¬ (bi (M2 c0 c1 [r0, r1, r2] rn 0)) = (bi (M2 c0 c1 [r0, r1, r2] rn 0)) := h236
              exact absurd rfl h236
            · replace h236 : ¬ (¬ (bi (M2 c0 c1 [r0, r1, r2] rn 0)) = (bi (M2 c0 c1 [r0, r1, r2] rn 0))) := h236
              refine Go.iconst K (v := 1) at_239 rfl (pc' := 240) rfl ?_
              refine Go.goto K at_240 (pc' := 244) (by decide) (by decide) ?_
              exact Go.retN K (by simp) (by show _ ≤ 64; omega) (by show _ ≤ 3328; omega) at_244 (own_end hEL K.cz CR9 rfl)
        · replace h164 : ¬ (¬ (Int32.ofNat 2) = (1 : Int32)) := h164
          exact absurd (by decide) h164
      · replace h143 : ¬ (¬ (Int32.ofNat 2) = 0) := h143
        exact absurd (by decide) h143
    · refine Go.iload K at_141 rfl (pc' := 143) rfl ?_
      refine Go.ifc K at_143 (by decide) (pcT := 161) (pcF := 146) (by decide) rfl (fun h143 => ?_) (fun h143 => ?_)
      · replace h143 : ¬ (Int32.ofNat 3) = 0 := h143
        refine Go.iload K at_161 rfl (pc' := 163) rfl ?_
        refine Go.iconst K (v := 1) at_163 rfl (pc' := 164) rfl ?_
        refine Go.icmp K at_164 (by decide) (pcT := 182) (pcF := 167) (by decide) rfl (fun h164 => ?_) (fun h164 => ?_)
        · replace h164 : ¬ (Int32.ofNat 3) = (1 : Int32) := h164
          refine Go.iload K at_182 rfl (pc' := 184) rfl ?_
          refine Go.iconst K (v := 2) at_184 rfl (pc' := 185) rfl ?_
          refine Go.icmp K at_185 (by decide) (pcT := 205) (pcF := 188) (by decide) rfl (fun h185 => ?_) (fun h185 => ?_)
          · replace h185 : ¬ (Int32.ofNat 3) = (2 : Int32) := h185
            refine Go.iload K at_205 rfl (pc' := 207) rfl ?_
            refine Go.iload K at_207 rfl (pc' := 209) rfl ?_
            refine Go.iload K at_209 rfl (pc' := 211) rfl ?_
            refine Go.aload K at_211 rfl rfl (pc' := 213) rfl ?_
            refine Go.iload K at_213 rfl (pc' := 215) rfl ?_
            refine Go.iconst K (v := 0) at_215 rfl (pc' := 216) rfl ?_
            refine Go.callS K (y := (⟨"com/example/intackt/intackt/vhost/ExchangeTypeKeyMatchesPinLaw", "m3", "(III[III)Z"⟩ : MethodName)) (W := 0) (kc := 0) (nc := 0) (mvT K.cz (hw _ (List.mem_of_getElem? (i := 67) rfl))) (mvT K.cz (hw _ (List.mem_of_getElem? (i := 68) rfl))) (mvT K.cz (hw _ (List.mem_of_getElem? (i := 6) rfl))) (mvT K.cz (hw _ (List.mem_of_getElem? (i := 69) rfl))) (by decide) ((m_m3 l Z a0 hw h960 n0 z971 c0 c1 c2 rr kk [r0, r1, r2] hrl f968 _ _ rn 0 rfl rfl hrn (by decide)).pays (W := 0) K.cz (hw _ (List.mem_of_getElem? (i := 69) rfl)) (hw _ (List.mem_of_getElem? (i := 6) rfl)) (by decide) (by decide)) rfl (argsL := [(.int c0), (.int c1), (.int c2), (.ref rr), (.int (Int32.ofNat rn)), (.int (0 : Int32))]) (rest := []) (lenOf pd__28III_5bIII_29Z rfl) rfl (Nat.le_of_ble_eq_true rfl) (by show _ ≤ 64; omega) (by show _ ≤ 3328; omega) frOf grOf at_216 (pc' := 219) rfl ?_
            rintro v1000 h998 Lc999 ⟨⟨⟨rfl, eh⟩, -⟩, -⟩
            obtain rfl := eh
            show Go p l e _ _ m _ below meth c _ _ _ _ h960 _ _ (mkF m 219 #[.val (.int p0), .val (.int p1), .val (.int p2), .val (.int sl), .val (.ref ty), .val (.int (Int32.ofNat 3)), .val (.int c0), .val (.int c1), .val (.int c2), .val (.int (Int32.ofNat rn)), .val (.ref rr), .val (.ref pa), .val (.ref ra), .unset, .unset] [(.int (bi (M3 c0 c1 c2 [r0, r1, r2] rn 0)))])
            refine Go.istore K at_219 (Ls' := #[.val (.int p0), .val (.int p1), .val (.int p2), .val (.int sl), .val (.ref ty), .val (.int (Int32.ofNat 3)), .val (.int c0), .val (.int c1), .val (.int c2), .val (.int (Int32.ofNat rn)), .val (.ref rr), .val (.ref pa), .val (.ref ra), .val (.int (bi (M3 c0 c1 c2 [r0, r1, r2] rn 0))), .unset]) rfl (pc' := 221) rfl ?_
            refine Go.aload K at_221 rfl rfl (pc' := 223) rfl ?_
            refine Go.aload K at_223 rfl rfl (pc' := 225) rfl ?_
            refine Go.aload K at_225 rfl rfl (pc' := 227) rfl ?_
            have hhb : ∀ i, i < 3 → (at3 (decide (c0 = 0)) (decide (c1 = 0)) (decide (c2 = 0))) i = decide (Wd ([c0, c1, c2].getD i 0) = [35]) := fun i hi => match i, hi with
              | 0, _ => own_h hc0
              | 1, _ => own_h hc1
              | 2, _ => own_h hc2
              | i + 3, hi => absurd hi (by omega)
            have heb : ∀ j, j < rn → ∀ i, i < 3 → (at9 (sg c0 r0) (sg c1 r0) (sg c2 r0) (sg c0 r1) (sg c1 r1) (sg c2 r1) (sg c0 r2) (sg c1 r2) (sg c2 r2)) j i = (decide (Wd ([c0, c1, c2].getD i 0) = [42]) || decide (Wd ([c0, c1, c2].getD i 0) = Wd ([r0, r1, r2].getD j 0))) := fun j hj i hi => match j, (show j < 3 by omega), i, hi with
              | 0, _, 0, _ => own_e hc0 hr0
              | 0, _, 1, _ => own_e hc1 hr0
              | 0, _, 2, _ => own_e hc2 hr0
              | 1, _, 0, _ => own_e hc0 hr1
              | 1, _, 1, _ => own_e hc1 hr1
              | 1, _, 2, _ => own_e hc2 hr1
              | 2, _, 0, _ => own_e hc0 hr2
              | 2, _, 1, _ => own_e hc1 hr2
              | 2, _, 2, _ => own_e hc2 hr2
              | j + 3, hj, _, _ => absurd hj (by omega)
              | 0, _, i + 3, hi => absurd hi (by omega)
              | 1, _, i + 3, hi => absurd hi (by omega)
              | 2, _, i + 3, hi => absurd hi (by omega)
            refine Go.callVW K hS (y := (⟨"com/example/intackt/intackt/vhost/ExchangeType", "keyMatches", "([Ljava/lang/String;[Ljava/lang/String;)Z"⟩ : MethodName)) (z := (⟨"com/example/intackt/intackt/vhost/ExchangeType", "keyMatches", "([Ljava/lang/String;[Ljava/lang/String;)Z"⟩ : MethodName)) (W := 0) (kc := 16) (nc := 64) (a := ty) (mvT K.cz (hw _ (List.mem_of_getElem? (i := 42) rfl))) (mvT K.cz (hw _ (List.mem_of_getElem? (i := 43) rfl))) (notFace_of_selects (args := #[]) (mvT K.cz (hw _ (List.mem_of_getElem? (i := 45) rfl)))) (mvT K.cz (hw _ (List.mem_of_getElem? (i := 45) rfl))) (mvT K.cz (hw _ (List.mem_of_getElem? (i := 44) rfl))) (by decide) f966 ((m_km2 l Z a0 hw h960 n0 z971 wS hEL ty f966 f967 od970 zc S1 P1 3 hpn xp hxp (fun i => Wd ([c0, c1, c2].getD i 0)) (own_wdB hc0 hc1 hc2) pa ka f969 hst2 (at3 (decide (c0 = 0)) (decide (c1 = 0)) (decide (c2 = 0))) hhb ra kr rn hrn xr hxr (fun i => Wd ([r0, r1, r2].getD i 0)) (own_wdB hr0 hr1 hr2) V_ra hsr (at9 (sg c0 r0) (sg c1 r0) (sg c2 r0) (sg c0 r1) (sg c1 r1) (sg c2 r1) (sg c0 r2) (sg c1 r2) (sg c2 r2)) heb (M3 c0 c1 c2 [r0, r1, r2] rn 0) ((law3 ⟨rn, by omega⟩ _ _ _ _ _ _ _ _ _ _ _ _).trans ((M3B_c (e0 := fun s => (at9 (sg c0 r0) (sg c1 r0) (sg c2 r0) (sg c0 r1) (sg c1 r1) (sg c2 r1) (sg c0 r2) (sg c1 r2) (sg c2 r2)) s 0) (f0 := fun s => sg c0 ([r0, r1, r2].getD s 0)) (e1 := fun s => (at9 (sg c0 r0) (sg c1 r0) (sg c2 r0) (sg c0 r1) (sg c1 r1) (sg c2 r1) (sg c0 r2) (sg c1 r2) (sg c2 r2)) s 1) (f1 := fun s => sg c1 ([r0, r1, r2].getD s 0)) (e2 := fun s => (at9 (sg c0 r0) (sg c1 r0) (sg c2 r0) (sg c0 r1) (sg c1 r1) (sg c2 r1) (sg c0 r2) (sg c1 r2) (sg c2 r2)) s 2) (f2 := fun s => sg c2 ([r0, r1, r2].getD s 0)) (fun t ht => match t, (show t < 3 by omega) with | 0, _ => rfl | 1, _ => rfl | 2, _ => rfl | t + 3, q => absurd q (by omega)) (fun t ht => match t, (show t < 3 by omega) with | 0, _ => rfl | 1, _ => rfl | 2, _ => rfl | t + 3, q => absurd q (by omega)) (fun t ht => match t, (show t < 3 by omega) with | 0, _ => rfl | 1, _ => rfl | 2, _ => rfl | t + 3, q => absurd q (by omega))).trans (M3_eq c0 c1 c2 [r0, r1, r2] rn 0).symm))).pays (W := 0) K.cz (hw _ (List.mem_of_getElem? (i := 46) rfl)) (hw _ (List.mem_of_getElem? (i := 1) rfl)) (by decide) (by decide) hEL cr965.1) rfl (argsL := [(.ref pa), (.ref ra)]) (rest := []) (lenOf pd__28_5bLjava_2flang_2fString_3b_5bLjava_2flang_2fString_3b_29Z rfl) rfl (Nat.le_of_ble_eq_true rfl) (by show _ ≤ 64; omega) (by show _ ≤ 3328; omega) frOf at_227 (pc' := 230) rfl ?_
            rintro v1003 h1001 Lc1002 vm1004 B1005 ⟨⟨⟨rfl, Kq⟩, -⟩, -⟩ hrh1001 hS K
            have CR9 := cr965.trans hrh1001
            show Go p l e _ _ m _ below meth c _ _ _ _ h1001 _ _ (mkF m 230 #[.val (.int p0), .val (.int p1), .val (.int p2), .val (.int sl), .val (.ref ty), .val (.int (Int32.ofNat 3)), .val (.int c0), .val (.int c1), .val (.int c2), .val (.int (Int32.ofNat rn)), .val (.ref rr), .val (.ref pa), .val (.ref ra), .val (.int (bi (M3 c0 c1 c2 [r0, r1, r2] rn 0))), .unset] [(.int (bi (M3 c0 c1 c2 [r0, r1, r2] rn 0)))])
            refine Go.istore K at_230 (Ls' := #[.val (.int p0), .val (.int p1), .val (.int p2), .val (.int sl), .val (.ref ty), .val (.int (Int32.ofNat 3)), .val (.int c0), .val (.int c1), .val (.int c2), .val (.int (Int32.ofNat rn)), .val (.ref rr), .val (.ref pa), .val (.ref ra), .val (.int (bi (M3 c0 c1 c2 [r0, r1, r2] rn 0))), .val (.int (bi (M3 c0 c1 c2 [r0, r1, r2] rn 0)))]) rfl (pc' := 232) rfl ?_
            refine Go.iload K at_232 rfl (pc' := 234) rfl ?_
            refine Go.iload K at_234 rfl (pc' := 236) rfl ?_
            refine Go.icmp K at_236 (by decide) (pcT := 243) (pcF := 239) (by decide) rfl (fun h236 => ?_) (fun h236 => ?_)
            · replace h236 : ¬ (bi (M3 c0 c1 c2 [r0, r1, r2] rn 0)) = (bi (M3 c0 c1 c2 [r0, r1, r2] rn 0)) := h236
              exact absurd rfl h236
            · replace h236 : ¬ (¬ (bi (M3 c0 c1 c2 [r0, r1, r2] rn 0)) = (bi (M3 c0 c1 c2 [r0, r1, r2] rn 0))) := h236
              refine Go.iconst K (v := 1) at_239 rfl (pc' := 240) rfl ?_
              refine Go.goto K at_240 (pc' := 244) (by decide) (by decide) ?_
              exact Go.retN K (by simp) (by show _ ≤ 64; omega) (by show _ ≤ 3328; omega) at_244 (own_end hEL K.cz CR9 rfl)
          · replace h185 : ¬ (¬ (Int32.ofNat 3) = (2 : Int32)) := h185
            exact absurd (by decide) h185
        · replace h164 : ¬ (¬ (Int32.ofNat 3) = (1 : Int32)) := h164
          exact absurd (by decide) h164
      · replace h143 : ¬ (¬ (Int32.ofNat 3) = 0) := h143
        exact absurd (by decide) h143
  · replace h132 : ¬ (¬ sl < (2 : Int32)) := h132
    exact absurd (Decidable.not_not.mp h132) hsl
theorem ef_law (m : MethodId) (p0 : Int32) (p1 : Int32) (p2 : Int32) : entryFrame m #[(.int p0), (.int p1), (.int p2)] maxLocals = mkF m 0 #[.val (.int p0), .val (.int p1), .val (.int p2), .unset, .unset, .unset, .unset, .unset, .unset, .unset, .unset, .unset, .unset, .unset, .unset] [] := by first | (simp [entryFrame, mkF, argsToLocals, Value.category, maxLocals]; done) | rfl
set_option maxRecDepth 65536 in
set_option maxHeartbeats 40000000 in
theorem m_law (l : Launch) (Z : State) (a0 : Array Value) (hw : ∀ d ∈ tables_1, d.before a0 Z = true) (h0 : Heap) (n0 : Nat) (Z0 : n0 ≤ h0.size) (wS : ∀ a ∈ Bundle.stringAtoms, a.before a0 Z = true) (hEL : EW Z a0 [("com/example/intackt/intackt/vhost/ExchangeType", 138), ("com/example/intackt/intackt/vhost/ExchangeType", 140), ("java/lang/String", 7)]) (p0 : Int32) (p1 : Int32) (p2 : Int32) (zc : Int32) (S1 : Sta Z Z.heap "java/lang/String" "COMPACT_STRINGS" "Z" (.int zc)) (P1 : ¬ (zc = (0 : Int32))) (od : Old Z n0 h0) (t1 : Addr) (S_t1 : Sta Z Z.heap "com/example/intackt/intackt/vhost/ExchangeType" "FANOUT" "Lcom/example/intackt/intackt/vhost/ExchangeType;" (.ref t1)) (E_t1 : Exa Z Z.heap t1 "com/example/intackt/intackt/vhost/ExchangeType") (F_t1 : Fld Z Z.heap t1 "java/lang/Enum" "ordinal" "I" (.int (1 : Int32))) (t3 : Addr) (S_t3 : Sta Z Z.heap "com/example/intackt/intackt/vhost/ExchangeType" "HEADERS" "Lcom/example/intackt/intackt/vhost/ExchangeType;" (.ref t3)) (E_t3 : Exa Z Z.heap t3 "com/example/intackt/intackt/vhost/ExchangeType") (F_t3 : Fld Z Z.heap t3 "java/lang/Enum" "ordinal" "I" (.int (3 : Int32))) (t2 : Addr) (S_t2 : Sta Z Z.heap "com/example/intackt/intackt/vhost/ExchangeType" "TOPIC" "Lcom/example/intackt/intackt/vhost/ExchangeType;" (.ref t2)) (E_t2 : Exa Z Z.heap t2 "com/example/intackt/intackt/vhost/ExchangeType") (F_t2 : Fld Z Z.heap t2 "java/lang/Enum" "ordinal" "I" (.int (2 : Int32))) :
    MetW l Z tables_1 [("com/example/intackt/intackt/vhost/ExchangeType", 138), ("com/example/intackt/intackt/vhost/ExchangeType", 140), ("java/lang/String", 7)] x code maxLocals ret room_1 #[(.int p0), (.int p1), (.int p2)] h0 n0 (fun v _ => v = some (.int 1)) := by
  refine MetW.of (plainFor_of_name pn_com_example_intackt_intackt_vhost_ExchangeTypeKeyMatchesPinLaw) ?_
  intro p e s m below meth c vm0 B hS HC K
  have CR := CHr.refl HC
  refine Go.cast (ef_law m p0 p1 p2) ?_
  refine Go.iloadN K at_0 rfl (pc' := 1) rfl ?_
  refine Go.iconst K (v := 3) at_1 rfl (pc' := 2) rfl ?_
  refine Go.iand K at_2 (pc' := 3) rfl ?_
  rcases own_and3 p0 with hsel | hsel | hsel | hsel <;> rw [hsel]
  · show Go p l e _ _ m _ below meth c _ _ _ _ h0 _ _ (mkF m 3 #[.val (.int p0), .val (.int p1), .val (.int p2), .unset, .unset, .unset, .unset, .unset, .unset, .unset, .unset, .unset, .unset, .unset, .unset] [(.int (0 : Int32))])
    refine Go.istoreN K at_3 (Ls' := #[.val (.int p0), .val (.int p1), .val (.int p2), .val (.int (0 : Int32)), .unset, .unset, .unset, .unset, .unset, .unset, .unset, .unset, .unset, .unset, .unset]) rfl (pc' := 4) rfl ?_
    refine Go.iloadN K at_4 rfl (pc' := 5) rfl ?_
    refine Go.ifc K at_5 (by decide) (pcT := 14) (pcF := 8) (by decide) rfl (fun h5 => ?_) (fun h5 => ?_)
    · replace h5 : ¬ (0 : Int32) = 0 := h5
      exact absurd rfl h5
    · replace h5 : ¬ (¬ (0 : Int32) = 0) := h5
      refine Go.getS K (host := "") (Or.inl (hw _ (List.mem_of_getElem? (i := 0) rfl))) Via.refl (S_t1.ext od.2) at_8 (pc' := 11) rfl ?_
      refine Go.goto K at_11 (pc' := 28) (by decide) (by decide) ?_
      refine Go.astore K at_28 rfl (Ls' := #[.val (.int p0), .val (.int p1), .val (.int p2), .val (.int (0 : Int32)), .val (.ref t1), .unset, .unset, .unset, .unset, .unset, .unset, .unset, .unset, .unset, .unset]) rfl (pc' := 30) rfl ?_
      refine Go.iloadN K at_30 rfl (pc' := 31) rfl ?_
      refine Go.iconst K (v := 3) at_31 rfl (pc' := 32) rfl ?_
      refine Go.iand K at_32 (pc' := 33) rfl ?_
      obtain ⟨pn, hpn, epn⟩ := own_and3N p1
      rw [epn]
      show Go p l e _ _ m _ below meth c _ _ _ _ h0 _ _ (mkF m 33 #[.val (.int p0), .val (.int p1), .val (.int p2), .val (.int (0 : Int32)), .val (.ref t1), .unset, .unset, .unset, .unset, .unset, .unset, .unset, .unset, .unset, .unset] [(.int (Int32.ofNat pn))])
      refine Go.istore K at_33 (Ls' := #[.val (.int p0), .val (.int p1), .val (.int p2), .val (.int (0 : Int32)), .val (.ref t1), .val (.int (Int32.ofNat pn)), .unset, .unset, .unset, .unset, .unset, .unset, .unset, .unset, .unset]) rfl (pc' := 35) rfl ?_
      refine Go.iloadN K at_35 rfl (pc' := 36) rfl ?_
      refine Go.iconst K (v := 2) at_36 rfl (pc' := 37) rfl ?_
      refine Go.iushr K at_37 (pc' := 38) rfl ?_
      refine Go.bipush K (v := 7) at_38 rfl (pc' := 40) rfl ?_
      refine Go.iand K at_40 (pc' := 41) rfl ?_
      refine Go.istore K at_41 (Ls' := #[.val (.int p0), .val (.int p1), .val (.int p2), .val (.int (0 : Int32)), .val (.ref t1), .val (.int (Int32.ofNat pn)), .val (.int (((p1.toUInt32 >>> ((2 : Int32) &&& 31).toUInt32).toInt32) &&& (7 : Int32))), .unset, .unset, .unset, .unset, .unset, .unset, .unset, .unset]) rfl (pc' := 43) rfl ?_
      refine Go.iloadN K at_43 rfl (pc' := 44) rfl ?_
      refine Go.iconst K (v := 5) at_44 rfl (pc' := 45) rfl ?_
      refine Go.iushr K at_45 (pc' := 46) rfl ?_
      refine Go.bipush K (v := 7) at_46 rfl (pc' := 48) rfl ?_
      refine Go.iand K at_48 (pc' := 49) rfl ?_
      refine Go.istore K at_49 (Ls' := #[.val (.int p0), .val (.int p1), .val (.int p2), .val (.int (0 : Int32)), .val (.ref t1), .val (.int (Int32.ofNat pn)), .val (.int (((p1.toUInt32 >>> ((2 : Int32) &&& 31).toUInt32).toInt32) &&& (7 : Int32))), .val (.int (((p1.toUInt32 >>> ((5 : Int32) &&& 31).toUInt32).toInt32) &&& (7 : Int32))), .unset, .unset, .unset, .unset, .unset, .unset, .unset]) rfl (pc' := 51) rfl ?_
      refine Go.iloadN K at_51 rfl (pc' := 52) rfl ?_
      refine Go.bipush K (v := 8) at_52 rfl (pc' := 54) rfl ?_
      refine Go.iushr K at_54 (pc' := 55) rfl ?_
      refine Go.bipush K (v := 7) at_55 rfl (pc' := 57) rfl ?_
      refine Go.iand K at_57 (pc' := 58) rfl ?_
      refine Go.istore K at_58 (Ls' := #[.val (.int p0), .val (.int p1), .val (.int p2), .val (.int (0 : Int32)), .val (.ref t1), .val (.int (Int32.ofNat pn)), .val (.int (((p1.toUInt32 >>> ((2 : Int32) &&& 31).toUInt32).toInt32) &&& (7 : Int32))), .val (.int (((p1.toUInt32 >>> ((5 : Int32) &&& 31).toUInt32).toInt32) &&& (7 : Int32))), .val (.int (((p1.toUInt32 >>> ((8 : Int32) &&& 31).toUInt32).toInt32) &&& (7 : Int32))), .unset, .unset, .unset, .unset, .unset, .unset]) rfl (pc' := 60) rfl ?_
      refine Go.iloadN K at_60 rfl (pc' := 61) rfl ?_
      refine Go.iconst K (v := 3) at_61 rfl (pc' := 62) rfl ?_
      refine Go.iand K at_62 (pc' := 63) rfl ?_
      obtain ⟨rn, hrn, ern⟩ := own_and3N p2
      rw [ern]
      show Go p l e _ _ m _ below meth c _ _ _ _ h0 _ _ (mkF m 63 #[.val (.int p0), .val (.int p1), .val (.int p2), .val (.int (0 : Int32)), .val (.ref t1), .val (.int (Int32.ofNat pn)), .val (.int (((p1.toUInt32 >>> ((2 : Int32) &&& 31).toUInt32).toInt32) &&& (7 : Int32))), .val (.int (((p1.toUInt32 >>> ((5 : Int32) &&& 31).toUInt32).toInt32) &&& (7 : Int32))), .val (.int (((p1.toUInt32 >>> ((8 : Int32) &&& 31).toUInt32).toInt32) &&& (7 : Int32))), .unset, .unset, .unset, .unset, .unset, .unset] [(.int (Int32.ofNat rn))])
      refine Go.istore K at_63 (Ls' := #[.val (.int p0), .val (.int p1), .val (.int p2), .val (.int (0 : Int32)), .val (.ref t1), .val (.int (Int32.ofNat pn)), .val (.int (((p1.toUInt32 >>> ((2 : Int32) &&& 31).toUInt32).toInt32) &&& (7 : Int32))), .val (.int (((p1.toUInt32 >>> ((5 : Int32) &&& 31).toUInt32).toInt32) &&& (7 : Int32))), .val (.int (((p1.toUInt32 >>> ((8 : Int32) &&& 31).toUInt32).toInt32) &&& (7 : Int32))), .val (.int (Int32.ofNat rn)), .unset, .unset, .unset, .unset, .unset]) rfl (pc' := 65) rfl ?_
      refine Go.iconst K (v := 3) at_65 rfl (pc' := 66) rfl ?_
      refine Go.newP K (hw _ (List.mem_of_getElem? (i := 3) rfl)) (by decide) 3 (by decide) (by decide) (by decide) (by decide) at_66 (pc' := 68) rfl ?_
      intro h1006 rr kA_rr eq1008 E1007 V_rr
      have g_rr : n0 ≤ rr := Nat.le_trans Z0 (Nat.le_of_eq eq1008.symm)
      have od1009 := od.ext E1007
      have z1010 := Nat.le_trans Z0 E1007.1
      have cr1011 := CR.trans (CHr.ext E1007 CR.1)
      have V1012 : Arv Z h1006 rr kA_rr .int (3 : Int32) [(.int (0 : Int32)), (.int (0 : Int32)), (.int (0 : Int32))] (.int (0 : Int32)) := V_rr.pad (pad_rep [] (.int (0 : Int32)) 3)
      refine Go.dup K at_68 rfl (pc' := 69) rfl ?_
      refine Go.iconst K (v := 0) at_69 rfl (pc' := 70) rfl ?_
      refine Go.iloadN K at_70 rfl (pc' := 71) rfl ?_
      refine Go.iconst K (v := 2) at_71 rfl (pc' := 72) rfl ?_
      refine Go.iushr K at_72 (pc' := 73) rfl ?_
      refine Go.bipush K (v := 7) at_73 rfl (pc' := 75) rfl ?_
      refine Go.iand K at_75 (pc' := 76) rfl ?_
      refine Go.iastore K V1012 0 rfl (Nat.le_of_ble_eq_true rfl) ⟨by decide, by decide⟩ g_rr at_76 (pc' := 77) rfl ?_
      intro h1013 K1014 V1015
      replace V1015 : Arv Z h1013 rr kA_rr .int (3 : Int32) [(.int (((p2.toUInt32 >>> ((2 : Int32) &&& 31).toUInt32).toInt32) &&& (7 : Int32))), (.int (0 : Int32)), (.int (0 : Int32))] (.int (0 : Int32)) := V1015
      have cr1016 := cr1011.trans (CHr.keep K1014 (sfS (Safe.arv K.cz.alike V1012 (by decide)) sf0) cr1011.1)
      have od1018 := od1009.keep K1014 (allS g_rr all0)
      have z1019 := Nat.le_trans z1010 K1014.1
      refine Go.dup K at_77 rfl (pc' := 78) rfl ?_
      refine Go.iconst K (v := 1) at_78 rfl (pc' := 79) rfl ?_
      refine Go.iloadN K at_79 rfl (pc' := 80) rfl ?_
      refine Go.iconst K (v := 5) at_80 rfl (pc' := 81) rfl ?_
      refine Go.iushr K at_81 (pc' := 82) rfl ?_
      refine Go.bipush K (v := 7) at_82 rfl (pc' := 84) rfl ?_
      refine Go.iand K at_84 (pc' := 85) rfl ?_
      refine Go.iastore K V1015 1 rfl (Nat.le_of_ble_eq_true rfl) ⟨by decide, by decide⟩ g_rr at_85 (pc' := 86) rfl ?_
      intro h1020 K1021 V1022
      replace V1022 : Arv Z h1020 rr kA_rr .int (3 : Int32) [(.int (((p2.toUInt32 >>> ((2 : Int32) &&& 31).toUInt32).toInt32) &&& (7 : Int32))), (.int (((p2.toUInt32 >>> ((5 : Int32) &&& 31).toUInt32).toInt32) &&& (7 : Int32))), (.int (0 : Int32))] (.int (0 : Int32)) := V1022
      have cr1023 := cr1016.trans (CHr.keep K1021 (sfS (Safe.arv K.cz.alike V1015 (by decide)) sf0) cr1016.1)
      have od1025 := od1018.keep K1021 (allS g_rr all0)
      have z1026 := Nat.le_trans z1019 K1021.1
      refine Go.dup K at_86 rfl (pc' := 87) rfl ?_
      refine Go.iconst K (v := 2) at_87 rfl (pc' := 88) rfl ?_
      refine Go.iloadN K at_88 rfl (pc' := 89) rfl ?_
      refine Go.bipush K (v := 8) at_89 rfl (pc' := 91) rfl ?_
      refine Go.iushr K at_91 (pc' := 92) rfl ?_
      refine Go.bipush K (v := 7) at_92 rfl (pc' := 94) rfl ?_
      refine Go.iand K at_94 (pc' := 95) rfl ?_
      refine Go.iastore K V1022 2 rfl (Nat.le_of_ble_eq_true rfl) ⟨by decide, by decide⟩ g_rr at_95 (pc' := 96) rfl ?_
      intro h1027 K1028 V1029
      replace V1029 : Arv Z h1027 rr kA_rr .int (3 : Int32) [(.int (((p2.toUInt32 >>> ((2 : Int32) &&& 31).toUInt32).toInt32) &&& (7 : Int32))), (.int (((p2.toUInt32 >>> ((5 : Int32) &&& 31).toUInt32).toInt32) &&& (7 : Int32))), (.int (((p2.toUInt32 >>> ((8 : Int32) &&& 31).toUInt32).toInt32) &&& (7 : Int32)))] (.int (0 : Int32)) := V1029
      have cr1030 := cr1023.trans (CHr.keep K1028 (sfS (Safe.arv K.cz.alike V1022 (by decide)) sf0) cr1023.1)
      have od1032 := od1025.keep K1028 (allS g_rr all0)
      have z1033 := Nat.le_trans z1026 K1028.1
      refine Go.astore K at_96 rfl (Ls' := #[.val (.int p0), .val (.int p1), .val (.int p2), .val (.int (0 : Int32)), .val (.ref t1), .val (.int (Int32.ofNat pn)), .val (.int (((p1.toUInt32 >>> ((2 : Int32) &&& 31).toUInt32).toInt32) &&& (7 : Int32))), .val (.int (((p1.toUInt32 >>> ((5 : Int32) &&& 31).toUInt32).toInt32) &&& (7 : Int32))), .val (.int (((p1.toUInt32 >>> ((8 : Int32) &&& 31).toUInt32).toInt32) &&& (7 : Int32))), .val (.int (Int32.ofNat rn)), .val (.ref rr), .unset, .unset, .unset, .unset]) rfl (pc' := 98) rfl ?_
      exact segA1 hw wS hEL K hS h0 h1027 n0 z1033 cr1030 od1032 zc S1 P1 t1 (E_t1.ext od1032.2) (F_t1.ext od1032.2) p0 p1 p2 (0 : Int32) (((p1.toUInt32 >>> ((2 : Int32) &&& 31).toUInt32).toInt32) &&& (7 : Int32)) (((p1.toUInt32 >>> ((5 : Int32) &&& 31).toUInt32).toInt32) &&& (7 : Int32)) (((p1.toUInt32 >>> ((8 : Int32) &&& 31).toUInt32).toInt32) &&& (7 : Int32)) (((p2.toUInt32 >>> ((2 : Int32) &&& 31).toUInt32).toInt32) &&& (7 : Int32)) (((p2.toUInt32 >>> ((5 : Int32) &&& 31).toUInt32).toInt32) &&& (7 : Int32)) (((p2.toUInt32 >>> ((8 : Int32) &&& 31).toUInt32).toInt32) &&& (7 : Int32)) (by decide) pn rn hpn hrn (own_and7 _) (own_and7 _) (own_and7 _) (own_and7 _) (own_and7 _) (own_and7 _) rr kA_rr V1029 _ _ (by decide) (by decide)
  · show Go p l e _ _ m _ below meth c _ _ _ _ h0 _ _ (mkF m 3 #[.val (.int p0), .val (.int p1), .val (.int p2), .unset, .unset, .unset, .unset, .unset, .unset, .unset, .unset, .unset, .unset, .unset, .unset] [(.int (1 : Int32))])
    refine Go.istoreN K at_3 (Ls' := #[.val (.int p0), .val (.int p1), .val (.int p2), .val (.int (1 : Int32)), .unset, .unset, .unset, .unset, .unset, .unset, .unset, .unset, .unset, .unset, .unset]) rfl (pc' := 4) rfl ?_
    refine Go.iloadN K at_4 rfl (pc' := 5) rfl ?_
    refine Go.ifc K at_5 (by decide) (pcT := 14) (pcF := 8) (by decide) rfl (fun h5 => ?_) (fun h5 => ?_)
    · replace h5 : ¬ (1 : Int32) = 0 := h5
      refine Go.iloadN K at_14 rfl (pc' := 15) rfl ?_
      refine Go.iconst K (v := 1) at_15 rfl (pc' := 16) rfl ?_
      refine Go.icmp K at_16 (by decide) (pcT := 25) (pcF := 19) (by decide) rfl (fun h16 => ?_) (fun h16 => ?_)
      · replace h16 : ¬ (1 : Int32) = (1 : Int32) := h16
        exact absurd rfl h16
      · replace h16 : ¬ (¬ (1 : Int32) = (1 : Int32)) := h16
        refine Go.getS K (host := "") (Or.inl (hw _ (List.mem_of_getElem? (i := 56) rfl))) Via.refl (S_t3.ext od.2) at_19 (pc' := 22) rfl ?_
        refine Go.goto K at_22 (pc' := 28) (by decide) (by decide) ?_
        refine Go.astore K at_28 rfl (Ls' := #[.val (.int p0), .val (.int p1), .val (.int p2), .val (.int (1 : Int32)), .val (.ref t3), .unset, .unset, .unset, .unset, .unset, .unset, .unset, .unset, .unset, .unset]) rfl (pc' := 30) rfl ?_
        refine Go.iloadN K at_30 rfl (pc' := 31) rfl ?_
        refine Go.iconst K (v := 3) at_31 rfl (pc' := 32) rfl ?_
        refine Go.iand K at_32 (pc' := 33) rfl ?_
        obtain ⟨pn, hpn, epn⟩ := own_and3N p1
        rw [epn]
        show Go p l e _ _ m _ below meth c _ _ _ _ h0 _ _ (mkF m 33 #[.val (.int p0), .val (.int p1), .val (.int p2), .val (.int (1 : Int32)), .val (.ref t3), .unset, .unset, .unset, .unset, .unset, .unset, .unset, .unset, .unset, .unset] [(.int (Int32.ofNat pn))])
        refine Go.istore K at_33 (Ls' := #[.val (.int p0), .val (.int p1), .val (.int p2), .val (.int (1 : Int32)), .val (.ref t3), .val (.int (Int32.ofNat pn)), .unset, .unset, .unset, .unset, .unset, .unset, .unset, .unset, .unset]) rfl (pc' := 35) rfl ?_
        refine Go.iloadN K at_35 rfl (pc' := 36) rfl ?_
        refine Go.iconst K (v := 2) at_36 rfl (pc' := 37) rfl ?_
        refine Go.iushr K at_37 (pc' := 38) rfl ?_
        refine Go.bipush K (v := 7) at_38 rfl (pc' := 40) rfl ?_
        refine Go.iand K at_40 (pc' := 41) rfl ?_
        refine Go.istore K at_41 (Ls' := #[.val (.int p0), .val (.int p1), .val (.int p2), .val (.int (1 : Int32)), .val (.ref t3), .val (.int (Int32.ofNat pn)), .val (.int (((p1.toUInt32 >>> ((2 : Int32) &&& 31).toUInt32).toInt32) &&& (7 : Int32))), .unset, .unset, .unset, .unset, .unset, .unset, .unset, .unset]) rfl (pc' := 43) rfl ?_
        refine Go.iloadN K at_43 rfl (pc' := 44) rfl ?_
        refine Go.iconst K (v := 5) at_44 rfl (pc' := 45) rfl ?_
        refine Go.iushr K at_45 (pc' := 46) rfl ?_
        refine Go.bipush K (v := 7) at_46 rfl (pc' := 48) rfl ?_
        refine Go.iand K at_48 (pc' := 49) rfl ?_
        refine Go.istore K at_49 (Ls' := #[.val (.int p0), .val (.int p1), .val (.int p2), .val (.int (1 : Int32)), .val (.ref t3), .val (.int (Int32.ofNat pn)), .val (.int (((p1.toUInt32 >>> ((2 : Int32) &&& 31).toUInt32).toInt32) &&& (7 : Int32))), .val (.int (((p1.toUInt32 >>> ((5 : Int32) &&& 31).toUInt32).toInt32) &&& (7 : Int32))), .unset, .unset, .unset, .unset, .unset, .unset, .unset]) rfl (pc' := 51) rfl ?_
        refine Go.iloadN K at_51 rfl (pc' := 52) rfl ?_
        refine Go.bipush K (v := 8) at_52 rfl (pc' := 54) rfl ?_
        refine Go.iushr K at_54 (pc' := 55) rfl ?_
        refine Go.bipush K (v := 7) at_55 rfl (pc' := 57) rfl ?_
        refine Go.iand K at_57 (pc' := 58) rfl ?_
        refine Go.istore K at_58 (Ls' := #[.val (.int p0), .val (.int p1), .val (.int p2), .val (.int (1 : Int32)), .val (.ref t3), .val (.int (Int32.ofNat pn)), .val (.int (((p1.toUInt32 >>> ((2 : Int32) &&& 31).toUInt32).toInt32) &&& (7 : Int32))), .val (.int (((p1.toUInt32 >>> ((5 : Int32) &&& 31).toUInt32).toInt32) &&& (7 : Int32))), .val (.int (((p1.toUInt32 >>> ((8 : Int32) &&& 31).toUInt32).toInt32) &&& (7 : Int32))), .unset, .unset, .unset, .unset, .unset, .unset]) rfl (pc' := 60) rfl ?_
        refine Go.iloadN K at_60 rfl (pc' := 61) rfl ?_
        refine Go.iconst K (v := 3) at_61 rfl (pc' := 62) rfl ?_
        refine Go.iand K at_62 (pc' := 63) rfl ?_
        obtain ⟨rn, hrn, ern⟩ := own_and3N p2
        rw [ern]
        show Go p l e _ _ m _ below meth c _ _ _ _ h0 _ _ (mkF m 63 #[.val (.int p0), .val (.int p1), .val (.int p2), .val (.int (1 : Int32)), .val (.ref t3), .val (.int (Int32.ofNat pn)), .val (.int (((p1.toUInt32 >>> ((2 : Int32) &&& 31).toUInt32).toInt32) &&& (7 : Int32))), .val (.int (((p1.toUInt32 >>> ((5 : Int32) &&& 31).toUInt32).toInt32) &&& (7 : Int32))), .val (.int (((p1.toUInt32 >>> ((8 : Int32) &&& 31).toUInt32).toInt32) &&& (7 : Int32))), .unset, .unset, .unset, .unset, .unset, .unset] [(.int (Int32.ofNat rn))])
        refine Go.istore K at_63 (Ls' := #[.val (.int p0), .val (.int p1), .val (.int p2), .val (.int (1 : Int32)), .val (.ref t3), .val (.int (Int32.ofNat pn)), .val (.int (((p1.toUInt32 >>> ((2 : Int32) &&& 31).toUInt32).toInt32) &&& (7 : Int32))), .val (.int (((p1.toUInt32 >>> ((5 : Int32) &&& 31).toUInt32).toInt32) &&& (7 : Int32))), .val (.int (((p1.toUInt32 >>> ((8 : Int32) &&& 31).toUInt32).toInt32) &&& (7 : Int32))), .val (.int (Int32.ofNat rn)), .unset, .unset, .unset, .unset, .unset]) rfl (pc' := 65) rfl ?_
        refine Go.iconst K (v := 3) at_65 rfl (pc' := 66) rfl ?_
        refine Go.newP K (hw _ (List.mem_of_getElem? (i := 3) rfl)) (by decide) 3 (by decide) (by decide) (by decide) (by decide) at_66 (pc' := 68) rfl ?_
        intro h1034 rr kA_rr eq1036 E1035 V_rr
        have g_rr : n0 ≤ rr := Nat.le_trans Z0 (Nat.le_of_eq eq1036.symm)
        have od1037 := od.ext E1035
        have z1038 := Nat.le_trans Z0 E1035.1
        have cr1039 := CR.trans (CHr.ext E1035 CR.1)
        have V1040 : Arv Z h1034 rr kA_rr .int (3 : Int32) [(.int (0 : Int32)), (.int (0 : Int32)), (.int (0 : Int32))] (.int (0 : Int32)) := V_rr.pad (pad_rep [] (.int (0 : Int32)) 3)
        refine Go.dup K at_68 rfl (pc' := 69) rfl ?_
        refine Go.iconst K (v := 0) at_69 rfl (pc' := 70) rfl ?_
        refine Go.iloadN K at_70 rfl (pc' := 71) rfl ?_
        refine Go.iconst K (v := 2) at_71 rfl (pc' := 72) rfl ?_
        refine Go.iushr K at_72 (pc' := 73) rfl ?_
        refine Go.bipush K (v := 7) at_73 rfl (pc' := 75) rfl ?_
        refine Go.iand K at_75 (pc' := 76) rfl ?_
        refine Go.iastore K V1040 0 rfl (Nat.le_of_ble_eq_true rfl) ⟨by decide, by decide⟩ g_rr at_76 (pc' := 77) rfl ?_
        intro h1041 K1042 V1043
        replace V1043 : Arv Z h1041 rr kA_rr .int (3 : Int32) [(.int (((p2.toUInt32 >>> ((2 : Int32) &&& 31).toUInt32).toInt32) &&& (7 : Int32))), (.int (0 : Int32)), (.int (0 : Int32))] (.int (0 : Int32)) := V1043
        have cr1044 := cr1039.trans (CHr.keep K1042 (sfS (Safe.arv K.cz.alike V1040 (by decide)) sf0) cr1039.1)
        have od1046 := od1037.keep K1042 (allS g_rr all0)
        have z1047 := Nat.le_trans z1038 K1042.1
        refine Go.dup K at_77 rfl (pc' := 78) rfl ?_
        refine Go.iconst K (v := 1) at_78 rfl (pc' := 79) rfl ?_
        refine Go.iloadN K at_79 rfl (pc' := 80) rfl ?_
        refine Go.iconst K (v := 5) at_80 rfl (pc' := 81) rfl ?_
        refine Go.iushr K at_81 (pc' := 82) rfl ?_
        refine Go.bipush K (v := 7) at_82 rfl (pc' := 84) rfl ?_
        refine Go.iand K at_84 (pc' := 85) rfl ?_
        refine Go.iastore K V1043 1 rfl (Nat.le_of_ble_eq_true rfl) ⟨by decide, by decide⟩ g_rr at_85 (pc' := 86) rfl ?_
        intro h1048 K1049 V1050
        replace V1050 : Arv Z h1048 rr kA_rr .int (3 : Int32) [(.int (((p2.toUInt32 >>> ((2 : Int32) &&& 31).toUInt32).toInt32) &&& (7 : Int32))), (.int (((p2.toUInt32 >>> ((5 : Int32) &&& 31).toUInt32).toInt32) &&& (7 : Int32))), (.int (0 : Int32))] (.int (0 : Int32)) := V1050
        have cr1051 := cr1044.trans (CHr.keep K1049 (sfS (Safe.arv K.cz.alike V1043 (by decide)) sf0) cr1044.1)
        have od1053 := od1046.keep K1049 (allS g_rr all0)
        have z1054 := Nat.le_trans z1047 K1049.1
        refine Go.dup K at_86 rfl (pc' := 87) rfl ?_
        refine Go.iconst K (v := 2) at_87 rfl (pc' := 88) rfl ?_
        refine Go.iloadN K at_88 rfl (pc' := 89) rfl ?_
        refine Go.bipush K (v := 8) at_89 rfl (pc' := 91) rfl ?_
        refine Go.iushr K at_91 (pc' := 92) rfl ?_
        refine Go.bipush K (v := 7) at_92 rfl (pc' := 94) rfl ?_
        refine Go.iand K at_94 (pc' := 95) rfl ?_
        refine Go.iastore K V1050 2 rfl (Nat.le_of_ble_eq_true rfl) ⟨by decide, by decide⟩ g_rr at_95 (pc' := 96) rfl ?_
        intro h1055 K1056 V1057
        replace V1057 : Arv Z h1055 rr kA_rr .int (3 : Int32) [(.int (((p2.toUInt32 >>> ((2 : Int32) &&& 31).toUInt32).toInt32) &&& (7 : Int32))), (.int (((p2.toUInt32 >>> ((5 : Int32) &&& 31).toUInt32).toInt32) &&& (7 : Int32))), (.int (((p2.toUInt32 >>> ((8 : Int32) &&& 31).toUInt32).toInt32) &&& (7 : Int32)))] (.int (0 : Int32)) := V1057
        have cr1058 := cr1051.trans (CHr.keep K1056 (sfS (Safe.arv K.cz.alike V1050 (by decide)) sf0) cr1051.1)
        have od1060 := od1053.keep K1056 (allS g_rr all0)
        have z1061 := Nat.le_trans z1054 K1056.1
        refine Go.astore K at_96 rfl (Ls' := #[.val (.int p0), .val (.int p1), .val (.int p2), .val (.int (1 : Int32)), .val (.ref t3), .val (.int (Int32.ofNat pn)), .val (.int (((p1.toUInt32 >>> ((2 : Int32) &&& 31).toUInt32).toInt32) &&& (7 : Int32))), .val (.int (((p1.toUInt32 >>> ((5 : Int32) &&& 31).toUInt32).toInt32) &&& (7 : Int32))), .val (.int (((p1.toUInt32 >>> ((8 : Int32) &&& 31).toUInt32).toInt32) &&& (7 : Int32))), .val (.int (Int32.ofNat rn)), .val (.ref rr), .unset, .unset, .unset, .unset]) rfl (pc' := 98) rfl ?_
        exact segA3 hw wS hEL K hS h0 h1055 n0 z1061 cr1058 od1060 zc S1 P1 t3 (E_t3.ext od1060.2) (F_t3.ext od1060.2) p0 p1 p2 (1 : Int32) (((p1.toUInt32 >>> ((2 : Int32) &&& 31).toUInt32).toInt32) &&& (7 : Int32)) (((p1.toUInt32 >>> ((5 : Int32) &&& 31).toUInt32).toInt32) &&& (7 : Int32)) (((p1.toUInt32 >>> ((8 : Int32) &&& 31).toUInt32).toInt32) &&& (7 : Int32)) (((p2.toUInt32 >>> ((2 : Int32) &&& 31).toUInt32).toInt32) &&& (7 : Int32)) (((p2.toUInt32 >>> ((5 : Int32) &&& 31).toUInt32).toInt32) &&& (7 : Int32)) (((p2.toUInt32 >>> ((8 : Int32) &&& 31).toUInt32).toInt32) &&& (7 : Int32)) (by decide) pn rn hpn hrn (own_and7 _) (own_and7 _) (own_and7 _) (own_and7 _) (own_and7 _) (own_and7 _) rr kA_rr V1057 _ _ (by decide) (by decide)
    · replace h5 : ¬ (¬ (1 : Int32) = 0) := h5
      exact absurd (by decide) h5
  · show Go p l e _ _ m _ below meth c _ _ _ _ h0 _ _ (mkF m 3 #[.val (.int p0), .val (.int p1), .val (.int p2), .unset, .unset, .unset, .unset, .unset, .unset, .unset, .unset, .unset, .unset, .unset, .unset] [(.int (2 : Int32))])
    refine Go.istoreN K at_3 (Ls' := #[.val (.int p0), .val (.int p1), .val (.int p2), .val (.int (2 : Int32)), .unset, .unset, .unset, .unset, .unset, .unset, .unset, .unset, .unset, .unset, .unset]) rfl (pc' := 4) rfl ?_
    refine Go.iloadN K at_4 rfl (pc' := 5) rfl ?_
    refine Go.ifc K at_5 (by decide) (pcT := 14) (pcF := 8) (by decide) rfl (fun h5 => ?_) (fun h5 => ?_)
    · replace h5 : ¬ (2 : Int32) = 0 := h5
      refine Go.iloadN K at_14 rfl (pc' := 15) rfl ?_
      refine Go.iconst K (v := 1) at_15 rfl (pc' := 16) rfl ?_
      refine Go.icmp K at_16 (by decide) (pcT := 25) (pcF := 19) (by decide) rfl (fun h16 => ?_) (fun h16 => ?_)
      · replace h16 : ¬ (2 : Int32) = (1 : Int32) := h16
        refine Go.getS K (host := "") (Or.inl (hw _ (List.mem_of_getElem? (i := 58) rfl))) Via.refl (S_t2.ext od.2) at_25 (pc' := 28) rfl ?_
        refine Go.astore K at_28 rfl (Ls' := #[.val (.int p0), .val (.int p1), .val (.int p2), .val (.int (2 : Int32)), .val (.ref t2), .unset, .unset, .unset, .unset, .unset, .unset, .unset, .unset, .unset, .unset]) rfl (pc' := 30) rfl ?_
        refine Go.iloadN K at_30 rfl (pc' := 31) rfl ?_
        refine Go.iconst K (v := 3) at_31 rfl (pc' := 32) rfl ?_
        refine Go.iand K at_32 (pc' := 33) rfl ?_
        obtain ⟨pn, hpn, epn⟩ := own_and3N p1
        rw [epn]
        show Go p l e _ _ m _ below meth c _ _ _ _ h0 _ _ (mkF m 33 #[.val (.int p0), .val (.int p1), .val (.int p2), .val (.int (2 : Int32)), .val (.ref t2), .unset, .unset, .unset, .unset, .unset, .unset, .unset, .unset, .unset, .unset] [(.int (Int32.ofNat pn))])
        refine Go.istore K at_33 (Ls' := #[.val (.int p0), .val (.int p1), .val (.int p2), .val (.int (2 : Int32)), .val (.ref t2), .val (.int (Int32.ofNat pn)), .unset, .unset, .unset, .unset, .unset, .unset, .unset, .unset, .unset]) rfl (pc' := 35) rfl ?_
        refine Go.iloadN K at_35 rfl (pc' := 36) rfl ?_
        refine Go.iconst K (v := 2) at_36 rfl (pc' := 37) rfl ?_
        refine Go.iushr K at_37 (pc' := 38) rfl ?_
        refine Go.bipush K (v := 7) at_38 rfl (pc' := 40) rfl ?_
        refine Go.iand K at_40 (pc' := 41) rfl ?_
        refine Go.istore K at_41 (Ls' := #[.val (.int p0), .val (.int p1), .val (.int p2), .val (.int (2 : Int32)), .val (.ref t2), .val (.int (Int32.ofNat pn)), .val (.int (((p1.toUInt32 >>> ((2 : Int32) &&& 31).toUInt32).toInt32) &&& (7 : Int32))), .unset, .unset, .unset, .unset, .unset, .unset, .unset, .unset]) rfl (pc' := 43) rfl ?_
        refine Go.iloadN K at_43 rfl (pc' := 44) rfl ?_
        refine Go.iconst K (v := 5) at_44 rfl (pc' := 45) rfl ?_
        refine Go.iushr K at_45 (pc' := 46) rfl ?_
        refine Go.bipush K (v := 7) at_46 rfl (pc' := 48) rfl ?_
        refine Go.iand K at_48 (pc' := 49) rfl ?_
        refine Go.istore K at_49 (Ls' := #[.val (.int p0), .val (.int p1), .val (.int p2), .val (.int (2 : Int32)), .val (.ref t2), .val (.int (Int32.ofNat pn)), .val (.int (((p1.toUInt32 >>> ((2 : Int32) &&& 31).toUInt32).toInt32) &&& (7 : Int32))), .val (.int (((p1.toUInt32 >>> ((5 : Int32) &&& 31).toUInt32).toInt32) &&& (7 : Int32))), .unset, .unset, .unset, .unset, .unset, .unset, .unset]) rfl (pc' := 51) rfl ?_
        refine Go.iloadN K at_51 rfl (pc' := 52) rfl ?_
        refine Go.bipush K (v := 8) at_52 rfl (pc' := 54) rfl ?_
        refine Go.iushr K at_54 (pc' := 55) rfl ?_
        refine Go.bipush K (v := 7) at_55 rfl (pc' := 57) rfl ?_
        refine Go.iand K at_57 (pc' := 58) rfl ?_
        refine Go.istore K at_58 (Ls' := #[.val (.int p0), .val (.int p1), .val (.int p2), .val (.int (2 : Int32)), .val (.ref t2), .val (.int (Int32.ofNat pn)), .val (.int (((p1.toUInt32 >>> ((2 : Int32) &&& 31).toUInt32).toInt32) &&& (7 : Int32))), .val (.int (((p1.toUInt32 >>> ((5 : Int32) &&& 31).toUInt32).toInt32) &&& (7 : Int32))), .val (.int (((p1.toUInt32 >>> ((8 : Int32) &&& 31).toUInt32).toInt32) &&& (7 : Int32))), .unset, .unset, .unset, .unset, .unset, .unset]) rfl (pc' := 60) rfl ?_
        refine Go.iloadN K at_60 rfl (pc' := 61) rfl ?_
        refine Go.iconst K (v := 3) at_61 rfl (pc' := 62) rfl ?_
        refine Go.iand K at_62 (pc' := 63) rfl ?_
        obtain ⟨rn, hrn, ern⟩ := own_and3N p2
        rw [ern]
        show Go p l e _ _ m _ below meth c _ _ _ _ h0 _ _ (mkF m 63 #[.val (.int p0), .val (.int p1), .val (.int p2), .val (.int (2 : Int32)), .val (.ref t2), .val (.int (Int32.ofNat pn)), .val (.int (((p1.toUInt32 >>> ((2 : Int32) &&& 31).toUInt32).toInt32) &&& (7 : Int32))), .val (.int (((p1.toUInt32 >>> ((5 : Int32) &&& 31).toUInt32).toInt32) &&& (7 : Int32))), .val (.int (((p1.toUInt32 >>> ((8 : Int32) &&& 31).toUInt32).toInt32) &&& (7 : Int32))), .unset, .unset, .unset, .unset, .unset, .unset] [(.int (Int32.ofNat rn))])
        refine Go.istore K at_63 (Ls' := #[.val (.int p0), .val (.int p1), .val (.int p2), .val (.int (2 : Int32)), .val (.ref t2), .val (.int (Int32.ofNat pn)), .val (.int (((p1.toUInt32 >>> ((2 : Int32) &&& 31).toUInt32).toInt32) &&& (7 : Int32))), .val (.int (((p1.toUInt32 >>> ((5 : Int32) &&& 31).toUInt32).toInt32) &&& (7 : Int32))), .val (.int (((p1.toUInt32 >>> ((8 : Int32) &&& 31).toUInt32).toInt32) &&& (7 : Int32))), .val (.int (Int32.ofNat rn)), .unset, .unset, .unset, .unset, .unset]) rfl (pc' := 65) rfl ?_
        refine Go.iconst K (v := 3) at_65 rfl (pc' := 66) rfl ?_
        refine Go.newP K (hw _ (List.mem_of_getElem? (i := 3) rfl)) (by decide) 3 (by decide) (by decide) (by decide) (by decide) at_66 (pc' := 68) rfl ?_
        intro h1062 rr kA_rr eq1064 E1063 V_rr
        have g_rr : n0 ≤ rr := Nat.le_trans Z0 (Nat.le_of_eq eq1064.symm)
        have od1065 := od.ext E1063
        have z1066 := Nat.le_trans Z0 E1063.1
        have cr1067 := CR.trans (CHr.ext E1063 CR.1)
        have V1068 : Arv Z h1062 rr kA_rr .int (3 : Int32) [(.int (0 : Int32)), (.int (0 : Int32)), (.int (0 : Int32))] (.int (0 : Int32)) := V_rr.pad (pad_rep [] (.int (0 : Int32)) 3)
        refine Go.dup K at_68 rfl (pc' := 69) rfl ?_
        refine Go.iconst K (v := 0) at_69 rfl (pc' := 70) rfl ?_
        refine Go.iloadN K at_70 rfl (pc' := 71) rfl ?_
        refine Go.iconst K (v := 2) at_71 rfl (pc' := 72) rfl ?_
        refine Go.iushr K at_72 (pc' := 73) rfl ?_
        refine Go.bipush K (v := 7) at_73 rfl (pc' := 75) rfl ?_
        refine Go.iand K at_75 (pc' := 76) rfl ?_
        refine Go.iastore K V1068 0 rfl (Nat.le_of_ble_eq_true rfl) ⟨by decide, by decide⟩ g_rr at_76 (pc' := 77) rfl ?_
        intro h1069 K1070 V1071
        replace V1071 : Arv Z h1069 rr kA_rr .int (3 : Int32) [(.int (((p2.toUInt32 >>> ((2 : Int32) &&& 31).toUInt32).toInt32) &&& (7 : Int32))), (.int (0 : Int32)), (.int (0 : Int32))] (.int (0 : Int32)) := V1071
        have cr1072 := cr1067.trans (CHr.keep K1070 (sfS (Safe.arv K.cz.alike V1068 (by decide)) sf0) cr1067.1)
        have od1074 := od1065.keep K1070 (allS g_rr all0)
        have z1075 := Nat.le_trans z1066 K1070.1
        refine Go.dup K at_77 rfl (pc' := 78) rfl ?_
        refine Go.iconst K (v := 1) at_78 rfl (pc' := 79) rfl ?_
        refine Go.iloadN K at_79 rfl (pc' := 80) rfl ?_
        refine Go.iconst K (v := 5) at_80 rfl (pc' := 81) rfl ?_
        refine Go.iushr K at_81 (pc' := 82) rfl ?_
        refine Go.bipush K (v := 7) at_82 rfl (pc' := 84) rfl ?_
        refine Go.iand K at_84 (pc' := 85) rfl ?_
        refine Go.iastore K V1071 1 rfl (Nat.le_of_ble_eq_true rfl) ⟨by decide, by decide⟩ g_rr at_85 (pc' := 86) rfl ?_
        intro h1076 K1077 V1078
        replace V1078 : Arv Z h1076 rr kA_rr .int (3 : Int32) [(.int (((p2.toUInt32 >>> ((2 : Int32) &&& 31).toUInt32).toInt32) &&& (7 : Int32))), (.int (((p2.toUInt32 >>> ((5 : Int32) &&& 31).toUInt32).toInt32) &&& (7 : Int32))), (.int (0 : Int32))] (.int (0 : Int32)) := V1078
        have cr1079 := cr1072.trans (CHr.keep K1077 (sfS (Safe.arv K.cz.alike V1071 (by decide)) sf0) cr1072.1)
        have od1081 := od1074.keep K1077 (allS g_rr all0)
        have z1082 := Nat.le_trans z1075 K1077.1
        refine Go.dup K at_86 rfl (pc' := 87) rfl ?_
        refine Go.iconst K (v := 2) at_87 rfl (pc' := 88) rfl ?_
        refine Go.iloadN K at_88 rfl (pc' := 89) rfl ?_
        refine Go.bipush K (v := 8) at_89 rfl (pc' := 91) rfl ?_
        refine Go.iushr K at_91 (pc' := 92) rfl ?_
        refine Go.bipush K (v := 7) at_92 rfl (pc' := 94) rfl ?_
        refine Go.iand K at_94 (pc' := 95) rfl ?_
        refine Go.iastore K V1078 2 rfl (Nat.le_of_ble_eq_true rfl) ⟨by decide, by decide⟩ g_rr at_95 (pc' := 96) rfl ?_
        intro h1083 K1084 V1085
        replace V1085 : Arv Z h1083 rr kA_rr .int (3 : Int32) [(.int (((p2.toUInt32 >>> ((2 : Int32) &&& 31).toUInt32).toInt32) &&& (7 : Int32))), (.int (((p2.toUInt32 >>> ((5 : Int32) &&& 31).toUInt32).toInt32) &&& (7 : Int32))), (.int (((p2.toUInt32 >>> ((8 : Int32) &&& 31).toUInt32).toInt32) &&& (7 : Int32)))] (.int (0 : Int32)) := V1085
        have cr1086 := cr1079.trans (CHr.keep K1084 (sfS (Safe.arv K.cz.alike V1078 (by decide)) sf0) cr1079.1)
        have od1088 := od1081.keep K1084 (allS g_rr all0)
        have z1089 := Nat.le_trans z1082 K1084.1
        refine Go.astore K at_96 rfl (Ls' := #[.val (.int p0), .val (.int p1), .val (.int p2), .val (.int (2 : Int32)), .val (.ref t2), .val (.int (Int32.ofNat pn)), .val (.int (((p1.toUInt32 >>> ((2 : Int32) &&& 31).toUInt32).toInt32) &&& (7 : Int32))), .val (.int (((p1.toUInt32 >>> ((5 : Int32) &&& 31).toUInt32).toInt32) &&& (7 : Int32))), .val (.int (((p1.toUInt32 >>> ((8 : Int32) &&& 31).toUInt32).toInt32) &&& (7 : Int32))), .val (.int (Int32.ofNat rn)), .val (.ref rr), .unset, .unset, .unset, .unset]) rfl (pc' := 98) rfl ?_
        exact segB hw wS hEL K hS h0 h1083 n0 z1089 cr1086 od1088 zc S1 P1 t2 (E_t2.ext od1088.2) (F_t2.ext od1088.2) p0 p1 p2 (2 : Int32) (((p1.toUInt32 >>> ((2 : Int32) &&& 31).toUInt32).toInt32) &&& (7 : Int32)) (((p1.toUInt32 >>> ((5 : Int32) &&& 31).toUInt32).toInt32) &&& (7 : Int32)) (((p1.toUInt32 >>> ((8 : Int32) &&& 31).toUInt32).toInt32) &&& (7 : Int32)) (((p2.toUInt32 >>> ((2 : Int32) &&& 31).toUInt32).toInt32) &&& (7 : Int32)) (((p2.toUInt32 >>> ((5 : Int32) &&& 31).toUInt32).toInt32) &&& (7 : Int32)) (((p2.toUInt32 >>> ((8 : Int32) &&& 31).toUInt32).toInt32) &&& (7 : Int32)) (by decide) pn rn hpn hrn (own_and7 _) (own_and7 _) (own_and7 _) (own_and7 _) (own_and7 _) (own_and7 _) rr kA_rr V1085 _ _ (by decide) (by decide)
      · replace h16 : ¬ (¬ (2 : Int32) = (1 : Int32)) := h16
        exact absurd (by decide) h16
    · replace h5 : ¬ (¬ (2 : Int32) = 0) := h5
      exact absurd (by decide) h5
  · show Go p l e _ _ m _ below meth c _ _ _ _ h0 _ _ (mkF m 3 #[.val (.int p0), .val (.int p1), .val (.int p2), .unset, .unset, .unset, .unset, .unset, .unset, .unset, .unset, .unset, .unset, .unset, .unset] [(.int (3 : Int32))])
    refine Go.istoreN K at_3 (Ls' := #[.val (.int p0), .val (.int p1), .val (.int p2), .val (.int (3 : Int32)), .unset, .unset, .unset, .unset, .unset, .unset, .unset, .unset, .unset, .unset, .unset]) rfl (pc' := 4) rfl ?_
    refine Go.iloadN K at_4 rfl (pc' := 5) rfl ?_
    refine Go.ifc K at_5 (by decide) (pcT := 14) (pcF := 8) (by decide) rfl (fun h5 => ?_) (fun h5 => ?_)
    · replace h5 : ¬ (3 : Int32) = 0 := h5
      refine Go.iloadN K at_14 rfl (pc' := 15) rfl ?_
      refine Go.iconst K (v := 1) at_15 rfl (pc' := 16) rfl ?_
      refine Go.icmp K at_16 (by decide) (pcT := 25) (pcF := 19) (by decide) rfl (fun h16 => ?_) (fun h16 => ?_)
      · replace h16 : ¬ (3 : Int32) = (1 : Int32) := h16
        refine Go.getS K (host := "") (Or.inl (hw _ (List.mem_of_getElem? (i := 58) rfl))) Via.refl (S_t2.ext od.2) at_25 (pc' := 28) rfl ?_
        refine Go.astore K at_28 rfl (Ls' := #[.val (.int p0), .val (.int p1), .val (.int p2), .val (.int (3 : Int32)), .val (.ref t2), .unset, .unset, .unset, .unset, .unset, .unset, .unset, .unset, .unset, .unset]) rfl (pc' := 30) rfl ?_
        refine Go.iloadN K at_30 rfl (pc' := 31) rfl ?_
        refine Go.iconst K (v := 3) at_31 rfl (pc' := 32) rfl ?_
        refine Go.iand K at_32 (pc' := 33) rfl ?_
        obtain ⟨pn, hpn, epn⟩ := own_and3N p1
        rw [epn]
        show Go p l e _ _ m _ below meth c _ _ _ _ h0 _ _ (mkF m 33 #[.val (.int p0), .val (.int p1), .val (.int p2), .val (.int (3 : Int32)), .val (.ref t2), .unset, .unset, .unset, .unset, .unset, .unset, .unset, .unset, .unset, .unset] [(.int (Int32.ofNat pn))])
        refine Go.istore K at_33 (Ls' := #[.val (.int p0), .val (.int p1), .val (.int p2), .val (.int (3 : Int32)), .val (.ref t2), .val (.int (Int32.ofNat pn)), .unset, .unset, .unset, .unset, .unset, .unset, .unset, .unset, .unset]) rfl (pc' := 35) rfl ?_
        refine Go.iloadN K at_35 rfl (pc' := 36) rfl ?_
        refine Go.iconst K (v := 2) at_36 rfl (pc' := 37) rfl ?_
        refine Go.iushr K at_37 (pc' := 38) rfl ?_
        refine Go.bipush K (v := 7) at_38 rfl (pc' := 40) rfl ?_
        refine Go.iand K at_40 (pc' := 41) rfl ?_
        refine Go.istore K at_41 (Ls' := #[.val (.int p0), .val (.int p1), .val (.int p2), .val (.int (3 : Int32)), .val (.ref t2), .val (.int (Int32.ofNat pn)), .val (.int (((p1.toUInt32 >>> ((2 : Int32) &&& 31).toUInt32).toInt32) &&& (7 : Int32))), .unset, .unset, .unset, .unset, .unset, .unset, .unset, .unset]) rfl (pc' := 43) rfl ?_
        refine Go.iloadN K at_43 rfl (pc' := 44) rfl ?_
        refine Go.iconst K (v := 5) at_44 rfl (pc' := 45) rfl ?_
        refine Go.iushr K at_45 (pc' := 46) rfl ?_
        refine Go.bipush K (v := 7) at_46 rfl (pc' := 48) rfl ?_
        refine Go.iand K at_48 (pc' := 49) rfl ?_
        refine Go.istore K at_49 (Ls' := #[.val (.int p0), .val (.int p1), .val (.int p2), .val (.int (3 : Int32)), .val (.ref t2), .val (.int (Int32.ofNat pn)), .val (.int (((p1.toUInt32 >>> ((2 : Int32) &&& 31).toUInt32).toInt32) &&& (7 : Int32))), .val (.int (((p1.toUInt32 >>> ((5 : Int32) &&& 31).toUInt32).toInt32) &&& (7 : Int32))), .unset, .unset, .unset, .unset, .unset, .unset, .unset]) rfl (pc' := 51) rfl ?_
        refine Go.iloadN K at_51 rfl (pc' := 52) rfl ?_
        refine Go.bipush K (v := 8) at_52 rfl (pc' := 54) rfl ?_
        refine Go.iushr K at_54 (pc' := 55) rfl ?_
        refine Go.bipush K (v := 7) at_55 rfl (pc' := 57) rfl ?_
        refine Go.iand K at_57 (pc' := 58) rfl ?_
        refine Go.istore K at_58 (Ls' := #[.val (.int p0), .val (.int p1), .val (.int p2), .val (.int (3 : Int32)), .val (.ref t2), .val (.int (Int32.ofNat pn)), .val (.int (((p1.toUInt32 >>> ((2 : Int32) &&& 31).toUInt32).toInt32) &&& (7 : Int32))), .val (.int (((p1.toUInt32 >>> ((5 : Int32) &&& 31).toUInt32).toInt32) &&& (7 : Int32))), .val (.int (((p1.toUInt32 >>> ((8 : Int32) &&& 31).toUInt32).toInt32) &&& (7 : Int32))), .unset, .unset, .unset, .unset, .unset, .unset]) rfl (pc' := 60) rfl ?_
        refine Go.iloadN K at_60 rfl (pc' := 61) rfl ?_
        refine Go.iconst K (v := 3) at_61 rfl (pc' := 62) rfl ?_
        refine Go.iand K at_62 (pc' := 63) rfl ?_
        obtain ⟨rn, hrn, ern⟩ := own_and3N p2
        rw [ern]
        show Go p l e _ _ m _ below meth c _ _ _ _ h0 _ _ (mkF m 63 #[.val (.int p0), .val (.int p1), .val (.int p2), .val (.int (3 : Int32)), .val (.ref t2), .val (.int (Int32.ofNat pn)), .val (.int (((p1.toUInt32 >>> ((2 : Int32) &&& 31).toUInt32).toInt32) &&& (7 : Int32))), .val (.int (((p1.toUInt32 >>> ((5 : Int32) &&& 31).toUInt32).toInt32) &&& (7 : Int32))), .val (.int (((p1.toUInt32 >>> ((8 : Int32) &&& 31).toUInt32).toInt32) &&& (7 : Int32))), .unset, .unset, .unset, .unset, .unset, .unset] [(.int (Int32.ofNat rn))])
        refine Go.istore K at_63 (Ls' := #[.val (.int p0), .val (.int p1), .val (.int p2), .val (.int (3 : Int32)), .val (.ref t2), .val (.int (Int32.ofNat pn)), .val (.int (((p1.toUInt32 >>> ((2 : Int32) &&& 31).toUInt32).toInt32) &&& (7 : Int32))), .val (.int (((p1.toUInt32 >>> ((5 : Int32) &&& 31).toUInt32).toInt32) &&& (7 : Int32))), .val (.int (((p1.toUInt32 >>> ((8 : Int32) &&& 31).toUInt32).toInt32) &&& (7 : Int32))), .val (.int (Int32.ofNat rn)), .unset, .unset, .unset, .unset, .unset]) rfl (pc' := 65) rfl ?_
        refine Go.iconst K (v := 3) at_65 rfl (pc' := 66) rfl ?_
        refine Go.newP K (hw _ (List.mem_of_getElem? (i := 3) rfl)) (by decide) 3 (by decide) (by decide) (by decide) (by decide) at_66 (pc' := 68) rfl ?_
        intro h1090 rr kA_rr eq1092 E1091 V_rr
        have g_rr : n0 ≤ rr := Nat.le_trans Z0 (Nat.le_of_eq eq1092.symm)
        have od1093 := od.ext E1091
        have z1094 := Nat.le_trans Z0 E1091.1
        have cr1095 := CR.trans (CHr.ext E1091 CR.1)
        have V1096 : Arv Z h1090 rr kA_rr .int (3 : Int32) [(.int (0 : Int32)), (.int (0 : Int32)), (.int (0 : Int32))] (.int (0 : Int32)) := V_rr.pad (pad_rep [] (.int (0 : Int32)) 3)
        refine Go.dup K at_68 rfl (pc' := 69) rfl ?_
        refine Go.iconst K (v := 0) at_69 rfl (pc' := 70) rfl ?_
        refine Go.iloadN K at_70 rfl (pc' := 71) rfl ?_
        refine Go.iconst K (v := 2) at_71 rfl (pc' := 72) rfl ?_
        refine Go.iushr K at_72 (pc' := 73) rfl ?_
        refine Go.bipush K (v := 7) at_73 rfl (pc' := 75) rfl ?_
        refine Go.iand K at_75 (pc' := 76) rfl ?_
        refine Go.iastore K V1096 0 rfl (Nat.le_of_ble_eq_true rfl) ⟨by decide, by decide⟩ g_rr at_76 (pc' := 77) rfl ?_
        intro h1097 K1098 V1099
        replace V1099 : Arv Z h1097 rr kA_rr .int (3 : Int32) [(.int (((p2.toUInt32 >>> ((2 : Int32) &&& 31).toUInt32).toInt32) &&& (7 : Int32))), (.int (0 : Int32)), (.int (0 : Int32))] (.int (0 : Int32)) := V1099
        have cr1100 := cr1095.trans (CHr.keep K1098 (sfS (Safe.arv K.cz.alike V1096 (by decide)) sf0) cr1095.1)
        have od1102 := od1093.keep K1098 (allS g_rr all0)
        have z1103 := Nat.le_trans z1094 K1098.1
        refine Go.dup K at_77 rfl (pc' := 78) rfl ?_
        refine Go.iconst K (v := 1) at_78 rfl (pc' := 79) rfl ?_
        refine Go.iloadN K at_79 rfl (pc' := 80) rfl ?_
        refine Go.iconst K (v := 5) at_80 rfl (pc' := 81) rfl ?_
        refine Go.iushr K at_81 (pc' := 82) rfl ?_
        refine Go.bipush K (v := 7) at_82 rfl (pc' := 84) rfl ?_
        refine Go.iand K at_84 (pc' := 85) rfl ?_
        refine Go.iastore K V1099 1 rfl (Nat.le_of_ble_eq_true rfl) ⟨by decide, by decide⟩ g_rr at_85 (pc' := 86) rfl ?_
        intro h1104 K1105 V1106
        replace V1106 : Arv Z h1104 rr kA_rr .int (3 : Int32) [(.int (((p2.toUInt32 >>> ((2 : Int32) &&& 31).toUInt32).toInt32) &&& (7 : Int32))), (.int (((p2.toUInt32 >>> ((5 : Int32) &&& 31).toUInt32).toInt32) &&& (7 : Int32))), (.int (0 : Int32))] (.int (0 : Int32)) := V1106
        have cr1107 := cr1100.trans (CHr.keep K1105 (sfS (Safe.arv K.cz.alike V1099 (by decide)) sf0) cr1100.1)
        have od1109 := od1102.keep K1105 (allS g_rr all0)
        have z1110 := Nat.le_trans z1103 K1105.1
        refine Go.dup K at_86 rfl (pc' := 87) rfl ?_
        refine Go.iconst K (v := 2) at_87 rfl (pc' := 88) rfl ?_
        refine Go.iloadN K at_88 rfl (pc' := 89) rfl ?_
        refine Go.bipush K (v := 8) at_89 rfl (pc' := 91) rfl ?_
        refine Go.iushr K at_91 (pc' := 92) rfl ?_
        refine Go.bipush K (v := 7) at_92 rfl (pc' := 94) rfl ?_
        refine Go.iand K at_94 (pc' := 95) rfl ?_
        refine Go.iastore K V1106 2 rfl (Nat.le_of_ble_eq_true rfl) ⟨by decide, by decide⟩ g_rr at_95 (pc' := 96) rfl ?_
        intro h1111 K1112 V1113
        replace V1113 : Arv Z h1111 rr kA_rr .int (3 : Int32) [(.int (((p2.toUInt32 >>> ((2 : Int32) &&& 31).toUInt32).toInt32) &&& (7 : Int32))), (.int (((p2.toUInt32 >>> ((5 : Int32) &&& 31).toUInt32).toInt32) &&& (7 : Int32))), (.int (((p2.toUInt32 >>> ((8 : Int32) &&& 31).toUInt32).toInt32) &&& (7 : Int32)))] (.int (0 : Int32)) := V1113
        have cr1114 := cr1107.trans (CHr.keep K1112 (sfS (Safe.arv K.cz.alike V1106 (by decide)) sf0) cr1107.1)
        have od1116 := od1109.keep K1112 (allS g_rr all0)
        have z1117 := Nat.le_trans z1110 K1112.1
        refine Go.astore K at_96 rfl (Ls' := #[.val (.int p0), .val (.int p1), .val (.int p2), .val (.int (3 : Int32)), .val (.ref t2), .val (.int (Int32.ofNat pn)), .val (.int (((p1.toUInt32 >>> ((2 : Int32) &&& 31).toUInt32).toInt32) &&& (7 : Int32))), .val (.int (((p1.toUInt32 >>> ((5 : Int32) &&& 31).toUInt32).toInt32) &&& (7 : Int32))), .val (.int (((p1.toUInt32 >>> ((8 : Int32) &&& 31).toUInt32).toInt32) &&& (7 : Int32))), .val (.int (Int32.ofNat rn)), .val (.ref rr), .unset, .unset, .unset, .unset]) rfl (pc' := 98) rfl ?_
        exact segB hw wS hEL K hS h0 h1111 n0 z1117 cr1114 od1116 zc S1 P1 t2 (E_t2.ext od1116.2) (F_t2.ext od1116.2) p0 p1 p2 (3 : Int32) (((p1.toUInt32 >>> ((2 : Int32) &&& 31).toUInt32).toInt32) &&& (7 : Int32)) (((p1.toUInt32 >>> ((5 : Int32) &&& 31).toUInt32).toInt32) &&& (7 : Int32)) (((p1.toUInt32 >>> ((8 : Int32) &&& 31).toUInt32).toInt32) &&& (7 : Int32)) (((p2.toUInt32 >>> ((2 : Int32) &&& 31).toUInt32).toInt32) &&& (7 : Int32)) (((p2.toUInt32 >>> ((5 : Int32) &&& 31).toUInt32).toInt32) &&& (7 : Int32)) (((p2.toUInt32 >>> ((8 : Int32) &&& 31).toUInt32).toInt32) &&& (7 : Int32)) (by decide) pn rn hpn hrn (own_and7 _) (own_and7 _) (own_and7 _) (own_and7 _) (own_and7 _) (own_and7 _) rr kA_rr V1113 _ _ (by decide) (by decide)
      · replace h16 : ¬ (¬ (3 : Int32) = (1 : Int32)) := h16
        exact absurd (by decide) h16
    · replace h5 : ¬ (¬ (3 : Int32) = 0) := h5
      exact absurd (by decide) h5
theorem own_eqi {args : Array Value} {first s : State} {o : Option Outcome} {idx : List Nat} {t : Term} {x : Int32} (h : (Jvm.Cond.eq t (.int x)).value args first o s idx = some true) : t.eval args first o idx s = some (.int x) := by
  simp only [Cond.value, Term.eval] at h
  cases e : t.eval args first o idx s with
  | none => simp [e] at h
  | some v => cases v <;> simp [e] at h ⊢ <;> first | exact h | exact h.symm
set_option maxRecDepth 65536 in
set_option maxHeartbeats 40000000 in
theorem comes_1 {Post : Tables → Env → Array Value → State → Outcome → State → Prop} (hpost : ∀ tb e args s v u, (limb_1_1.after args s (.returned v) u = true ∧ limb_1_2.after args s (.returned v) u = true ∧ True) → ReturnedEndW s (.returned v) u (Jvm.fieldLocs frame_1_writes args s ++ Jvm.arrayLocs frame_1_arrays args s ++ Jvm.staticLocs frame_1_statics s) 64 3328 → Post tb e args s (.returned v) u) :
    ArmFor flags0 classFile x code maxLocals ret World_1 tables_1 room_1 Calls_1 rest_1 Pre_1 Post := by
  intro l hfl _ _ p e ha hc hk s m args below hf hA hF happ hP
  obtain ⟨hcalls, hrest, hpre⟩ := hP
  obtain ⟨-, -, -, hnamed, -, -, -, hat⟩ := (Spec.applies_iff hf).mp happ
  obtain ⟨hg, hn⟩ := and_e (Cond.before_iff.mp (show (Jvm.Cond.and given_1 narrow_1).before args s = true from hpre))
  obtain ⟨q0, r0⟩ := and_e hg
  obtain ⟨q1, r1⟩ := and_e r0
  obtain ⟨q2, r2⟩ := and_e r1
  obtain ⟨w0, w1, w2, rfl⟩ : ∃ w0 w1 w2 : Value, args = #[w0, w1, w2] := by
    have hs : args.size = 3 := by simpa [Cond.value, given_1] using q0
    obtain ⟨L⟩ := args
    match L, hs with
    | [w0, w1, w2], _ => exact ⟨w0, w1, w2, rfl⟩
  have hw := fun d (hd : d ∈ tables_1) => atoms_spec (ws := Jvm.Cond.code x code maxLocals ret :: tables_1) hat d (List.mem_cons_of_mem _ hd)
  obtain ⟨hsets, hown0⟩ := atoms_of _ (rest_1_c_eq ▸ (show rest_1_c.before _ s = true from hrest))
  have hr0 := Cond.before_iff.mp hown0
  have hfit : Fit s := fun {y c} hc i hi => by
    obtain ⟨ha, rfl⟩ := Array.getElem?_eq_some_iff.mp hc
    have q := List.all_eq_true.mp ((Array.all_eq_true_iff_forall_mem.mp hF) _ (Array.getElem_mem ha)) i (List.mem_range.mpr hi)
    simpa [Array.getElem?_eq_getElem hi] using q
  obtain ⟨i0, ei0⟩ := is_v q1
  obtain rfl : w0 = (.int i0) := Option.some.inj ei0
  obtain ⟨i1, ei1⟩ := is_v q2
  obtain rfl : w1 = (.int i1) := Option.some.inj ei1
  obtain ⟨i2, ei2⟩ := is_v r2
  obtain rfl : w2 = (.int i2) := Option.some.inj ei2
  obtain ⟨zc, ezc⟩ := is_v (Cond.before_iff.mp (hsets _ (List.mem_of_getElem? (i := 1) rfl)))
  have S1 : Sta s s.heap "java/lang/String" "COMPACT_STRINGS" "Z" (.int zc) := Sta.start ezc (Or.inl (hsets _ (List.mem_of_getElem? (i := 0) rfl)))
  have P1 : ¬ (zc = (0 : Int32)) := gotF (Cond.eq_ints ezc (Term.int_eval (0))) (not_v (Cond.before_iff.mp (hsets _ (List.mem_of_getElem? (i := 2) rfl))))
  obtain ⟨qe0, hne0⟩ := and_e hn
  obtain ⟨qo0, hno0⟩ := and_e hne0
  obtain ⟨t1, e_t1⟩ := exa_v qe0
  have S_t1 : Sta s s.heap "com/example/intackt/intackt/vhost/ExchangeType" "FANOUT" "Lcom/example/intackt/intackt/vhost/ExchangeType;" (.ref t1) := Sta.start e_t1 (Or.inr ⟨(hw _ (List.mem_of_getElem? (i := 1) rfl)), (hw _ (List.mem_of_getElem? (i := 2) rfl))⟩)
  have E_t1 : Exa s s.heap t1 "com/example/intackt/intackt/vhost/ExchangeType" := Exa.start e_t1 qe0
  have F_t1 : Fld s s.heap t1 "java/lang/Enum" "ordinal" "I" (.int (1 : Int32)) := Fld.start ((fld_at e_t1).symm.trans (own_eqi qo0))
  obtain ⟨qe1, hne1⟩ := and_e hno0
  obtain ⟨qo1, hno1⟩ := and_e hne1
  obtain ⟨t3, e_t3⟩ := exa_v qe1
  have S_t3 : Sta s s.heap "com/example/intackt/intackt/vhost/ExchangeType" "HEADERS" "Lcom/example/intackt/intackt/vhost/ExchangeType;" (.ref t3) := Sta.start e_t3 (Or.inr ⟨(hw _ (List.mem_of_getElem? (i := 1) rfl)), (hw _ (List.mem_of_getElem? (i := 57) rfl))⟩)
  have E_t3 : Exa s s.heap t3 "com/example/intackt/intackt/vhost/ExchangeType" := Exa.start e_t3 qe1
  have F_t3 : Fld s s.heap t3 "java/lang/Enum" "ordinal" "I" (.int (3 : Int32)) := Fld.start ((fld_at e_t3).symm.trans (own_eqi qo1))
  obtain ⟨qe2, hne2⟩ := and_e hno1
  obtain ⟨t2, e_t2⟩ := exa_v qe2
  have S_t2 : Sta s s.heap "com/example/intackt/intackt/vhost/ExchangeType" "TOPIC" "Lcom/example/intackt/intackt/vhost/ExchangeType;" (.ref t2) := Sta.start e_t2 (Or.inr ⟨(hw _ (List.mem_of_getElem? (i := 1) rfl)), (hw _ (List.mem_of_getElem? (i := 59) rfl))⟩)
  have E_t2 : Exa s s.heap t2 "com/example/intackt/intackt/vhost/ExchangeType" := Exa.start e_t2 qe2
  have F_t2 : Fld s s.heap t2 "java/lang/Enum" "ordinal" "I" (.int (2 : Int32)) := Fld.start ((fld_at e_t2).symm.trans (own_eqi hne2))
  have wS : ∀ a ∈ Bundle.stringAtoms, a.before _ s = true := fun d hd => hw d ((by decide +kernel : ∀ d ∈ Bundle.stringAtoms, d ∈ tables_1) d hd)
  have hEL : EW s _ [("com/example/intackt/intackt/vhost/ExchangeType", 138), ("com/example/intackt/intackt/vhost/ExchangeType", 140), ("java/lang/String", 7)] := EW.cons (hw _ (List.mem_of_getElem? (i := 73) rfl)) (by decide) (EW.cons (hw _ (List.mem_of_getElem? (i := 86) rfl)) (by decide) (EW.cons (hw _ (List.mem_of_getElem? (i := 87) rfl)) (by decide) EW.nil))
  have HC0 : CHv s [("com/example/intackt/intackt/vhost/ExchangeType", 138), ("com/example/intackt/intackt/vhost/ExchangeType", 140), ("java/lang/String", 7)] s.vm s.heap := CHv.start hEL (fun q hq => hcalls.1 q (by simpa [consts_1] using hq)) (hsets _ (by decide +kernel)) (hw _ (List.mem_of_getElem? (i := 31) rfl)) (hw _ (List.mem_of_getElem? (i := 14) rfl))
  obtain ⟨n, o, h1, h2, h3, _, L, rfl, ⟨⟨rfl, N⟩, -⟩, -, hq⟩ := m_law l s _ hw s.heap s.heap.size (Nat.le_refl _) wS hEL i0 i1 i2 zc S1 P1 (Old.start s) t1 S_t1 E_t1 F_t1 t3 S_t3 E_t3 F_t3 t2 S_t2 E_t2 F_t2 p e ha hc hk s m _ below hf ((Spec.applies_iff_loose hf).mp happ).1 ⟨rfl, State.Warmed39.refl s, rfl, HC0⟩ trivial
  refine ⟨n, _, h1, h2, h3, hpost _ _ _ _ _ _ ⟨Cond.after_iff.mpr rfl, Cond.after_iff.mpr (eq_i res_at (Term.int_eval (1)) rfl), trivial⟩ ⟨hq.1, hq.2.1, hq.2.2.1, (hq.2.2.2.sift fun y hy => Or.inr (N y hy)).mono (by decide) (by decide)⟩⟩
theorem main_1_1 : Claimed_1_1 := comes_1 fun _ _ _ _ _ _ h hF => ⟨h.1, hF⟩
theorem main_1_2 : Claimed_1_2 := comes_1 fun _ _ _ _ _ _ h hF => ⟨h.2.1, hF⟩
end Jvm.Pilot.@@N@@
namespace Jvm.Pilot.@@N@@
open Jvm Jvm.ClassFile Sem Op Lib Jvm.Free Jvm.Stand Jvm.Pilot.@@N@@.Jvm.D
/-! MADE BY PROGRAM (witnessworld.py) out of the Statement's table words and the real class files: 24 classes; the members and pool entries that the words name. The judged class is class 1, her method 1. -/
namespace start1
open Jvm.ClassFile
def u (s : String) : CpInfo := .utf8 (stringToUtf16 s)
/-- a pool by its gaps: so many unusable entries, then the entry; so many at the end -/
def gap : Nat → List CpInfo → List CpInfo
  | 0, r => r
  | n + 1, r => .unusable :: gap n r
def poolList (es : List (Nat × CpInfo)) (last : Nat) : List CpInfo := es.foldr (fun e r => gap e.1 (e.2 :: r)) (gap last [])
def pool (es : List (Nat × CpInfo)) (last : Nat) : Array CpInfo := ⟨poolList es last⟩
def fileOf (pool : Array CpInfo) (this : Nat) (attrs : Array Attribute := #[]) (ms : Array MethodInfo := #[]) (fl : Nat := 33) (sup : Nat := 0) (ifs : Array Nat := #[]) (fds : Array FieldInfo := #[]) : ClassFile where
  minorVersion := 0
  majorVersion := 65
  constantPool := pool
  accessFlags := fl
  thisClass := this
  superClass := sup
  interfaces := ifs
  fields := fds
  methods := ms
  attributes := attrs
def plain (name : String) (sup : Option ClassId) : Class where
  name := name
  kind := .ordinary
  loader := none
  accessFlags := 33
  super := sup
  interfaces := #[]
  cf := none
  fields := #[]
  methods := #[]
  instanceTypes := #[]
  staticTypes := #[]
  resolved := #[]
  callSites := []
  init := .initialized
  statics := none
  mirror := none

def pool0 : Array CpInfo := pool [(5, u "<init>"), (0, u "()V"), (1, .class_ 10), (1, u "java/lang/Object")] 113

def k0c0 : Code := { maxStack := 0, maxLocals := 1, code := object_method_1_code, exceptionTable := #[], attributes := #[] }
def k0m0 : Method := { name := "<init>", desc := "()V", sig := { parameters := [], returnType := none }, accessFlags := 1, code := some k0c0 }
/-- java/lang/Object -/
def k0 : Class := { plain "java/lang/Object" none with
  accessFlags := 33
  interfaces := #[]
  cf := some (fileOf pool0 8 #[] #[{ accessFlags := 1, nameIndex := 5, descriptorIndex := 6, attributes := #[] }] 33 0 #[] #[])
  fields := #[]
  methods := #[k0m0]
  instanceTypes := #[]
  staticTypes := #[]
  resolved := Array.replicate 124 none
  statics := none }

def pool1 : Array CpInfo := pool [(2, .class_ 4), (1, u "java/lang/Object"), (0, u "<init>"), (0, u "()V"), (0, .fieldref 8 9), (0, .class_ 10), (0, .nameAndType 11 12), (0, u "com/example/intackt/intackt/vhost/ExchangeType"), (0, u "FANOUT"), (0, u "Lcom/example/intackt/intackt/vhost/ExchangeType;"), (0, .fieldref 8 14), (0, .nameAndType 15 12), (0, u "HEADERS"), (0, .fieldref 8 17), (0, .nameAndType 18 12), (0, u "TOPIC"), (0, .methodref 20 21), (0, .class_ 22), (0, .nameAndType 23 24), (0, u "com/example/intackt/intackt/vhost/ExchangeTypeKeyMatchesPinLaw"), (0, u "words"), (0, u "(IIII)[Ljava/lang/String;"), (0, .methodref 20 26), (0, .nameAndType 27 28), (0, u "m1"), (0, u "(I[III)Z"), (0, .methodref 20 30), (0, .nameAndType 31 32), (0, u "m2"), (0, u "(II[III)Z"), (0, .methodref 20 34), (0, .nameAndType 35 36), (0, u "m3"), (0, u "(III[III)Z"), (0, .methodref 8 38), (0, .nameAndType 39 40), (0, u "keyMatches"), (0, u "([Ljava/lang/String;[Ljava/lang/String;)Z"), (0, .class_ 42), (0, u "java/lang/String"), (0, .methodref 41 44), (0, .nameAndType 5 45), (0, u "([C)V"), (0, .methodref 20 47), (0, .nameAndType 48 49), (0, u "word"), (0, u "(I)Ljava/lang/String;"), (0, .methodref 20 51), (0, .nameAndType 52 53), (0, u "single"), (0, u "(II)Z"), (2, u "law"), (0, u "(III)Z")] 9

def k1m0 : Method := { name := "<init>", desc := "()V", sig := { parameters := [], returnType := none }, accessFlags := 1, code := none }
def k1c1 : Code := { maxStack := 6, maxLocals := 15, code := code, exceptionTable := #[], attributes := #[] }
def k1m1 : Method := { name := "law", desc := "(III)Z", sig := { parameters := [.int, .int, .int], returnType := some .boolean }, accessFlags := 9, code := some k1c1 }
def k1c2 : Code := { maxStack := 4, maxLocals := 2, code := method_3_code, exceptionTable := #[], attributes := #[] }
def k1m2 : Method := { name := "word", desc := "(I)Ljava/lang/String;", sig := { parameters := [.int], returnType := some (.object "java/lang/String") }, accessFlags := 10, code := some k1c2 }
def k1c3 : Code := { maxStack := 4, maxLocals := 4, code := method_4_code, exceptionTable := #[], attributes := #[] }
def k1m3 : Method := { name := "words", desc := "(IIII)[Ljava/lang/String;", sig := { parameters := [.int, .int, .int, .int], returnType := some (.array (.object "java/lang/String")) }, accessFlags := 10, code := some k1c3 }
def k1c4 : Code := { maxStack := 2, maxLocals := 2, code := method_5_code, exceptionTable := #[], attributes := #[] }
def k1m4 : Method := { name := "single", desc := "(II)Z", sig := { parameters := [.int, .int], returnType := some .boolean }, accessFlags := 10, code := some k1c4 }
def k1c5 : Code := { maxStack := 3, maxLocals := 4, code := method_6_code, exceptionTable := #[], attributes := #[] }
def k1m5 : Method := { name := "m1", desc := "(I[III)Z", sig := { parameters := [.int, (.array .int), .int, .int], returnType := some .boolean }, accessFlags := 10, code := some k1c5 }
def k1c6 : Code := { maxStack := 5, maxLocals := 5, code := method_7_code, exceptionTable := #[], attributes := #[] }
def k1m6 : Method := { name := "m2", desc := "(II[III)Z", sig := { parameters := [.int, .int, (.array .int), .int, .int], returnType := some .boolean }, accessFlags := 10, code := some k1c6 }
def k1c7 : Code := { maxStack := 6, maxLocals := 6, code := method_8_code, exceptionTable := #[], attributes := #[] }
def k1m7 : Method := { name := "m3", desc := "(III[III)Z", sig := { parameters := [.int, .int, .int, (.array .int), .int, .int], returnType := some .boolean }, accessFlags := 10, code := some k1c7 }
/-- com/example/intackt/intackt/vhost/ExchangeTypeKeyMatchesPinLaw -/
def k1 : Class := { plain "com/example/intackt/intackt/vhost/ExchangeTypeKeyMatchesPinLaw" (some 0) with
  accessFlags := 49
  interfaces := #[]
  cf := some (fileOf pool1 20 #[] #[{ accessFlags := 1, nameIndex := 5, descriptorIndex := 6, attributes := #[] }, { accessFlags := 9, nameIndex := 56, descriptorIndex := 57, attributes := #[] }, { accessFlags := 10, nameIndex := 48, descriptorIndex := 49, attributes := #[] }, { accessFlags := 10, nameIndex := 23, descriptorIndex := 24, attributes := #[] }, { accessFlags := 10, nameIndex := 52, descriptorIndex := 53, attributes := #[] }, { accessFlags := 10, nameIndex := 27, descriptorIndex := 28, attributes := #[] }, { accessFlags := 10, nameIndex := 31, descriptorIndex := 32, attributes := #[] }, { accessFlags := 10, nameIndex := 35, descriptorIndex := 36, attributes := #[] }] 49 2 #[] #[])
  fields := #[]
  methods := #[k1m0, k1m1, k1m2, k1m3, k1m4, k1m5, k1m6, k1m7]
  instanceTypes := #[]
  staticTypes := #[]
  resolved := Array.replicate 67 none
  statics := none }

def pool2 : Array CpInfo := pool [(1, .class_ 2), (0, u "java/lang/constant/Constable"), (0, .class_ 4), (0, u "java/lang/Object")] 6

/-- java/lang/constant/Constable -/
def k2 : Class := { plain "java/lang/constant/Constable" (some 0) with
  accessFlags := 1537
  interfaces := #[]
  cf := some (fileOf pool2 1 #[] #[] 1537 3 #[] #[])
  fields := #[]
  methods := #[]
  instanceTypes := #[]
  staticTypes := #[]
  resolved := Array.replicate 11 none
  statics := none }

def pool3 : Array CpInfo := pool [(1, .class_ 2), (0, u "java/lang/Comparable"), (0, .class_ 4), (0, u "java/lang/Object")] 7

/-- java/lang/Comparable -/
def k3 : Class := { plain "java/lang/Comparable" (some 0) with
  accessFlags := 1537
  interfaces := #[]
  cf := some (fileOf pool3 1 #[] #[] 1537 3 #[] #[])
  fields := #[]
  methods := #[]
  instanceTypes := #[]
  staticTypes := #[]
  resolved := Array.replicate 12 none
  statics := none }

def pool4 : Array CpInfo := pool [(1, .class_ 2), (0, u "java/io/Serializable"), (0, .class_ 4), (0, u "java/lang/Object")] 2

/-- java/io/Serializable -/
def k4 : Class := { plain "java/io/Serializable" (some 0) with
  accessFlags := 1537
  interfaces := #[]
  cf := some (fileOf pool4 1 #[] #[] 1537 3 #[] #[])
  fields := #[]
  methods := #[]
  instanceTypes := #[]
  staticTypes := #[]
  resolved := Array.replicate 7 none
  statics := none }

def pool5 : Array CpInfo := pool [(2, .class_ 4), (1, u "java/lang/Enum"), (0, u "name"), (0, u "Ljava/lang/String;"), (0, .fieldref 2 8), (0, .nameAndType 9 10), (0, u "ordinal"), (0, u "I"), (1, .class_ 14), (1, u "java/lang/Object"), (4, u "hash"), (86, .class_ 108), (1, u "java/lang/Enum$EnumDesc"), (2, .class_ 112), (0, u "java/lang/constant/Constable"), (0, .class_ 114), (0, u "java/lang/Comparable"), (0, .class_ 116), (0, u "java/io/Serializable"), (9, u "()I")] 77

def k5c0 : Code := { maxStack := 1, maxLocals := 1, code := jdk_37_method_2_code, exceptionTable := #[], attributes := #[] }
def k5m0 : Method := { name := "ordinal", desc := "()I", sig := { parameters := [], returnType := some .int }, accessFlags := 17, code := some k5c0 }
/-- java/lang/Enum -/
def k5 : Class := { plain "java/lang/Enum" (some 0) with
  accessFlags := 1057
  interfaces := #[2, 3, 4]
  cf := some (fileOf pool5 2 #[.nestMembers #[106]] #[{ accessFlags := 17, nameIndex := 9, descriptorIndex := 126, attributes := #[] }] 1057 12 #[111, 113, 115] #[{ accessFlags := 18, nameIndex := 5, descriptorIndex := 6, attributes := #[] }, { accessFlags := 18, nameIndex := 9, descriptorIndex := 10, attributes := #[] }, { accessFlags := 2, nameIndex := 19, descriptorIndex := 10, attributes := #[] }])
  fields := #[{ name := "name", type := (.object "java/lang/String"), accessFlags := 18, slot := 0, constantValue := 0 }, { name := "ordinal", type := .int, accessFlags := 18, slot := 1, constantValue := 0 }, { name := "hash", type := .int, accessFlags := 2, slot := 2, constantValue := 0 }]
  methods := #[k5m0]
  instanceTypes := #[(.object "java/lang/String"), .int, .int]
  staticTypes := #[]
  resolved := Array.replicate 204 none
  statics := none }

def pool6 : Array CpInfo := pool [(1, .class_ 2), (0, u "com/example/intackt/intackt/vhost/ExchangeType"), (2, u "DIRECT"), (0, u "Lcom/example/intackt/intackt/vhost/ExchangeType;"), (2, u "FANOUT"), (2, u "TOPIC"), (2, u "HEADERS"), (2, u "$VALUES"), (0, u "[Lcom/example/intackt/intackt/vhost/ExchangeType;"), (6, .class_ 28), (1, u "java/lang/Enum"), (47, .class_ 78), (1, u "java/lang/String"), (11, .methodref 76 91), (0, .nameAndType 92 93), (0, u "equals"), (0, u "(Ljava/lang/Object;)Z"), (14, .methodref 1 109), (0, .nameAndType 110 111), (0, u "ordinal"), (0, u "()I"), (0, .methodref 1 113), (0, .nameAndType 114 115), (0, u "topicMatches"), (0, u "([Ljava/lang/String;[Ljava/lang/String;)Z"), (18, .methodref 1 135), (0, .nameAndType 136 137), (0, u "passHashes"), (0, u "([Ljava/lang/String;[Z)V"), (0, .string 139), (0, u "#"), (0, .string 141), (0, u "*"), (76, u "MATCH"), (0, u "Ljava/lang/String;"), (1, u "RESERVED_PREFIX"), (13, u "keyMatches")] 45

def k6c0 : Code := { maxStack := 3, maxLocals := 4, code := prog_5_method_7_code, exceptionTable := #[], attributes := #[] }
def k6m0 : Method := { name := "keyMatches", desc := "([Ljava/lang/String;[Ljava/lang/String;)Z", sig := { parameters := [(.array (.object "java/lang/String")), (.array (.object "java/lang/String"))], returnType := some .boolean }, accessFlags := 0, code := some k6c0 }
def k6c1 : Code := { maxStack := 3, maxLocals := 9, code := prog_5_method_10_code, exceptionTable := #[], attributes := #[] }
def k6m1 : Method := { name := "topicMatches", desc := "([Ljava/lang/String;[Ljava/lang/String;)Z", sig := { parameters := [(.array (.object "java/lang/String")), (.array (.object "java/lang/String"))], returnType := some .boolean }, accessFlags := 10, code := some k6c1 }
def k6c2 : Code := { maxStack := 3, maxLocals := 3, code := prog_5_method_11_code, exceptionTable := #[], attributes := #[] }
def k6m2 : Method := { name := "passHashes", desc := "([Ljava/lang/String;[Z)V", sig := { parameters := [(.array (.object "java/lang/String")), (.array .boolean)], returnType := none }, accessFlags := 10, code := some k6c2 }
/-- com/example/intackt/intackt/vhost/ExchangeType -/
def k6 : Class := { plain "com/example/intackt/intackt/vhost/ExchangeType" (some 5) with
  accessFlags := 16433
  interfaces := #[]
  cf := some (fileOf pool6 1 #[] #[{ accessFlags := 0, nameIndex := 235, descriptorIndex := 115, attributes := #[] }, { accessFlags := 10, nameIndex := 114, descriptorIndex := 115, attributes := #[] }, { accessFlags := 10, nameIndex := 136, descriptorIndex := 137, attributes := #[] }] 16433 26 #[] #[{ accessFlags := 16409, nameIndex := 5, descriptorIndex := 6, attributes := #[] }, { accessFlags := 16409, nameIndex := 9, descriptorIndex := 6, attributes := #[] }, { accessFlags := 16409, nameIndex := 12, descriptorIndex := 6, attributes := #[] }, { accessFlags := 16409, nameIndex := 15, descriptorIndex := 6, attributes := #[] }, { accessFlags := 26, nameIndex := 218, descriptorIndex := 219, attributes := #[] }, { accessFlags := 26, nameIndex := 221, descriptorIndex := 219, attributes := #[] }, { accessFlags := 4122, nameIndex := 18, descriptorIndex := 19, attributes := #[] }])
  fields := #[{ name := "DIRECT", type := (.object "com/example/intackt/intackt/vhost/ExchangeType"), accessFlags := 16409, slot := 0, constantValue := 0 }, { name := "FANOUT", type := (.object "com/example/intackt/intackt/vhost/ExchangeType"), accessFlags := 16409, slot := 1, constantValue := 0 }, { name := "TOPIC", type := (.object "com/example/intackt/intackt/vhost/ExchangeType"), accessFlags := 16409, slot := 2, constantValue := 0 }, { name := "HEADERS", type := (.object "com/example/intackt/intackt/vhost/ExchangeType"), accessFlags := 16409, slot := 3, constantValue := 0 }, { name := "MATCH", type := (.object "java/lang/String"), accessFlags := 26, slot := 4, constantValue := 0 }, { name := "RESERVED_PREFIX", type := (.object "java/lang/String"), accessFlags := 26, slot := 5, constantValue := 0 }, { name := "$VALUES", type := (.array (.object "com/example/intackt/intackt/vhost/ExchangeType")), accessFlags := 4122, slot := 6, constantValue := 0 }]
  methods := #[k6m0, k6m1, k6m2]
  instanceTypes := #[(.object "java/lang/String"), .int, .int]
  staticTypes := #[(.object "com/example/intackt/intackt/vhost/ExchangeType"), (.object "com/example/intackt/intackt/vhost/ExchangeType"), (.object "com/example/intackt/intackt/vhost/ExchangeType"), (.object "com/example/intackt/intackt/vhost/ExchangeType"), (.object "java/lang/String"), (.object "java/lang/String"), (.array (.object "com/example/intackt/intackt/vhost/ExchangeType"))]
  resolved := Array.replicate 281 none
  statics := some 0 }

def pool7 : Array CpInfo := pool [(2, .class_ 4), (1, u "java/lang/CharSequence"), (42, .class_ 48), (0, u "java/lang/CharSequence$1CodePointIterator"), (10, .class_ 60), (0, u "java/lang/CharSequence$1CharIterator"), (5, .class_ 67), (0, u "java/lang/Object")] 63

/-- java/lang/CharSequence -/
def k7 : Class := { plain "java/lang/CharSequence" (some 0) with
  accessFlags := 1537
  interfaces := #[]
  cf := some (fileOf pool7 2 #[.nestMembers #[47, 59]] #[] 1537 66 #[] #[])
  fields := #[]
  methods := #[]
  instanceTypes := #[]
  staticTypes := #[]
  resolved := Array.replicate 131 none
  statics := none }

def pool8 : Array CpInfo := pool [(1, .class_ 2), (0, u "java/lang/constant/ConstantDesc"), (0, .class_ 4), (0, u "java/lang/Object")] 32

/-- java/lang/constant/ConstantDesc -/
def k8 : Class := { plain "java/lang/constant/ConstantDesc" (some 0) with
  accessFlags := 1537
  interfaces := #[]
  cf := some (fileOf pool8 1 #[] #[] 1537 3 #[] #[])
  fields := #[]
  methods := #[]
  instanceTypes := #[]
  staticTypes := #[]
  resolved := Array.replicate 37 none
  statics := none }

def pool9 : Array CpInfo := pool [(1, .methodref 2 3), (0, .class_ 4), (0, .nameAndType 5 6), (0, u "java/lang/Object"), (0, u "<init>"), (0, u "()V"), (0, .string 8), (0, u ""), (0, .fieldref 10 11), (0, .class_ 12), (0, .nameAndType 13 14), (0, u "java/lang/String"), (0, u "value"), (0, u "[B"), (0, .fieldref 10 16), (0, .nameAndType 17 18), (0, u "coder"), (0, u "B"), (2, u "hash"), (0, u "I"), (2, u "hashIsZero"), (0, u "Z"), (0, .methodref 10 28), (0, .nameAndType 5 29), (0, u "([CIILjava/lang/Void;)V"), (8, .fieldref 10 39), (0, .nameAndType 40 26), (0, u "COMPACT_STRINGS"), (1, .class_ 44), (1, u "java/lang/StringUTF16"), (0, u "compress"), (1, .methodref 42 48), (0, .nameAndType 49 50), (0, u "coderFromArrayLen"), (0, u "([BI)B"), (56, .class_ 109), (1, u "java/lang/StringLatin1"), (67, .methodref 42 178), (0, .nameAndType 45 179), (0, u "([CII)[B"), (361, .methodref 107 542), (0, .nameAndType 543 544), (0, u "equals"), (0, u "([B[B)Z"), (28, u "(Ljava/lang/Object;)Z"), (1, .class_ 576), (0, u "java/lang/CharSequence"), (22, u "CASE_INSENSITIVE_ORDER"), (0, u "Ljava/util/Comparator;"), (409, u "([C)V"), (90, u "serialPersistentFields"), (0, u "[Ljava/io/ObjectStreamField;"), (0, .class_ 1104), (0, u "java/lang/String$CaseInsensitiveComparator"), (1, .class_ 1107), (0, u "java/io/Serializable"), (0, .class_ 1109), (0, u "java/lang/Comparable"), (0, .class_ 1111), (0, u "java/lang/constant/Constable"), (0, .class_ 1113), (0, u "java/lang/constant/ConstantDesc"), (2, u "serialVersionUID"), (0, u "J"), (3, u "REPL"), (0, u "C"), (2, u "LATIN1"), (1, u "UTF16")] 323

def k9m0 : Method := { name := "<init>", desc := "()V", sig := { parameters := [], returnType := none }, accessFlags := 1, code := none }
def k9c1 : Code := { maxStack := 5, maxLocals := 2, code := jdk_42_method_3_code, exceptionTable := #[], attributes := #[] }
def k9m1 : Method := { name := "<init>", desc := "([C)V", sig := { parameters := [(.array .char)], returnType := none }, accessFlags := 1, code := some k9c1 }
def k9c2 : Code := { maxStack := 2, maxLocals := 3, code := jdk_42_method_66_code, exceptionTable := #[], attributes := #[] }
def k9m2 : Method := { name := "equals", desc := "(Ljava/lang/Object;)Z", sig := { parameters := [(.object "java/lang/Object")], returnType := some .boolean }, accessFlags := 1, code := some k9c2 }
def k9c3 : Code := { maxStack := 4, maxLocals := 6, code := jdk_42_method_149_code, exceptionTable := #[], attributes := #[] }
def k9m3 : Method := { name := "<init>", desc := "([CIILjava/lang/Void;)V", sig := { parameters := [(.array .char), .int, .int, (.object "java/lang/Void")], returnType := none }, accessFlags := 2, code := some k9c3 }
/-- java/lang/String -/
def k9 : Class := { plain "java/lang/String" (some 0) with
  accessFlags := 49
  interfaces := #[4, 3, 7, 2, 8]
  cf := some (fileOf pool9 10 #[.nestMembers #[1103]] #[{ accessFlags := 1, nameIndex := 5, descriptorIndex := 6, attributes := #[] }, { accessFlags := 1, nameIndex := 5, descriptorIndex := 1010, attributes := #[] }, { accessFlags := 1, nameIndex := 543, descriptorIndex := 573, attributes := #[] }, { accessFlags := 2, nameIndex := 5, descriptorIndex := 29, attributes := #[] }] 49 2 #[1106, 1108, 575, 1110, 1112] #[{ accessFlags := 18, nameIndex := 13, descriptorIndex := 14, attributes := #[] }, { accessFlags := 18, nameIndex := 17, descriptorIndex := 18, attributes := #[] }, { accessFlags := 2, nameIndex := 21, descriptorIndex := 22, attributes := #[] }, { accessFlags := 2, nameIndex := 25, descriptorIndex := 26, attributes := #[] }, { accessFlags := 26, nameIndex := 1116, descriptorIndex := 1117, attributes := #[] }, { accessFlags := 24, nameIndex := 40, descriptorIndex := 26, attributes := #[] }, { accessFlags := 26, nameIndex := 1101, descriptorIndex := 1102, attributes := #[] }, { accessFlags := 26, nameIndex := 1121, descriptorIndex := 1122, attributes := #[] }, { accessFlags := 25, nameIndex := 599, descriptorIndex := 600, attributes := #[] }, { accessFlags := 24, nameIndex := 1125, descriptorIndex := 18, attributes := #[] }, { accessFlags := 24, nameIndex := 1127, descriptorIndex := 18, attributes := #[] }])
  fields := #[{ name := "value", type := (.array .byte), accessFlags := 18, slot := 0, constantValue := 0 }, { name := "coder", type := .byte, accessFlags := 18, slot := 1, constantValue := 0 }, { name := "hash", type := .int, accessFlags := 2, slot := 2, constantValue := 0 }, { name := "hashIsZero", type := .boolean, accessFlags := 2, slot := 3, constantValue := 0 }, { name := "serialVersionUID", type := .long, accessFlags := 26, slot := 0, constantValue := 0 }, { name := "COMPACT_STRINGS", type := .boolean, accessFlags := 24, slot := 1, constantValue := 0 }, { name := "serialPersistentFields", type := (.array (.object "java/io/ObjectStreamField")), accessFlags := 26, slot := 2, constantValue := 0 }, { name := "REPL", type := .char, accessFlags := 26, slot := 3, constantValue := 0 }, { name := "CASE_INSENSITIVE_ORDER", type := (.object "java/util/Comparator"), accessFlags := 25, slot := 4, constantValue := 0 }, { name := "LATIN1", type := .byte, accessFlags := 24, slot := 5, constantValue := 0 }, { name := "UTF16", type := .byte, accessFlags := 24, slot := 6, constantValue := 0 }]
  methods := #[k9m0, k9m1, k9m2, k9m3]
  instanceTypes := #[(.array .byte), .byte, .int, .boolean]
  staticTypes := #[.long, .boolean, (.array (.object "java/io/ObjectStreamField")), .char, (.object "java/util/Comparator"), .byte, .byte]
  resolved := Array.replicate 1451 none
  statics := some 1 }

def pool10 : Array CpInfo := pool [(6, .class_ 8), (1, u "java/lang/Object"), (0, u "<init>"), (0, u "()V"), (1, .class_ 14), (1, u "java/lang/StringUTF16"), (31, u "$assertionsDisabled"), (0, u "Z"), (13, u "HI_BYTE_SHIFT"), (0, u "I"), (2, u "LO_BYTE_SHIFT"), (49, .methodref 12 116), (0, .nameAndType 117 118), (0, u "compress"), (0, u "([CI[BII)I"), (3, u "([CII)[B"), (138, u "coderFromArrayLen"), (0, u "([BI)B"), (106, .class_ 371), (1, u "java/lang/StringUTF16$LinesSpliterator"), (58, u "MAX_LENGTH"), (196, .class_ 628), (0, u "java/lang/StringUTF16$CodePointsSpliterator"), (0, .class_ 630), (0, u "java/lang/StringUTF16$CharsSpliterator")] 4

def k10m0 : Method := { name := "<init>", desc := "()V", sig := { parameters := [], returnType := none }, accessFlags := 0, code := none }
def k10c1 : Code := { maxStack := 2, maxLocals := 2, code := jdk_52_method_15_code, exceptionTable := #[], attributes := #[] }
def k10m1 : Method := { name := "coderFromArrayLen", desc := "([BI)B", sig := { parameters := [(.array .byte), .int], returnType := some .byte }, accessFlags := 8, code := some k10c1 }
def k10c2 : Code := { maxStack := 5, maxLocals := 6, code := jdk_52_method_16_code, exceptionTable := #[], attributes := #[] }
def k10m2 : Method := { name := "compress", desc := "([CII)[B", sig := { parameters := [(.array .char), .int, .int], returnType := some (.array .byte) }, accessFlags := 9, code := some k10c2 }
def k10c3 : Code := { maxStack := 3, maxLocals := 7, code := jdk_52_method_21_code, exceptionTable := #[], attributes := #[] }
def k10m3 : Method := { name := "compress", desc := "([CI[BII)I", sig := { parameters := [(.array .char), .int, (.array .byte), .int, .int], returnType := some .int }, accessFlags := 9, code := some k10c3 }
/-- java/lang/StringUTF16 -/
def k10 : Class := { plain "java/lang/StringUTF16" (some 0) with
  accessFlags := 48
  interfaces := #[]
  cf := some (fileOf pool10 12 #[.nestMembers #[627, 629, 369]] #[{ accessFlags := 0, nameIndex := 9, descriptorIndex := 10, attributes := #[] }, { accessFlags := 8, nameIndex := 261, descriptorIndex := 262, attributes := #[] }, { accessFlags := 9, nameIndex := 117, descriptorIndex := 122, attributes := #[] }, { accessFlags := 9, nameIndex := 117, descriptorIndex := 118, attributes := #[] }] 48 6 #[] #[{ accessFlags := 26, nameIndex := 61, descriptorIndex := 62, attributes := #[] }, { accessFlags := 26, nameIndex := 65, descriptorIndex := 62, attributes := #[] }, { accessFlags := 24, nameIndex := 430, descriptorIndex := 62, attributes := #[] }, { accessFlags := 4120, nameIndex := 46, descriptorIndex := 47, attributes := #[] }])
  fields := #[{ name := "HI_BYTE_SHIFT", type := .int, accessFlags := 26, slot := 0, constantValue := 0 }, { name := "LO_BYTE_SHIFT", type := .int, accessFlags := 26, slot := 1, constantValue := 0 }, { name := "MAX_LENGTH", type := .int, accessFlags := 24, slot := 2, constantValue := 0 }, { name := "$assertionsDisabled", type := .boolean, accessFlags := 4120, slot := 3, constantValue := 0 }]
  methods := #[k10m0, k10m1, k10m2, k10m3]
  instanceTypes := #[]
  staticTypes := #[.int, .int, .int, .boolean]
  resolved := Array.replicate 635 none
  statics := none }

def pool11 : Array CpInfo := pool [(4, .class_ 6), (1, u "java/lang/Object"), (0, u "<init>"), (0, u "()V"), (5, .class_ 16), (1, u "java/lang/StringLatin1"), (104, u "$assertionsDisabled"), (0, u "Z"), (98, .class_ 223), (1, u "java/lang/StringLatin1$LinesSpliterator"), (57, u "equals"), (0, u "([B[B)Z"), (107, .class_ 391), (0, u "java/lang/StringLatin1$CharsSpliterator")] 3

def k11m0 : Method := { name := "<init>", desc := "()V", sig := { parameters := [], returnType := none }, accessFlags := 0, code := none }
def k11c1 : Code := { maxStack := 3, maxLocals := 3, code := jdk_43_method_13_code, exceptionTable := #[], attributes := #[] }
def k11m1 : Method := { name := "equals", desc := "([B[B)Z", sig := { parameters := [(.array .byte), (.array .byte)], returnType := some .boolean }, accessFlags := 9, code := some k11c1 }
/-- java/lang/StringLatin1 -/
def k11 : Class := { plain "java/lang/StringLatin1" (some 0) with
  accessFlags := 48
  interfaces := #[]
  cf := some (fileOf pool11 14 #[.nestMembers #[390, 221]] #[{ accessFlags := 0, nameIndex := 7, descriptorIndex := 8, attributes := #[] }, { accessFlags := 9, nameIndex := 281, descriptorIndex := 282, attributes := #[] }] 48 4 #[] #[{ accessFlags := 4120, nameIndex := 121, descriptorIndex := 122, attributes := #[] }])
  fields := #[{ name := "$assertionsDisabled", type := .boolean, accessFlags := 4120, slot := 0, constantValue := 0 }]
  methods := #[k11m0, k11m1]
  instanceTypes := #[]
  staticTypes := #[.boolean]
  resolved := Array.replicate 395 none
  statics := none }

def pool12 : Array CpInfo := pool [(2, .class_ 4), (1, u "java/lang/Object"), (0, u "<init>"), (0, u "()V"), (17, .class_ 26), (1, u "jdk/internal/util/Preconditions"), (28, .class_ 56), (0, u "jdk/internal/util/Preconditions$4"), (57, .class_ 115), (0, u "jdk/internal/util/Preconditions$1"), (7, u "SIOOBE_FORMATTER"), (0, u "Ljava/util/function/BiFunction;"), (0, .class_ 126), (0, u "jdk/internal/util/Preconditions$2"), (3, u "AIOOBE_FORMATTER"), (0, .class_ 132), (0, u "jdk/internal/util/Preconditions$3"), (3, u "IOOBE_FORMATTER")] 57

def k12m0 : Method := { name := "<init>", desc := "()V", sig := { parameters := [], returnType := none }, accessFlags := 1, code := none }
/-- jdk/internal/util/Preconditions -/
def k12 : Class := { plain "jdk/internal/util/Preconditions" (some 0) with
  accessFlags := 33
  interfaces := #[]
  cf := some (fileOf pool12 24 #[.nestMembers #[55, 131, 125, 114]] #[{ accessFlags := 1, nameIndex := 5, descriptorIndex := 6, attributes := #[] }] 33 2 #[] #[{ accessFlags := 25, nameIndex := 123, descriptorIndex := 124, attributes := #[] }, { accessFlags := 25, nameIndex := 130, descriptorIndex := 124, attributes := #[] }, { accessFlags := 25, nameIndex := 136, descriptorIndex := 124, attributes := #[] }])
  fields := #[{ name := "SIOOBE_FORMATTER", type := (.object "java/util/function/BiFunction"), accessFlags := 25, slot := 0, constantValue := 0 }, { name := "AIOOBE_FORMATTER", type := (.object "java/util/function/BiFunction"), accessFlags := 25, slot := 1, constantValue := 0 }, { name := "IOOBE_FORMATTER", type := (.object "java/util/function/BiFunction"), accessFlags := 25, slot := 2, constantValue := 0 }]
  methods := #[k12m0]
  instanceTypes := #[]
  staticTypes := #[(.object "java/util/function/BiFunction"), (.object "java/util/function/BiFunction"), (.object "java/util/function/BiFunction")]
  resolved := Array.replicate 194 none
  statics := some 2 }

def pool13 : Array CpInfo := pool [(9, u "<init>"), (6, .class_ 18), (1, u "java/lang/Object"), (0, u "()V"), (1, .class_ 23), (1, u "jdk/internal/util/ArraysSupport"), (0, u "LOG2_ARRAY_LONG_INDEX_SCALE"), (0, u "I"), (2, u "U"), (0, u "Ljdk/internal/misc/Unsafe;"), (8, u "BIG_ENDIAN"), (0, u "Z"), (8, u "LOG2_BYTE_BIT_SIZE"), (4, u "LOG2_ARRAY_INT_INDEX_SCALE"), (54, u "JLA"), (0, u "Ljdk/internal/access/JavaLangAccess;"), (11, u "LOG2_ARRAY_BOOLEAN_INDEX_SCALE"), (9, u "LOG2_ARRAY_BYTE_INDEX_SCALE"), (5, u "LOG2_ARRAY_CHAR_INDEX_SCALE"), (5, u "LOG2_ARRAY_SHORT_INDEX_SCALE"), (18, u "LOG2_ARRAY_FLOAT_INDEX_SCALE"), (24, u "LOG2_ARRAY_DOUBLE_INDEX_SCALE"), (89, u "T_BOOLEAN"), (2, u "T_CHAR"), (1, u "T_FLOAT"), (1, u "T_DOUBLE"), (1, u "T_BYTE"), (1, u "T_SHORT"), (1, u "T_INT"), (1, u "T_LONG"), (1, u "SOFT_MAX_ARRAY_LENGTH")] 83

def k13m0 : Method := { name := "<init>", desc := "()V", sig := { parameters := [], returnType := none }, accessFlags := 2, code := none }
/-- jdk/internal/util/ArraysSupport -/
def k13 : Class := { plain "jdk/internal/util/ArraysSupport" (some 0) with
  accessFlags := 33
  interfaces := #[]
  cf := some (fileOf pool13 21 #[] #[{ accessFlags := 2, nameIndex := 9, descriptorIndex := 19, attributes := #[] }] 33 16 #[] #[{ accessFlags := 24, nameIndex := 28, descriptorIndex := 29, attributes := #[] }, { accessFlags := 26, nameIndex := 38, descriptorIndex := 39, attributes := #[] }, { accessFlags := 25, nameIndex := 121, descriptorIndex := 25, attributes := #[] }, { accessFlags := 25, nameIndex := 131, descriptorIndex := 25, attributes := #[] }, { accessFlags := 25, nameIndex := 137, descriptorIndex := 25, attributes := #[] }, { accessFlags := 25, nameIndex := 143, descriptorIndex := 25, attributes := #[] }, { accessFlags := 25, nameIndex := 53, descriptorIndex := 25, attributes := #[] }, { accessFlags := 25, nameIndex := 24, descriptorIndex := 25, attributes := #[] }, { accessFlags := 25, nameIndex := 162, descriptorIndex := 25, attributes := #[] }, { accessFlags := 25, nameIndex := 187, descriptorIndex := 25, attributes := #[] }, { accessFlags := 26, nameIndex := 48, descriptorIndex := 25, attributes := #[] }, { accessFlags := 25, nameIndex := 277, descriptorIndex := 25, attributes := #[] }, { accessFlags := 25, nameIndex := 280, descriptorIndex := 25, attributes := #[] }, { accessFlags := 25, nameIndex := 282, descriptorIndex := 25, attributes := #[] }, { accessFlags := 25, nameIndex := 284, descriptorIndex := 25, attributes := #[] }, { accessFlags := 25, nameIndex := 286, descriptorIndex := 25, attributes := #[] }, { accessFlags := 25, nameIndex := 288, descriptorIndex := 25, attributes := #[] }, { accessFlags := 25, nameIndex := 290, descriptorIndex := 25, attributes := #[] }, { accessFlags := 25, nameIndex := 292, descriptorIndex := 25, attributes := #[] }, { accessFlags := 26, nameIndex := 108, descriptorIndex := 109, attributes := #[] }, { accessFlags := 25, nameIndex := 294, descriptorIndex := 25, attributes := #[] }])
  fields := #[{ name := "U", type := (.object "jdk/internal/misc/Unsafe"), accessFlags := 24, slot := 0, constantValue := 0 }, { name := "BIG_ENDIAN", type := .boolean, accessFlags := 26, slot := 1, constantValue := 0 }, { name := "LOG2_ARRAY_BOOLEAN_INDEX_SCALE", type := .int, accessFlags := 25, slot := 2, constantValue := 0 }, { name := "LOG2_ARRAY_BYTE_INDEX_SCALE", type := .int, accessFlags := 25, slot := 3, constantValue := 0 }, { name := "LOG2_ARRAY_CHAR_INDEX_SCALE", type := .int, accessFlags := 25, slot := 4, constantValue := 0 }, { name := "LOG2_ARRAY_SHORT_INDEX_SCALE", type := .int, accessFlags := 25, slot := 5, constantValue := 0 }, { name := "LOG2_ARRAY_INT_INDEX_SCALE", type := .int, accessFlags := 25, slot := 6, constantValue := 0 }, { name := "LOG2_ARRAY_LONG_INDEX_SCALE", type := .int, accessFlags := 25, slot := 7, constantValue := 0 }, { name := "LOG2_ARRAY_FLOAT_INDEX_SCALE", type := .int, accessFlags := 25, slot := 8, constantValue := 0 }, { name := "LOG2_ARRAY_DOUBLE_INDEX_SCALE", type := .int, accessFlags := 25, slot := 9, constantValue := 0 }, { name := "LOG2_BYTE_BIT_SIZE", type := .int, accessFlags := 26, slot := 10, constantValue := 0 }, { name := "T_BOOLEAN", type := .int, accessFlags := 25, slot := 11, constantValue := 0 }, { name := "T_CHAR", type := .int, accessFlags := 25, slot := 12, constantValue := 0 }, { name := "T_FLOAT", type := .int, accessFlags := 25, slot := 13, constantValue := 0 }, { name := "T_DOUBLE", type := .int, accessFlags := 25, slot := 14, constantValue := 0 }, { name := "T_BYTE", type := .int, accessFlags := 25, slot := 15, constantValue := 0 }, { name := "T_SHORT", type := .int, accessFlags := 25, slot := 16, constantValue := 0 }, { name := "T_INT", type := .int, accessFlags := 25, slot := 17, constantValue := 0 }, { name := "T_LONG", type := .int, accessFlags := 25, slot := 18, constantValue := 0 }, { name := "JLA", type := (.object "jdk/internal/access/JavaLangAccess"), accessFlags := 26, slot := 19, constantValue := 0 }, { name := "SOFT_MAX_ARRAY_LENGTH", type := .int, accessFlags := 25, slot := 20, constantValue := 0 }]
  methods := #[k13m0]
  instanceTypes := #[]
  staticTypes := #[(.object "jdk/internal/misc/Unsafe"), .boolean, .int, .int, .int, .int, .int, .int, .int, .int, .int, .int, .int, .int, .int, .int, .int, .int, .int, (.object "jdk/internal/access/JavaLangAccess"), .int]
  resolved := Array.replicate 378 none
  statics := none }

def pool14 : Array CpInfo := pool [(1, u "java/lang/Cloneable"), (0, .class_ 1), (0, u "java/lang/Object"), (0, .class_ 3)] 3

/-- java/lang/Cloneable -/
def k14 : Class := { plain "java/lang/Cloneable" (some 0) with
  accessFlags := 1537
  interfaces := #[]
  cf := some (fileOf pool14 2 #[] #[] 1537 4 #[] #[])
  fields := #[]
  methods := #[]
  instanceTypes := #[]
  staticTypes := #[]
  resolved := Array.replicate 8 none
  statics := none }

/-- the primitive boolean -/
def k15 : Class := { plain "boolean" none with kind := .primitive 'Z', accessFlags := 0x411 }
/-- [Z -/
def k16 : Class := { plain "[Z" (some 0) with kind := .array 15 .boolean, interfaces := #[14, 4], accessFlags := 1041 }

/-- the primitive byte -/
def k17 : Class := { plain "byte" none with kind := .primitive 'B', accessFlags := 0x411 }
/-- [B -/
def k18 : Class := { plain "[B" (some 0) with kind := .array 17 .byte, interfaces := #[14, 4], accessFlags := 1041 }

/-- the primitive char -/
def k19 : Class := { plain "char" none with kind := .primitive 'C', accessFlags := 0x411 }
/-- [C -/
def k20 : Class := { plain "[C" (some 0) with kind := .array 19 .char, interfaces := #[14, 4], accessFlags := 1041 }

/-- the primitive int -/
def k21 : Class := { plain "int" none with kind := .primitive 'I', accessFlags := 0x411 }
/-- [I -/
def k22 : Class := { plain "[I" (some 0) with kind := .array 21 .int, interfaces := #[14, 4], accessFlags := 1041 }

/-- [Ljava/lang/String; -/
def k23 : Class := { plain "[Ljava/lang/String;" (some 0) with kind := .array 9 (.object "java/lang/String"), interfaces := #[14, 4], accessFlags := 1041 }

def heap : Heap := #[{ cls := 6, slots := #[.null, .ref 3, .ref 5, .ref 4, .null, .null, .null], vm := .statics 6 },
  { cls := 9, slots := #[.long 0, .int 1, .null, .int 0, .null, .int 0, .int 0], vm := .statics 9 },
  { cls := 12, slots := #[.null, .null, .null], vm := .statics 12 },
  { cls := 6, slots := #[.null, .int 1, .int 0], vm := .none },
  { cls := 6, slots := #[.null, .int 3, .int 0], vm := .none },
  { cls := 6, slots := #[.null, .int 2, .int 0], vm := .none }]
def classes : Array Class := #[k0, k1, k2, k3, k4, k5, k6, k7, k8, k9, k10, k11, k12, k13, k14, k15, k16, k17, k18, k19, k20, k21, k22, k23]
def interned : List (Array UInt16 × Addr) := []
def slotsUsed : Nat := 26
def theMethod : MethodId := ⟨1, 1⟩
def args0 : Array Value := #[.int 2, .int 77, .int 99]
def aboutOver (below : List Frame) : State where
  vm := { classes := classes, interned := interned.toArray }
  heap := heap
  slotsUsed := slotsUsed
  threads := #[{ frames := .invoking theMethod args0 :: below }]
def below0 : List Frame := [.native { method := ⟨0, 0⟩, args := #[] }]
def about1 : State := aboutOver below0
def p0 : Program := .bare "" "" ""
def e0 : Env := launch0.env 0 0 0
theorem w_frames : about1.frames = Frame.invoking theMethod args0 :: below0 := rfl
set_option maxRecDepth 65536 in
theorem w_args : argsFit about1.vm theMethod args0 = true := by decide +kernel
set_option maxRecDepth 65536 in
theorem w_heap : heapFits about1 = true := by decide +kernel
set_option maxRecDepth 65536 in
theorem w_runnable : about1.curStatus? = some .runnable := by decide +kernel
set_option maxRecDepth 65536 in
theorem w_alone : about1.alone = true := by decide +kernel
set_option maxRecDepth 65536 in
theorem w_named : about1.methodNamed? x = some theMethod := by decide +kernel
set_option maxRecDepth 65536 in
theorem w_hears : about1.hears theMethod below0 = true := by decide +kernel
set_option maxRecDepth 65536 in
theorem w_ripe : about1.ripe theMethod args0 below0 = true := by decide +kernel
theorem w_running : about1.status = .running := rfl
set_option maxRecDepth 65536 in
theorem w_room : about1.hasRoom e0.platform room_1 = true :=
  launch0.hasRoom_least _ room_1 (by decide +kernel) (by decide +kernel) (by decide +kernel) (by decide +kernel) (by decide +kernel) (by decide +kernel)
theorem allAtoms_all (ts : List Jvm.Cond) (a : Array Jvm.Value) (st : Jvm.State) : (allAtoms ts).before a st = ts.all (fun c => c.before a st) := by
  induction ts with
  | nil => rfl
  | cons c t ih =>
    show (Jvm.Cond.and c (allAtoms t)).before a st = _
    rw [Jvm.Cond.before_and, ih, List.all_cons]
def words1 : List Jvm.Cond := Jvm.Cond.code x code maxLocals ret :: tables_1
/-- a 'code' word, met by the world's own term for the bytes: nothing is compared byte by byte -/
theorem code_word {y : MethodName} {bytes : ByteArray} {mx : Nat} {rt : Option FieldType} {a : Array Value} {s : State} {m : MethodId} {meth : Method} {c : Code} (h1 : s.methodNamed? y = some m) (h2 : s.vm.method? m = some meth) (h3 : meth.code = some c) (h4 : c.code = bytes)
    (h5 : (c.maxLocals == mx && c.exceptionTable.isEmpty && decide (c.maxStack ≤ mostOperands) && decide (meth.sig.returnType = rt) && !meth.locks && decide (parseMethodDescriptor y.desc = some meth.sig)) = true) : (Jvm.Cond.code y bytes mx rt).before a s = true := by
  simp only [Bool.and_eq_true, beq_iff_eq, Bool.not_eq_true', decide_eq_true_eq] at h5
  obtain ⟨⟨⟨⟨⟨g1, g2⟩, g3⟩, g4⟩, g5⟩, g6⟩ := h5
  simp [Cond.before, Cond.holds, Cond.value, h1, h2, h3, h4, g1, g2, g3, g4, g5, g6]
def isCode : Jvm.Cond → Bool
  | .code _ _ _ _ => true
  | _ => false
theorem all_split {L : List Jvm.Cond} {P : Jvm.Cond → Bool} (h1 : L.all (fun c => isCode c || P c) = true) (h2 : ∀ c ∈ L.filter isCode, P c = true) : L.all P = true := by
  refine List.all_eq_true.mpr fun c hc => ?_
  have h := List.all_eq_true.mp h1 c hc
  rcases Bool.eq_false_or_eq_true (isCode c) with hi | hi
  · exact h2 c (List.mem_filter.mpr ⟨hc, hi⟩)
  · simpa [hi] using h
set_option maxRecDepth 65536 in
theorem w_c0 : (Jvm.Cond.code x code maxLocals ret).before args0 about1 = true := code_word (m := ⟨1, 1⟩) (meth := k1m1) (c := k1c1) (by decide +kernel) rfl rfl rfl (by decide +kernel)
set_option maxRecDepth 65536 in
theorem w_c1 : (Jvm.Cond.code ({ cls := "com/example/intackt/intackt/vhost/ExchangeTypeKeyMatchesPinLaw", name := "words", desc := "(IIII)[Ljava/lang/String;" } : Jvm.MethodName) method_4_code (4 : Nat) (Option.some (Jvm.ClassFile.FieldType.array (Jvm.ClassFile.FieldType.object "java/lang/String")))).before args0 about1 = true := code_word (m := ⟨1, 3⟩) (meth := k1m3) (c := k1c3) (by decide +kernel) rfl rfl rfl (by decide +kernel)
set_option maxRecDepth 65536 in
theorem w_c2 : (Jvm.Cond.code ({ cls := "com/example/intackt/intackt/vhost/ExchangeTypeKeyMatchesPinLaw", name := "word", desc := "(I)Ljava/lang/String;" } : Jvm.MethodName) method_3_code (2 : Nat) (Option.some (Jvm.ClassFile.FieldType.object "java/lang/String"))).before args0 about1 = true := code_word (m := ⟨1, 2⟩) (meth := k1m2) (c := k1c2) (by decide +kernel) rfl rfl rfl (by decide +kernel)
set_option maxRecDepth 65536 in
theorem w_c3 : (Jvm.Cond.code ({ cls := "java/lang/String", name := "<init>", desc := "([C)V" } : Jvm.MethodName) jdk_42_method_3_code (2 : Nat) (Option.none : Option Jvm.ClassFile.FieldType)).before args0 about1 = true := code_word (m := ⟨9, 1⟩) (meth := k9m1) (c := k9c1) (by decide +kernel) rfl rfl rfl (by decide +kernel)
set_option maxRecDepth 65536 in
theorem w_c4 : (Jvm.Cond.code ({ cls := "java/lang/String", name := "<init>", desc := "([CIILjava/lang/Void;)V" } : Jvm.MethodName) jdk_42_method_149_code (6 : Nat) (Option.none : Option Jvm.ClassFile.FieldType)).before args0 about1 = true := code_word (m := ⟨9, 3⟩) (meth := k9m3) (c := k9c3) (by decide +kernel) rfl rfl rfl (by decide +kernel)
set_option maxRecDepth 65536 in
theorem w_c5 : (Jvm.Cond.code ({ cls := "java/lang/Object", name := "<init>", desc := "()V" } : Jvm.MethodName) object_method_1_code (1 : Nat) (Option.none : Option Jvm.ClassFile.FieldType)).before args0 about1 = true := code_word (m := ⟨0, 0⟩) (meth := k0m0) (c := k0c0) (by decide +kernel) rfl rfl rfl (by decide +kernel)
set_option maxRecDepth 65536 in
theorem w_c6 : (Jvm.Cond.code ({ cls := "java/lang/StringUTF16", name := "compress", desc := "([CII)[B" } : Jvm.MethodName) jdk_52_method_16_code (6 : Nat) (Option.some (Jvm.ClassFile.FieldType.array Jvm.ClassFile.FieldType.byte))).before args0 about1 = true := code_word (m := ⟨10, 2⟩) (meth := k10m2) (c := k10c2) (by decide +kernel) rfl rfl rfl (by decide +kernel)
set_option maxRecDepth 65536 in
theorem w_c7 : (Jvm.Cond.code ({ cls := "java/lang/StringUTF16", name := "compress", desc := "([CI[BII)I" } : Jvm.MethodName) jdk_52_method_21_code (7 : Nat) (Option.some Jvm.ClassFile.FieldType.int)).before args0 about1 = true := code_word (m := ⟨10, 3⟩) (meth := k10m3) (c := k10c3) (by decide +kernel) rfl rfl rfl (by decide +kernel)
set_option maxRecDepth 65536 in
theorem w_c8 : (Jvm.Cond.code ({ cls := "java/lang/StringUTF16", name := "coderFromArrayLen", desc := "([BI)B" } : Jvm.MethodName) jdk_52_method_15_code (2 : Nat) (Option.some Jvm.ClassFile.FieldType.byte)).before args0 about1 = true := code_word (m := ⟨10, 1⟩) (meth := k10m1) (c := k10c1) (by decide +kernel) rfl rfl rfl (by decide +kernel)
set_option maxRecDepth 65536 in
theorem w_c9 : (Jvm.Cond.code ({ cls := "com/example/intackt/intackt/vhost/ExchangeType", name := "keyMatches", desc := "([Ljava/lang/String;[Ljava/lang/String;)Z" } : Jvm.MethodName) prog_5_method_7_code (4 : Nat) (Option.some Jvm.ClassFile.FieldType.boolean)).before args0 about1 = true := code_word (m := ⟨6, 0⟩) (meth := k6m0) (c := k6c0) (by decide +kernel) rfl rfl rfl (by decide +kernel)
set_option maxRecDepth 65536 in
theorem w_c10 : (Jvm.Cond.code ({ cls := "java/lang/Enum", name := "ordinal", desc := "()I" } : Jvm.MethodName) jdk_37_method_2_code (1 : Nat) (Option.some Jvm.ClassFile.FieldType.int)).before args0 about1 = true := code_word (m := ⟨5, 0⟩) (meth := k5m0) (c := k5c0) (by decide +kernel) rfl rfl rfl (by decide +kernel)
set_option maxRecDepth 65536 in
theorem w_c11 : (Jvm.Cond.code ({ cls := "com/example/intackt/intackt/vhost/ExchangeType", name := "topicMatches", desc := "([Ljava/lang/String;[Ljava/lang/String;)Z" } : Jvm.MethodName) prog_5_method_10_code (9 : Nat) (Option.some Jvm.ClassFile.FieldType.boolean)).before args0 about1 = true := code_word (m := ⟨6, 1⟩) (meth := k6m1) (c := k6c1) (by decide +kernel) rfl rfl rfl (by decide +kernel)
set_option maxRecDepth 65536 in
theorem w_c12 : (Jvm.Cond.code ({ cls := "com/example/intackt/intackt/vhost/ExchangeType", name := "passHashes", desc := "([Ljava/lang/String;[Z)V" } : Jvm.MethodName) prog_5_method_11_code (3 : Nat) (Option.none : Option Jvm.ClassFile.FieldType)).before args0 about1 = true := code_word (m := ⟨6, 2⟩) (meth := k6m2) (c := k6c2) (by decide +kernel) rfl rfl rfl (by decide +kernel)
set_option maxRecDepth 65536 in
theorem w_c13 : (Jvm.Cond.code ({ cls := "com/example/intackt/intackt/vhost/ExchangeTypeKeyMatchesPinLaw", name := "m3", desc := "(III[III)Z" } : Jvm.MethodName) method_8_code (6 : Nat) (Option.some Jvm.ClassFile.FieldType.boolean)).before args0 about1 = true := code_word (m := ⟨1, 7⟩) (meth := k1m7) (c := k1c7) (by decide +kernel) rfl rfl rfl (by decide +kernel)
set_option maxRecDepth 65536 in
theorem w_c14 : (Jvm.Cond.code ({ cls := "com/example/intackt/intackt/vhost/ExchangeTypeKeyMatchesPinLaw", name := "single", desc := "(II)Z" } : Jvm.MethodName) method_5_code (2 : Nat) (Option.some Jvm.ClassFile.FieldType.boolean)).before args0 about1 = true := code_word (m := ⟨1, 4⟩) (meth := k1m4) (c := k1c4) (by decide +kernel) rfl rfl rfl (by decide +kernel)
set_option maxRecDepth 65536 in
theorem w_c15 : (Jvm.Cond.code ({ cls := "java/lang/String", name := "equals", desc := "(Ljava/lang/Object;)Z" } : Jvm.MethodName) jdk_42_method_66_code (3 : Nat) (Option.some Jvm.ClassFile.FieldType.boolean)).before args0 about1 = true := code_word (m := ⟨9, 2⟩) (meth := k9m2) (c := k9c2) (by decide +kernel) rfl rfl rfl (by decide +kernel)
set_option maxRecDepth 65536 in
theorem w_c16 : (Jvm.Cond.code ({ cls := "java/lang/StringLatin1", name := "equals", desc := "([B[B)Z" } : Jvm.MethodName) jdk_43_method_13_code (3 : Nat) (Option.some Jvm.ClassFile.FieldType.boolean)).before args0 about1 = true := code_word (m := ⟨11, 1⟩) (meth := k11m1) (c := k11c1) (by decide +kernel) rfl rfl rfl (by decide +kernel)
set_option maxRecDepth 65536 in
theorem w_c17 : (Jvm.Cond.code ({ cls := "com/example/intackt/intackt/vhost/ExchangeTypeKeyMatchesPinLaw", name := "m2", desc := "(II[III)Z" } : Jvm.MethodName) method_7_code (5 : Nat) (Option.some Jvm.ClassFile.FieldType.boolean)).before args0 about1 = true := code_word (m := ⟨1, 6⟩) (meth := k1m6) (c := k1c6) (by decide +kernel) rfl rfl rfl (by decide +kernel)
set_option maxRecDepth 65536 in
theorem w_c18 : (Jvm.Cond.code ({ cls := "com/example/intackt/intackt/vhost/ExchangeTypeKeyMatchesPinLaw", name := "m1", desc := "(I[III)Z" } : Jvm.MethodName) method_6_code (4 : Nat) (Option.some Jvm.ClassFile.FieldType.boolean)).before args0 about1 = true := code_word (m := ⟨1, 5⟩) (meth := k1m5) (c := k1c5) (by decide +kernel) rfl rfl rfl (by decide +kernel)
def codes1 : List Jvm.Cond := [Jvm.Cond.code x code maxLocals ret, Jvm.Cond.code ({ cls := "com/example/intackt/intackt/vhost/ExchangeTypeKeyMatchesPinLaw", name := "words", desc := "(IIII)[Ljava/lang/String;" } : Jvm.MethodName) method_4_code (4 : Nat) (Option.some (Jvm.ClassFile.FieldType.array (Jvm.ClassFile.FieldType.object "java/lang/String"))), Jvm.Cond.code ({ cls := "com/example/intackt/intackt/vhost/ExchangeTypeKeyMatchesPinLaw", name := "word", desc := "(I)Ljava/lang/String;" } : Jvm.MethodName) method_3_code (2 : Nat) (Option.some (Jvm.ClassFile.FieldType.object "java/lang/String")), Jvm.Cond.code ({ cls := "java/lang/String", name := "<init>", desc := "([C)V" } : Jvm.MethodName) jdk_42_method_3_code (2 : Nat) (Option.none : Option Jvm.ClassFile.FieldType), Jvm.Cond.code ({ cls := "java/lang/String", name := "<init>", desc := "([CIILjava/lang/Void;)V" } : Jvm.MethodName) jdk_42_method_149_code (6 : Nat) (Option.none : Option Jvm.ClassFile.FieldType), Jvm.Cond.code ({ cls := "java/lang/Object", name := "<init>", desc := "()V" } : Jvm.MethodName) object_method_1_code (1 : Nat) (Option.none : Option Jvm.ClassFile.FieldType), Jvm.Cond.code ({ cls := "java/lang/StringUTF16", name := "compress", desc := "([CII)[B" } : Jvm.MethodName) jdk_52_method_16_code (6 : Nat) (Option.some (Jvm.ClassFile.FieldType.array Jvm.ClassFile.FieldType.byte)), Jvm.Cond.code ({ cls := "java/lang/StringUTF16", name := "compress", desc := "([CI[BII)I" } : Jvm.MethodName) jdk_52_method_21_code (7 : Nat) (Option.some Jvm.ClassFile.FieldType.int), Jvm.Cond.code ({ cls := "java/lang/StringUTF16", name := "coderFromArrayLen", desc := "([BI)B" } : Jvm.MethodName) jdk_52_method_15_code (2 : Nat) (Option.some Jvm.ClassFile.FieldType.byte), Jvm.Cond.code ({ cls := "com/example/intackt/intackt/vhost/ExchangeType", name := "keyMatches", desc := "([Ljava/lang/String;[Ljava/lang/String;)Z" } : Jvm.MethodName) prog_5_method_7_code (4 : Nat) (Option.some Jvm.ClassFile.FieldType.boolean), Jvm.Cond.code ({ cls := "java/lang/Enum", name := "ordinal", desc := "()I" } : Jvm.MethodName) jdk_37_method_2_code (1 : Nat) (Option.some Jvm.ClassFile.FieldType.int), Jvm.Cond.code ({ cls := "com/example/intackt/intackt/vhost/ExchangeType", name := "topicMatches", desc := "([Ljava/lang/String;[Ljava/lang/String;)Z" } : Jvm.MethodName) prog_5_method_10_code (9 : Nat) (Option.some Jvm.ClassFile.FieldType.boolean), Jvm.Cond.code ({ cls := "com/example/intackt/intackt/vhost/ExchangeType", name := "passHashes", desc := "([Ljava/lang/String;[Z)V" } : Jvm.MethodName) prog_5_method_11_code (3 : Nat) (Option.none : Option Jvm.ClassFile.FieldType), Jvm.Cond.code ({ cls := "com/example/intackt/intackt/vhost/ExchangeTypeKeyMatchesPinLaw", name := "m3", desc := "(III[III)Z" } : Jvm.MethodName) method_8_code (6 : Nat) (Option.some Jvm.ClassFile.FieldType.boolean), Jvm.Cond.code ({ cls := "com/example/intackt/intackt/vhost/ExchangeTypeKeyMatchesPinLaw", name := "single", desc := "(II)Z" } : Jvm.MethodName) method_5_code (2 : Nat) (Option.some Jvm.ClassFile.FieldType.boolean), Jvm.Cond.code ({ cls := "java/lang/String", name := "equals", desc := "(Ljava/lang/Object;)Z" } : Jvm.MethodName) jdk_42_method_66_code (3 : Nat) (Option.some Jvm.ClassFile.FieldType.boolean), Jvm.Cond.code ({ cls := "java/lang/StringLatin1", name := "equals", desc := "([B[B)Z" } : Jvm.MethodName) jdk_43_method_13_code (3 : Nat) (Option.some Jvm.ClassFile.FieldType.boolean), Jvm.Cond.code ({ cls := "com/example/intackt/intackt/vhost/ExchangeTypeKeyMatchesPinLaw", name := "m2", desc := "(II[III)Z" } : Jvm.MethodName) method_7_code (5 : Nat) (Option.some Jvm.ClassFile.FieldType.boolean), Jvm.Cond.code ({ cls := "com/example/intackt/intackt/vhost/ExchangeTypeKeyMatchesPinLaw", name := "m1", desc := "(I[III)Z" } : Jvm.MethodName) method_6_code (4 : Nat) (Option.some Jvm.ClassFile.FieldType.boolean)]
set_option maxRecDepth 65536 in
theorem codes_eq : words1.filter isCode = codes1 := rfl
theorem w_codes : ∀ c ∈ words1.filter isCode, c.before args0 about1 = true := by
  rw [codes_eq]
  intro c hc
  simp only [codes1, List.mem_cons, List.not_mem_nil, or_false] at hc
  rcases hc with rfl | rfl | rfl | rfl | rfl | rfl | rfl | rfl | rfl | rfl | rfl | rfl | rfl | rfl | rfl | rfl | rfl | rfl | rfl
  · exact w_c0
  · exact w_c1
  · exact w_c2
  · exact w_c3
  · exact w_c4
  · exact w_c5
  · exact w_c6
  · exact w_c7
  · exact w_c8
  · exact w_c9
  · exact w_c10
  · exact w_c11
  · exact w_c12
  · exact w_c13
  · exact w_c14
  · exact w_c15
  · exact w_c16
  · exact w_c17
  · exact w_c18
set_option maxRecDepth 65536 in
theorem w_t1 : (words1.take 24).all (fun c => isCode c || c.before args0 about1) = true := by decide +kernel
set_option maxRecDepth 65536 in
theorem w_t2 : ((words1.drop 24).take 24).all (fun c => isCode c || c.before args0 about1) = true := by decide +kernel
set_option maxRecDepth 65536 in
theorem w_t3 : (((words1.drop 24).drop 24).take 24).all (fun c => isCode c || c.before args0 about1) = true := by decide +kernel
set_option maxRecDepth 65536 in
theorem w_t4 : (((words1.drop 24).drop 24).drop 24).all (fun c => isCode c || c.before args0 about1) = true := by decide +kernel
theorem w_tables : (allAtoms (Jvm.Cond.code x code maxLocals ret :: tables_1)).before args0 about1 = true := by
  rw [allAtoms_all]
  show words1.all (fun c => c.before args0 about1) = true
  refine all_split ?_ w_codes
  rw [← List.take_append_drop 24 words1, List.all_append, w_t1, ← List.take_append_drop 24 (words1.drop 24), List.all_append, w_t2, ← List.take_append_drop 24 ((words1.drop 24).drop 24), List.all_append, w_t3, w_t4]
  rfl
set_option maxRecDepth 65536 in
theorem w_rest : rest_1_c.before args0 about1 = true := by decide +kernel
set_option maxRecDepth 65536 in
theorem w_case : (Jvm.Cond.and given_1 narrow_1).before args0 about1 = true := by decide +kernel
set_option maxRecDepth 65536 in
theorem w_consts : constsHeld consts_1 about1 := Jvm.Lit.constsHeldB_iff.mp (by decide +kernel)
theorem w_applies : (headSpec (Jvm.Cond.code x code maxLocals ret :: tables_1) room_1).applies x e0.platform about1 = true :=
  (Spec.applies_iff w_frames).mpr ⟨w_running, w_runnable, w_alone, w_named, w_hears, w_ripe, w_room, w_tables⟩
theorem atStart : AtStart classFile x code maxLocals ret World_1 tables_1 room_1 Calls_1 rest_1 Pre_1 launch0 p0 e0 about1 theMethod args0 below0 :=
  ⟨lists_1, trivial, launch0.admits_env _ _ _, launch0.least_env, fairChoices_fair.cas, fairChoices_fair.clock, w_frames, w_args, w_heap, w_applies, ⟨w_consts, trivial⟩, w_rest, w_case⟩
end start1
theorem witness_1 : WitnessClaimed_1 := ⟨start1.p0, start1.e0, start1.about1, start1.theMethod, start1.args0, start1.below0, start1.atStart⟩
end Jvm.Pilot.@@N@@
