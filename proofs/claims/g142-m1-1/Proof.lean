import JvmDerived
import JvmDerived.Pilot.@@N@@Statement
import JvmDerived.Pilot.@@N@@Code
set_option linter.unusedVariables false
set_option linter.unusedSimpArgs false
namespace Jvm.RoadKit
open Sem ClassFile Op Lib Jvm.Stand Jvm.Free Jvm.LawKit
section New
variable {p : Program} {l : Launch} {e : Env} {R : Room} {s : State} {m : MethodId} {args : Array Value} {below : List Frame} {meth : Method} {c : Code} {T : State} {locs : List Loc} {cells slots : Nat}
theorem retI (X : Stand p l e R s m args below meth c T locs cells slots) (hx : p.tables.exec = Jvm.exec) {pc : Nat} {Ls : Array Slot} {z : Int32} {rest : List Value} (hret : meth.sig.returnType = some .int) (hd : decode c.code pc = .ok (.ireturn, 1)) {fs : List Frame}
    (hl : ∀ (f : JFrame) (acts : List Action), f.method = m → f.locked = none → f.entered = [] → (doReturn e (T.setTop f) acts (some (.int z))).1 = T.setFrames fs) : Steps p.tables e below (T.setTop (mkF m pc Ls (.int z :: rest))) (T.setFrames fs) := by
  have hm' : T.vm.method? m = some meth := X.method'
  have hn : narrow .int (.int z) = .int z := rfl
  show Steps p.tables e below (T.setTop { method := m, pc := pc, locals := Ls, stack := _ :: rest, locked := none }) _
  jvm_step X.here [X.here.top, hx, hd, hm', hret, hn]
  first | (intro acts; rw [hl _ acts rfl rfl rfl]) | rw [hl _ _ rfl rfl rfl]
  exact Steps.refl _
theorem retL (X : Stand p l e R s m args below meth c T locs cells slots) (hx : p.tables.exec = Jvm.exec) {pc : Nat} {Ls : Array Slot} {z : Int64} {rest : List Value} (hret : meth.sig.returnType = some .long) (hd : decode c.code pc = .ok (.lreturn, 1)) {fs : List Frame}
    (hl : ∀ (f : JFrame) (acts : List Action), f.method = m → f.locked = none → f.entered = [] → (doReturn e (T.setTop f) acts (some (.long z))).1 = T.setFrames fs) : Steps p.tables e below (T.setTop (mkF m pc Ls (.long z :: rest))) (T.setFrames fs) := by
  have hm' : T.vm.method? m = some meth := X.method'
  have hn : narrow .long (.long z) = .long z := rfl
  show Steps p.tables e below (T.setTop { method := m, pc := pc, locals := Ls, stack := _ :: rest, locked := none }) _
  jvm_step X.here [X.here.top, hx, hd, hm', hret, hn]
  first | (intro acts; rw [hl _ acts rfl rfl rfl]) | rw [hl _ _ rfl rfl rfl]
  exact Steps.refl _
theorem retR (X : Stand p l e R s m args below meth c T locs cells slots) (hx : p.tables.exec = Jvm.exec) {pc : Nat} {Ls : Array Slot} {w : Value} {t : FieldType} {rest : List Value} (hret : meth.sig.returnType = some t) (hn : narrow t w = w) (ht : t.isReference = true) (hw : w.isRef = true) (hd : decode c.code pc = .ok (.areturn, 1)) {fs : List Frame}
    (hl : ∀ (f : JFrame) (acts : List Action), f.method = m → f.locked = none → f.entered = [] → (doReturn e (T.setTop f) acts (some w)).1 = T.setFrames fs) : Steps p.tables e below (T.setTop (mkF m pc Ls (w :: rest))) (T.setFrames fs) := by
  have hm' : T.vm.method? m = some meth := X.method'
  show Steps p.tables e below (T.setTop { method := m, pc := pc, locals := Ls, stack := _ :: rest, locked := none }) _
  jvm_step X.here [X.here.top, hx, hd, hm', hret, hn, hw]
  try (refine ⟨ht, ?_⟩)
  first | (intro acts; rw [hl _ acts rfl rfl rfl]) | rw [hl _ _ rfl rfl rfl]
  exact Steps.refl _
end New
end Jvm.RoadKit
namespace Jvm.Pilot.@@N@@
open Jvm Jvm.ClassFile Sem Op Lib Jvm.Free Jvm.Stand Jvm.LawKit Jvm.RoadKit Bundle Jvm.Pilot.@@N@@.Jvm.D
/-- what a walk of one body knows of its method, and how it ends -/
def Ctx (p : Program) (s : State) (m : MethodId) (meth : Method) (c : Code) (Z : State) (own : String) (bs : ByteArray) (ml : Nat) (ret : Option FieldType) (nm : String) (R : Room) (F : Outcome → State → List Loc → Prop) (B : Nat) : Prop :=
  p.tables.exec = Jvm.exec ∧ Z.Warmed39 s.vm ∧ s.vm.findClass own = some m.cls ∧ c.code = bs ∧ c.maxLocals = ml ∧ meth.sig.returnType = ret ∧ meth.name = nm ∧ meth.locks = false ∧
    ∀ (t : State) (v : Option Value) (L : List Loc) (k n : Nat), s.WarmedH t.vm → s.sameButNew ({ t with vm := s.vm } : State) L k n → B ≤ t.heap.size → k ≤ R.cells → n ≤ R.slots → F (.returned v) t L
/-- from the frame g, in any state that stands so with the heap h, the body runs to its end and leaves Q -/
def Go (p : Program) (l : Launch) (e : Env) (R : Room) (s : State) (m : MethodId) (args : Array Value) (below : List Frame) (meth : Method) (c : Code) (n0 : Nat) (Q : Option Value → Vm → Heap → Prop) (F : Outcome → State → List Loc → Prop) (B : Nat) (h : Heap) (k n : Nat) (g : JFrame) : Prop :=
  ∀ (T : State) (locs : List Loc), Stand p l e R s m args below meth c T locs k n → T.heap = h → Fr n0 locs → B ≤ h.size →
    ∃ s₂ o, Steps p.tables e below (T.setTop g) s₂ ∧ s₂.status = .running ∧ Ended s₂ below o ∧ ∃ v L, o = .returned v ∧ (Q v s₂.vm s₂.heap ∧ Fr n0 L) ∧ F o s₂ L
/-- who pays a call: what it asks and what it leaves -/
def Pays (l : Launch) (R : Room) (p : Program) (e : Env) (below : List Frame) (s : State) (args : Array Value) (y : MethodName) (len W : Nat) (as' : Array Value) (h : Heap) (kc nc : Nat) (Qc : Option Value → Heap → List Loc → Prop) : Prop :=
  Back l R p e below s args y len W (fun A a => a = as' ∧ A.U.heap = h ∧ A.cells + kc ≤ R.cells ∧ A.slots + nc ≤ R.slots)
    (fun A _ v B => ∃ L, Qc v B.U.heap L ∧ B.locs = A.locs ++ L ∧ B.cells = A.cells + kc ∧ B.slots = A.slots + nc)
/-- the same of a callee that may load String constants -/
def PaysW (l : Launch) (R : Room) (p : Program) (e : Env) (below : List Frame) (s : State) (vm0 : Vm) (args : Array Value) (y : MethodName) (len W : Nat) (as' : Array Value) (h : Heap) (kc nc : Nat) (Z : State) (EL : List (String × Nat)) (Qc : Option Value → Heap → List Loc → Prop) : Prop :=
  BackS l R p e below (s.setVm vm0) args y len W (fun A a => a = as' ∧ A.U.heap = h ∧ A.cells + kc ≤ R.cells ∧ A.slots + nc ≤ R.slots)
    (fun A _ v B => ∃ L, Qc v B.U.heap L ∧ B.locs = A.locs ++ L ∧ B.cells = A.cells + kc ∧ B.slots = A.slots + nc ∧ CHr Z EL vm0 h B.U.vm B.U.heap)
/-- a method's contract: at the heap h0, with these arguments, it returns and leaves Q; nothing below n0 is written -/
def Met (l : Launch) (Z : State) (ws : List Jvm.Cond) (y : MethodName) (bs : ByteArray) (ml : Nat) (ret : Option FieldType) (rm : Room) (as' : Array Value) (h0 : Heap) (n0 : Nat) (Q : Option Value → Heap → Prop) : Prop :=
  MetFree l y (head1 (Jvm.Cond.code y bs ml ret :: ws) rm) (fun a U => a = as' ∧ Z.Warmed39 U.vm ∧ U.heap = h0) (fun _ _ _ _ _ => True) (fun _ U o U' => ∃ v L, o = .returned v ∧ ((Q v U'.heap ∧ Fr n0 L) ∧ h0.size ≤ U'.heap.size) ∧ FrameEnd U o U' L rm.cells rm.slots)
/-- the same, where a stack trace is filled in beneath it -/
def MetK (l : Launch) (Z : State) (ws : List Jvm.Cond) (y : MethodName) (bs : ByteArray) (ml : Nat) (ret : Option FieldType) (rm : Room) (as' : Array Value) (h0 : Heap) (n0 : Nat) (Q : Option Value → Heap → Prop) : Prop :=
  MetFree l y (head1 (Jvm.Cond.code y bs ml ret :: ws) rm) (fun a U => a = as' ∧ Z.Warmed39 U.vm ∧ U.heap = h0) (fun _ _ bl s _ => s.vm.MethodsKnown ∧ s.vm.FramesKnown bl) (fun _ U o U' => ∃ v L, o = .returned v ∧ ((Q v U'.heap ∧ Fr n0 L) ∧ h0.size ≤ U'.heap.size) ∧ FrameEnd U o U' L rm.cells rm.slots)
/-- the same, where String constants may be loaded; EL: the constants that are read -/
def MetW (l : Launch) (Z : State) (ws : List Jvm.Cond) (EL : List (String × Nat)) (y : MethodName) (bs : ByteArray) (ml : Nat) (ret : Option FieldType) (rm : Room) (as' : Array Value) (h0 : Heap) (n0 : Nat) (Q : Option Value → Heap → Prop) : Prop :=
  MetFree l y (head1 (Jvm.Cond.code y bs ml ret :: ws) rm) (fun a U => a = as' ∧ Z.Warmed39 U.vm ∧ U.heap = h0 ∧ CHv Z EL U.vm h0) (fun _ _ _ _ _ => True) (fun _ U o U' => ∃ v L, o = .returned v ∧ ((Q v U'.heap ∧ Fr n0 L) ∧ h0.size ≤ U'.heap.size) ∧ CHr Z EL U.vm U.heap U'.vm U'.heap ∧ ReturnedEndW U o U' L rm.cells rm.slots)
/-- both -/
def MetWK (l : Launch) (Z : State) (ws : List Jvm.Cond) (EL : List (String × Nat)) (y : MethodName) (bs : ByteArray) (ml : Nat) (ret : Option FieldType) (rm : Room) (as' : Array Value) (h0 : Heap) (n0 : Nat) (Q : Option Value → Heap → Prop) : Prop :=
  MetFree l y (head1 (Jvm.Cond.code y bs ml ret :: ws) rm) (fun a U => a = as' ∧ Z.Warmed39 U.vm ∧ U.heap = h0 ∧ CHv Z EL U.vm h0) (fun _ _ bl s _ => s.vm.MethodsKnown ∧ s.vm.FramesKnown bl) (fun _ U o U' => ∃ v L, o = .returned v ∧ ((Q v U'.heap ∧ Fr n0 L) ∧ h0.size ≤ U'.heap.size) ∧ CHr Z EL U.vm U.heap U'.vm U'.heap ∧ ReturnedEndW U o U' L rm.cells rm.slots)
section GoKit
variable {p : Program} {l : Launch} {e : Env} {R : Room} {s : State} {m : MethodId} {args : Array Value} {below : List Frame} {meth : Method} {c : Code} {n0 : Nat} {Q : Option Value → Vm → Heap → Prop} {F : Outcome → State → List Loc → Prop} {B : Nat} {h : Heap} {k n : Nat}
variable {Z : State} {own : String} {bs : ByteArray} {ml : Nat} {ret : Option FieldType} {nm : String} {a0 : Array Value}
variable {pc pc' : Nat} {Ls Ls' : Array Slot} {st rest : List Value}
theorem Ctx.cx (K : Ctx p s m meth c Z own bs ml ret nm R F B) : p.tables.exec = Jvm.exec := K.1
theorem Ctx.cz (K : Ctx p s m meth c Z own bs ml ret nm R F B) : Z.Warmed39 s.vm := K.2.1
theorem Ctx.co (K : Ctx p s m meth c Z own bs ml ret nm R F B) : s.vm.findClass own = some m.cls := K.2.2.1
theorem Ctx.cb (K : Ctx p s m meth c Z own bs ml ret nm R F B) : c.code = bs := K.2.2.2.1
theorem Ctx.cl (K : Ctx p s m meth c Z own bs ml ret nm R F B) : c.maxLocals = ml := K.2.2.2.2.1
theorem Ctx.cr (K : Ctx p s m meth c Z own bs ml ret nm R F B) : meth.sig.returnType = ret := K.2.2.2.2.2.1
theorem Ctx.cn (K : Ctx p s m meth c Z own bs ml ret nm R F B) : meth.name = nm := K.2.2.2.2.2.2.1
theorem Ctx.ck (K : Ctx p s m meth c Z own bs ml ret nm R F B) : meth.locks = false := K.2.2.2.2.2.2.2.1
theorem Ctx.ce (K : Ctx p s m meth c Z own bs ml ret nm R F B) : ∀ (t : State) (v : Option Value) (L : List Loc) (k n : Nat), s.WarmedH t.vm → s.sameButNew ({ t with vm := s.vm } : State) L k n → B ≤ t.heap.size → k ≤ R.cells → n ≤ R.slots → F (.returned v) t L := K.2.2.2.2.2.2.2.2
/-- a step that leaves heap and counts alone -/
theorem Go.by {g g' : JFrame} (H : Go p l e R s m args below meth c n0 Q F B h k n g')
    (q : ∀ (T : State) (locs : List Loc), Stand p l e R s m args below meth c T locs k n → T.heap = h → ∀ t, Steps p.tables e below (T.setTop g') t → Steps p.tables e below (T.setTop g) t) : Go p l e R s m args below meth c n0 Q F B h k n g :=
  fun T locs X eT N hB => by
    obtain ⟨s₂, o, a, b⟩ := H T locs X eT N hB
    exact ⟨s₂, o, q T locs X eT _ a, b⟩
theorem Go.iload (K : Ctx p s m meth c Z own bs ml ret nm R F B) {j : Nat} {v : Int32} (hd : decode bs pc = .ok (.iload j, 2)) (hl : Ls[j]? = some (.val (.int v))) (hp : pc + 2 = pc') (H : Go p l e R s m args below meth c n0 Q F B h k n (mkF m pc' Ls (.int v :: st))) : Go p l e R s m args below meth c n0 Q F B h k n (mkF m pc Ls st) := by
  subst hp
  exact H.by fun T _ X _ t q => XS.iload X.here K.cx rfl (hb K.cb hd) hl q
theorem Go.iloadN (K : Ctx p s m meth c Z own bs ml ret nm R F B) {j : Fin 4} {v : Int32} (hd : decode bs pc = .ok (.iload_n j, 1)) (hl : Ls[j.val]? = some (.val (.int v))) (hp : pc + 1 = pc') (H : Go p l e R s m args below meth c n0 Q F B h k n (mkF m pc' Ls (.int v :: st))) : Go p l e R s m args below meth c n0 Q F B h k n (mkF m pc Ls st) := by
  subst hp
  exact H.by fun T _ X _ t q => XS.iloadN X.here K.cx rfl (hb K.cb hd) hl q
theorem Go.lload (K : Ctx p s m meth c Z own bs ml ret nm R F B) {j : Nat} {v : Int64} (hd : decode bs pc = .ok (.lload j, 2)) (hl : Ls[j]? = some (.val (.long v))) (hp : pc + 2 = pc') (H : Go p l e R s m args below meth c n0 Q F B h k n (mkF m pc' Ls (.long v :: st))) : Go p l e R s m args below meth c n0 Q F B h k n (mkF m pc Ls st) := by
  subst hp
  exact H.by fun T _ X _ t q => XS.lload X.here K.cx rfl (hb K.cb hd) hl q
theorem Go.lloadN (K : Ctx p s m meth c Z own bs ml ret nm R F B) {j : Fin 4} {v : Int64} (hd : decode bs pc = .ok (.lload_n j, 1)) (hl : Ls[j.val]? = some (.val (.long v))) (hp : pc + 1 = pc') (H : Go p l e R s m args below meth c n0 Q F B h k n (mkF m pc' Ls (.long v :: st))) : Go p l e R s m args below meth c n0 Q F B h k n (mkF m pc Ls st) := by
  subst hp
  exact H.by fun T _ X _ t q => XS.lloadN X.here K.cx rfl (hb K.cb hd) hl q
theorem Go.aload (K : Ctx p s m meth c Z own bs ml ret nm R F B) {j : Nat} {v : Value} (hd : decode bs pc = .ok (.aload j, 2)) (hl : Ls[j]? = some (.val v)) (hv : v.isRef = true) (hp : pc + 2 = pc') (H : Go p l e R s m args below meth c n0 Q F B h k n (mkF m pc' Ls (v :: st))) : Go p l e R s m args below meth c n0 Q F B h k n (mkF m pc Ls st) := by
  subst hp
  exact H.by fun T _ X _ t q => XS.aload X.here K.cx rfl (hb K.cb hd) hl hv q
theorem Go.aloadN (K : Ctx p s m meth c Z own bs ml ret nm R F B) {j : Fin 4} {v : Value} (hd : decode bs pc = .ok (.aload_n j, 1)) (hl : Ls[j.val]? = some (.val v)) (hv : v.isRef = true) (hp : pc + 1 = pc') (H : Go p l e R s m args below meth c n0 Q F B h k n (mkF m pc' Ls (v :: st))) : Go p l e R s m args below meth c n0 Q F B h k n (mkF m pc Ls st) := by
  subst hp
  exact H.by fun T _ X _ t q => XS.aloadN X.here K.cx rfl (hb K.cb hd) hl hv q
theorem Go.istore (K : Ctx p s m meth c Z own bs ml ret nm R F B) {j : Nat} {v : Int32} (hd : decode bs pc = .ok (.istore j, 2)) (hl : storeLocals Ls j (.int v) = some Ls') (hp : pc + 2 = pc') (H : Go p l e R s m args below meth c n0 Q F B h k n (mkF m pc' Ls' st)) : Go p l e R s m args below meth c n0 Q F B h k n (mkF m pc Ls (.int v :: st)) := by
  subst hp
  exact H.by fun T _ X _ t q => XS.istore X.here K.cx rfl (hb K.cb hd) rfl hl q
theorem Go.istoreN (K : Ctx p s m meth c Z own bs ml ret nm R F B) {j : Fin 4} {v : Int32} (hd : decode bs pc = .ok (.istore_n j, 1)) (hl : storeLocals Ls j.val (.int v) = some Ls') (hp : pc + 1 = pc') (H : Go p l e R s m args below meth c n0 Q F B h k n (mkF m pc' Ls' st)) : Go p l e R s m args below meth c n0 Q F B h k n (mkF m pc Ls (.int v :: st)) := by
  subst hp
  exact H.by fun T _ X _ t q => XS.istoreN X.here K.cx rfl (hb K.cb hd) rfl hl q
theorem Go.astore (K : Ctx p s m meth c Z own bs ml ret nm R F B) {j : Nat} {v : Value} (hd : decode bs pc = .ok (.astore j, 2)) (hv : v.isRef = true) (hl : storeLocals Ls j v = some Ls') (hp : pc + 2 = pc') (H : Go p l e R s m args below meth c n0 Q F B h k n (mkF m pc' Ls' st)) : Go p l e R s m args below meth c n0 Q F B h k n (mkF m pc Ls (v :: st)) := by
  subst hp
  exact H.by fun T _ X _ t q => XS.astore X.here K.cx rfl (hb K.cb hd) rfl hv hl q
theorem Go.astoreN (K : Ctx p s m meth c Z own bs ml ret nm R F B) {j : Fin 4} {v : Value} (hd : decode bs pc = .ok (.astore_n j, 1)) (hv : v.isRef = true) (hl : storeLocals Ls j.val v = some Ls') (hp : pc + 1 = pc') (H : Go p l e R s m args below meth c n0 Q F B h k n (mkF m pc' Ls' st)) : Go p l e R s m args below meth c n0 Q F B h k n (mkF m pc Ls (v :: st)) := by
  subst hp
  exact H.by fun T _ X _ t q => XS.astoreN X.here K.cx rfl (hb K.cb hd) rfl hv hl q
theorem Go.iconst (K : Ctx p s m meth c Z own bs ml ret nm R F B) {i : Int} {v : Int32} (hd : decode bs pc = .ok (.iconst i, 1)) (hv : Int32.ofInt i = v) (hp : pc + 1 = pc') (H : Go p l e R s m args below meth c n0 Q F B h k n (mkF m pc' Ls (.int v :: st))) : Go p l e R s m args below meth c n0 Q F B h k n (mkF m pc Ls st) := by
  subst hp hv
  exact H.by fun T _ X _ t q => XS.iconst X.here K.cx rfl (hb K.cb hd) q
theorem Go.bipush (K : Ctx p s m meth c Z own bs ml ret nm R F B) {i : Int} {v : Int32} (hd : decode bs pc = .ok (.bipush i, 2)) (hv : (Int8.ofInt i).toInt32 = v) (hp : pc + 2 = pc') (H : Go p l e R s m args below meth c n0 Q F B h k n (mkF m pc' Ls (.int v :: st))) : Go p l e R s m args below meth c n0 Q F B h k n (mkF m pc Ls st) := by
  subst hp hv
  exact H.by fun T _ X _ t q => XS.bipush X.here K.cx rfl (hb K.cb hd) q
theorem Go.sipush (K : Ctx p s m meth c Z own bs ml ret nm R F B) {i : Int} {v : Int32} (hd : decode bs pc = .ok (.sipush i, 3)) (hv : (Int16.ofInt i).toInt32 = v) (hp : pc + 3 = pc') (H : Go p l e R s m args below meth c n0 Q F B h k n (mkF m pc' Ls (.int v :: st))) : Go p l e R s m args below meth c n0 Q F B h k n (mkF m pc Ls st) := by
  subst hp hv
  exact H.by fun T _ X _ t q => XS.sipush X.here K.cx rfl (hb K.cb hd) q
theorem Go.aconstNull (K : Ctx p s m meth c Z own bs ml ret nm R F B) (hd : decode bs pc = .ok (.aconst_null, 1)) (hp : pc + 1 = pc') (H : Go p l e R s m args below meth c n0 Q F B h k n (mkF m pc' Ls (.null :: st))) : Go p l e R s m args below meth c n0 Q F B h k n (mkF m pc Ls st) := by
  subst hp
  exact H.by fun T _ X _ t q => XS.aconstNull X.here K.cx rfl (hb K.cb hd) q
theorem Go.lconst (K : Ctx p s m meth c Z own bs ml ret nm R F B) {j : Fin 2} {v : Int64} (hd : decode bs pc = .ok (.lconst j, 1)) (hv : Int64.ofNat j = v) (hp : pc + 1 = pc') (H : Go p l e R s m args below meth c n0 Q F B h k n (mkF m pc' Ls (.long v :: st))) : Go p l e R s m args below meth c n0 Q F B h k n (mkF m pc Ls st) := by
  subst hp hv
  exact H.by fun T _ X _ t q => XS.lconst X.here K.cx rfl (hb K.cb hd) q
theorem Go.ldcInt (K : Ctx p s m meth c Z own bs ml ret nm R F B) {j : Nat} {v : Int32} (w : (Jvm.Cond.constant own j v).before args s = true) (hd : decode bs pc = .ok (.ldc j, 2)) (hp : pc + 2 = pc') (H : Go p l e R s m args below meth c n0 Q F B h k n (mkF m pc' Ls (.int v :: st))) : Go p l e R s m args below meth c n0 Q F B h k n (mkF m pc Ls st) := by
  subst hp
  exact H.by fun T _ X _ t q => X.ldcInt K.cx K.co w (g := mkF m pc Ls st) rfl (hb K.cb hd) t q
theorem Go.ldcLong (K : Ctx p s m meth c Z own bs ml ret nm R F B) {j : Nat} {v : Int64} (w : (Jvm.Cond.constantLong own j v).before args s = true) (hd : decode bs pc = .ok (.ldc2_w j, 3)) (hp : pc + 3 = pc') (H : Go p l e R s m args below meth c n0 Q F B h k n (mkF m pc' Ls (.long v :: st))) : Go p l e R s m args below meth c n0 Q F B h k n (mkF m pc Ls st) := by
  subst hp
  exact H.by fun T _ X _ t q => X.ldc2Long K.cx K.co w (g := mkF m pc Ls st) rfl (hb K.cb hd) t q
theorem Go.ldcR (K : Ctx p s m meth c Z own bs ml ret nm R F B) {j : Nat} {a : Addr} {text : String} (w : (Jvm.Cond.stringRef own j text).before a0 Z = true) (L : Lit Z own j a) (hd : decode bs pc = .ok (.ldc j, 2)) (hp : pc + 2 = pc') (H : Go p l e R s m args below meth c n0 Q F B h k n (mkF m pc' Ls (.ref a :: st))) : Go p l e R s m args below meth c n0 Q F B h k n (mkF m pc Ls st) := by
  subst hp
  exact H.by fun T _ X _ t q => Jvm.RoadKit.ldcR X K.cx K.cz K.co w L (g := mkF m pc Ls st) rfl (hb K.cb hd) t q
theorem Go.iadd (K : Ctx p s m meth c Z own bs ml ret nm R F B) {x y : Int32} (hd : decode bs pc = .ok (.iadd, 1)) (hp : pc + 1 = pc') (H : Go p l e R s m args below meth c n0 Q F B h k n (mkF m pc' Ls (.int (x + y) :: st))) : Go p l e R s m args below meth c n0 Q F B h k n (mkF m pc Ls (.int y :: .int x :: st)) := by
  subst hp
  exact H.by fun T _ X _ t q => XS.iadd X.here K.cx rfl (hb K.cb hd) rfl q
theorem Go.isub (K : Ctx p s m meth c Z own bs ml ret nm R F B) {x y : Int32} (hd : decode bs pc = .ok (.isub, 1)) (hp : pc + 1 = pc') (H : Go p l e R s m args below meth c n0 Q F B h k n (mkF m pc' Ls (.int (x - y) :: st))) : Go p l e R s m args below meth c n0 Q F B h k n (mkF m pc Ls (.int y :: .int x :: st)) := by
  subst hp
  exact H.by fun T _ X _ t q => XS.isub X.here K.cx rfl (hb K.cb hd) rfl q
theorem Go.imul (K : Ctx p s m meth c Z own bs ml ret nm R F B) {x y : Int32} (hd : decode bs pc = .ok (.imul, 1)) (hp : pc + 1 = pc') (H : Go p l e R s m args below meth c n0 Q F B h k n (mkF m pc' Ls (.int (x * y) :: st))) : Go p l e R s m args below meth c n0 Q F B h k n (mkF m pc Ls (.int y :: .int x :: st)) := by
  subst hp
  exact H.by fun T _ X _ t q => XS.imul X.here K.cx rfl (hb K.cb hd) rfl q
theorem Go.iand (K : Ctx p s m meth c Z own bs ml ret nm R F B) {x y : Int32} (hd : decode bs pc = .ok (.iand, 1)) (hp : pc + 1 = pc') (H : Go p l e R s m args below meth c n0 Q F B h k n (mkF m pc' Ls (.int (x &&& y) :: st))) : Go p l e R s m args below meth c n0 Q F B h k n (mkF m pc Ls (.int y :: .int x :: st)) := by
  subst hp
  exact H.by fun T _ X _ t q => XS.iand X.here K.cx rfl (hb K.cb hd) rfl q
theorem Go.ior (K : Ctx p s m meth c Z own bs ml ret nm R F B) {x y : Int32} (hd : decode bs pc = .ok (.ior, 1)) (hp : pc + 1 = pc') (H : Go p l e R s m args below meth c n0 Q F B h k n (mkF m pc' Ls (.int (x ||| y) :: st))) : Go p l e R s m args below meth c n0 Q F B h k n (mkF m pc Ls (.int y :: .int x :: st)) := by
  subst hp
  exact H.by fun T _ X _ t q => XS.ior X.here K.cx rfl (hb K.cb hd) rfl q
theorem Go.ixor (K : Ctx p s m meth c Z own bs ml ret nm R F B) {x y : Int32} (hd : decode bs pc = .ok (.ixor, 1)) (hp : pc + 1 = pc') (H : Go p l e R s m args below meth c n0 Q F B h k n (mkF m pc' Ls (.int (x ^^^ y) :: st))) : Go p l e R s m args below meth c n0 Q F B h k n (mkF m pc Ls (.int y :: .int x :: st)) := by
  subst hp
  exact H.by fun T _ X _ t q => XS.ixor X.here K.cx rfl (hb K.cb hd) rfl q
theorem Go.ishl (K : Ctx p s m meth c Z own bs ml ret nm R F B) {x y : Int32} (hd : decode bs pc = .ok (.ishl, 1)) (hp : pc + 1 = pc') (H : Go p l e R s m args below meth c n0 Q F B h k n (mkF m pc' Ls (.int (x <<< (y &&& 31)) :: st))) : Go p l e R s m args below meth c n0 Q F B h k n (mkF m pc Ls (.int y :: .int x :: st)) := by
  subst hp
  exact H.by fun T _ X _ t q => XS.ishl X.here K.cx rfl (hb K.cb hd) rfl q
theorem Go.ishr (K : Ctx p s m meth c Z own bs ml ret nm R F B) {x y : Int32} (hd : decode bs pc = .ok (.ishr, 1)) (hp : pc + 1 = pc') (H : Go p l e R s m args below meth c n0 Q F B h k n (mkF m pc' Ls (.int (x >>> (y &&& 31)) :: st))) : Go p l e R s m args below meth c n0 Q F B h k n (mkF m pc Ls (.int y :: .int x :: st)) := by
  subst hp
  exact H.by fun T _ X _ t q => XS.ishr X.here K.cx rfl (hb K.cb hd) rfl q
theorem Go.iushr (K : Ctx p s m meth c Z own bs ml ret nm R F B) {x y : Int32} (hd : decode bs pc = .ok (.iushr, 1)) (hp : pc + 1 = pc') (H : Go p l e R s m args below meth c n0 Q F B h k n (mkF m pc' Ls (.int ((x.toUInt32 >>> (y &&& 31).toUInt32).toInt32) :: st))) : Go p l e R s m args below meth c n0 Q F B h k n (mkF m pc Ls (.int y :: .int x :: st)) := by
  subst hp
  exact H.by fun T _ X _ t q => XS.iushr X.here K.cx rfl (hb K.cb hd) rfl q
theorem Go.idiv (K : Ctx p s m meth c Z own bs ml ret nm R F B) {x y : Int32} (hd : decode bs pc = .ok (.idiv, 1)) (hy : y ≠ 0) (hp : pc + 1 = pc') (H : Go p l e R s m args below meth c n0 Q F B h k n (mkF m pc' Ls (.int (x / y) :: st))) : Go p l e R s m args below meth c n0 Q F B h k n (mkF m pc Ls (.int y :: .int x :: st)) := by
  subst hp
  exact H.by fun T _ X _ t q => XS.idiv X.here K.cx rfl (hb K.cb hd) rfl hy q
theorem Go.irem (K : Ctx p s m meth c Z own bs ml ret nm R F B) {x y : Int32} (hd : decode bs pc = .ok (.irem, 1)) (hy : y ≠ 0) (hp : pc + 1 = pc') (H : Go p l e R s m args below meth c n0 Q F B h k n (mkF m pc' Ls (.int (x % y) :: st))) : Go p l e R s m args below meth c n0 Q F B h k n (mkF m pc Ls (.int y :: .int x :: st)) := by
  subst hp
  exact H.by fun T _ X _ t q => iremM X K.cx rfl (hb K.cb hd) rfl hy q
theorem Go.ladd (K : Ctx p s m meth c Z own bs ml ret nm R F B) {x y : Int64} (hd : decode bs pc = .ok (.ladd, 1)) (hp : pc + 1 = pc') (H : Go p l e R s m args below meth c n0 Q F B h k n (mkF m pc' Ls (.long (x + y) :: st))) : Go p l e R s m args below meth c n0 Q F B h k n (mkF m pc Ls (.long y :: .long x :: st)) := by
  subst hp
  exact H.by fun T _ X _ t q => XS.ladd X.here K.cx rfl (hb K.cb hd) rfl q
theorem Go.lsub (K : Ctx p s m meth c Z own bs ml ret nm R F B) {x y : Int64} (hd : decode bs pc = .ok (.lsub, 1)) (hp : pc + 1 = pc') (H : Go p l e R s m args below meth c n0 Q F B h k n (mkF m pc' Ls (.long (x - y) :: st))) : Go p l e R s m args below meth c n0 Q F B h k n (mkF m pc Ls (.long y :: .long x :: st)) := by
  subst hp
  exact H.by fun T _ X _ t q => XS.lsub X.here K.cx rfl (hb K.cb hd) rfl q
theorem Go.land (K : Ctx p s m meth c Z own bs ml ret nm R F B) {x y : Int64} (hd : decode bs pc = .ok (.land, 1)) (hp : pc + 1 = pc') (H : Go p l e R s m args below meth c n0 Q F B h k n (mkF m pc' Ls (.long (x &&& y) :: st))) : Go p l e R s m args below meth c n0 Q F B h k n (mkF m pc Ls (.long y :: .long x :: st)) := by
  subst hp
  exact H.by fun T _ X _ t q => XS.land X.here K.cx rfl (hb K.cb hd) rfl q
theorem Go.lor (K : Ctx p s m meth c Z own bs ml ret nm R F B) {x y : Int64} (hd : decode bs pc = .ok (.lor, 1)) (hp : pc + 1 = pc') (H : Go p l e R s m args below meth c n0 Q F B h k n (mkF m pc' Ls (.long (x ||| y) :: st))) : Go p l e R s m args below meth c n0 Q F B h k n (mkF m pc Ls (.long y :: .long x :: st)) := by
  subst hp
  exact H.by fun T _ X _ t q => XS.lor X.here K.cx rfl (hb K.cb hd) rfl q
theorem Go.lcmp (K : Ctx p s m meth c Z own bs ml ret nm R F B) {x y : Int64} (hd : decode bs pc = .ok (.lcmp, 1)) (hp : pc + 1 = pc') (H : Go p l e R s m args below meth c n0 Q F B h k n (mkF m pc' Ls (.int (lcmpW x y) :: st))) : Go p l e R s m args below meth c n0 Q F B h k n (mkF m pc Ls (.long y :: .long x :: st)) := by
  subst hp
  exact H.by fun T _ X _ t q => XS.lcmp X.here K.cx rfl (hb K.cb hd) rfl q
theorem Go.i2c (K : Ctx p s m meth c Z own bs ml ret nm R F B) {x : Int32} (hd : decode bs pc = .ok (.i2c, 1)) (hp : pc + 1 = pc') (H : Go p l e R s m args below meth c n0 Q F B h k n (mkF m pc' Ls (.int (x.toUInt32.toUInt16.toUInt32.toInt32) :: st))) : Go p l e R s m args below meth c n0 Q F B h k n (mkF m pc Ls (.int x :: st)) := by
  subst hp
  exact H.by fun T _ X _ t q => XS.i2c X.here K.cx rfl (hb K.cb hd) rfl q
theorem Go.i2b (K : Ctx p s m meth c Z own bs ml ret nm R F B) {x : Int32} (hd : decode bs pc = .ok (.i2b, 1)) (hp : pc + 1 = pc') (H : Go p l e R s m args below meth c n0 Q F B h k n (mkF m pc' Ls (.int (x.toInt8.toInt32) :: st))) : Go p l e R s m args below meth c n0 Q F B h k n (mkF m pc Ls (.int x :: st)) := by
  subst hp
  exact H.by fun T _ X _ t q => XS.i2b X.here K.cx rfl (hb K.cb hd) rfl q
theorem Go.i2l (K : Ctx p s m meth c Z own bs ml ret nm R F B) {x : Int32} (hd : decode bs pc = .ok (.i2l, 1)) (hp : pc + 1 = pc') (H : Go p l e R s m args below meth c n0 Q F B h k n (mkF m pc' Ls (.long (x.toInt64) :: st))) : Go p l e R s m args below meth c n0 Q F B h k n (mkF m pc Ls (.int x :: st)) := by
  subst hp
  exact H.by fun T _ X _ t q => XS.i2l X.here K.cx rfl (hb K.cb hd) rfl q
theorem Go.ineg (K : Ctx p s m meth c Z own bs ml ret nm R F B) {x : Int32} (hd : decode bs pc = .ok (.ineg, 1)) (hp : pc + 1 = pc') (H : Go p l e R s m args below meth c n0 Q F B h k n (mkF m pc' Ls (.int (-x) :: st))) : Go p l e R s m args below meth c n0 Q F B h k n (mkF m pc Ls (.int x :: st)) := by
  subst hp
  exact H.by fun T _ X _ t q => XS.ineg X.here K.cx rfl (hb K.cb hd) rfl q
theorem Go.dup (K : Ctx p s m meth c Z own bs ml ret nm R F B) {v : Value} (hd : decode bs pc = .ok (.dup, 1)) (hc : v.category = 1) (hp : pc + 1 = pc') (H : Go p l e R s m args below meth c n0 Q F B h k n (mkF m pc' Ls (v :: v :: st))) : Go p l e R s m args below meth c n0 Q F B h k n (mkF m pc Ls (v :: st)) := by
  subst hp
  exact H.by fun T _ X _ t q => XS.dup X.here K.cx rfl (hb K.cb hd) rfl hc q
theorem Go.pop (K : Ctx p s m meth c Z own bs ml ret nm R F B) {v : Value} (hd : decode bs pc = .ok (.pop, 1)) (hc : v.category = 1) (hp : pc + 1 = pc') (H : Go p l e R s m args below meth c n0 Q F B h k n (mkF m pc' Ls st)) : Go p l e R s m args below meth c n0 Q F B h k n (mkF m pc Ls (v :: st)) := by
  subst hp
  exact H.by fun T _ X _ t q => XS.pop X.here K.cx rfl (hb K.cb hd) rfl hc q
theorem Go.iinc (K : Ctx p s m meth c Z own bs ml ret nm R F B) {j : Nat} {cst : Int} {x : Int32} (hd : decode bs pc = .ok (.iinc j cst, 3)) (hl : Ls[j]? = some (.val (.int x))) (hl' : storeLocals Ls j (.int (x + Int32.ofInt cst)) = some Ls') (hp : pc + 3 = pc') (H : Go p l e R s m args below meth c n0 Q F B h k n (mkF m pc' Ls' st)) : Go p l e R s m args below meth c n0 Q F B h k n (mkF m pc Ls st) := by
  subst hp
  exact H.by fun T _ X _ t q => XS.iinc X.here K.cx rfl (hb K.cb hd) hl hl' q
theorem Go.goto (K : Ctx p s m meth c Z own bs ml ret nm R F B) {o : Int} (hd : decode bs pc = .ok (.goto o, 3)) (ho : 0 ≤ (pc : Int) + o) (hp : ((pc : Int) + o).toNat = pc') (H : Go p l e R s m args below meth c n0 Q F B h k n (mkF m pc' Ls st)) : Go p l e R s m args below meth c n0 Q F B h k n (mkF m pc Ls st) :=
  H.by fun T _ X _ t q => XS.goto X.here K.cx rfl rfl (hb K.cb hd) ho hp q
/-- a comparison as a proposition -/
def CmpP : ClassFile.Cond → Int32 → Int32 → Prop
  | .eq, x, y => x = y
  | .ne, x, y => ¬ x = y
  | .lt, x, y => x < y
  | .ge, x, y => ¬ x < y
  | .gt, x, y => y < x
  | .le, x, y => ¬ y < x
theorem cmp_holds (cd : ClassFile.Cond) (x y : Int32) : (if_icmp.holds cd x y = true → CmpP cd x y) ∧ (if_icmp.holds cd x y = false → ¬ CmpP cd x y) := by
  cases cd <;> simp only [CmpP]
  · by_cases h : x = y
    · exact ⟨fun _ => h, fun q => (by rw [(teq h).1] at q; cases q)⟩
    · exact ⟨fun q => (by rw [(feq h).1] at q; cases q), fun _ => h⟩
  · by_cases h : x = y
    · exact ⟨fun q => (by rw [(teq h).2] at q; cases q), fun _ q => q h⟩
    · exact ⟨fun _ => h, fun q => (by rw [(feq h).2] at q; cases q)⟩
  · by_cases h : x < y
    · exact ⟨fun _ => h, fun q => (by rw [(tlt h).1] at q; cases q)⟩
    · exact ⟨fun q => (by rw [(flt h).1] at q; cases q), fun _ => h⟩
  · by_cases h : x < y
    · exact ⟨fun q => (by rw [(tlt h).2.1] at q; cases q), fun _ q => q h⟩
    · exact ⟨fun _ => h, fun q => (by rw [(flt h).2.1] at q; cases q)⟩
  · by_cases h : y < x
    · exact ⟨fun _ => h, fun q => (by rw [(tlt h).2.2.1] at q; cases q)⟩
    · exact ⟨fun q => (by rw [(flt h).2.2.1] at q; cases q), fun _ => h⟩
  · by_cases h : y < x
    · exact ⟨fun q => (by rw [(tlt h).2.2.2] at q; cases q), fun _ q => q h⟩
    · exact ⟨fun _ => h, fun q => (by rw [(flt h).2.2.2] at q; cases q)⟩
theorem Go.icmp (K : Ctx p s m meth c Z own bs ml ret nm R F B) {cd : ClassFile.Cond} {x y : Int32} {o : Int} {pcT pcF : Nat} (hd : decode bs pc = .ok (.if_icmp cd o, 3)) (ho : 0 ≤ (pc : Int) + o) (hT : ((pc : Int) + o).toNat = pcT) (hF : pc + 3 = pcF)
    (HT : CmpP cd x y → Go p l e R s m args below meth c n0 Q F B h k n (mkF m pcT Ls st)) (HF : ¬ CmpP cd x y → Go p l e R s m args below meth c n0 Q F B h k n (mkF m pcF Ls st)) : Go p l e R s m args below meth c n0 Q F B h k n (mkF m pc Ls (.int y :: .int x :: st)) := by
  subst hF
  cases q : if_icmp.holds cd x y with
  | true => exact (HT ((cmp_holds cd x y).1 q)).by fun T _ X _ t r => XS.icmpYes X.here K.cx rfl rfl (hb K.cb hd) rfl q ho hT r
  | false => exact (HF ((cmp_holds cd x y).2 q)).by fun T _ X _ t r => XS.icmpNo X.here K.cx rfl (hb K.cb hd) rfl q r
theorem Go.ifc (K : Ctx p s m meth c Z own bs ml ret nm R F B) {cd : ClassFile.Cond} {x : Int32} {o : Int} {pcT pcF : Nat} (hd : decode bs pc = .ok (.ifCond cd o, 3)) (ho : 0 ≤ (pc : Int) + o) (hT : ((pc : Int) + o).toNat = pcT) (hF : pc + 3 = pcF)
    (HT : CmpP cd x 0 → Go p l e R s m args below meth c n0 Q F B h k n (mkF m pcT Ls st)) (HF : ¬ CmpP cd x 0 → Go p l e R s m args below meth c n0 Q F B h k n (mkF m pcF Ls st)) : Go p l e R s m args below meth c n0 Q F B h k n (mkF m pc Ls (.int x :: st)) := by
  subst hF
  cases q : if_icmp.holds cd x 0 with
  | true => exact (HT ((cmp_holds cd x 0).1 q)).by fun T _ X _ t r => XS.ifYes X.here K.cx rfl rfl (hb K.cb hd) rfl ((if0 _ _).trans q) ho hT r
  | false => exact (HF ((cmp_holds cd x 0).2 q)).by fun T _ X _ t r => XS.ifNo X.here K.cx rfl (hb K.cb hd) rfl ((if0 _ _).trans q) r
theorem Go.ifnullN (K : Ctx p s m meth c Z own bs ml ret nm R F B) {o : Int} (hd : decode bs pc = .ok (.ifnull o, 3)) (ho : 0 ≤ (pc : Int) + o) (hT : ((pc : Int) + o).toNat = pc') (H : Go p l e R s m args below meth c n0 Q F B h k n (mkF m pc' Ls st)) : Go p l e R s m args below meth c n0 Q F B h k n (mkF m pc Ls (.null :: st)) :=
  H.by fun T _ X _ t r => XS.ifnullYes X.here K.cx rfl rfl (hb K.cb hd) rfl ho hT r
theorem Go.ifnullR (K : Ctx p s m meth c Z own bs ml ret nm R F B) {o : Int} {a : Addr} (hd : decode bs pc = .ok (.ifnull o, 3)) (hp : pc + 3 = pc') (H : Go p l e R s m args below meth c n0 Q F B h k n (mkF m pc' Ls st)) : Go p l e R s m args below meth c n0 Q F B h k n (mkF m pc Ls (.ref a :: st)) := by
  subst hp
  exact H.by fun T _ X _ t r => XS.ifnullNo X.here K.cx rfl (hb K.cb hd) rfl r
theorem Go.ifnonnullR (K : Ctx p s m meth c Z own bs ml ret nm R F B) {o : Int} {a : Addr} (hd : decode bs pc = .ok (.ifnonnull o, 3)) (ho : 0 ≤ (pc : Int) + o) (hT : ((pc : Int) + o).toNat = pc') (H : Go p l e R s m args below meth c n0 Q F B h k n (mkF m pc' Ls st)) : Go p l e R s m args below meth c n0 Q F B h k n (mkF m pc Ls (.ref a :: st)) :=
  H.by fun T _ X _ t r => XS.ifnonnullYes X.here K.cx rfl rfl (hb K.cb hd) rfl ho hT r
theorem Go.ifnonnullN (K : Ctx p s m meth c Z own bs ml ret nm R F B) {o : Int} (hd : decode bs pc = .ok (.ifnonnull o, 3)) (hp : pc + 3 = pc') (H : Go p l e R s m args below meth c n0 Q F B h k n (mkF m pc' Ls st)) : Go p l e R s m args below meth c n0 Q F B h k n (mkF m pc Ls (.null :: st)) := by
  subst hp
  exact H.by fun T _ X _ t r => XS.ifnonnullNo X.here K.cx rfl (hb K.cb hd) rfl r
/-- if_acmp whose answer is known -/
theorem Go.acmp (K : Ctx p s m meth c Z own bs ml ret nm R F B) {cd : ACond} {x y : Value} {o : Int} {same : Bool} (hd : decode bs pc = .ok (.if_acmp cd o, 3)) (h1 : x.isRef = true) (h2 : y.isRef = true) (hq : decide (x = y) = same) (ho : 0 ≤ (pc : Int) + o) (hp : pc' = if acV cd same = true then ((pc : Int) + o).toNat else pc + 3)
    (H : Go p l e R s m args below meth c n0 Q F B h k n (mkF m pc' Ls st)) : Go p l e R s m args below meth c n0 Q F B h k n (mkF m pc Ls (y :: x :: st)) :=
  H.by fun T _ X _ t r => Jvm.RoadKit.acmp (g := mkF m pc Ls (y :: x :: st)) X K.cx rfl h1 h2 rfl (hb K.cb hd) rfl hq ho hp r
theorem Go.cast {g g' : JFrame} (q : g = g') (H : Go p l e R s m args below meth c n0 Q F B h k n g') : Go p l e R s m args below meth c n0 Q F B h k n g := q ▸ H
/-! the heap -/
theorem Go.getF (K : Ctx p s m meth c Z own bs ml ret nm R F B) {R0 O f d host : String} {j : Nat} {a : Addr} {v : Value} (w : (Jvm.Cond.fieldLink own j R0 f d).before a0 Z = true ∨ (Jvm.Cond.fieldLinkNest own j R0 f d host).before a0 Z = true) (via : Via Z R0 O f d) (Fa : Fld Z h a O f d v) (hd : decode bs pc = .ok (.getfield j, 3)) (hp : pc + 3 = pc')
    (H : Go p l e R s m args below meth c n0 Q F B h k n (mkF m pc' Ls (v :: st))) : Go p l e R s m args below meth c n0 Q F B h k n (mkF m pc Ls (.ref a :: st)) := by
  subst hp
  intro T locs X eT N hB
  obtain ⟨T', X', e', q⟩ := Jvm.RoadKit.getF X K.cx K.cz K.co w via eT Fa (g := mkF m pc Ls (.ref a :: st)) rfl rfl (hb K.cb hd)
  obtain ⟨s₂, o, r1, r2⟩ := H T' locs X' e' N hB
  exact ⟨s₂, o, q _ r1, r2⟩
theorem Go.getS (K : Ctx p s m meth c Z own bs ml ret nm R F B) {R0 O f d host : String} {j : Nat} {v : Value} (w : (Jvm.Cond.fieldLink own j R0 f d).before a0 Z = true ∨ (Jvm.Cond.fieldLinkNest own j R0 f d host).before a0 Z = true) (via : Via Z R0 O f d) (Fa : Sta Z h O f d v) (hd : decode bs pc = .ok (.getstatic j, 3)) (hp : pc + 3 = pc')
    (H : Go p l e R s m args below meth c n0 Q F B h k n (mkF m pc' Ls (v :: st))) : Go p l e R s m args below meth c n0 Q F B h k n (mkF m pc Ls st) := by
  subst hp
  intro T locs X eT N hB
  obtain ⟨T', X', e', q⟩ := Jvm.RoadKit.getS2 X K.cx K.cz K.co w via eT Fa (g := mkF m pc Ls st) rfl (hb K.cb hd)
  obtain ⟨s₂, o, r1, r2⟩ := H T' locs X' e' N hB
  exact ⟨s₂, o, q _ r1, r2⟩
theorem Go.putF (K : Ctx p s m meth c Z own bs ml ret nm R F B) {R0 O f d host C : String} {j kk : Nat} {ty : FieldType} {a : Addr} {v old : Value} (w : (Jvm.Cond.fieldLink own j R0 f d).before a0 Z = true ∨ (Jvm.Cond.fieldLinkNest own j R0 f d host).before a0 Z = true) (via : Via Z R0 O f d) (Fa : Fld Z h a O f d old) (E : Exa Z h a C)
    (L : (Jvm.Cond.lays C O f d).before a0 Z = true ∨ ((Jvm.Cond.laysFinal C O f d).before a0 Z = true ∧ own = O ∧ nm = "<init>")) (wi : (Jvm.Cond.instantiable C kk).before a0 Z = true) (hty : parseFieldDescriptor d = some ty) (hn : narrow ty v = v) (hf : fits ty v = true) (ha : n0 ≤ a) (hd : decode bs pc = .ok (.putfield j, 3)) (hp : pc + 3 = pc')
    (H : ∀ h', Wr h h' a (Jvm.RoadKit.slotOf Z O f d) v → Fld Z h' a O f d v → Go p l e R s m args below meth c n0 Q F B h' k n (mkF m pc' Ls st)) : Go p l e R s m args below meth c n0 Q F B h k n (mkF m pc Ls (v :: .ref a :: st)) := by
  subst hp
  intro T locs X eT N hB
  obtain ⟨T', h', X', e', W, q⟩ := Jvm.RoadKit.putF X K.cx K.cz K.co w via eT Fa E (L.imp id fun r => ⟨r.1, r.2.1, K.cn.trans r.2.2⟩) wi hty hn hf (g := mkF m pc Ls (v :: .ref a :: st)) rfl rfl (hb K.cb hd)
  obtain ⟨s₂, o, r1, r2⟩ := H h' W (Fa.same W) T' _ X' e' (Fr.snoc X' N ha) (Nat.le_trans hB (Keep.of_wr W).1)
  exact ⟨s₂, o, q _ r1, r2⟩
theorem Go.putFN (K : Ctx p s m meth c Z own bs ml ret nm R F B) {R0 O f d C : String} {j kk : Nat} {ty : FieldType} {a : Addr} {v v' old : Value} (w : (Jvm.Cond.fieldLink own j R0 f d).before a0 Z = true) (via : Via Z R0 O f d) (Fa : Fld Z h a O f d old) (E : Exa Z h a C)
    (L : (Jvm.Cond.lays C O f d).before a0 Z = true ∨ ((Jvm.Cond.laysFinal C O f d).before a0 Z = true ∧ own = O ∧ nm = "<init>")) (wi : (Jvm.Cond.instantiable C kk).before a0 Z = true) (hty : parseFieldDescriptor d = some ty) (hn : narrow ty v = v') (hf : fits ty v' = true) (ha : n0 ≤ a) (hd : decode bs pc = .ok (.putfield j, 3)) (hp : pc + 3 = pc')
    (H : ∀ h', Wr h h' a (Jvm.RoadKit.slotOf Z O f d) v' → Fld Z h' a O f d v' → Go p l e R s m args below meth c n0 Q F B h' k n (mkF m pc' Ls st)) : Go p l e R s m args below meth c n0 Q F B h k n (mkF m pc Ls (v :: .ref a :: st)) := by
  subst hp
  intro T locs X eT N hB
  obtain ⟨T', h', X', e', W, q⟩ := Jvm.RoadKit.putFN X K.cx K.cz K.co w via eT Fa E (L.imp id fun r => ⟨r.1, r.2.1, K.cn.trans r.2.2⟩) wi hty hn hf (g := mkF m pc Ls (v :: .ref a :: st)) rfl rfl (hb K.cb hd)
  obtain ⟨s₂, o, r1, r2⟩ := H h' W (Fa.same W) T' _ X' e' (Fr.snoc X' N ha) (Nat.le_trans hB (Keep.of_wr W).1)
  exact ⟨s₂, o, q _ r1, r2⟩
theorem Go.newO (K : Ctx p s m meth c Z own bs ml ret nm R F B) {C : String} {j i : Nat} (w : (Jvm.Cond.classLink own j C).before a0 Z = true) (wi : (Jvm.Cond.instantiable C i).before a0 Z = true) (wz : (Jvm.Cond.initialized C).before a0 Z = true) (hc : k + 1 ≤ R.cells) (hl : n + i ≤ R.slots) (hd : decode bs pc = .ok (.new j, 3)) (hp : pc + 3 = pc')
    (H : ∀ h' a, a = h.size → Ext h h' → Exa Z h' a C → (∀ {O f d : String} {ty : FieldType}, Laid Z a0 C O f d → parseFieldDescriptor d = some ty → Fld Z h' a O f d (defaultValue ty)) → Go p l e R s m args below meth c n0 Q F B h' (k + 1) (n + i) (mkF m pc' Ls (.ref a :: st))) : Go p l e R s m args below meth c n0 Q F B h k n (mkF m pc Ls st) := by
  subst hp
  intro T locs X eT N hB
  obtain ⟨T', h', X', e', E, A, D, -, q⟩ := Jvm.RoadKit.newO X K.cx K.cz K.co w wi wz eT (g := mkF m pc Ls st) rfl (hb K.cb hd) hc hl
  obtain ⟨s₂, o, r1, r2⟩ := H h' h.size rfl E A D T' locs X' e' N (Nat.le_trans hB E.1)
  exact ⟨s₂, o, q _ r1, r2⟩
theorem Go.newP (K : Ctx p s m meth c Z own bs ml ret nm R F B) {aty : ArrayType} {z : Int32} (w : (Jvm.Cond.arrayClass (newarray.typeOf aty)).before a0 Z = true) (hz : ¬ z < 0) (cap : Nat) (hcap : z.toNatClampNeg ≤ cap) (hb8 : cap * 8 ≤ 536870912) (hc : k + 1 ≤ R.cells) (hl : n + cap ≤ R.slots) (hd : decode bs pc = .ok (.newarray aty, 2)) (hp : pc + 2 = pc')
    (H : ∀ h' a kA, a = h.size → Ext h h' → Arv Z h' a kA (newarray.typeOf aty) z [] (defaultValue (newarray.typeOf aty)) → Go p l e R s m args below meth c n0 Q F B h' (k + 1) (n + cap) (mkF m pc' Ls (.ref a :: st))) : Go p l e R s m args below meth c n0 Q F B h k n (mkF m pc Ls (.int z :: st)) := by
  subst hp
  intro T locs X eT N hB
  obtain ⟨T', h', kA, X', e', E, A, q⟩ := Jvm.RoadKit.newP X K.cx K.cz w eT (g := mkF m pc Ls (.int z :: st)) rfl (hb K.cb hd) rfl hz hcap hb8 hc hl
  obtain ⟨s₂, o, r1, r2⟩ := H h' h.size kA rfl E (Arv.new A hz) T' locs X' e' N (Nat.le_trans hB E.1)
  exact ⟨s₂, o, q _ r1, r2⟩
theorem Go.newR (K : Ctx p s m meth c Z own bs ml ret nm R F B) {C : String} {j : Nat} {z : Int32} (w : (Jvm.Cond.classLink own j C).before a0 Z = true) (w2 : (Jvm.Cond.arrayOver (.object C)).before a0 Z = true) (hz : ¬ z < 0) (cap : Nat) (hcap : z.toNatClampNeg ≤ cap) (hb8 : cap * 8 ≤ 536870912) (hc : k + 1 ≤ R.cells) (hl : n + cap ≤ R.slots) (hd : decode bs pc = .ok (.anewarray j, 3)) (hp : pc + 3 = pc')
    (H : ∀ h' a kA, a = h.size → Ext h h' → Arv Z h' a kA (.object C) z [] .null → Ovr Z kA C → Go p l e R s m args below meth c n0 Q F B h' (k + 1) (n + cap) (mkF m pc' Ls (.ref a :: st))) : Go p l e R s m args below meth c n0 Q F B h k n (mkF m pc Ls (.int z :: st)) := by
  subst hp
  intro T locs X eT N hB
  obtain ⟨T', h', kA, X', e', E, A, O, q⟩ := Jvm.RoadKit.newR X K.cx K.cz K.co w w2 eT (g := mkF m pc Ls (.int z :: st)) rfl (hb K.cb hd) rfl hz hcap hb8 hc hl
  obtain ⟨s₂, o, r1, r2⟩ := H h' h.size kA rfl E (Arv.new A hz) O T' locs X' e' N (Nat.le_trans hB E.1)
  exact ⟨s₂, o, q _ r1, r2⟩
/-- castore at the known place i of an array whose first places are said -/
theorem Go.castore (K : Ctx p s m meth c Z own bs ml ret nm R F B) {a : Addr} {kA : ClassId} {z j x : Int32} {vs : List Value} {dv : Value} (V : Arv Z h a kA .char z vs dv) (i : Nat) (hj : j.toNatClampNeg = i) (hi : i < vs.length) (hin : ¬ j < 0 ∧ j < z) (ha : n0 ≤ a) (hd : decode bs pc = .ok (.castore, 1)) (hp : pc + 1 = pc')
    (H : ∀ h', Keep h h' [a] → Arv Z h' a kA .char z (vs.set i (.int (nar .char x))) dv → Go p l e R s m args below meth c n0 Q F B h' k n (mkF m pc' Ls st)) : Go p l e R s m args below meth c n0 Q F B h k n (mkF m pc Ls (.int x :: .int j :: .ref a :: st)) := by
  subst hp
  intro T locs X eT N hB
  obtain ⟨cl, A, q1, S, q3, Hs, G⟩ := V
  obtain ⟨T', h', X', e', W, q⟩ := stC X K.cx K.cz eT A (j := j) (inb_of S hin) (g := mkF m pc Ls (.int x :: .int j :: .ref a :: st)) rfl rfl (hb K.cb hd)
  obtain ⟨s₂, o, r1, r2⟩ := H h' (Keep.of_wr W) (Arv.set A q1 S q3 Hs G (fits_nar_char _) W i hj hi) T' _ X' e' (Fr.snoc X' N ha) (Nat.le_trans hB (Keep.of_wr W).1)
  exact ⟨s₂, o, q _ r1, r2⟩
theorem Go.iastore (K : Ctx p s m meth c Z own bs ml ret nm R F B) {a : Addr} {kA : ClassId} {z j x : Int32} {vs : List Value} {dv : Value} (V : Arv Z h a kA .int z vs dv) (i : Nat) (hj : j.toNatClampNeg = i) (hi : i < vs.length) (hin : ¬ j < 0 ∧ j < z) (ha : n0 ≤ a) (hd : decode bs pc = .ok (.iastore, 1)) (hp : pc + 1 = pc')
    (H : ∀ h', Keep h h' [a] → Arv Z h' a kA .int z (vs.set i (.int x)) dv → Go p l e R s m args below meth c n0 Q F B h' k n (mkF m pc' Ls st)) : Go p l e R s m args below meth c n0 Q F B h k n (mkF m pc Ls (.int x :: .int j :: .ref a :: st)) := by
  subst hp
  intro T locs X eT N hB
  obtain ⟨cl, A, q1, S, q3, Hs, G⟩ := V
  obtain ⟨T', h', X', e', W, q⟩ := stI X K.cx K.cz eT A (j := j) (inb_of S hin) (g := mkF m pc Ls (.int x :: .int j :: .ref a :: st)) rfl rfl (hb K.cb hd)
  obtain ⟨s₂, o, r1, r2⟩ := H h' (Keep.of_wr W) (Arv.set A q1 S q3 Hs G rfl W i hj hi) T' _ X' e' (Fr.snoc X' N ha) (Nat.le_trans hB (Keep.of_wr W).1)
  exact ⟨s₂, o, q _ r1, r2⟩
theorem Go.bastore (K : Ctx p s m meth c Z own bs ml ret nm R F B) {a : Addr} {kA : ClassId} {z j x : Int32} {vs : List Value} {dv : Value} (V : Arv Z h a kA .byte z vs dv) (i : Nat) (hj : j.toNatClampNeg = i) (hi : i < vs.length) (hin : ¬ j < 0 ∧ j < z) (ha : n0 ≤ a) (hd : decode bs pc = .ok (.bastore, 1)) (hp : pc + 1 = pc')
    (H : ∀ h', Keep h h' [a] → Arv Z h' a kA .byte z (vs.set i (.int (nar .byte x))) dv → Go p l e R s m args below meth c n0 Q F B h' k n (mkF m pc' Ls st)) : Go p l e R s m args below meth c n0 Q F B h k n (mkF m pc Ls (.int x :: .int j :: .ref a :: st)) := by
  subst hp
  intro T locs X eT N hB
  obtain ⟨cl, A, q1, S, q3, Hs, G⟩ := V
  obtain ⟨T', h', X', e', W, q⟩ := stB X K.cx K.cz eT A (j := j) (inb_of S hin) (g := mkF m pc Ls (.int x :: .int j :: .ref a :: st)) rfl rfl (hb K.cb hd)
  obtain ⟨s₂, o, r1, r2⟩ := H h' (Keep.of_wr W) (Arv.set A q1 S q3 Hs G (fits_nar_byte _) W i hj hi) T' _ X' e' (Fr.snoc X' N ha) (Nat.le_trans hB (Keep.of_wr W).1)
  exact ⟨s₂, o, q _ r1, r2⟩
theorem Go.bzstore (K : Ctx p s m meth c Z own bs ml ret nm R F B) {a : Addr} {kA : ClassId} {z j x : Int32} {vs : List Value} {dv : Value} (V : Arv Z h a kA .boolean z vs dv) (i : Nat) (hj : j.toNatClampNeg = i) (hi : i < vs.length) (hin : ¬ j < 0 ∧ j < z) (ha : n0 ≤ a) (hd : decode bs pc = .ok (.bastore, 1)) (hp : pc + 1 = pc')
    (H : ∀ h', Keep h h' [a] → Arv Z h' a kA .boolean z (vs.set i (.int (nar .boolean x))) dv → Go p l e R s m args below meth c n0 Q F B h' k n (mkF m pc' Ls st)) : Go p l e R s m args below meth c n0 Q F B h k n (mkF m pc Ls (.int x :: .int j :: .ref a :: st)) := by
  subst hp
  intro T locs X eT N hB
  obtain ⟨cl, A, q1, S, q3, Hs, G⟩ := V
  obtain ⟨T', h', X', e', W, q⟩ := stZ X K.cx K.cz eT A (j := j) (inb_of S hin) (g := mkF m pc Ls (.int x :: .int j :: .ref a :: st)) rfl rfl (hb K.cb hd)
  obtain ⟨s₂, o, r1, r2⟩ := H h' (Keep.of_wr W) (Arv.set A q1 S q3 Hs G (fits_nar_bool _) W i hj hi) T' _ X' e' (Fr.snoc X' N ha) (Nat.le_trans hB (Keep.of_wr W).1)
  exact ⟨s₂, o, q _ r1, r2⟩
theorem Go.aastore (K : Ctx p s m meth c Z own bs ml ret nm R F B) {a : Addr} {kA : ClassId} {C : String} {z j : Int32} {v : Value} {vs : List Value} {dv : Value} (V : Arv Z h a kA (.object C) z vs dv) (S0 : v = .null ∨ ∃ y, v = .ref y ∧ Ovr Z kA C ∧ Ins Z h y C true) (i : Nat) (hj : j.toNatClampNeg = i) (hi : i < vs.length) (hin : ¬ j < 0 ∧ j < z) (ha : n0 ≤ a) (hd : decode bs pc = .ok (.aastore, 1)) (hp : pc + 1 = pc')
    (H : ∀ h', Keep h h' [a] → Arv Z h' a kA (.object C) z (vs.set i v) dv → Go p l e R s m args below meth c n0 Q F B h' k n (mkF m pc' Ls st)) : Go p l e R s m args below meth c n0 Q F B h k n (mkF m pc Ls (v :: .int j :: .ref a :: st)) := by
  subst hp
  intro T locs X eT N hB
  obtain ⟨cl, A, q1, S, q3, Hs, G⟩ := V
  have Fs : Sto Z h a v := by
    rcases S0 with rfl | ⟨y, rfl, O, I⟩
    · exact Or.inl rfl
    · exact Sto.ofV A q1 O I
  have hf : fits (.object C) v = true := by
    rcases S0 with rfl | ⟨y, rfl, O, I⟩ <;> rfl
  obtain ⟨T', h', X', e', W, q⟩ := stR X K.cx K.cz eT A (j := j) (inb_of S hin) rfl Fs (g := mkF m pc Ls (v :: .int j :: .ref a :: st)) rfl rfl (hb K.cb hd)
  obtain ⟨s₂, o, r1, r2⟩ := H h' (Keep.of_wr W) (Arv.set A q1 S q3 Hs G hf W i hj hi) T' _ X' e' (Fr.snoc X' N ha) (Nat.le_trans hB (Keep.of_wr W).1)
  exact ⟨s₂, o, q _ r1, r2⟩
theorem Go.arraylength (K : Ctx p s m meth c Z own bs ml ret nm R F B) {a : Addr} {kA : ClassId} {ty : FieldType} {z : Int32} {vs : List Value} {dv : Value} (V : Arv Z h a kA ty z vs dv) (hd : decode bs pc = .ok (.arraylength, 1)) (hp : pc + 1 = pc')
    (H : Go p l e R s m args below meth c n0 Q F B h k n (mkF m pc' Ls (.int z :: st))) : Go p l e R s m args below meth c n0 Q F B h k n (mkF m pc Ls (.ref a :: st)) := by
  subst hp
  obtain ⟨cl, A, q1, S, q3, Hs, G⟩ := V
  refine H.by fun T _ X eT t q => X.arraylength K.cx (by rw [eT]; exact A.1) (State.isArrayOf_alike K.cz.alike A.2.1) (g := mkF m pc Ls (.ref a :: st)) rfl rfl (hb K.cb hd) t ?_
  rw [len_of S q3]
  exact q
theorem Go.caload (K : Ctx p s m meth c Z own bs ml ret nm R F B) {a : Addr} {kA : ClassId} {z j : Int32} {vs : List Value} {dv v : Value} (V : Arv Z h a kA .char z vs dv) (hin : ¬ j < 0 ∧ j < z) (hv : vs.getD j.toNatClampNeg dv = v) (hd : decode bs pc = .ok (.caload, 1)) (hp : pc + 1 = pc')
    (H : Go p l e R s m args below meth c n0 Q F B h k n (mkF m pc' Ls (v :: st))) : Go p l e R s m args below meth c n0 Q F B h k n (mkF m pc Ls (.int j :: .ref a :: st)) := by
  subst hp
  obtain ⟨cl, A, q1, S, q3, Hs, G⟩ := V
  exact H.by fun T _ X eT t q => X.caload K.cx (by rw [eT]; exact A.1) (State.isArrayOf_alike K.cz.alike A.2.1) A.2.2 (inb_of S hin) (Hs.at (inb_of S hin) hv) (g := mkF m pc Ls (.int j :: .ref a :: st)) rfl rfl (hb K.cb hd) t q
theorem Go.iaload (K : Ctx p s m meth c Z own bs ml ret nm R F B) {a : Addr} {kA : ClassId} {z j : Int32} {vs : List Value} {dv v : Value} (V : Arv Z h a kA .int z vs dv) (hin : ¬ j < 0 ∧ j < z) (hv : vs.getD j.toNatClampNeg dv = v) (hd : decode bs pc = .ok (.iaload, 1)) (hp : pc + 1 = pc')
    (H : Go p l e R s m args below meth c n0 Q F B h k n (mkF m pc' Ls (v :: st))) : Go p l e R s m args below meth c n0 Q F B h k n (mkF m pc Ls (.int j :: .ref a :: st)) := by
  subst hp
  obtain ⟨cl, A, q1, S, q3, Hs, G⟩ := V
  exact H.by fun T _ X eT t q => X.iaload K.cx (by rw [eT]; exact A.1) (State.isArrayOf_alike K.cz.alike A.2.1) A.2.2 (inb_of S hin) (Hs.at (inb_of S hin) hv) (g := mkF m pc Ls (.int j :: .ref a :: st)) rfl rfl (hb K.cb hd) t q
theorem Go.aaload (K : Ctx p s m meth c Z own bs ml ret nm R F B) {a : Addr} {kA : ClassId} {C : String} {z j : Int32} {vs : List Value} {dv v : Value} (V : Arv Z h a kA (.object C) z vs dv) (hin : ¬ j < 0 ∧ j < z) (hv : vs.getD j.toNatClampNeg dv = v) (hd : decode bs pc = .ok (.aaload, 1)) (hp : pc + 1 = pc')
    (H : Go p l e R s m args below meth c n0 Q F B h k n (mkF m pc' Ls (v :: st))) : Go p l e R s m args below meth c n0 Q F B h k n (mkF m pc Ls (.int j :: .ref a :: st)) := by
  subst hp
  obtain ⟨cl, A, q1, S, q3, Hs, G⟩ := V
  exact H.by fun T _ X eT t q => X.aaload K.cx (by rw [eT]; exact A.1) (State.isArrayOf_alike K.cz.alike A.2.1) rfl A.2.2 (inb_of S hin) (Hs.at (inb_of S hin) hv) (g := mkF m pc Ls (.int j :: .ref a :: st)) rfl rfl (hb K.cb hd) t q
theorem Go.castY (K : Ctx p s m meth c Z own bs ml ret nm R F B) {C : String} {j : Nat} {a : Addr} (w : (Jvm.Cond.classLink own j C).before a0 Z = true) (Fa : Ins Z h a C true) (hd : decode bs pc = .ok (.checkcast j, 3)) (hp : pc + 3 = pc')
    (H : Go p l e R s m args below meth c n0 Q F B h k n (mkF m pc' Ls (.ref a :: st))) : Go p l e R s m args below meth c n0 Q F B h k n (mkF m pc Ls (.ref a :: st)) := by
  subst hp
  intro T locs X eT N hB
  obtain ⟨T', X', e', q⟩ := Jvm.RoadKit.castY X K.cx K.cz K.co w eT Fa (g := mkF m pc Ls (.ref a :: st)) rfl rfl (hb K.cb hd)
  obtain ⟨s₂, o, r1, r2⟩ := H T' locs X' e' N hB
  exact ⟨s₂, o, q _ r1, r2⟩
theorem Go.instY (K : Ctx p s m meth c Z own bs ml ret nm R F B) {C : String} {j : Nat} {a : Addr} (w : (Jvm.Cond.classLink own j C).before a0 Z = true) (Fa : Ins Z h a C true) (hd : decode bs pc = .ok (.instanceof j, 3)) (hp : pc + 3 = pc')
    (H : Go p l e R s m args below meth c n0 Q F B h k n (mkF m pc' Ls (.int 1 :: st))) : Go p l e R s m args below meth c n0 Q F B h k n (mkF m pc Ls (.ref a :: st)) := by
  subst hp
  intro T locs X eT N hB
  obtain ⟨T', X', e', q⟩ := Jvm.RoadKit.instY X K.cx K.cz K.co w eT Fa (g := mkF m pc Ls (.ref a :: st)) rfl rfl (hb K.cb hd)
  obtain ⟨s₂, o, r1, r2⟩ := H T' locs X' e' N hB
  exact ⟨s₂, o, q _ r1, r2⟩
theorem Go.initO (K : Ctx p s m meth c Z own bs ml ret nm R F B) {j : Nat} {a : Addr} (w1 : (Jvm.Cond.methodLink own j Lib.objectInit).before a0 Z = true) (w2 : (Jvm.Cond.instanceMethod Lib.objectInit).before a0 Z = true) (w3 : (Jvm.Cond.code Lib.objectInit ⟨#[0xb1]⟩ 1 none).before a0 Z = true) (hml : Ls.size = ml) (hf : 1 ≤ R.frames) (W : Nat) (hW : (st.map fun v => v.category).sum ≤ W) (hl : W + 12 ≤ R.locals) (hd : decode bs pc = .ok (.invokespecial j, 3)) (hp : pc + 3 = pc')
    (H : Go p l e R s m args below meth c n0 Q F B h k n (mkF m pc' Ls st)) : Go p l e R s m args below meth c n0 Q F B h k n (mkF m pc Ls (.ref a :: st)) := by
  subst hp
  intro T locs X eT N hB
  obtain ⟨T', X', e', q⟩ := Jvm.RoadKit.initO X K.cx K.cz K.co w1 w2 w3 eT (g := mkF m pc Ls (.ref a :: st)) rfl (hml.trans K.cl.symm) rfl (hb K.cb hd) hf (W := W) (by show 2 * 0 + _ ≤ _; omega) hl
  obtain ⟨s₂, o, r1, r2⟩ := H T' locs X' e' N hB
  exact ⟨s₂, o, q _ r1, r2⟩
/-! calls -/
theorem Go.callS (K : Ctx p s m meth c Z own bs ml ret nm R F B) {j : Nat} {y : MethodName} {bytes : ByteArray} {maxL : Nat} {rt : Option FieldType} {W kc nc : Nat} {Qc : Option Value → Heap → List Loc → Prop} {argsL : List Value}
    (w1 : (Jvm.Cond.methodLink own j y).before args s = true) (w2 : (Jvm.Cond.static y).before args s = true) (w3 : (Jvm.Cond.initialized y.cls).before args s = true) (w4 : (Jvm.Cond.code y bytes maxL rt).before args s = true) (hy : y.cls ≠ "java/lang/invoke/MethodHandle" ∧ y.cls ≠ "java/lang/invoke/VarHandle")
    (hK : Pays l R p e below s args y 3 W argsL.toArray h kc nc Qc) (hml : Ls.size = ml) (hlen : ∀ sig, parseMethodDescriptor y.desc = some sig → argsL.length = sig.parameters.length) (hst : st = argsL.reverse ++ rest) (hW : (rest.map fun v => v.category).sum ≤ W) (hc : k + kc ≤ R.cells) (hs : n + nc ≤ R.slots) (hfr : ∀ v h' L, Qc v h' L → Fr n0 L) (hgr : ∀ v h' L, Qc v h' L → h.size ≤ h'.size) (hd : decode bs pc = .ok (.invokestatic j, 3)) (hp : pc + 3 = pc')
    (H : ∀ v h' L, Qc v h' L → Go p l e R s m args below meth c n0 Q F B h' (k + kc) (n + nc) (mkF m pc' Ls (v.toList ++ rest))) : Go p l e R s m args below meth c n0 Q F B h k n (mkF m pc Ls st) := by
  subst hp hst
  intro T locs X eT N hB
  obtain ⟨v, vm₁, ⟨T', L', k', n'⟩, -, X', ⟨L, hq, l1, y1, z1⟩, q⟩ := Jvm.LawKit.callS X K.cx (y := y) (bytes := bytes) (maxL := maxL) (ret := rt) K.co w1 w2 w3 w4 hy hK (g := mkF m pc Ls (argsL.reverse ++ rest)) rfl (hml.trans K.cl.symm) (argsL := argsL) (rest := rest) hlen rfl (by show 2 * 0 + _ ≤ _; omega) (hb K.cb hd) (fun _ _ => ⟨rfl, eT, hc, hs⟩)
  dsimp only [Pt.U, Pt.locs, Pt.cells, Pt.slots] at X' l1 y1 z1 q hq
  subst l1 y1 z1
  obtain ⟨s₂, o, r1, r2⟩ := H v _ L hq T' _ X' rfl (N.app (hfr _ _ _ hq)) (Nat.le_trans hB (hgr _ _ _ hq))
  exact ⟨s₂, o, q _ r1, r2⟩
theorem Go.callC (K : Ctx p s m meth c Z own bs ml ret nm R F B) {j : Nat} {y : MethodName} {bytes : ByteArray} {maxL : Nat} {W kc nc : Nat} {a : Addr} {Qc : Option Value → Heap → List Loc → Prop} {argsL : List Value} (hy1 : y.name = "<init>")
    (w1 : (Jvm.Cond.methodLink own j y).before args s = true) (w2 : (Jvm.Cond.instanceMethod y).before args s = true) (w4 : (Jvm.Cond.code y bytes maxL none).before args s = true) (hy : y.cls ≠ "java/lang/invoke/MethodHandle" ∧ y.cls ≠ "java/lang/invoke/VarHandle")
    (hK : Pays l R p e below s args y 3 W (.ref a :: argsL).toArray h kc nc Qc) (hml : Ls.size = ml) (hlen : ∀ sig, parseMethodDescriptor y.desc = some sig → argsL.length = sig.parameters.length) (hst : st = argsL.reverse ++ .ref a :: rest) (hW : (rest.map fun v => v.category).sum ≤ W) (hc : k + kc ≤ R.cells) (hs : n + nc ≤ R.slots) (hfr : ∀ v h' L, Qc v h' L → Fr n0 L) (hgr : ∀ v h' L, Qc v h' L → h.size ≤ h'.size) (hd : decode bs pc = .ok (.invokespecial j, 3)) (hp : pc + 3 = pc')
    (H : ∀ v h' L, Qc v h' L → Go p l e R s m args below meth c n0 Q F B h' (k + kc) (n + nc) (mkF m pc' Ls (v.toList ++ rest))) : Go p l e R s m args below meth c n0 Q F B h k n (mkF m pc Ls st) := by
  subst hp hst
  intro T locs X eT N hB
  obtain ⟨v, vm₁, ⟨T', L', k', n'⟩, -, X', ⟨L, hq, l1, y1, z1⟩, q⟩ := X.specialBack K.cx (y := y) (bytes := bytes) (maxL := maxL) hy1 K.co w1 w2 w4 hy hK (g := mkF m pc Ls (argsL.reverse ++ .ref a :: rest)) rfl (hml.trans K.cl.symm) (Steps.refl _) (a := a) (argsL := argsL) (rest := rest) hlen rfl (by show 2 * 0 + _ ≤ _; omega) (hb K.cb hd) (fun _ _ => ⟨rfl, eT, hc, hs⟩)
  dsimp only [Pt.U, Pt.locs, Pt.cells, Pt.slots] at X' l1 y1 z1 q hq
  subst l1 y1 z1
  obtain ⟨s₂, o, r1, r2⟩ := H v _ L hq T' _ X' rfl (N.app (hfr _ _ _ hq)) (Nat.le_trans hB (hgr _ _ _ hq))
  exact ⟨s₂, o, q.trans r1, r2⟩
theorem Go.callV (K : Ctx p s m meth c Z own bs ml ret nm R F B) {j : Nat} {C : String} {y z : MethodName} {W kc nc : Nat} {a : Addr} {Qc : Option Value → Heap → List Loc → Prop} {argsL : List Value}
    (w1 : (Jvm.Cond.methodLink own j y).before args s = true) (w2 : (Jvm.Cond.declares y).before args s = true) (hnf : NotFace s y) (w3 : (Jvm.Cond.selects C y z).before args s = true) (w4 : (Jvm.Cond.instanceMethod z).before args s = true) (hy : y.cls ≠ "java/lang/invoke/MethodHandle" ∧ y.cls ≠ "java/lang/invoke/VarHandle") (E : Exa Z h a C)
    (hK : Pays l R p e below s args z 3 W (.ref a :: argsL).toArray h kc nc Qc) (hml : Ls.size = ml) (hlen : ∀ sig, parseMethodDescriptor y.desc = some sig → argsL.length = sig.parameters.length) (hst : st = argsL.reverse ++ .ref a :: rest) (hW : (rest.map fun v => v.category).sum ≤ W) (hc : k + kc ≤ R.cells) (hs : n + nc ≤ R.slots) (hfr : ∀ v h' L, Qc v h' L → Fr n0 L) (hgr : ∀ v h' L, Qc v h' L → h.size ≤ h'.size) (hd : decode bs pc = .ok (.invokevirtual j, 3)) (hp : pc + 3 = pc')
    (H : ∀ v h' L, Qc v h' L → Go p l e R s m args below meth c n0 Q F B h' (k + kc) (n + nc) (mkF m pc' Ls (v.toList ++ rest))) : Go p l e R s m args below meth c n0 Q F B h k n (mkF m pc Ls st) := by
  subst hp hst
  intro T locs X eT N hB
  obtain ⟨cq, kq, qa, qb, qc⟩ := isOf K.cz eT E
  obtain ⟨v, vm₁, ⟨T', L', k', n'⟩, -, X', ⟨L, hq, l1, y1, z1⟩, q⟩ := X.virtualBack K.cx (y := y) (z := z) K.co w1 w2 hnf w3 w4 hy hK qa qc (g := mkF m pc Ls (argsL.reverse ++ .ref a :: rest)) rfl (hml.trans K.cl.symm) (Steps.refl _) (argsL := argsL) (rest := rest) hlen rfl (by show 2 * 0 + _ ≤ _; omega) (hb K.cb hd) (fun _ _ => ⟨rfl, eT, hc, hs⟩)
  dsimp only [Pt.U, Pt.locs, Pt.cells, Pt.slots] at X' l1 y1 z1 q hq
  subst l1 y1 z1
  obtain ⟨s₂, o, r1, r2⟩ := H v _ L hq T' _ X' rfl (N.app (hfr _ _ _ hq)) (Nat.le_trans hB (hgr _ _ _ hq))
  exact ⟨s₂, o, q.trans r1, r2⟩
theorem nar_ref {C : String} {v : Value} (h : v.isRef = true) : narrow (.object C) v = v := by cases v <;> first | rfl | simp [Value.isRef] at h
theorem fit_ref {C : String} {v : Value} (h : v.isRef = true) : fits (.object C) v = true := by cases v <;> first | rfl | simp [Value.isRef] at h
/-! the ends -/
theorem Go.retN {t : FieldType} (K : Ctx p s m meth c Z own bs ml (some t) nm R F B) {x : Int32} (ht : t = .boolean ∨ t = .byte ∨ t = .char ∨ t = .short) (hk : k ≤ R.cells) (hn : n ≤ R.slots) (hd : decode bs pc = .ok (.ireturn, 1)) (q : ∀ (T : State) (locs : List Loc), Stand p l e R s m args below meth c T locs k n → T.heap = h → Q (some (.int (nar t x))) T.vm h) : Go p l e R s m args below meth c n0 Q F B h k n (mkF m pc Ls (.int x :: st)) := by
  intro T locs X eT N hB
  obtain ⟨fs, hr, hrun, hended, hW, hsame⟩ := X.leave (v := some (.int (nar t x))) (fun h => by rw [K.cr] at h; cases h) K.ck
  exact ⟨_, _, Jvm.RoadKit.retN X K.cx K.cr ht (hb K.cb hd) hr, hrun, hended, _, _, rfl, ⟨(show Q _ T.vm T.heap by rw [eT]; exact q T locs X eT), N⟩, K.ce _ _ _ _ _ hW hsame (by show B ≤ T.heap.size; rw [eT]; exact hB) hk hn⟩
theorem Go.retI (K : Ctx p s m meth c Z own bs ml (some .int) nm R F B) {x : Int32} (hk : k ≤ R.cells) (hn : n ≤ R.slots) (hd : decode bs pc = .ok (.ireturn, 1)) (q : ∀ (T : State) (locs : List Loc), Stand p l e R s m args below meth c T locs k n → T.heap = h → Q (some (.int x)) T.vm h) : Go p l e R s m args below meth c n0 Q F B h k n (mkF m pc Ls (.int x :: st)) := by
  intro T locs X eT N hB
  obtain ⟨fs, hr, hrun, hended, hW, hsame⟩ := X.leave (v := some (.int x)) (fun h => by rw [K.cr] at h; cases h) K.ck
  exact ⟨_, _, Jvm.RoadKit.retI X K.cx K.cr (hb K.cb hd) hr, hrun, hended, _, _, rfl, ⟨(show Q _ T.vm T.heap by rw [eT]; exact q T locs X eT), N⟩, K.ce _ _ _ _ _ hW hsame (by show B ≤ T.heap.size; rw [eT]; exact hB) hk hn⟩
theorem Go.retA {t : FieldType} (K : Ctx p s m meth c Z own bs ml (some t) nm R F B) {v : Value} (hnn : narrow t v = v) (ht : t.isReference = true) (hv : v.isRef = true) (hk : k ≤ R.cells) (hn : n ≤ R.slots) (hd : decode bs pc = .ok (.areturn, 1)) (q : ∀ (T : State) (locs : List Loc), Stand p l e R s m args below meth c T locs k n → T.heap = h → Q (some v) T.vm h) : Go p l e R s m args below meth c n0 Q F B h k n (mkF m pc Ls (v :: st)) := by
  intro T locs X eT N hB
  obtain ⟨fs, hr, hrun, hended, hW, hsame⟩ := X.leave (v := some v) (fun h => by rw [K.cr] at h; cases h) K.ck
  exact ⟨_, _, Jvm.RoadKit.retR X K.cx K.cr hnn ht hv (hb K.cb hd) hr, hrun, hended, _, _, rfl, ⟨(show Q _ T.vm T.heap by rw [eT]; exact q T locs X eT), N⟩, K.ce _ _ _ _ _ hW hsame (by show B ≤ T.heap.size; rw [eT]; exact hB) hk hn⟩
theorem Go.retJ (K : Ctx p s m meth c Z own bs ml (some .long) nm R F B) {x : Int64} (hk : k ≤ R.cells) (hn : n ≤ R.slots) (hd : decode bs pc = .ok (.lreturn, 1)) (q : ∀ (T : State) (locs : List Loc), Stand p l e R s m args below meth c T locs k n → T.heap = h → Q (some (.long x)) T.vm h) : Go p l e R s m args below meth c n0 Q F B h k n (mkF m pc Ls (.long x :: st)) := by
  intro T locs X eT N hB
  obtain ⟨fs, hr, hrun, hended, hW, hsame⟩ := X.leave (v := some (.long x)) (fun h => by rw [K.cr] at h; cases h) K.ck
  exact ⟨_, _, Jvm.RoadKit.retL X K.cx K.cr (hb K.cb hd) hr, hrun, hended, _, _, rfl, ⟨(show Q _ T.vm T.heap by rw [eT]; exact q T locs X eT), N⟩, K.ce _ _ _ _ _ hW hsame (by show B ≤ T.heap.size; rw [eT]; exact hB) hk hn⟩
theorem Go.retV (K : Ctx p s m meth c Z own bs ml none nm R F B) (hk : k ≤ R.cells) (hn : n ≤ R.slots) (hd : decode bs pc = .ok (.return_, 1)) (q : ∀ (T : State) (locs : List Loc), Stand p l e R s m args below meth c T locs k n → T.heap = h → Q none T.vm h) : Go p l e R s m args below meth c n0 Q F B h k n (mkF m pc Ls []) := by
  intro T locs X eT N hB
  obtain ⟨fs, hr, hrun, hended, hW, hsame⟩ := X.leave (v := none) (fun _ => rfl) K.ck
  exact ⟨_, _, X.returnOut K.cx K.cr (hb K.cb hd) hr, hrun, hended, _, _, rfl, ⟨(show Q _ T.vm T.heap by rw [eT]; exact q T locs X eT), N⟩, K.ce _ _ _ _ _ hW hsame (by show B ≤ T.heap.size; rw [eT]; exact hB) hk hn⟩
/-- a contract out of a walk -/
theorem Met.of {ws : List Jvm.Cond} {y : MethodName} {rm : Room} {as' : Array Value} {h0 : Heap} {Qm : Option Value → Heap → Prop} (hpl : plainFor y = true)
    (H : ∀ (p : Program) (e : Env) (s : State) (m : MethodId) (below : List Frame) (meth : Method) (c : Code) (F : Outcome → State → List Loc → Prop), Ctx p s m meth c Z y.cls bs ml ret y.name rm F 0 → Go p l e rm s m as' below meth c n0 (fun v _ h => Qm v h) F 0 h0 0 0 (entryFrame m as' ml)) : Met l Z ws y bs ml ret rm as' h0 n0 Qm := by
  refine MetFree.of_bodySF hpl hisR ?_
  intro p e s m args below meth c s₁ Bd hml0 hP hK
  obtain ⟨rfl, hZ, hh⟩ := hP
  have X0 : Stand p l e rm s m args below meth c s₁ [] 0 0 := Stand.of_body Bd
  have e0 : s₁.heap = h0 := by rw [← hh, Bd.state]; rfl
  obtain ⟨s₂, o, r1, r2, r3, v, L, rfl, ⟨q1, q2⟩, q3⟩ := H p e s m below meth c (fun o t L => FrameEnd s o t L rm.cells rm.slots) ⟨Bd.exec, hZ, findClass_of_methodNamed Bd.named, Bd.bytes, hml0, Bd.returns, (name_of_methodNamed Bd.named Bd.method).1, Bd.notSynchronized, fun t v L k n hW hs _ hk hn => ⟨⟨v, rfl⟩, hW, hs.mono hk hn⟩⟩ s₁ [] X0 e0 (Fr.nil n0) (Nat.zero_le _)
  exact ⟨s₂, _, r1, r2, r3, v, L, rfl, ⟨⟨q1, q2⟩, by have := q3.2.2.2.1; rw [← hh]; exact this⟩, q3⟩
theorem MetK.of {ws : List Jvm.Cond} {y : MethodName} {rm : Room} {as' : Array Value} {h0 : Heap} {Qm : Option Value → Heap → Prop} (hpl : plainFor y = true)
    (H : ∀ (p : Program) (e : Env) (s : State) (m : MethodId) (below : List Frame) (meth : Method) (c : Code) (F : Outcome → State → List Loc → Prop), s.vm.MethodsKnown → s.vm.FramesKnown below → Ctx p s m meth c Z y.cls bs ml ret y.name rm F 0 → Go p l e rm s m as' below meth c n0 (fun v _ h => Qm v h) F 0 h0 0 0 (entryFrame m as' ml)) : MetK l Z ws y bs ml ret rm as' h0 n0 Qm := by
  refine MetFree.of_bodySF hpl hisR ?_
  intro p e s m args below meth c s₁ Bd hml0 hP hK
  obtain ⟨rfl, hZ, hh⟩ := hP
  have X0 : Stand p l e rm s m args below meth c s₁ [] 0 0 := Stand.of_body Bd
  have e0 : s₁.heap = h0 := by rw [← hh, Bd.state]; rfl
  obtain ⟨s₂, o, r1, r2, r3, v, L, rfl, ⟨q1, q2⟩, q3⟩ := H p e s m below meth c (fun o t L => FrameEnd s o t L rm.cells rm.slots) hK.1 hK.2 ⟨Bd.exec, hZ, findClass_of_methodNamed Bd.named, Bd.bytes, hml0, Bd.returns, (name_of_methodNamed Bd.named Bd.method).1, Bd.notSynchronized, fun t v L k n hW hs _ hk hn => ⟨⟨v, rfl⟩, hW, hs.mono hk hn⟩⟩ s₁ [] X0 e0 (Fr.nil n0) (Nat.zero_le _)
  exact ⟨s₂, _, r1, r2, r3, v, L, rfl, ⟨⟨q1, q2⟩, by have := q3.2.2.2.1; rw [← hh]; exact this⟩, q3⟩
theorem Met.pays {y : MethodName} {rm : Room} {as' : Array Value} {h0 : Heap} {len W : Nat} {Qm : Option Value → Heap → Prop} (M : Met l Z [] y bs ml ret rm as' h0 n0 Qm) (hZ : Z.Warmed39 s.vm) (wc : (Jvm.Cond.code y bs ml ret).before a0 Z = true) (wz : (Jvm.Cond.initialized y.cls).before a0 Z = true) (hf : rm.frames + 1 ≤ R.frames) (hl : W + (ml + 11) + rm.locals ≤ R.locals) :
    Pays l R p e below s args y len W as' h0 rm.cells rm.slots (fun v h L => (Qm v h ∧ Fr n0 L) ∧ h0.size ≤ h.size) :=
  backOf (Q := fun v h L => (Qm v h ∧ Fr n0 L) ∧ h0.size ≤ h.size) M hZ wc wz hf hl
theorem MetK.pays {y : MethodName} {rm : Room} {as' : Array Value} {h0 : Heap} {len W : Nat} {Qm : Option Value → Heap → Prop} (M : MetK l Z [] y bs ml ret rm as' h0 n0 Qm) (hZ : Z.Warmed39 s.vm) (wc : (Jvm.Cond.code y bs ml ret).before a0 Z = true) (wz : (Jvm.Cond.initialized y.cls).before a0 Z = true) (hf : rm.frames + 1 ≤ R.frames) (hl : W + (ml + 11) + rm.locals ≤ R.locals) (hTK : s.vm.MethodsKnown) (hBelow : s.vm.FramesKnown below) :
    Pays l R p e below s args y len W as' h0 rm.cells rm.slots (fun v h L => (Qm v h ∧ Fr n0 L) ∧ h0.size ≤ h.size) :=
  backOfKL (Q := fun v h L => (Qm v h ∧ Fr n0 L) ∧ h0.size ≤ h.size) M hZ wc wz hf hl hTK hBelow
theorem frOf {n0 N : Nat} {Q : Option Value → Heap → Prop} : ∀ (v : Option Value) (h' : Heap) (L : List Loc), ((Q v h' ∧ Fr n0 L) ∧ N ≤ h'.size) → Fr n0 L := fun _ _ _ q => q.1.2
theorem grOf {n0 N : Nat} {Q : Option Value → Heap → Prop} : ∀ (v : Option Value) (h' : Heap) (L : List Loc), ((Q v h' ∧ Fr n0 L) ∧ N ≤ h'.size) → N ≤ h'.size := fun _ _ _ q => q.2
/-! String constants, and callees that load them -/
section Wide
variable {vm0 : Vm} {EL : List (String × Nat)}
abbrev FW (s : State) (R : Room) : Outcome → State → List Loc → Prop := fun o t L => ReturnedEndW s o t L R.cells R.slots
theorem Ctx.wide {B1 : Nat} {vm1 : Vm} (hS : s.Since vm1 B1) (hx : p.tables.exec = Jvm.exec) (hZ : Z.Warmed39 vm1) (ho : vm1.findClass own = some m.cls) (hby : c.code = bs) (hml : c.maxLocals = ml) (hr : meth.sig.returnType = ret) (hn : meth.name = nm) (hk : meth.locks = false) : Ctx p (s.setVm vm1) m meth c Z own bs ml ret nm R (FW s R) B1 :=
  ⟨hx, hZ, ho, hby, hml, hr, hn, hk, fun t v L k n hW hs hB h1 h2 => by
    obtain ⟨a, b, c'⟩ := hS.ended (U := t) hW hB hs
    exact ⟨⟨v, rfl⟩, a, b, c'.mono h1 h2⟩⟩
/-- ldc of a String constant of which nothing is asked -/
theorem Go.ldcO (K : Ctx p (s.setVm vm0) m meth c Z own bs ml ret nm R (FW s R) B) (hS : s.Since vm0 B) {text : String} {j i : Nat} (w : (Jvm.Cond.stringLink own j text).before a0 Z = true) (wS : ∀ a ∈ Bundle.stringAtoms, a.before a0 Z = true) (hEL : EW Z a0 EL) (HC : CHv Z EL vm0 h) (hi : 4 * text.toList.length ≤ i) (hbig : i ≤ 536870912) (hc : k + 2 ≤ R.cells) (hl : n + (i + 4) ≤ R.slots) (hd : decode bs pc = .ok (.ldc j, 2)) (hp : pc + 2 = pc')
    (H : ∀ a vm1 h' B1, Ext h h' → CHr Z EL vm0 h vm1 h' → s.Since vm1 B1 → Ctx p (s.setVm vm1) m meth c Z own bs ml ret nm R (FW s R) B1 → Go p l e R (s.setVm vm1) m args below meth c n0 Q (FW s R) B1 h' (k + 2) (n + (i + 4)) (mkF m pc' Ls (.ref a :: st))) : Go p l e R (s.setVm vm0) m args below meth c n0 Q (FW s R) B h k n (mkF m pc Ls st) := by
  subst hp
  intro T locs X eT N hB
  obtain ⟨a, T', h', k1, X', e', E, hS', hk', hZ', ho', hr', -, q⟩ := ldcOH X K.cx K.cz K.co w wS eT hS hB hEL HC (g := mkF m pc Ls st) rfl (hb K.cb hd) hi hbig hc hl
  obtain ⟨s₂, o, r1, r2⟩ := H a T'.vm h' k1 E hr' hS' (Ctx.wide hS' K.cx hZ' ho' K.cb K.cl K.cr K.cn K.ck) T' locs X' e' N hk'
  exact ⟨s₂, o, q _ r1, r2⟩
/-- ldc of a String constant that is read -/
theorem Go.ldcV (K : Ctx p (s.setVm vm0) m meth c Z own bs ml ret nm R (FW s R) B) (hS : s.Since vm0 B) {text : String} {j i : Nat} (w : (Jvm.Cond.stringLink own j text).before a0 Z = true) (wS : ∀ a ∈ Bundle.stringAtoms, a.before a0 Z = true) (hEL : EW Z a0 EL) (hmem : (own, j) ∈ EL) (HC : CHv Z EL vm0 h)
    {vs : List Value} {z : Int32} (ht : (∀ c ∈ text.toList, c.toNat < 256) ∧ text.toList.map (fun c => Value.int (Jvm.Lit.byteI c.toNat.toUInt16)) = vs) (hz : ¬ z < 0) (hlz : z.toNatClampNeg = vs.length)
    (hi : 4 * text.toList.length ≤ i) (hbig : i ≤ 536870912) (hc : k + 2 ≤ R.cells) (hl : n + (i + 4) ≤ R.slots) (hd : decode bs pc = .ok (.ldc j, 2)) (hp : pc + 2 = pc')
    (H : ∀ a b kb vm1 h' B1, Ext h h' → CHr Z EL vm0 h vm1 h' → s.Since vm1 B1 → Exa Z h' a "java/lang/String" → Fld Z h' a "java/lang/String" "coder" "B" (.int 0) → Fld Z h' a "java/lang/String" "value" "[B" (.ref b) → Arv Z h' b kb .byte z vs (.int 0) → (∀ x, Safe Z EL vm1 h' x → x ≠ a ∧ x ≠ b) → Ctx p (s.setVm vm1) m meth c Z own bs ml ret nm R (FW s R) B1 →
      Go p l e R (s.setVm vm1) m args below meth c n0 Q (FW s R) B1 h' (k + 2) (n + (i + 4)) (mkF m pc' Ls (.ref a :: st))) : Go p l e R (s.setVm vm0) m args below meth c n0 Q (FW s R) B h k n (mkF m pc Ls st) := by
  subst hp
  intro T locs X eT N hB
  obtain ⟨a, T', h', k1, b, kb, X', e', E, hS', hk', hZ', ho', x1, x2, x3, x4, -, -, hr', -, hsf, q⟩ := ldcCH X K.cx K.cz K.co w wS eT hS hB hEL hmem HC ht hz hlz (g := mkF m pc Ls st) rfl (hb K.cb hd) hi hbig hc hl
  obtain ⟨s₂, o, r1, r2⟩ := H a b kb T'.vm h' k1 E hr' hS' x1 x2 x3 x4 hsf (Ctx.wide hS' K.cx hZ' ho' K.cb K.cl K.cr K.cn K.ck) T' locs X' e' N hk'
  exact ⟨s₂, o, q _ r1, r2⟩
theorem Go.callSW (K : Ctx p (s.setVm vm0) m meth c Z own bs ml ret nm R (FW s R) B) (hS : s.Since vm0 B) {j : Nat} {y : MethodName} {bytes : ByteArray} {maxL : Nat} {rt : Option FieldType} {W kc nc : Nat} {Qc : Option Value → Heap → List Loc → Prop} {argsL : List Value}
    (w1 : (Jvm.Cond.methodLink own j y).before args (s.setVm vm0) = true) (w2 : (Jvm.Cond.static y).before args (s.setVm vm0) = true) (w3 : (Jvm.Cond.initialized y.cls).before args (s.setVm vm0) = true) (w4 : (Jvm.Cond.code y bytes maxL rt).before args (s.setVm vm0) = true) (hy : y.cls ≠ "java/lang/invoke/MethodHandle" ∧ y.cls ≠ "java/lang/invoke/VarHandle")
    (hK : PaysW l R p e below s vm0 args y 3 W argsL.toArray h kc nc Z EL Qc) (hml : Ls.size = ml) (hlen : ∀ sig, parseMethodDescriptor y.desc = some sig → argsL.length = sig.parameters.length) (hst : st = argsL.reverse ++ rest) (hW : (rest.map fun v => v.category).sum ≤ W) (hc : k + kc ≤ R.cells) (hs : n + nc ≤ R.slots) (hfr : ∀ v h' L, Qc v h' L → Fr n0 L) (hd : decode bs pc = .ok (.invokestatic j, 3)) (hp : pc + 3 = pc')
    (H : ∀ v h' L vm1 B1, Qc v h' L → CHr Z EL vm0 h vm1 h' → s.Since vm1 B1 → Ctx p (s.setVm vm1) m meth c Z own bs ml ret nm R (FW s R) B1 → Go p l e R (s.setVm vm1) m args below meth c n0 Q (FW s R) B1 h' (k + kc) (n + nc) (mkF m pc' Ls (v.toList ++ rest))) : Go p l e R (s.setVm vm0) m args below meth c n0 Q (FW s R) B h k n (mkF m pc Ls st) := by
  subst hp hst
  intro T locs X eT N hB
  obtain ⟨v, vm₁, ⟨T', L', k', n'⟩, -, X', hs2, hg, ⟨L, hq, l1, y1, z1, hr⟩, q⟩ := callSS X K.cx (y := y) (bytes := bytes) (maxL := maxL) (ret := rt) K.co w1 w2 w3 w4 hy hK (g := mkF m pc Ls (argsL.reverse ++ rest)) rfl (hml.trans K.cl.symm) (argsL := argsL) (rest := rest) hlen rfl (by show 2 * 0 + _ ≤ _; omega) (hb K.cb hd) (fun _ _ => ⟨rfl, eT, hc, hs⟩)
  dsimp only [Pt.U, Pt.locs, Pt.cells, Pt.slots] at X' l1 y1 z1 q hq hr hs2 hg
  subst l1 y1 z1
  obtain ⟨X2, hS2, hZ2, ho2⟩ := rebS hS (Nat.le_trans hB (Nat.le_of_eq (congrArg Array.size eT.symm))) X' hs2 hg K.cz K.co
  obtain ⟨s₂, o, r1, r2⟩ := H v _ L _ _ hq hr hS2 (Ctx.wide hS2 K.cx hZ2 ho2 K.cb K.cl K.cr K.cn K.ck) T' _ X2 rfl (N.app (hfr _ _ _ hq)) (Nat.le_refl _)
  exact ⟨s₂, o, q.trans r1, r2⟩
theorem Go.callCW (K : Ctx p (s.setVm vm0) m meth c Z own bs ml ret nm R (FW s R) B) (hS : s.Since vm0 B) {j : Nat} {y : MethodName} {bytes : ByteArray} {maxL : Nat} {W kc nc : Nat} {a : Addr} {Qc : Option Value → Heap → List Loc → Prop} {argsL : List Value} (hy1 : y.name = "<init>")
    (w1 : (Jvm.Cond.methodLink own j y).before args (s.setVm vm0) = true) (w2 : (Jvm.Cond.instanceMethod y).before args (s.setVm vm0) = true) (w4 : (Jvm.Cond.code y bytes maxL none).before args (s.setVm vm0) = true) (hy : y.cls ≠ "java/lang/invoke/MethodHandle" ∧ y.cls ≠ "java/lang/invoke/VarHandle")
    (hK : PaysW l R p e below s vm0 args y 3 W (.ref a :: argsL).toArray h kc nc Z EL Qc) (hml : Ls.size = ml) (hlen : ∀ sig, parseMethodDescriptor y.desc = some sig → argsL.length = sig.parameters.length) (hst : st = argsL.reverse ++ .ref a :: rest) (hW : (rest.map fun v => v.category).sum ≤ W) (hc : k + kc ≤ R.cells) (hs : n + nc ≤ R.slots) (hfr : ∀ v h' L, Qc v h' L → Fr n0 L) (hd : decode bs pc = .ok (.invokespecial j, 3)) (hp : pc + 3 = pc')
    (H : ∀ v h' L vm1 B1, Qc v h' L → CHr Z EL vm0 h vm1 h' → s.Since vm1 B1 → Ctx p (s.setVm vm1) m meth c Z own bs ml ret nm R (FW s R) B1 → Go p l e R (s.setVm vm1) m args below meth c n0 Q (FW s R) B1 h' (k + kc) (n + nc) (mkF m pc' Ls (v.toList ++ rest))) : Go p l e R (s.setVm vm0) m args below meth c n0 Q (FW s R) B h k n (mkF m pc Ls st) := by
  subst hp hst
  intro T locs X eT N hB
  obtain ⟨v, vm₁, ⟨T', L', k', n'⟩, -, X', hs2, hg, ⟨L, hq, l1, y1, z1, hr⟩, q⟩ := X.specialBackS K.cx (y := y) (bytes := bytes) (maxL := maxL) hy1 K.co w1 w2 w4 hy hK (g := mkF m pc Ls (argsL.reverse ++ .ref a :: rest)) rfl (hml.trans K.cl.symm) (Steps.refl _) (a := a) (argsL := argsL) (rest := rest) hlen rfl (by show 2 * 0 + _ ≤ _; omega) (hb K.cb hd) (fun _ _ => ⟨rfl, eT, hc, hs⟩)
  dsimp only [Pt.U, Pt.locs, Pt.cells, Pt.slots] at X' l1 y1 z1 q hq hr hs2 hg
  subst l1 y1 z1
  obtain ⟨X2, hS2, hZ2, ho2⟩ := rebS hS (Nat.le_trans hB (Nat.le_of_eq (congrArg Array.size eT.symm))) X' hs2 hg K.cz K.co
  obtain ⟨s₂, o, r1, r2⟩ := H v _ L _ _ hq hr hS2 (Ctx.wide hS2 K.cx hZ2 ho2 K.cb K.cl K.cr K.cn K.ck) T' _ X2 rfl (N.app (hfr _ _ _ hq)) (Nat.le_refl _)
  exact ⟨s₂, o, q.trans r1, r2⟩
theorem Go.callVW (K : Ctx p (s.setVm vm0) m meth c Z own bs ml ret nm R (FW s R) B) (hS : s.Since vm0 B) {j : Nat} {C : String} {y z : MethodName} {W kc nc : Nat} {a : Addr} {Qc : Option Value → Heap → List Loc → Prop} {argsL : List Value}
    (w1 : (Jvm.Cond.methodLink own j y).before args (s.setVm vm0) = true) (w2 : (Jvm.Cond.declares y).before args (s.setVm vm0) = true) (hnf : NotFace (s.setVm vm0) y) (w3 : (Jvm.Cond.selects C y z).before args (s.setVm vm0) = true) (w4 : (Jvm.Cond.instanceMethod z).before args (s.setVm vm0) = true) (hy : y.cls ≠ "java/lang/invoke/MethodHandle" ∧ y.cls ≠ "java/lang/invoke/VarHandle") (E : Exa Z h a C)
    (hK : PaysW l R p e below s vm0 args z 3 W (.ref a :: argsL).toArray h kc nc Z EL Qc) (hml : Ls.size = ml) (hlen : ∀ sig, parseMethodDescriptor y.desc = some sig → argsL.length = sig.parameters.length) (hst : st = argsL.reverse ++ .ref a :: rest) (hW : (rest.map fun v => v.category).sum ≤ W) (hc : k + kc ≤ R.cells) (hs : n + nc ≤ R.slots) (hfr : ∀ v h' L, Qc v h' L → Fr n0 L) (hd : decode bs pc = .ok (.invokevirtual j, 3)) (hp : pc + 3 = pc')
    (H : ∀ v h' L vm1 B1, Qc v h' L → CHr Z EL vm0 h vm1 h' → s.Since vm1 B1 → Ctx p (s.setVm vm1) m meth c Z own bs ml ret nm R (FW s R) B1 → Go p l e R (s.setVm vm1) m args below meth c n0 Q (FW s R) B1 h' (k + kc) (n + nc) (mkF m pc' Ls (v.toList ++ rest))) : Go p l e R (s.setVm vm0) m args below meth c n0 Q (FW s R) B h k n (mkF m pc Ls st) := by
  subst hp hst
  intro T locs X eT N hB
  obtain ⟨cq, kq, qa, qb, qc⟩ := isOf K.cz eT E
  obtain ⟨v, vm₁, ⟨T', L', k', n'⟩, -, X', hs2, hg, ⟨L, hq, l1, y1, z1, hr⟩, q⟩ := X.virtualBackS K.cx (y := y) (z := z) K.co w1 w2 hnf w3 w4 hy hK qa qc (g := mkF m pc Ls (argsL.reverse ++ .ref a :: rest)) rfl (hml.trans K.cl.symm) (Steps.refl _) (argsL := argsL) (rest := rest) hlen rfl (by show 2 * 0 + _ ≤ _; omega) (hb K.cb hd) (fun _ _ => ⟨rfl, eT, hc, hs⟩)
  dsimp only [Pt.U, Pt.locs, Pt.cells, Pt.slots] at X' l1 y1 z1 q hq hr hs2 hg
  subst l1 y1 z1
  obtain ⟨X2, hS2, hZ2, ho2⟩ := rebS hS (Nat.le_trans hB (Nat.le_of_eq (congrArg Array.size eT.symm))) X' hs2 hg K.cz K.co
  obtain ⟨s₂, o, r1, r2⟩ := H v _ L _ _ hq hr hS2 (Ctx.wide hS2 K.cx hZ2 ho2 K.cb K.cl K.cr K.cn K.ck) T' _ X2 rfl (N.app (hfr _ _ _ hq)) (Nat.le_refl _)
  exact ⟨s₂, o, q.trans r1, r2⟩
theorem MetW.of {ws : List Jvm.Cond} {y : MethodName} {rm : Room} {as' : Array Value} {h0 : Heap} {Qm : Option Value → Heap → Prop} (hpl : plainFor y = true)
    (H : ∀ (p : Program) (e : Env) (s : State) (m : MethodId) (below : List Frame) (meth : Method) (c : Code) (vm0 : Vm) (B : Nat), s.Since vm0 B → CHv Z EL vm0 h0 → Ctx p (s.setVm vm0) m meth c Z y.cls bs ml ret y.name rm (FW s rm) B → Go p l e rm (s.setVm vm0) m as' below meth c n0 (fun v vm h => Qm v h ∧ CHr Z EL vm0 h0 vm h) (FW s rm) B h0 0 0 (entryFrame m as' ml)) : MetW l Z ws EL y bs ml ret rm as' h0 n0 Qm := by
  refine MetFree.of_bodySF hpl hisR ?_
  intro p e s m args below meth c s₁ Bd hml0 hP hK
  obtain ⟨rfl, hZ, hh, hC⟩ := hP
  have X0 : Stand p l e rm (s.setVm s.vm) m args below meth c s₁ [] 0 0 := Stand.of_body Bd
  have e0 : s₁.heap = h0 := by rw [← hh, Bd.state]; rfl
  have hS : s.Since s.vm 0 := (State.WarmedH.refl s).since 0
  obtain ⟨s₂, o, r1, r2, r3, v, L, rfl, ⟨⟨q1, q1'⟩, q2⟩, q3⟩ := H p e s m below meth c s.vm 0 hS hC (Ctx.wide hS Bd.exec hZ (findClass_of_methodNamed Bd.named) Bd.bytes hml0 Bd.returns (name_of_methodNamed Bd.named Bd.method).1 Bd.notSynchronized) s₁ [] X0 e0 (Fr.nil n0) (Nat.zero_le _)
  exact ⟨s₂, _, r1, r2, r3, v, L, rfl, ⟨⟨q1, q2⟩, q1'.2.1⟩, by rw [hh]; exact q1', q3⟩
theorem MetWK.of {ws : List Jvm.Cond} {y : MethodName} {rm : Room} {as' : Array Value} {h0 : Heap} {Qm : Option Value → Heap → Prop} (hpl : plainFor y = true)
    (H : ∀ (p : Program) (e : Env) (s : State) (m : MethodId) (below : List Frame) (meth : Method) (c : Code) (vm0 : Vm) (B : Nat), vm0.MethodsKnown → vm0.FramesKnown below → s.Since vm0 B → CHv Z EL vm0 h0 → Ctx p (s.setVm vm0) m meth c Z y.cls bs ml ret y.name rm (FW s rm) B → Go p l e rm (s.setVm vm0) m as' below meth c n0 (fun v vm h => Qm v h ∧ CHr Z EL vm0 h0 vm h) (FW s rm) B h0 0 0 (entryFrame m as' ml)) : MetWK l Z ws EL y bs ml ret rm as' h0 n0 Qm := by
  refine MetFree.of_bodySF hpl hisR ?_
  intro p e s m args below meth c s₁ Bd hml0 hP hK
  obtain ⟨rfl, hZ, hh, hC⟩ := hP
  have X0 : Stand p l e rm (s.setVm s.vm) m args below meth c s₁ [] 0 0 := Stand.of_body Bd
  have e0 : s₁.heap = h0 := by rw [← hh, Bd.state]; rfl
  have hS : s.Since s.vm 0 := (State.WarmedH.refl s).since 0
  obtain ⟨s₂, o, r1, r2, r3, v, L, rfl, ⟨⟨q1, q1'⟩, q2⟩, q3⟩ := H p e s m below meth c s.vm 0 hK.1 hK.2 hS hC (Ctx.wide hS Bd.exec hZ (findClass_of_methodNamed Bd.named) Bd.bytes hml0 Bd.returns (name_of_methodNamed Bd.named Bd.method).1 Bd.notSynchronized) s₁ [] X0 e0 (Fr.nil n0) (Nat.zero_le _)
  exact ⟨s₂, _, r1, r2, r3, v, L, rfl, ⟨⟨q1, q2⟩, q1'.2.1⟩, by rw [hh]; exact q1', q3⟩
theorem MetW.pays {y : MethodName} {rm : Room} {as' : Array Value} {h0 : Heap} {len W : Nat} {Qm : Option Value → Heap → Prop} (M : MetW l Z [] EL y bs ml ret rm as' h0 n0 Qm) (hZ : Z.Warmed39 vm0) (wc : (Jvm.Cond.code y bs ml ret).before a0 Z = true) (wz : (Jvm.Cond.initialized y.cls).before a0 Z = true) (hf : rm.frames + 1 ≤ R.frames) (hl : W + (ml + 11) + rm.locals ≤ R.locals) (hEL : EW Z a0 EL) (HC : CHv Z EL vm0 h0) :
    PaysW l R p e below s vm0 args y len W as' h0 rm.cells rm.slots Z EL (fun v h L => (Qm v h ∧ Fr n0 L) ∧ h0.size ≤ h.size) :=
  backOfSH (Q := fun v h L => (Qm v h ∧ Fr n0 L) ∧ h0.size ≤ h.size) M hZ wc wz hf hl hEL HC
theorem MetWK.pays {y : MethodName} {rm : Room} {as' : Array Value} {h0 : Heap} {len W : Nat} {Qm : Option Value → Heap → Prop} (M : MetWK l Z [] EL y bs ml ret rm as' h0 n0 Qm) (hZ : Z.Warmed39 vm0) (wc : (Jvm.Cond.code y bs ml ret).before a0 Z = true) (wz : (Jvm.Cond.initialized y.cls).before a0 Z = true) (hf : rm.frames + 1 ≤ R.frames) (hl : W + (ml + 11) + rm.locals ≤ R.locals) (hEL : EW Z a0 EL) (HC : CHv Z EL vm0 h0) (hTK : vm0.MethodsKnown) (hBelow : vm0.FramesKnown below) :
    PaysW l R p e below s vm0 args y len W as' h0 rm.cells rm.slots Z EL (fun v h L => (Qm v h ∧ Fr n0 L) ∧ h0.size ≤ h.size) :=
  backOfSKH (Q := fun v h L => (Qm v h ∧ Fr n0 L) ∧ h0.size ≤ h.size) M hZ wc wz hf hl hEL HC hTK hBelow
/-- what a wide walk says at its return -/
theorem own_end {Z : State} {EL : List (String × Nat)} {vmS vm0 : Vm} {hS h : Heap} {P : Prop} (hEL : EW Z a0 EL) (hZ : Z.Warmed39 vm0) (CR : CHr Z EL vmS hS vm0 h) (q : P) : ∀ (T : State) (locs : List Loc), Stand p l e R (s.setVm vm0) m args below meth c T locs k n → T.heap = h → P ∧ CHr Z EL vmS hS T.vm h :=
  fun T locs X eT => ⟨q, CR.trans (CHv.at X hZ hEL CR.1)⟩
end Wide
theorem own_ne {a b : Nat} {h : Heap} (h1 : a < h.size) (h2 : h.size ≤ b) : a ≠ b := Nat.ne_of_lt (Nat.lt_of_lt_of_le h1 h2)
end GoKit
end Jvm.Pilot.@@N@@
/- laws to paste: Road.backV (cut by pick.py; bodies as the Statement names them) -/
namespace Jvm.Pilot.@@N@@
namespace StrChars
open Jvm Sem ClassFile Op Lib Jvm.Stand Jvm.Free.XT Jvm.Free.ALB Jvm.Free.JM Jvm.Free
open Jvm.Lib.Cold (StaticIs)
/-- a char array whose places are chars -/
def Ch (a : Addr) (A : Cell) (U : State) : Prop := Arr .char a A U ∧ Typed .char A
theorem Ch.mv {a : Addr} {A : Cell} {U U' : State} (h : Ch a A U) (hal : U.vm.Alike U'.vm) (hh : U'.heap = U.heap) : Ch a A U' := ⟨h.1.mv hal hh, h.2⟩
theorem Ch.keep {a : Addr} {A : Cell} {U U' : State} (h : Ch a A U) (hal : U.vm.Alike U'.vm) (hk : U'.heap[a]? = some A) : Ch a A U' := ⟨h.1.keep hal hk, h.2⟩
/-- what place i of a char[]'s cell holds -/
def cv (A : Cell) (i : Nat) : Int32 := match A.slots[i]? with | some (.int x) => x | _ => 0
theorem Ch.get {a : Addr} {A : Cell} {U : State} (h : Ch a A U) {i : Nat} (hi : i < A.slots.size) : A.slots[i]? = some (.int (cv A i)) := by
  have e := Array.getElem?_eq_getElem hi
  have f := h.2 i _ e
  unfold cv; rw [e]
  generalize A.slots[i] = v at f
  cases v <;> simp [fits] at f ⊢
/-- the byte that i2b leaves of a char -/
def lo8 (x : Int32) : Int32 := x.toInt8.toInt32
theorem fits_lo8 (y : Int32) : fits .byte (.int (lo8 y)) = true := by
  have h1 := y.toInt8.le_toInt
  have h2 := y.toInt8.toInt_lt
  simp only [lo8, fits, Bool.and_eq_true, decide_eq_true_eq, Int32.le_iff_toInt_le, Int8.toInt_toInt32, show (-128 : Int32).toInt = -128 from by decide, show (127 : Int32).toInt = 127 from by decide]
  omega
/-- A' is A but that each place j of lo .. hi - 1 holds f j -/
def Laid (A A' : Cell) (lo hi : Nat) (f : Nat → Value) : Prop := A'.cls = A.cls ∧ A'.vm = A.vm ∧ A'.slots.size = A.slots.size ∧ ∀ i, A'.slots[i]? = if lo ≤ i ∧ i < hi then some (f i) else A.slots[i]?
theorem Laid.zero (A : Cell) (lo : Nat) (f : Nat → Value) : Laid A A lo (lo + 0) f := ⟨rfl, rfl, rfl, fun i => by rw [if_neg (by omega)]⟩
theorem Laid.step {A Ak : Cell} {lo k : Nat} {f : Nat → Value} {v : Value} (h : Laid A Ak lo k f) (hlo : lo ≤ k) (hk : k < Ak.slots.size) (hv : v = f k) : Laid A (Ak.setSlot k v) lo (k + 1) f := by
  refine ⟨h.1, h.2.1, by simpa [Cell.setSlot] using h.2.2.1, fun i => ?_⟩
  by_cases e : k = i
  · subst e; rw [Cell.slots_setSlot_self v hk, if_pos (by omega), hv]
  · rw [Cell.slots_setSlot_ne v e, h.2.2.2 i]
    by_cases q : lo ≤ i ∧ i < k
    · rw [if_pos q, if_pos (by omega)]
    · rw [if_neg q, if_neg (by omega)]
def U16 : String := "java/lang/StringUTF16"
namespace Cmp5
def yN : MethodName := ⟨"java/lang/StringUTF16", "compress", "([CI[BII)I"⟩
abbrev yB : ByteArray := jdk_52_method_21_code
theorem d0 : decode yB 0 = .ok (.iconst 0, 1) := by decide +kernel
theorem d1 : decode yB 1 = .ok (.istore 5, 2) := by decide +kernel
theorem d3 : decode yB 3 = .ok (.iload 5, 2) := by decide +kernel
theorem d5 : decode yB 5 = .ok (.iload 4, 2) := by decide +kernel
theorem d7 : decode yB 7 = .ok (.if_icmp (.ge) 37, 3) := by decide +kernel
theorem d10 : decode yB 10 = .ok (.aload_n 0, 1) := by decide +kernel
theorem d11 : decode yB 11 = .ok (.iload_n 1, 1) := by decide +kernel
theorem d12 : decode yB 12 = .ok (.caload, 1) := by decide +kernel
theorem d13 : decode yB 13 = .ok (.istore 6, 2) := by decide +kernel
theorem d15 : decode yB 15 = .ok (.iload 6, 2) := by decide +kernel
theorem d17 : decode yB 17 = .ok (.sipush 255, 3) := by decide +kernel
theorem d20 : decode yB 20 = .ok (.if_icmp (.le) 6, 3) := by decide +kernel
theorem d26 : decode yB 26 = .ok (.aload_n 2, 1) := by decide +kernel
theorem d27 : decode yB 27 = .ok (.iload_n 3, 1) := by decide +kernel
theorem d28 : decode yB 28 = .ok (.iload 6, 2) := by decide +kernel
theorem d30 : decode yB 30 = .ok (.i2b, 1) := by decide +kernel
theorem d31 : decode yB 31 = .ok (.bastore, 1) := by decide +kernel
theorem d32 : decode yB 32 = .ok (.iinc 1 1, 3) := by decide +kernel
theorem d35 : decode yB 35 = .ok (.iinc 3 1, 3) := by decide +kernel
theorem d38 : decode yB 38 = .ok (.iinc 5 1, 3) := by decide +kernel
theorem d41 : decode yB 41 = .ok (.goto (-38), 3) := by decide +kernel
theorem d44 : decode yB 44 = .ok (.iload 4, 2) := by decide +kernel
theorem d46 : decode yB 46 = .ok (.ireturn, 1) := by decide +kernel
def site : List Cond := []
def tab : Cond := tabOf yN yB 7 (some .int) site
def P (b : Addr) (A : Cell) (d : Addr) (B : Cell) (o q len : Nat) (args : Array Value) (s : State) : Prop := args = #[.ref b, .int (Int32.ofNat o), .ref d, .int (Int32.ofNat q), .int (Int32.ofNat len)] ∧ Ch b A s ∧ Arr .byte d B s ∧ b ≠ d ∧ o + len ≤ A.slots.size ∧ q + len ≤ B.slots.size ∧ ∀ i, i < len → ¬ 255 < cv A (o + i)
def E (b : Addr) (A : Cell) (d : Addr) (B : Cell) (o q len : Nat) (r : Option Value) (s u : State) : Prop := r = some (.int (Int32.ofNat len)) ∧ ∃ B', Put d B' s u ∧ Laid B B' q (q + len) (fun j => Value.int (lo8 (cv A (o + (j - q)))))
/-- no char of the range above 255: len; the places written hold each char's low byte -/
theorem law (l : Launch) (b : Addr) (A : Cell) (d : Addr) (B : Cell) (o q len : Nat) : Law l yN 5 5 0 0 yB 7 (some .int) site (P b A d B o q len) (E b A d B o q len) (copyLocs d q len) 0 0 := by
  refine Law.of_walk (plainFor_of_name (by decide +kernel)) (by decide +kernel) (by decide +kernel) (by decide) (fun _ _ h => by rw [h.1]; rfl) (fun _ U U' hal hh h => ⟨h.1, h.2.1.mv hal hh, h.2.2.1.mv hal hh, h.2.2.2⟩) (fun r U U' V V' h1 hal h2 h => ⟨h.1, h.2.elim fun B' q => ⟨B', q.1.mv h1 h2, q.2⟩⟩) ?_
  intro p e s m args below meth c s₁ X0 hexec hbytes hml hret hlk hnm hown hh0 W hP
  obtain ⟨rfl, hA, hB, hne, l1, l2, hp⟩ := hP
  have c1 : Steps p.tables e below (s₁.setTop (entryFrame m #[.ref b, .int (Int32.ofNat o), .ref d, .int (Int32.ofNat q), .int (Int32.ofNat len)] 7)) (s₁.setTop (mkF m 0 #[.val (.ref b), .val (.int (Int32.ofNat o)), .val (.ref d), .val (.int (Int32.ofNat q)), .val (.int (Int32.ofNat len)), .unset, .unset] [])) := entry rfl
  have hA0 := hA.1.mv X0.warmed.alike hh0
  have hB0 := hB.mv X0.warmed.alike hh0
  have a31 := hA.1.2.2.2
  have c2 : Steps p.tables e below (s₁.setTop (entryFrame m #[.ref b, .int (Int32.ofNat o), .ref d, .int (Int32.ofNat q), .int (Int32.ofNat len)] 7)) (s₁.setTop (mkF m 3 #[.val (.ref b), .val (.int (Int32.ofNat o)), .val (.ref d), .val (.int (Int32.ofNat q)), .val (.int (Int32.ofNat len)), .val (.int 0), .unset] [])) := c1.trans (by
    refine iconstV X0.here hexec rfl 0 (hb hbytes d0) (by decide) ?_
    refine XS.istore X0.here hexec rfl (hb hbytes d1) rfl rfl ?_
    exact Steps.refl _)
  have loop : ∀ (r i : Nat), i + r = len → ∀ (z : Slot), (z = .unset ∨ ∃ w, z = .val w ∧ w.category = 1) → ∀ (Tl : State) (Bk : Cell), Stand p l e { frames := 0, locals := 0, cells := 0, slots := 0 } s m #[.ref b, .int (Int32.ofNat o), .ref d, .int (Int32.ofNat q), .int (Int32.ofNat len)] below meth c Tl ([] ++ copyLocs d q i) 0 0 → Put d Bk s₁ Tl → Laid B Bk q (q + i) (fun j => Value.int (lo8 (cv A (o + (j - q))))) →
      Steps p.tables e below (s₁.setTop (entryFrame m #[.ref b, .int (Int32.ofNat o), .ref d, .int (Int32.ofNat q), .int (Int32.ofNat len)] 7)) (Tl.setTop (mkF m 3 #[.val (.ref b), .val (.int (Int32.ofNat (o + i))), .val (.ref d), .val (.int (Int32.ofNat (q + i))), .val (.int (Int32.ofNat len)), .val (.int (Int32.ofNat i)), z] [])) → ∃ (T' : State) (B' : Cell) (z' : Slot), Stand p l e { frames := 0, locals := 0, cells := 0, slots := 0 } s m #[.ref b, .int (Int32.ofNat o), .ref d, .int (Int32.ofNat q), .int (Int32.ofNat len)] below meth c T' ([] ++ copyLocs d q len) 0 0 ∧ Put d B' s₁ T' ∧ Laid B B' q (q + len) (fun j => Value.int (lo8 (cv A (o + (j - q))))) ∧
      Steps p.tables e below (s₁.setTop (entryFrame m #[.ref b, .int (Int32.ofNat o), .ref d, .int (Int32.ofNat q), .int (Int32.ofNat len)] 7)) (T'.setTop (mkF m 3 #[.val (.ref b), .val (.int (Int32.ofNat (o + len))), .val (.ref d), .val (.int (Int32.ofNat (q + len))), .val (.int (Int32.ofNat len)), .val (.int (Int32.ofNat len)), z'] [])) := by
    intro r
    induction r with
    | zero =>
      intro i hi z hz Tl Bk Xl pl fl cl
      have hil : i = len := by omega
      rw [hil] at Xl fl cl
      exact ⟨Tl, Bk, z, Xl, pl, fl, cl⟩
    | succ r ih =>
      intro i hi z hz Tl Bk Xl pl fl cl
      have all := X0.warmed.alike.symm.trans Xl.warmed.alike
      have hAl := hA0.keep all (pl.other hne hA0.1)
      have hBk := hB0.like all pl.1 fl.1 fl.2.1 fl.2.2.1
      have hlt : q + i < Bk.slots.size := by rw [fl.2.2.1]; omega
      have c3 : Steps p.tables e below (s₁.setTop (entryFrame m #[.ref b, .int (Int32.ofNat o), .ref d, .int (Int32.ofNat q), .int (Int32.ofNat len)] 7)) (Tl.setTop (mkF m 12 #[.val (.ref b), .val (.int (Int32.ofNat (o + i))), .val (.ref d), .val (.int (Int32.ofNat (q + i))), .val (.int (Int32.ofNat len)), .val (.int (Int32.ofNat i)), z] [.int (Int32.ofNat (o + i)), .ref b])) := cl.trans (by
        refine XS.iload Xl.here hexec rfl (hb hbytes d3) rfl ?_
        refine XS.iload Xl.here hexec rfl (hb hbytes d5) rfl ?_
        refine XS.icmpNo Xl.here hexec rfl (hb hbytes d7) rfl (ii_ge_f (lt32 (by omega) (by omega))) ?_
        refine XS.aloadN Xl.here hexec rfl (hb hbytes d10) rfl rfl ?_
        refine XS.iloadN Xl.here hexec rfl (hb hbytes d11) rfl ?_
        exact Steps.refl _)
      have c4 : Steps p.tables e below (s₁.setTop (entryFrame m #[.ref b, .int (Int32.ofNat o), .ref d, .int (Int32.ofNat q), .int (Int32.ofNat len)] 7)) (Tl.setTop (mkF m 13 #[.val (.ref b), .val (.int (Int32.ofNat (o + i))), .val (.ref d), .val (.int (Int32.ofNat (q + i))), .val (.int (Int32.ofNat len)), .val (.int (Int32.ofNat i)), z] [.int (cv A (o + i))])) := c3.trans (by
        refine Xl.aget hexec hAl rfl (hA.get (i := o + i) (by omega)) rfl rfl (hb hbytes d12) ?_
        exact Steps.refl _)
      have c5 : Steps p.tables e below (s₁.setTop (entryFrame m #[.ref b, .int (Int32.ofNat o), .ref d, .int (Int32.ofNat q), .int (Int32.ofNat len)] 7)) (Tl.setTop (mkF m 15 #[.val (.ref b), .val (.int (Int32.ofNat (o + i))), .val (.ref d), .val (.int (Int32.ofNat (q + i))), .val (.int (Int32.ofNat len)), .val (.int (Int32.ofNat i)), .val (.int (cv A (o + i)))] [])) := c4.trans (by
        refine XS.istoreS Xl.here hexec rfl (hb hbytes d13) rfl rfl hz ?_
        exact Steps.refl _)
      have c6 : Steps p.tables e below (s₁.setTop (entryFrame m #[.ref b, .int (Int32.ofNat o), .ref d, .int (Int32.ofNat q), .int (Int32.ofNat len)] 7)) (Tl.setTop (mkF m 31 #[.val (.ref b), .val (.int (Int32.ofNat (o + i))), .val (.ref d), .val (.int (Int32.ofNat (q + i))), .val (.int (Int32.ofNat len)), .val (.int (Int32.ofNat i)), .val (.int (cv A (o + i)))] [.int (lo8 (cv A (o + i))), .int (Int32.ofNat (q + i)), .ref d])) := c5.trans (by
        refine XS.iload Xl.here hexec rfl (hb hbytes d15) rfl ?_
        refine sipushV Xl.here hexec rfl 255 (hb hbytes d17) (by decide) ?_
        refine XS.icmpYes Xl.here hexec rfl (pc0 := 20) rfl (hb hbytes d20) rfl (ii_le_t (hp i (by omega))) (by decide) rfl ?_
        refine XS.aloadN Xl.here hexec rfl (hb hbytes d26) rfl rfl ?_
        refine XS.iloadN Xl.here hexec rfl (hb hbytes d27) rfl ?_
        refine XS.iload Xl.here hexec rfl (hb hbytes d28) rfl ?_
        refine i2b Xl.here hexec rfl (hb hbytes d30) rfl ?_
        exact Steps.refl _)
      obtain ⟨T7, X7, p7, st7⟩ := Xl.aput hexec hBk rfl hlt rfl (fits_lo8 (cv A (o + i))) (g := (mkF m 31 #[.val (.ref b), .val (.int (Int32.ofNat (o + i))), .val (.ref d), .val (.int (Int32.ofNat (q + i))), .val (.int (Int32.ofNat len)), .val (.int (Int32.ofNat i)), .val (.int (cv A (o + i)))] [.int (lo8 (cv A (o + i))), .int (Int32.ofNat (q + i)), .ref d])) rfl (rest := []) rfl (hb hbytes d31)
      have c8 : Steps p.tables e below (s₁.setTop (entryFrame m #[.ref b, .int (Int32.ofNat o), .ref d, .int (Int32.ofNat q), .int (Int32.ofNat len)] 7)) (T7.setTop (mkF m 32 #[.val (.ref b), .val (.int (Int32.ofNat (o + i))), .val (.ref d), .val (.int (Int32.ofNat (q + i))), .val (.int (Int32.ofNat len)), .val (.int (Int32.ofNat i)), .val (.int (cv A (o + i)))] [])) := c6.trans (st7 _ (Steps.refl _))
      have c9 : Steps p.tables e below (s₁.setTop (entryFrame m #[.ref b, .int (Int32.ofNat o), .ref d, .int (Int32.ofNat q), .int (Int32.ofNat len)] 7)) (T7.setTop (mkF m 3 #[.val (.ref b), .val (.int (Int32.ofNat (o + i) + 1)), .val (.ref d), .val (.int (Int32.ofNat (q + i) + 1)), .val (.int (Int32.ofNat len)), .val (.int (Int32.ofNat i + 1)), .val (.int (cv A (o + i)))] [])) := c8.trans (by
        refine iincV X7.here hexec rfl 1 (hb hbytes d32) (by decide) rfl rfl ?_
        refine iincV X7.here hexec rfl 1 (hb hbytes d35) (by decide) rfl rfl ?_
        refine iincV X7.here hexec rfl 1 (hb hbytes d38) (by decide) rfl rfl ?_
        refine XS.goto X7.here hexec rfl (pc0 := 41) rfl (hb hbytes d41) (by decide) rfl ?_
        exact Steps.refl _)
      have c10 : Steps p.tables e below (s₁.setTop (entryFrame m #[.ref b, .int (Int32.ofNat o), .ref d, .int (Int32.ofNat q), .int (Int32.ofNat len)] 7)) (T7.setTop (mkF m 3 #[.val (.ref b), .val (.int (Int32.ofNat (o + (i + 1)))), .val (.ref d), .val (.int (Int32.ofNat (q + (i + 1)))), .val (.int (Int32.ofNat len)), .val (.int (Int32.ofNat (i + 1))), .val (.int (cv A (o + i)))] [])) := by
        have := c9
        rw [succ32, succ32, succ32] at this
        exact this
      exact ih (i + 1) (by omega) _ (Or.inr ⟨_, rfl, rfl⟩) T7 _ (by rw [copyLocs_step, ← List.append_assoc]; exact X7) (pl.trans p7) (fl.step (by omega) hlt (by simp)) c10
  obtain ⟨T9, B9, z9, X9, p9, f9, g9⟩ := loop len 0 (by omega) .unset (Or.inl rfl) s₁ B (by simpa [copyLocs] using X0) ⟨hB0.1, fun _ _ => rfl, rfl⟩ (Laid.zero _ _ _) c2
  have c11 : Steps p.tables e below (s₁.setTop (entryFrame m #[.ref b, .int (Int32.ofNat o), .ref d, .int (Int32.ofNat q), .int (Int32.ofNat len)] 7)) (T9.setTop (mkF m 46 #[.val (.ref b), .val (.int (Int32.ofNat (o + len))), .val (.ref d), .val (.int (Int32.ofNat (q + len))), .val (.int (Int32.ofNat len)), .val (.int (Int32.ofNat len)), z9] [.int (Int32.ofNat len)])) := g9.trans (by
    refine XS.iload X9.here hexec rfl (hb hbytes d3) rfl ?_
    refine XS.iload X9.here hexec rfl (hb hbytes d5) rfl ?_
    refine XS.icmpYes X9.here hexec rfl (pc0 := 7) rfl (hb hbytes d7) rfl (ii_ge_t (nlt32 (by omega) (Nat.le_refl _))) (by decide) rfl ?_
    refine XS.iload X9.here hexec rfl (hb hbytes d44) rfl ?_
    exact Steps.refl _)
  exact ⟨T9, some (.int (Int32.ofNat len)), _, _, _, X9, by simp, rfl, rfl, (fun h => by cases h), ⟨rfl, B9, p9.from hh0, f9⟩, fun fs hl => c11.trans (X9.ireturnOut hexec hret rfl (Or.inl rfl) (hb hbytes d46) hl)⟩
end Cmp5
namespace Cmp3
def yN : MethodName := ⟨"java/lang/StringUTF16", "compress", "([CII)[B"⟩
abbrev yB : ByteArray := jdk_52_method_16_code
theorem d0 : decode yB 0 = .ok (.iload_n 2, 1) := by decide +kernel
theorem d1 : decode yB 1 = .ok (.newarray .byte, 2) := by decide +kernel
theorem d3 : decode yB 3 = .ok (.astore_n 3, 1) := by decide +kernel
theorem d4 : decode yB 4 = .ok (.aload_n 0, 1) := by decide +kernel
theorem d5 : decode yB 5 = .ok (.iload_n 1, 1) := by decide +kernel
theorem d6 : decode yB 6 = .ok (.aload_n 3, 1) := by decide +kernel
theorem d7 : decode yB 7 = .ok (.iconst 0, 1) := by decide +kernel
theorem d8 : decode yB 8 = .ok (.iload_n 2, 1) := by decide +kernel
theorem d9 : decode yB 9 = .ok (.invokestatic 115, 3) := by decide +kernel
theorem d12 : decode yB 12 = .ok (.istore 4, 2) := by decide +kernel
theorem d14 : decode yB 14 = .ok (.iload 4, 2) := by decide +kernel
theorem d16 : decode yB 16 = .ok (.iload_n 2, 1) := by decide +kernel
theorem d17 : decode yB 17 = .ok (.if_icmp (.eq) 40, 3) := by decide +kernel
theorem d57 : decode yB 57 = .ok (.aload_n 3, 1) := by decide +kernel
theorem d58 : decode yB 58 = .ok (.areturn, 1) := by decide +kernel
def site : List Cond := [.arrayClass .byte, Cmp5.tab] ++ staticW U16 115 Cmp5.yN
def tab : Cond := tabOf yN yB 6 (some (.array .byte)) site
def P (b : Addr) (A : Cell) (o len : Nat) (args : Array Value) (s : State) : Prop := args = #[.ref b, .int (Int32.ofNat o), .int (Int32.ofNat len)] ∧ Ch b A s ∧ o + len ≤ A.slots.size ∧ len ≤ 536870912 ∧ ∀ i, i < len → ¬ 255 < cv A (o + i)
def E (b : Addr) (A : Cell) (o len : Nat) (r : Option Value) (s u : State) : Prop := NewArr .byte "[B" len (fun j => .int (lo8 (cv A (o + j)))) r s u ∧ u.heap.size = s.heap.size + 1
/-- no char of the range above 255: a new byte[] of their low bytes -/
theorem law (l : Launch) (b : Addr) (A : Cell) (o len : Nat) : Law l yN 3 3 1 18 yB 6 (some (.array .byte)) site (P b A o len) (E b A o len) [] 1 len := by
  refine Law.of_walk (plainFor_of_name (by decide +kernel)) (by decide +kernel) (by decide +kernel) (by decide) (fun _ _ h => by rw [h.1]; rfl) (fun _ U U' hal hh h => ⟨h.1, h.2.1.mv hal hh, h.2.2⟩) (fun r U U' V V' h1 hal h2 h => ⟨NewArr.mv r U U' V V' h1 hal h2 h.1, by rw [h1, h2]; exact h.2⟩) ?_
  intro p e s m args below meth c s₁ X0 hexec hbytes hml hret hlk hnm hown hh0 W hP
  obtain ⟨rfl, hA, l1, l2, hp⟩ := hP
  have a31 := hA.1.2.2.2
  have c1 : Steps p.tables e below (s₁.setTop (entryFrame m #[.ref b, .int (Int32.ofNat o), .int (Int32.ofNat len)] 6)) (s₁.setTop (mkF m 0 #[.val (.ref b), .val (.int (Int32.ofNat o)), .val (.int (Int32.ofNat len)), .unset, .unset, .unset] [])) := entry rfl
  have c2 : Steps p.tables e below (s₁.setTop (entryFrame m #[.ref b, .int (Int32.ofNat o), .int (Int32.ofNat len)] 6)) (s₁.setTop (mkF m 1 #[.val (.ref b), .val (.int (Int32.ofNat o)), .val (.int (Int32.ofNat len)), .unset, .unset, .unset] [.int (Int32.ofNat len)])) := c1.trans (by
    refine XS.iloadN X0.here hexec rfl (hb hbytes d0) rfl ?_
    exact Steps.refl _)
  obtain ⟨T3, B3, X3, ba3, bs3, bv3, bh3, bf3, st3⟩ := X0.anew hexec (atype := .byte) (wk W (.arrayClass .byte)) rfl (by show len * 1 ≤ _; omega) (by omega) (g := (mkF m 1 #[.val (.ref b), .val (.int (Int32.ofNat o)), .val (.int (Int32.ofNat len)), .unset, .unset, .unset] [.int (Int32.ofNat len)])) rfl (hb hbytes d1) (rest := []) rfl (Nat.le_refl _) (by show 0 + len ≤ len; omega)
  rw [hh0] at ba3 st3
  have kp3 : XT.Kept s T3 := (XT.Kept.of_eq hh0).push bh3
  have hA3 := hA.keep X3.warmed.alike (kp3 _ _ hA.1.1)
  have hne : b ≠ s.heap.size := hA.1.ne
  have c4 : Steps p.tables e below (s₁.setTop (entryFrame m #[.ref b, .int (Int32.ofNat o), .int (Int32.ofNat len)] 6)) (T3.setTop (mkF m 3 #[.val (.ref b), .val (.int (Int32.ofNat o)), .val (.int (Int32.ofNat len)), .unset, .unset, .unset] [.ref s.heap.size])) := c2.trans (st3 _ (Steps.refl _))
  have c5 : Steps p.tables e below (s₁.setTop (entryFrame m #[.ref b, .int (Int32.ofNat o), .int (Int32.ofNat len)] 6)) (T3.setTop (mkF m 9 #[.val (.ref b), .val (.int (Int32.ofNat o)), .val (.int (Int32.ofNat len)), .val (.ref s.heap.size), .unset, .unset] [.int (Int32.ofNat len), .int 0, .ref s.heap.size, .int (Int32.ofNat o), .ref b])) := c4.trans (by
    refine XS.astoreN X3.here hexec rfl (hb hbytes d3) rfl rfl rfl ?_
    refine XS.aloadN X3.here hexec rfl (hb hbytes d4) rfl rfl ?_
    refine XS.iloadN X3.here hexec rfl (hb hbytes d5) rfl ?_
    refine XS.aloadN X3.here hexec rfl (hb hbytes d6) rfl rfl ?_
    refine iconstV X3.here hexec rfl 0 (hb hbytes d7) (by decide) ?_
    refine XS.iloadN X3.here hexec rfl (hb hbytes d8) rfl ?_
    exact Steps.refl _)
  obtain ⟨v6, T6, X6, E6, g6⟩ := X3.callS hexec (Cmp5.law l b A s.heap.size B3 o 0 len) hown (wks W (staticW U16 115 Cmp5.yN)) (wk W Cmp5.tab) (W := 0) (Nat.le_of_ble_eq_true rfl) (Nat.le_of_ble_eq_true rfl) (Nat.le_refl _) (by show 0 + len + 0 ≤ len; omega) (g := (mkF m 9 #[.val (.ref b), .val (.int (Int32.ofNat o)), .val (.int (Int32.ofNat len)), .val (.ref s.heap.size), .unset, .unset] [.int (Int32.ofNat len), .int (Int32.ofNat 0), .ref s.heap.size, .int (Int32.ofNat o), .ref b])) rfl (by rw [hml]; rfl) c5 (argsL := [.ref b, .int (Int32.ofNat o), .ref s.heap.size, .int (Int32.ofNat 0), .int (Int32.ofNat len)]) (rest := []) rfl rfl (by show 2 * 0 + 0 ≤ _; decide) (hb hbytes d9) (⟨rfl, hA3, ba3, hne, l1, by rw [bs3]; simp, hp⟩)
  obtain ⟨rfl, B6, p6, f6⟩ := E6
  have c7 : Steps p.tables e below (s₁.setTop (entryFrame m #[.ref b, .int (Int32.ofNat o), .int (Int32.ofNat len)] 6)) (T6.setTop (mkF m 12 #[.val (.ref b), .val (.int (Int32.ofNat o)), .val (.int (Int32.ofNat len)), .val (.ref s.heap.size), .unset, .unset] [.int (Int32.ofNat len)])) := g6
  have c8 : Steps p.tables e below (s₁.setTop (entryFrame m #[.ref b, .int (Int32.ofNat o), .int (Int32.ofNat len)] 6)) (T6.setTop (mkF m 58 #[.val (.ref b), .val (.int (Int32.ofNat o)), .val (.int (Int32.ofNat len)), .val (.ref s.heap.size), .val (.int (Int32.ofNat len)), .unset] [.ref s.heap.size])) := c7.trans (by
    refine XS.istore X6.here hexec rfl (hb hbytes d12) rfl rfl ?_
    refine XS.iload X6.here hexec rfl (hb hbytes d14) rfl ?_
    refine XS.iloadN X6.here hexec rfl (hb hbytes d16) rfl ?_
    refine XS.icmpYes X6.here hexec rfl (pc0 := 17) rfl (hb hbytes d17) rfl (ii_eq_t rfl) (by decide) rfl ?_
    refine XS.aloadN X6.here hexec rfl (hb hbytes d57) rfl rfl ?_
    exact Steps.refl _)
  have X8 := X6.wide (L' := []) (cells' := 1) (slots' := len) (fun x hx hlt => by
    simp only [List.nil_append, copyLocs, List.mem_map, List.mem_range] at hx
    obtain ⟨i, -, rfl⟩ := hx
    exact absurd hlt (Nat.lt_irrefl _)) (Nat.le_refl _) (by omega)
  exact ⟨T6, some (.ref s.heap.size), _, _, _, X8, rfl, rfl, rfl, (fun h => by cases h), ⟨⟨rfl, B6, ba3.like (X3.warmed.alike.symm.trans X6.warmed.alike) p6.1 f6.1 f6.2.1 f6.2.2.1, f6.2.1.trans bv3, by rw [X6.warmed.alike.findClass, f6.1]; exact bf3, by rw [f6.2.2.1, bs3]; simp, fun j hj => by rw [f6.2.2.2 j, if_pos (by omega)]; rfl, kp3.put p6 (Nat.le_refl _)⟩, by rw [p6.2.2, bh3, hh0]; simp⟩, fun fs hl => c8.trans (X8.areturnOut hexec rfl hret rfl (hb hbytes d58) hl)⟩
end Cmp3
namespace CodL
def yN : MethodName := ⟨"java/lang/StringUTF16", "coderFromArrayLen", "([BI)B"⟩
abbrev yB : ByteArray := jdk_52_method_15_code
theorem d0 : decode yB 0 = .ok (.iload_n 1, 1) := by decide +kernel
theorem d1 : decode yB 1 = .ok (.aload_n 0, 1) := by decide +kernel
theorem d2 : decode yB 2 = .ok (.arraylength, 1) := by decide +kernel
theorem d3 : decode yB 3 = .ok (.isub, 1) := by decide +kernel
theorem d4 : decode yB 4 = .ok (.bipush 31, 2) := by decide +kernel
theorem d6 : decode yB 6 = .ok (.iushr, 1) := by decide +kernel
theorem d7 : decode yB 7 = .ok (.i2b, 1) := by decide +kernel
theorem d8 : decode yB 8 = .ok (.ireturn, 1) := by decide +kernel
def site : List Cond := []
def tab : Cond := tabOf yN yB 2 (some .byte) site
def P (d : Addr) (B : Cell) (args : Array Value) (s : State) : Prop := args = #[.ref d, .int (Int32.ofNat B.slots.size)] ∧ Arr .byte d B s
def E (r : Option Value) (s u : State) : Prop := XT.PureE (some (.int 0)) r s u
/-- an array as long as the number of chars: LATIN1 -/
theorem law (l : Launch) (d : Addr) (B : Cell) : Law l yN 2 2 0 0 yB 2 (some .byte) site (P d B) E [] 0 0 := by
  refine Law.of_walk (plainFor_of_name (by decide +kernel)) (by decide +kernel) (by decide +kernel) (by decide) (fun _ _ h => by rw [h.1]; rfl) (fun _ U U' hal hh h => ⟨h.1, h.2.mv hal hh⟩) (fun r U U' V V' h1 hal h2 h => XT.PureE.mv r U U' V V' h1 hal h2 h) ?_
  intro p e s m args below meth c s₁ X0 hexec hbytes hml hret hlk hnm hown hh0 W hP
  obtain ⟨rfl, hB⟩ := hP
  have hB0 := hB.mv X0.warmed.alike hh0
  have c1 : Steps p.tables e below (s₁.setTop (entryFrame m #[.ref d, .int (Int32.ofNat B.slots.size)] 2)) (s₁.setTop (mkF m 0 #[.val (.ref d), .val (.int (Int32.ofNat B.slots.size))] [])) := entry rfl
  have c2 : Steps p.tables e below (s₁.setTop (entryFrame m #[.ref d, .int (Int32.ofNat B.slots.size)] 2)) (s₁.setTop (mkF m 2 #[.val (.ref d), .val (.int (Int32.ofNat B.slots.size))] [.ref d, .int (Int32.ofNat B.slots.size)])) := c1.trans (by
    refine XS.iloadN X0.here hexec rfl (hb hbytes d0) rfl ?_
    refine XS.aloadN X0.here hexec rfl (hb hbytes d1) rfl rfl ?_
    exact Steps.refl _)
  have c3 : Steps p.tables e below (s₁.setTop (entryFrame m #[.ref d, .int (Int32.ofNat B.slots.size)] 2)) (s₁.setTop (mkF m 8 #[.val (.ref d), .val (.int (Int32.ofNat B.slots.size))] [.int (lo8 (ushr (Int32.ofNat B.slots.size - Int32.ofNat B.slots.size) 31))])) := c2.trans (by
    refine X0.alen hexec hB0 rfl rfl (hb hbytes d2) ?_
    refine XS.isub X0.here hexec rfl (hb hbytes d3) rfl ?_
    refine bipushV X0.here hexec rfl 31 (hb hbytes d4) (by decide) ?_
    refine iushr X0.here hexec rfl (hb hbytes d6) rfl ?_
    refine i2b X0.here hexec rfl (hb hbytes d7) rfl ?_
    exact Steps.refl _)
  have e0 : lo8 (ushr (Int32.ofNat B.slots.size - Int32.ofNat B.slots.size) 31) = 0 := by rw [Int32.sub_self]; decide
  rw [e0] at c3
  exact ⟨s₁, some (.int 0), _, _, _, X0, rfl, rfl, rfl, (fun h => by cases h), ⟨rfl, hh0⟩, fun fs hl => c3.trans (X0.ireturnOut hexec hret rfl (Or.inr (Or.inr (Or.inl rfl))) (hb hbytes d8) hl)⟩
end CodL
/-- the String at a is Latin-1 over a new byte[] (the heap's one new cell): the low bytes of the len chars of A from o on; every cell but a is kept -/
def Got (a : Addr) (D : Cell) (fV fC : Field) (A : Cell) (o len : Nat) (r : Option Value) (s u : State) : Prop := r = none ∧ ∃ D' V : Cell, Blank "java/lang/String" a D' u ∧ Same D D' [fV.slot, fC.slot] ∧ D'.slots[fV.slot]? = some (.ref s.heap.size) ∧ D'.slots[fC.slot]? = some (.int 0) ∧ Arr .byte s.heap.size V u ∧ V.vm = .none ∧ u.vm.findClass "[B" = some V.cls ∧ V.slots.size = len ∧ (∀ j, j < len → V.slots[j]? = some (.int (lo8 (cv A (o + j))))) ∧ (∀ (y : Addr) (c : Cell), y ≠ a → s.heap[y]? = some c → u.heap[y]? = some c) ∧ u.heap.size = s.heap.size + 1
theorem Got.mv {a : Addr} {D A : Cell} {fV fC : Field} {o len : Nat} : ∀ r (U U' V V' : State), U'.heap = U.heap → V.vm.Alike V'.vm → V'.heap = V.heap → Got a D fV fC A o len r U V → Got a D fV fC A o len r U' V' :=
  fun r U U' V V' h1 hal h2 ⟨e0, D', X, a1, a2, a3, a4, a5, a6, a7, a8, a9, a10, a11⟩ => ⟨e0, D', X, a1.mv hal h2, a2, by rw [h1]; exact a3, a4, by rw [h1]; exact a5.mv hal h2, a6, by rw [hal.findClass]; exact a7, a8, a9, by rw [h1, h2]; exact a10, by rw [h1, h2]; exact a11⟩
namespace New4
def yN : MethodName := ⟨"java/lang/String", "<init>", "([CIILjava/lang/Void;)V"⟩
abbrev yB : ByteArray := jdk_42_method_149_code
theorem d0 : decode yB 0 = .ok (.aload_n 0, 1) := by decide +kernel
theorem d1 : decode yB 1 = .ok (.invokespecial 1, 3) := by decide +kernel
theorem d4 : decode yB 4 = .ok (.iload_n 3, 1) := by decide +kernel
theorem d5 : decode yB 5 = .ok (.ifCond (.ne) 22, 3) := by decide +kernel
theorem d27 : decode yB 27 = .ok (.getstatic 38, 3) := by decide +kernel
theorem d30 : decode yB 30 = .ok (.ifCond (.eq) 28, 3) := by decide +kernel
theorem d33 : decode yB 33 = .ok (.aload_n 1, 1) := by decide +kernel
theorem d34 : decode yB 34 = .ok (.iload_n 2, 1) := by decide +kernel
theorem d35 : decode yB 35 = .ok (.iload_n 3, 1) := by decide +kernel
theorem d36 : decode yB 36 = .ok (.invokestatic 177, 3) := by decide +kernel
theorem d39 : decode yB 39 = .ok (.astore 5, 2) := by decide +kernel
theorem d41 : decode yB 41 = .ok (.aload_n 0, 1) := by decide +kernel
theorem d42 : decode yB 42 = .ok (.aload 5, 2) := by decide +kernel
theorem d44 : decode yB 44 = .ok (.iload_n 3, 1) := by decide +kernel
theorem d45 : decode yB 45 = .ok (.invokestatic 47, 3) := by decide +kernel
theorem d48 : decode yB 48 = .ok (.putfield 15, 3) := by decide +kernel
theorem d51 : decode yB 51 = .ok (.aload_n 0, 1) := by decide +kernel
theorem d52 : decode yB 52 = .ok (.aload 5, 2) := by decide +kernel
theorem d54 : decode yB 54 = .ok (.putfield 9, 3) := by decide +kernel
theorem d57 : decode yB 57 = .ok (.return_, 1) := by decide +kernel
def site : List Cond := [.fieldLink "java/lang/String" 38 "java/lang/String" "COMPACT_STRINGS" "Z", Cmp3.tab, CodL.tab, .laysFinal "java/lang/String" "java/lang/String" "value" "[B", .fieldLink "java/lang/String" 9 "java/lang/String" "value" "[B", .laysFinal "java/lang/String" "java/lang/String" "coder" "B", .fieldLink "java/lang/String" 15 "java/lang/String" "coder" "B"] ++ objW "java/lang/String" 1 ++ staticW "java/lang/String" 177 Cmp3.yN ++ staticW "java/lang/String" 47 CodL.yN
def tab : Cond := tabOf yN yB 6 none site
def P (a : Addr) (D : Cell) (fV fC : Field) (b : Addr) (A : Cell) (z : Int32) (o len : Nat) (args : Array Value) (s : State) : Prop := args = #[.ref a, .ref b, .int (Int32.ofNat o), .int (Int32.ofNat len), .null] ∧ Blank "java/lang/String" a D s ∧ Found "java/lang/String" "value" "[B" fV s ∧ Found "java/lang/String" "coder" "B" fC s ∧ Ch b A s ∧ StaticIs s "java/lang/String" "COMPACT_STRINGS" "Z" (.int z) ∧ ¬ z = 0 ∧ 0 < len ∧ o + len ≤ A.slots.size ∧ len ≤ 536870912 ∧ ∀ i, i < len → ¬ 255 < cv A (o + i)
def E (a : Addr) (D : Cell) (fV fC : Field) (A : Cell) (o len : Nat) (r : Option Value) (s u : State) : Prop := Got a D fV fC A o len r s u
/-- len > 0, no char of the range above 255: a Latin-1 String of their low bytes -/
theorem law (l : Launch) (a : Addr) (D : Cell) (fV fC : Field) (b : Addr) (A : Cell) (z : Int32) (o len : Nat) : Law l yN 5 4 2 35 yB 6 none site (P a D fV fC b A z o len) (E a D fV fC A o len) [⟨a, fC.slot⟩, ⟨a, fV.slot⟩] 1 len := by
  refine Law.of_walk (plainFor_of_name (by decide +kernel)) (by decide +kernel) (by decide +kernel) (by decide) (fun _ _ h => by rw [h.1]; rfl) (fun _ U U' hal hh h => ⟨h.1, h.2.1.mv hal hh, h.2.2.1.al hal, h.2.2.2.1.al hal, h.2.2.2.2.1.mv hal hh, h.2.2.2.2.2.1.there hal hh, h.2.2.2.2.2.2⟩) (fun r U U' V V' h1 hal h2 h => Got.mv r U U' V V' h1 hal h2 h) ?_
  intro p e s m args below meth c s₁ X0 hexec hbytes hml hret hlk hnm hown hh0 W hP
  obtain ⟨rfl, hB, f1, f2, hA, s1, hz, l0, l1, l2, hp⟩ := hP
  have a31 := hA.1.2.2.2
  have c1 : Steps p.tables e below (s₁.setTop (entryFrame m #[.ref a, .ref b, .int (Int32.ofNat o), .int (Int32.ofNat len), .null] 6)) (s₁.setTop (mkF m 0 #[.val (.ref a), .val (.ref b), .val (.int (Int32.ofNat o)), .val (.int (Int32.ofNat len)), .val .null, .unset] [])) := entry rfl
  have c2 : Steps p.tables e below (s₁.setTop (entryFrame m #[.ref a, .ref b, .int (Int32.ofNat o), .int (Int32.ofNat len), .null] 6)) (s₁.setTop (mkF m 1 #[.val (.ref a), .val (.ref b), .val (.int (Int32.ofNat o)), .val (.int (Int32.ofNat len)), .val .null, .unset] [.ref a])) := c1.trans (by
    refine XS.aloadN X0.here hexec rfl (hb hbytes d0) rfl rfl ?_
    exact Steps.refl _)
  obtain ⟨T3, X3, q3, st3⟩ := X0.oinit hexec hown (wks W (objW "java/lang/String" 1)) (g := (mkF m 1 #[.val (.ref a), .val (.ref b), .val (.int (Int32.ofNat o)), .val (.int (Int32.ofNat len)), .val .null, .unset] [.ref a])) rfl (by rw [hml]; rfl) (rest := []) rfl (hb hbytes d1) (W := 0) (by show 2 * 0 + 0 ≤ _; decide) (Nat.le_of_ble_eq_true rfl) (Nat.le_of_ble_eq_true rfl)
  have hh3 := q3.trans hh0
  have c4 : Steps p.tables e below (s₁.setTop (entryFrame m #[.ref a, .ref b, .int (Int32.ofNat o), .int (Int32.ofNat len), .null] 6)) (T3.setTop (mkF m 27 #[.val (.ref a), .val (.ref b), .val (.int (Int32.ofNat o)), .val (.int (Int32.ofNat len)), .val .null, .unset] [])) := (c2.trans (st3 _ (Steps.refl _))).trans (by
    refine XS.iloadN X3.here hexec rfl (hb hbytes d4) rfl ?_
    refine XS.ifYes X3.here hexec rfl (pc0 := 5) rfl (hb hbytes d5) rfl (i0_ne_t (nz32 (by omega) l0)) (by decide) rfl ?_
    exact Steps.refl _)
  obtain ⟨T5, X5, q5, st5⟩ := X3.sget hexec hown (wk W (.fieldLink "java/lang/String" 38 "java/lang/String" "COMPACT_STRINGS" "Z")) s1 (fun _ _ h => by rw [hh3]; exact h) (g := (mkF m 27 #[.val (.ref a), .val (.ref b), .val (.int (Int32.ofNat o)), .val (.int (Int32.ofNat len)), .val .null, .unset] [])) rfl (hb hbytes d27)
  have hh5 := q5.trans hh3
  have c6 : Steps p.tables e below (s₁.setTop (entryFrame m #[.ref a, .ref b, .int (Int32.ofNat o), .int (Int32.ofNat len), .null] 6)) (T5.setTop (mkF m 30 #[.val (.ref a), .val (.ref b), .val (.int (Int32.ofNat o)), .val (.int (Int32.ofNat len)), .val .null, .unset] [.int z])) := c4.trans (st5 _ (Steps.refl _))
  have c7 : Steps p.tables e below (s₁.setTop (entryFrame m #[.ref a, .ref b, .int (Int32.ofNat o), .int (Int32.ofNat len), .null] 6)) (T5.setTop (mkF m 36 #[.val (.ref a), .val (.ref b), .val (.int (Int32.ofNat o)), .val (.int (Int32.ofNat len)), .val .null, .unset] [.int (Int32.ofNat len), .int (Int32.ofNat o), .ref b])) := c6.trans (by
    refine XS.ifNo X5.here hexec rfl (hb hbytes d30) rfl (i0_eq_f hz) ?_
    refine XS.aloadN X5.here hexec rfl (hb hbytes d33) rfl rfl ?_
    refine XS.iloadN X5.here hexec rfl (hb hbytes d34) rfl ?_
    refine XS.iloadN X5.here hexec rfl (hb hbytes d35) rfl ?_
    exact Steps.refl _)
  obtain ⟨v8, T8, X8, E8, g8⟩ := X5.callS hexec (Cmp3.law l b A o len) hown (wks W (staticW "java/lang/String" 177 Cmp3.yN)) (wk W Cmp3.tab) (W := 0) (Nat.le_of_ble_eq_true rfl) (Nat.le_of_ble_eq_true rfl) (Nat.le_refl _) (by show 0 + len ≤ len; omega) (g := (mkF m 36 #[.val (.ref a), .val (.ref b), .val (.int (Int32.ofNat o)), .val (.int (Int32.ofNat len)), .val .null, .unset] [.int (Int32.ofNat len), .int (Int32.ofNat o), .ref b])) rfl (by rw [hml]; rfl) c7 (argsL := [.ref b, .int (Int32.ofNat o), .int (Int32.ofNat len)]) (rest := []) rfl rfl (by show 2 * 0 + 0 ≤ _; decide) (hb hbytes d36) (⟨rfl, hA.mv X5.warmed.alike hh5, l1, l2, hp⟩)
  obtain ⟨e8, z8⟩ := E8
  obtain ⟨rfl, N, n1, n2, n3, n4, n5, n6⟩ := NewArr.mv _ T5 s _ _ hh5.symm (Vm.Alike.refl _) rfl e8
  rw [hh5] at z8
  have hB1 := hB.keep X8.warmed.alike (n6 _ _ hB.1)
  have hne : s.heap.size ≠ a := (Nat.ne_of_lt (Array.getElem?_eq_some_iff.mp hB.1).1).symm
  have c9 : Steps p.tables e below (s₁.setTop (entryFrame m #[.ref a, .ref b, .int (Int32.ofNat o), .int (Int32.ofNat len), .null] 6)) (T8.setTop (mkF m 39 #[.val (.ref a), .val (.ref b), .val (.int (Int32.ofNat o)), .val (.int (Int32.ofNat len)), .val .null, .unset] [.ref s.heap.size])) := g8
  have c10 : Steps p.tables e below (s₁.setTop (entryFrame m #[.ref a, .ref b, .int (Int32.ofNat o), .int (Int32.ofNat len), .null] 6)) (T8.setTop (mkF m 45 #[.val (.ref a), .val (.ref b), .val (.int (Int32.ofNat o)), .val (.int (Int32.ofNat len)), .val .null, .val (.ref s.heap.size)] [.int (Int32.ofNat N.slots.size), .ref s.heap.size, .ref a])) := by
    have hc : Steps p.tables e below (s₁.setTop (entryFrame m #[.ref a, .ref b, .int (Int32.ofNat o), .int (Int32.ofNat len), .null] 6)) (T8.setTop (mkF m 45 #[.val (.ref a), .val (.ref b), .val (.int (Int32.ofNat o)), .val (.int (Int32.ofNat len)), .val .null, .val (.ref s.heap.size)] [.int (Int32.ofNat len), .ref s.heap.size, .ref a])) := c9.trans (by
      refine XS.astore X8.here hexec rfl (hb hbytes d39) rfl rfl rfl ?_
      refine XS.aloadN X8.here hexec rfl (hb hbytes d41) rfl rfl ?_
      refine XS.aload X8.here hexec rfl (hb hbytes d42) rfl rfl ?_
      refine XS.iloadN X8.here hexec rfl (hb hbytes d44) rfl ?_
      exact Steps.refl _)
    rw [n4]; exact hc
  obtain ⟨v11, T11, X11, E11, g11⟩ := X8.callS hexec (CodL.law l s.heap.size N) hown (wks W (staticW "java/lang/String" 47 CodL.yN)) (wk W CodL.tab) (W := 1) (Nat.le_of_ble_eq_true rfl) (Nat.le_of_ble_eq_true rfl) (Nat.le_refl _) (by show 0 + len + 0 ≤ len; omega) (g := (mkF m 45 #[.val (.ref a), .val (.ref b), .val (.int (Int32.ofNat o)), .val (.int (Int32.ofNat len)), .val .null, .val (.ref s.heap.size)] [.int (Int32.ofNat N.slots.size), .ref s.heap.size, .ref a])) rfl (by rw [hml]; rfl) c10 (argsL := [.ref s.heap.size, .int (Int32.ofNat N.slots.size)]) (rest := [.ref a]) rfl rfl (by show 2 * 0 + (1 + 0) ≤ _; decide) (hb hbytes d45) (⟨rfl, n1⟩)
  obtain ⟨rfl, q11⟩ := E11
  have hB11 := hB1.mv (X8.warmed.alike.symm.trans X11.warmed.alike) q11
  have c12 : Steps p.tables e below (s₁.setTop (entryFrame m #[.ref a, .ref b, .int (Int32.ofNat o), .int (Int32.ofNat len), .null] 6)) (T11.setTop (mkF m 48 #[.val (.ref a), .val (.ref b), .val (.int (Int32.ofNat o)), .val (.int (Int32.ofNat len)), .val .null, .val (.ref s.heap.size)] [.int 0, .ref a])) := g11
  obtain ⟨T13, X13, p13, bl13, sl13, st13⟩ := X11.finit hexec hown (wk W (.fieldLink "java/lang/String" 15 "java/lang/String" "coder" "B")) (Or.inr ⟨_, (wk W (.laysFinal "java/lang/String" "java/lang/String" "coder" "B"))⟩) (Or.inl ⟨rfl, hnm⟩) f2 (Or.inl rfl) hB11 (t := .byte) (by decide +kernel) rfl (g := (mkF m 48 #[.val (.ref a), .val (.ref b), .val (.int (Int32.ofNat o)), .val (.int (Int32.ofNat len)), .val .null, .val (.ref s.heap.size)] [.int 0, .ref a])) rfl (rest := []) rfl (hb hbytes d48)
  have c14 : Steps p.tables e below (s₁.setTop (entryFrame m #[.ref a, .ref b, .int (Int32.ofNat o), .int (Int32.ofNat len), .null] 6)) (T13.setTop (mkF m 54 #[.val (.ref a), .val (.ref b), .val (.int (Int32.ofNat o)), .val (.int (Int32.ofNat len)), .val .null, .val (.ref s.heap.size)] [.ref s.heap.size, .ref a])) := (c12.trans (st13 _ (Steps.refl _))).trans (by
    refine XS.aloadN X13.here hexec rfl (hb hbytes d51) rfl rfl ?_
    refine XS.aload X13.here hexec rfl (hb hbytes d52) rfl rfl ?_
    exact Steps.refl _)
  obtain ⟨T15, X15, p15, bl15, sl15, st15⟩ := X13.finit hexec hown (wk W (.fieldLink "java/lang/String" 9 "java/lang/String" "value" "[B")) (Or.inr ⟨_, (wk W (.laysFinal "java/lang/String" "java/lang/String" "value" "[B"))⟩) (Or.inl ⟨rfl, hnm⟩) f1 (Or.inl rfl) bl13 (t := (.array .byte)) (by decide +kernel) rfl (g := (mkF m 54 #[.val (.ref a), .val (.ref b), .val (.int (Int32.ofNat o)), .val (.int (Int32.ofNat len)), .val .null, .val (.ref s.heap.size)] [.ref s.heap.size, .ref a])) rfl (rest := []) rfl (hb hbytes d54)
  have c16 : Steps p.tables e below (s₁.setTop (entryFrame m #[.ref a, .ref b, .int (Int32.ofNat o), .int (Int32.ofNat len), .null] 6)) (T15.setTop (mkF m 57 #[.val (.ref a), .val (.ref b), .val (.int (Int32.ofNat o)), .val (.int (Int32.ofNat len)), .val .null, .val (.ref s.heap.size)] [])) := c14.trans (st15 _ (Steps.refl _))
  have ap := apart (Or.inr ⟨_, (wk W (.laysFinal "java/lang/String" "java/lang/String" "value" "[B"))⟩) (Or.inr ⟨_, (wk W (.laysFinal "java/lang/String" "java/lang/String" "coder" "B"))⟩) f1 f2 (t₁ := .array .byte) (t₂ := .byte) (by decide +kernel) (by decide +kernel) (by decide)
  have al := X8.warmed.alike.symm.trans X15.warmed.alike
  have n7 : T11.heap[s.heap.size]? = some N := by rw [q11]; exact n1.1
  exact ⟨T15, none, _, _, _, X15, by simp, rfl, by omega, (fun _ => rfl), ⟨rfl, _, N, bl15, ((Same.refl D _).set _ (by simp)).set _ (by simp), sl15, (Cell.slots_setSlot_ne _ ap).trans sl13, n1.keep al (p15.other hne (p13.other hne n7)), n2, by rw [al.findClass]; exact n3, n4, n5, fun y c h1 h2 => p15.other h1 (p13.other h1 (by rw [q11]; exact n6 y c h2)), by rw [p15.2.2, p13.2.2, q11]; exact z8⟩, fun fs hl => c16.trans (X15.returnOut hexec hret (hb hbytes d57) hl)⟩
end New4
namespace New1
def yN : MethodName := ⟨"java/lang/String", "<init>", "([C)V"⟩
abbrev yB : ByteArray := jdk_42_method_3_code
theorem d0 : decode yB 0 = .ok (.aload_n 0, 1) := by decide +kernel
theorem d1 : decode yB 1 = .ok (.aload_n 1, 1) := by decide +kernel
theorem d2 : decode yB 2 = .ok (.iconst 0, 1) := by decide +kernel
theorem d3 : decode yB 3 = .ok (.aload_n 1, 1) := by decide +kernel
theorem d4 : decode yB 4 = .ok (.arraylength, 1) := by decide +kernel
theorem d5 : decode yB 5 = .ok (.aconst_null, 1) := by decide +kernel
theorem d6 : decode yB 6 = .ok (.invokespecial 27, 3) := by decide +kernel
theorem d9 : decode yB 9 = .ok (.return_, 1) := by decide +kernel
def site : List Cond := [New4.tab] ++ initW "java/lang/String" 27 New4.yN
def tab : Cond := tabOf yN yB 2 none site
def P (a : Addr) (D : Cell) (fV fC : Field) (b : Addr) (A : Cell) (z : Int32) (args : Array Value) (s : State) : Prop := args = #[.ref a, .ref b] ∧ Blank "java/lang/String" a D s ∧ Found "java/lang/String" "value" "[B" fV s ∧ Found "java/lang/String" "coder" "B" fC s ∧ Ch b A s ∧ StaticIs s "java/lang/String" "COMPACT_STRINGS" "Z" (.int z) ∧ ¬ z = 0 ∧ 0 < A.slots.size ∧ A.slots.size ≤ 536870912 ∧ ∀ i, i < A.slots.size → ¬ 255 < cv A i
def E (a : Addr) (D : Cell) (fV fC : Field) (A : Cell) (r : Option Value) (s u : State) : Prop := Got a D fV fC A 0 A.slots.size r s u
/-- new String(chars), not empty, no char above 255: a Latin-1 String of their low bytes -/
theorem law (l : Launch) (a : Addr) (D : Cell) (fV fC : Field) (b : Addr) (A : Cell) (z : Int32) : Law l yN 2 1 3 52 yB 2 none site (P a D fV fC b A z) (E a D fV fC A) [⟨a, fC.slot⟩, ⟨a, fV.slot⟩] 1 A.slots.size := by
  refine Law.of_walk (plainFor_of_name (by decide +kernel)) (by decide +kernel) (by decide +kernel) (by decide) (fun _ _ h => by rw [h.1]; rfl) (fun _ U U' hal hh h => ⟨h.1, h.2.1.mv hal hh, h.2.2.1.al hal, h.2.2.2.1.al hal, h.2.2.2.2.1.mv hal hh, h.2.2.2.2.2.1.there hal hh, h.2.2.2.2.2.2⟩) (fun r U U' V V' h1 hal h2 h => Got.mv r U U' V V' h1 hal h2 h) ?_
  intro p e s m args below meth c s₁ X0 hexec hbytes hml hret hlk hnm hown hh0 W hP
  obtain ⟨rfl, hB, f1, f2, hA, s1, hz, l0, l2, hp⟩ := hP
  have c1 : Steps p.tables e below (s₁.setTop (entryFrame m #[.ref a, .ref b] 2)) (s₁.setTop (mkF m 0 #[.val (.ref a), .val (.ref b)] [])) := entry rfl
  have c2 : Steps p.tables e below (s₁.setTop (entryFrame m #[.ref a, .ref b] 2)) (s₁.setTop (mkF m 6 #[.val (.ref a), .val (.ref b)] [.null, .int (Int32.ofNat A.slots.size), .int 0, .ref b, .ref a])) := c1.trans (by
    refine XS.aloadN X0.here hexec rfl (hb hbytes d0) rfl rfl ?_
    refine XS.aloadN X0.here hexec rfl (hb hbytes d1) rfl rfl ?_
    refine iconstV X0.here hexec rfl 0 (hb hbytes d2) (by decide) ?_
    refine XS.aloadN X0.here hexec rfl (hb hbytes d3) rfl rfl ?_
    refine X0.alen hexec (hA.1.mv X0.warmed.alike hh0) rfl rfl (hb hbytes d4) ?_
    refine XS.aconstNull X0.here hexec rfl (hb hbytes d5) ?_
    exact Steps.refl _)
  obtain ⟨v3, T3, X3, E3, g3⟩ := X0.callN hexec (New4.law l a D fV fC b A z 0 A.slots.size) rfl hown (wks W (initW "java/lang/String" 27 New4.yN)) (W New4.tab (by simp only [site, List.mem_cons, List.mem_append, true_or, or_true])) (W := 0) (Nat.le_of_ble_eq_true rfl) (Nat.le_of_ble_eq_true rfl) (Nat.le_refl _) (by show 0 + A.slots.size ≤ A.slots.size; omega) (g := (mkF m 6 #[.val (.ref a), .val (.ref b)] [.null, .int (Int32.ofNat A.slots.size), .int (Int32.ofNat 0), .ref b, .ref a])) rfl (by rw [hml]; rfl) c2 (argsL := [.ref b, .int (Int32.ofNat 0), .int (Int32.ofNat A.slots.size), .null]) (rest := []) rfl rfl (by show 2 * 0 + 0 ≤ _; decide) (hb hbytes d6) (⟨rfl, hB.mv X0.warmed.alike hh0, f1.al X0.warmed.alike, f2.al X0.warmed.alike, hA.mv X0.warmed.alike hh0, s1.there X0.warmed.alike hh0, hz, l0, by omega, l2, fun i hi => by rw [Nat.zero_add]; exact hp i hi⟩)
  have e0 := Got.mv _ s₁ s _ _ hh0.symm (Vm.Alike.refl _) rfl E3
  obtain rfl := e0.1
  have c4 : Steps p.tables e below (s₁.setTop (entryFrame m #[.ref a, .ref b] 2)) (T3.setTop (mkF m 9 #[.val (.ref a), .val (.ref b)] [])) := g3
  exact ⟨T3, none, _, _, _, X3, by simp, rfl, by omega, (fun _ => rfl), e0, fun fs hl => c4.trans (X3.returnOut hexec hret (hb hbytes d9) hl)⟩
theorem pays {l : Launch} {R : Room} {p : Program} {e : Env} {below : List Frame} {s : State} {sargs : Array Value} {len W : Nat} (a : Addr) (D : Cell) (fV fC : Field) (b : Addr) (A : Cell) (z : Int32) (htab : tab.before sargs s = true) (hfr : 4 ≤ R.frames) (hlo : W + 65 ≤ R.locals) :
    Back l R p e below s sargs yN len W (fun A₁ a₁ => A₁.cells + 1 ≤ R.cells ∧ A₁.slots + A.slots.size ≤ R.slots ∧ P a D fV fC b A z a₁ A₁.U) (fun A₁ _ v₁ B₁ => E a D fV fC A v₁ A₁.U B₁.U ∧ B₁.locs = A₁.locs ++ [⟨a, fC.slot⟩, ⟨a, fV.slot⟩] ∧ B₁.cells = A₁.cells + 1 ∧ B₁.slots = A₁.slots + A.slots.size) :=
  (law l a D fV fC b A z).pays htab hfr (by omega)
end New1
end StrChars
namespace StrChars.Road
open Jvm Sem ClassFile Op Lib Jvm.Stand Jvm.Free Jvm.Free.XT
open Jvm.Lib.Cold (StaticIs)
abbrev ST : String := "java/lang/String"
/-- every table word that New1's law asks, flat -/
abbrev words : List Jvm.Cond := [.code New1.yN New1.yB 2 none, .initialized ST, .methodLink ST 27 New4.yN, .instanceMethod New4.yN,
  .code New4.yN New4.yB 6 none, .fieldLink ST 38 ST "COMPACT_STRINGS" "Z", .laysFinal ST ST "value" "[B", .fieldLink ST 9 ST "value" "[B", .laysFinal ST ST "coder" "B", .fieldLink ST 15 ST "coder" "B",
  .methodLink ST 1 Lib.objectInit, .instanceMethod Lib.objectInit, .code Lib.objectInit ⟨#[0xb1]⟩ 1 none, .methodLink ST 177 Cmp3.yN, .static Cmp3.yN, .methodLink ST 47 CodL.yN, .static CodL.yN,
  .code Cmp3.yN Cmp3.yB 6 (some (.array .byte)), .initialized U16, .arrayClass .byte, .methodLink U16 115 Cmp5.yN, .static Cmp5.yN, .code Cmp5.yN Cmp5.yB 7 (some .int), .code CodL.yN CodL.yB 2 (some .byte)]
theorem tab_of {a : Array Value} {s : State} (h : ∀ w ∈ words, w.before a s = true) : New1.tab.before a s = true := by
  have h5 : Cmp5.tab.before a s = true := unparts (wk h (.code Cmp5.yN Cmp5.yB 7 (some .int))) (wks h (.initialized Cmp5.yN.cls :: Cmp5.site))
  have hc : CodL.tab.before a s = true := unparts (wk h (.code CodL.yN CodL.yB 2 (some .byte))) (wks h (.initialized CodL.yN.cls :: CodL.site))
  have q5 : ∀ w ∈ Cmp5.tab :: words, w.before a s = true := fun w hw => (List.mem_cons.mp hw).elim (fun e => e ▸ h5) (h w)
  have h3 : Cmp3.tab.before a s = true := unparts (wk q5 (.code Cmp3.yN Cmp3.yB 6 (some (.array .byte)))) (wks q5 (.initialized Cmp3.yN.cls :: Cmp3.site))
  have q3 : ∀ w ∈ Cmp3.tab :: CodL.tab :: words, w.before a s = true := fun w hw => (List.mem_cons.mp hw).elim (fun e => e ▸ h3) fun hw => (List.mem_cons.mp hw).elim (fun e => e ▸ hc) (h w)
  have h4 : New4.tab.before a s = true := unparts (wk q3 (.code New4.yN New4.yB 6 none)) (wks q3 (.initialized New4.yN.cls :: New4.site))
  have q4 : ∀ w ∈ New4.tab :: words, w.before a s = true := fun w hw => (List.mem_cons.mp hw).elim (fun e => e ▸ h4) (h w)
  exact unparts (wk q4 (.code New1.yN New1.yB 2 none)) (wks q4 (.initialized New1.yN.cls :: New1.site))
/-- the words ride from the start Z to the walk's own state -/
theorem moved {Z s : State} {a0 args : Array Value} (hZ : Z.Warmed39 s.vm) (hw : ∀ d ∈ words, d.before a0 Z = true) : ∀ d ∈ words, d.before args s = true := fun d hd => by
  have q := hw d hd
  have t : ∀ d ∈ words, d = .arrayClass .byte ∨ (d.onTables && d.keepsFace) = true := by decide +kernel
  rcases t d hd with rfl | t
  · exact RoadKit.mvA hZ q
  · exact RoadKit.mv hZ q t
/-- WHAT COMES BACK, over the tables of the start Z: h the heap at the call, h' behind it -/
def Q (Z : State) (x : Addr) (A : Cell) (h : Heap) (v : Option Value) (h' : Heap) (L : List Loc) : Prop := v = none ∧ (∀ y ∈ L, y.base = x) ∧ RoadKit.Keep h h' [x] ∧ h'.size = h.size + 1 ∧ RoadKit.Exa Z h' x ST ∧ RoadKit.Fld Z h' x ST "value" "[B" (.ref h.size) ∧ RoadKit.Fld Z h' x ST "coder" "B" (.int 0) ∧
  (∃ V : Cell, RoadKit.Arr Z h' h.size V .byte ∧ V.vm = .none ∧ Z.vm.findClass "[B" = some V.cls ∧ V.slots.size = A.slots.size ∧ ∀ j, j < A.slots.size → V.slots[j]? = some (.int (lo8 (cv A j)))) ∧
  ∀ (O n d : String) (w : Value), RoadKit.Fld Z h x O n d w → RoadKit.slotOf Z O n d ≠ RoadKit.slotOf Z ST "value" "[B" → RoadKit.slotOf Z O n d ≠ RoadKit.slotOf Z ST "coder" "B" → RoadKit.Fld Z h' x O n d w
/-- **new String(chars) AT A CALL, IN THE ROAD'S FORM**: for specialBack behind newO: x the fresh String, b the char[] with the cell A -/
theorem back {p : Program} {l : Launch} {e : Env} {R : Room} {s : State} {args : Array Value} {below : List Frame} {len W : Nat} {Z : State} {a0 : Array Value} {h : Heap} (hZ : Z.Warmed39 s.vm) (hw : ∀ d ∈ words, d.before a0 Z = true) {kI : Nat} (wi : (Jvm.Cond.instantiable ST kI).before a0 Z = true)
    {x b : Addr} {A : Cell} {z : Int32} {v0 c0 : Value} (E : RoadKit.Exa Z h x ST) (V : RoadKit.Fld Z h x ST "value" "[B" v0) (C : RoadKit.Fld Z h x ST "coder" "B" c0) (K : RoadKit.Arr Z h b A .char) (hty : Typed .char A) (S : RoadKit.Sta Z h ST "COMPACT_STRINGS" "Z" (.int z)) (hz : ¬ z = 0)
    (l0 : 0 < A.slots.size) (l2 : A.slots.size ≤ 536870912) (hp : ∀ i, i < A.slots.size → ¬ 255 < cv A i) (hfr : 4 ≤ R.frames) (hlo : W + 65 ≤ R.locals) :
    Back l R p e below s args New1.yN len W (fun P a => a = #[.ref x, .ref b] ∧ P.U.heap = h ∧ P.cells + 1 ≤ R.cells ∧ P.slots + A.slots.size ≤ R.slots)
      (fun P _ v B => ∃ L, Q Z x A h v B.U.heap L ∧ B.locs = P.locs ++ L ∧ B.cells = P.cells + 1 ∧ B.slots = P.slots + A.slots.size) := by
  intro m meth c P g ig mk a X hg hsize hdg hW hn hp'
  obtain ⟨rfl, rfl, r1, r2⟩ := hp'
  have al : Z.vm.Alike P.U.vm := hZ.alike.trans X.warmed.alike
  obtain ⟨D, cfV, kV, iV, fV, hD, gV, stV, knV, obV, asV, slV⟩ := id V
  obtain ⟨D', cfC, kC, iC, fC, hD', gC, stC, -, -, asC, slC⟩ := id C
  cases hD.symm.trans hD'
  obtain ⟨D2, kD, e1, e2, e3, e4, e5⟩ := id E
  cases hD.symm.trans e1
  obtain ⟨c2, k2, i1, i2, i3, -⟩ := Cond.instantiable_spec wi
  cases e2.symm.trans i1
  cases e3.symm.trans i2
  obtain ⟨kU, u1, u2⟩ := al.2.2 _ _ e3
  have hB : Blank ST x D P.U := ⟨hD, ⟨knV, fun q hq => by rw [hq] at obV; cases obV⟩, by rw [al.findClass]; exact e2, kU, u1, by rw [u2]; exact i3, by rw [u2]; exact e5 i3⟩
  have F1 : Found ST "value" "[B" fV P.U := ⟨SBG.found_only al ⟨cfV, kV, iV, gV⟩, stV⟩
  have F2 : Found ST "coder" "B" fC P.U := ⟨SBG.found_only al ⟨cfC, kC, iC, gC⟩, stC⟩
  have hA : Ch b A P.U := ⟨⟨K.1, State.isArrayOf_alike al K.2.1, K.2.2, by omega⟩, hty⟩
  have hS : StaticIs P.U ST "COMPACT_STRINGS" "Z" (.int z) := by
    obtain ⟨cfS, iS, kS, fS, st, cS, t1, t2, t3, t4, t5, t6, t7⟩ := S
    exact StaticIs.there (s := { Z with heap := P.U.heap }) ⟨cfS, iS, kS, fS, st, cS, t1, t2, t3, t4, t5, (fun q => by rw [q] at t6; cases t6), t7⟩ al rfl
  obtain ⟨v, B, X', ⟨⟨hv, E', V', q1, q2, q3, q4, q5, q6, q7, q8, q9, q10, q11⟩, hl, hc, hs⟩, st⟩ := New1.pays x D fV fC b A z (tab_of (moved hZ hw)) hfr hlo m meth c P g ig mk _ X hg hsize hdg hW hn ⟨r1, r2, rfl, hB, F1, F2, hA, hS, hz, l0, l2, hp⟩
  have al' : Z.vm.Alike B.U.vm := hZ.alike.trans X'.warmed.alike
  have hsz : E'.slots.size = D.slots.size := by
    obtain ⟨-, -, -, kB, w1, w2, w3⟩ := q1
    obtain ⟨kB', y1, y2⟩ := al'.2.2 _ _ e3
    rw [q2.2.1] at w1
    cases w1.symm.trans y1
    rw [w3, e5 i3, y2]
  refine ⟨v, B, X', ⟨_, ⟨hv, ?_, ⟨by omega, fun y cy hy hn' => q10 y cy (by simpa using hn') hy, fun y cy hy => ?_⟩, q11, ⟨E', _, q1.1, by rw [q2.2.1]; exact e2, by rw [q2.2.1]; exact e3, by rw [q2.1]; exact obV, fun _ => by rw [hsz]; exact e5 i3⟩,
    ⟨E', cfV, kV, iV, fV, q1.1, gV, stV, by rw [q2.1]; exact knV, by rw [q2.1]; exact obV, by rw [q2.2.1]; exact asV, q3⟩, ⟨E', cfC, kC, iC, fC, q1.1, gC, stC, by rw [q2.1]; exact knV, by rw [q2.1]; exact obV, by rw [q2.2.1]; exact asC, q4⟩,
    ⟨V', ⟨q5.1, State.isArrayOf_alike al'.symm q5.2.1, q5.2.2.1⟩, q6, by rw [← al'.findClass]; exact q7, q8, fun j hj => by have := q9 j hj; rwa [Nat.zero_add] at this⟩, fun O n d w F n1 n2 => ?_⟩, hl, hc, hs⟩, st⟩
  · intro y hy
    simp only [List.mem_cons, List.not_mem_nil, or_false] at hy
    rcases hy with rfl | rfl <;> rfl
  · by_cases q : y = x
    · subst q
      cases hD.symm.trans hy
      exact ⟨E', q1.1, q2.2.1, q2.1, hsz⟩
    · exact ⟨cy, q10 y cy q hy, rfl, rfl, rfl⟩
  · obtain ⟨D3, cf, k, i, f, g1, g2, g3, g4, g5, g6, g7⟩ := F
    cases hD.symm.trans g1
    simp only [RoadKit.slotOf, g2, gV, gC, Option.map_some, Option.getD_some] at n1 n2
    exact ⟨E', cf, k, i, f, q1.1, g2, g3, by rw [q2.1]; exact g4, by rw [q2.1]; exact g5, by rw [q2.2.1]; exact g6, by rw [q2.2.2 f.slot (by simp [n1, n2])]; exact g7⟩
end StrChars.Road
namespace StrChars.Road
open Jvm Sem ClassFile Op Lib Jvm.Stand Jvm.Free Jvm.Free.XT
/-- WHAT COMES BACK, the byte[] as a list of values -/
def QA (Z : State) (x : Addr) (zn : Int32) (cs : List Int32) (h : Heap) (v : Option Value) (h' : Heap) (L : List Loc) : Prop := v = none ∧ (∀ y ∈ L, y.base = x) ∧ RoadKit.Keep h h' [x] ∧ h'.size = h.size + 1 ∧ RoadKit.Exa Z h' x ST ∧ RoadKit.Fld Z h' x ST "value" "[B" (.ref h.size) ∧ RoadKit.Fld Z h' x ST "coder" "B" (.int 0) ∧
  (∃ kb, Z.vm.findClass "[B" = some kb ∧ RoadKit.Arv Z h' h.size kb .byte zn (cs.map fun c => .int (lo8 c)) (.int 0)) ∧
  ∀ (O n d : String) (w : Value), RoadKit.Fld Z h x O n d w → RoadKit.slotOf Z O n d ≠ RoadKit.slotOf Z ST "value" "[B" → RoadKit.slotOf Z O n d ≠ RoadKit.slotOf Z ST "coder" "B" → RoadKit.Fld Z h' x O n d w
/-- **new String(chars) AT A CALL, THE ARRAYS AS LISTS**: the char[] at b holds cs, not empty, no char above 255 -/
theorem backArv {p : Program} {l : Launch} {e : Env} {R : Room} {s : State} {args : Array Value} {below : List Frame} {len W : Nat} {Z : State} {a0 : Array Value} {h : Heap} (hZ : Z.Warmed39 s.vm) (hw : ∀ d ∈ words, d.before a0 Z = true) {kI : Nat} (wi : (Jvm.Cond.instantiable ST kI).before a0 Z = true)
    {x b : Addr} {k : ClassId} {zn z : Int32} {cs : List Int32} {dv v0 c0 : Value} (E : RoadKit.Exa Z h x ST) (V : RoadKit.Fld Z h x ST "value" "[B" v0) (C : RoadKit.Fld Z h x ST "coder" "B" c0) (K : RoadKit.Arv Z h b k .char zn (cs.map Value.int) dv) (S : RoadKit.Sta Z h ST "COMPACT_STRINGS" "Z" (.int z)) (hz : ¬ z = 0)
    (hlen : zn.toNatClampNeg = cs.length) (h0 : 0 < cs.length) (hbig : cs.length ≤ 536870912) (hall : ∀ c ∈ cs, ¬ 255 < c) (hfr : 4 ≤ R.frames) (hlo : W + 65 ≤ R.locals) :
    Back l R p e below s args New1.yN len W (fun P a => a = #[.ref x, .ref b] ∧ P.U.heap = h ∧ P.cells + 1 ≤ R.cells ∧ P.slots + cs.length ≤ R.slots)
      (fun P _ v B => ∃ L, QA Z x zn cs h v B.U.heap L ∧ B.locs = P.locs ++ L ∧ B.cells = P.cells + 1 ∧ B.slots = P.slots + cs.length) := by
  obtain ⟨A, K1, K2, K3, K4, K5, K6⟩ := K
  have e : A.slots.size = cs.length := K3.trans hlen
  have hat : ∀ (i : Nat) (hi : i < cs.length), A.slots[i]? = some (.int cs[i]) := fun i hi => by rw [K5 i (by omega)]; simp [List.getD_eq_getElem?_getD, hi]
  have hcv : ∀ (i : Nat) (hi : i < cs.length), cv A i = cs[i] := fun i hi => by unfold cv; rw [hat i hi]
  have hty : Typed .char A := fun i v hv => by
    have hi : i < A.slots.size := (Array.getElem?_eq_some_iff.mp hv).1
    have q := K5 i hi
    rw [hv] at q
    rw [Option.some.inj q]
    exact K6 i hi
  refine Back.mono (back hZ hw wi E V C K1 hty S hz (by omega) (by omega) (fun i hi => by rw [hcv i (by omega)]; exact hall _ (List.getElem_mem _)) hfr hlo) (fun P a hp => ⟨hp.1, hp.2.1, hp.2.2.1, by rw [e]; exact hp.2.2.2⟩) (fun P a v B hp hq => ?_)
  obtain ⟨L, ⟨q1, q2, q3, q4, q5, q6, q7, ⟨V', v1, v2, v3, v4, v5⟩, q9⟩, hl, hc, hs⟩ := hq
  refine ⟨L, ⟨q1, q2, q3, q4, q5, q6, q7, ⟨V'.cls, v3, V', v1, rfl, by rw [v4, e, hlen], K4, fun i hi => ?_, fun i hi => ?_⟩, q9⟩, hl, hc, by rw [hs, e]⟩
  · have hi' : i < cs.length := by omega
    rw [v5 i (by omega), hcv i hi']; simp [List.getD_eq_getElem?_getD, hi']
  · have hi' : i < cs.length := by omega
    simp only [List.getD_eq_getElem?_getD, List.getElem?_map, List.getElem?_eq_getElem hi', Option.map_some, Option.getD_some]
    exact fits_lo8 _
end StrChars.Road
namespace StrChars.Road
open Jvm Sem ClassFile Op Lib Jvm.Stand Jvm.Free Jvm.Free.XT
/-- WHAT COMES BACK, in the writer's own shape -/
def QV (Z : State) (x : Addr) (N : Int32) (bs : List Int32) (h : Heap) (n0 : Nat) (v : Option Value) (h' : Heap) (L : List Loc) : Prop := v = none ∧ RoadKit.Fr n0 L ∧ RoadKit.Keep h h' [x] ∧ RoadKit.Exa Z h' x ST ∧ RoadKit.Fld Z h' x ST "coder" "B" (.int 0) ∧
  ∃ (t : Addr) (kb : ClassId), n0 ≤ t ∧ h.size ≤ t ∧ ¬ t = x ∧ RoadKit.Fld Z h' x ST "value" "[B" (.ref t) ∧ RoadKit.Arv Z h' t kb .byte N (bs.map Value.int) (.int 0)
/-- **new String(chars) AT A CALL, FOR THE WRITER**: a char[] of n known ints, each 0 to 255 -/
theorem backV {p : Program} {l : Launch} {e : Env} {R : Room} {s : State} {args : Array Value} {below : List Frame} {len W : Nat} {Z : State} {a0 : Array Value} {h : Heap} (hZ : Z.Warmed39 s.vm) (hw : ∀ d ∈ words, d.before a0 Z = true) {kI : Nat} (wi : (Jvm.Cond.instantiable ST kI).before a0 Z = true)
    {x b : Addr} {kC : ClassId} {cs bs : List Int32} {d v0 c0 : Value} {z N : Int32} {n n0 : Nat} (hx0 : n0 ≤ x) (hh0 : n0 ≤ h.size) (E : RoadKit.Exa Z h x ST) (V : RoadKit.Fld Z h x ST "value" "[B" v0) (C : RoadKit.Fld Z h x ST "coder" "B" c0) (K : RoadKit.Arv Z h b kC .char N (cs.map Value.int) d) (S : RoadKit.Sta Z h ST "COMPACT_STRINGS" "Z" (.int z)) (hz : ¬ z = 0)
    (hn : cs.length = n) (hN : N = Int32.ofNat n) (l0 : 0 < n) (l2 : n ≤ 4000) (hp : ∀ c ∈ cs, ¬ c < 0 ∧ ¬ (255 : Int32) < c) (hb : bs = cs.map (fun c => c.toInt8.toInt32)) (hfr : 4 ≤ R.frames) (hlo : W + 65 ≤ R.locals) :
    Back l R p e below s args (⟨"java/lang/String", "<init>", "([C)V"⟩ : MethodName) len W (fun P a => a = #[.ref x, .ref b] ∧ P.U.heap = h ∧ P.cells + 1 ≤ R.cells ∧ P.slots + n ≤ R.slots)
      (fun P _ v B => ∃ L, QV Z x N bs h n0 v B.U.heap L ∧ B.locs = P.locs ++ L ∧ B.cells = P.cells + 1 ∧ B.slots = P.slots + n) := by
  subst hn hN hb
  refine Back.mono (backArv hZ hw wi E V C K S hz (n32 (by omega)) l0 (by omega) (fun c hc => (hp c hc).2) hfr hlo) (fun P a hp => hp) (fun P a v B hp hq => ?_)
  obtain ⟨L, ⟨q1, q2, q3, q4, q5, q6, q7, ⟨kb, v1, v2⟩, q9⟩, hl, hc, hs⟩ := hq
  exact ⟨L, ⟨q1, fun y hy => by rw [q2 y hy]; exact hx0, q3, q5, q7, h.size, kb, hh0, Nat.le_refl _, Nat.ne_of_gt E.lt, q6, by rw [List.map_map]; exact v2⟩, hl, hc, hs⟩
end StrChars.Road
end Jvm.Pilot.@@N@@
namespace Jvm.Pilot.@@N@@
open Jvm Jvm.ClassFile Sem Op Lib Jvm.Free Jvm.Stand Jvm.LawKit Jvm.RoadKit Bundle Jvm.Pilot.@@N@@.Jvm.D
theorem paysNew {p : Program} {l : Launch} {e : Env} {R : Room} {s : State} {args : Array Value} {below : List Frame} {len W : Nat} {Z : State} {a0 : Array Value} {h : Heap} (hZ : Z.Warmed39 s.vm) (hw : ∀ d ∈ StrChars.Road.words, d.before a0 Z = true) {kI : Nat} (wi : (Jvm.Cond.instantiable StrChars.Road.ST kI).before a0 Z = true) {x b : Addr} {kC : ClassId} {cs bs : List Int32} {d v0 c0 : Value} {z N : Int32} {n n0 : Nat} (hx0 : n0 ≤ x) (hh0 : n0 ≤ h.size) (E : RoadKit.Exa Z h x StrChars.Road.ST) (F : RoadKit.Fld Z h x StrChars.Road.ST "value" "[B" v0) (C : RoadKit.Fld Z h x StrChars.Road.ST "coder" "B" c0) (A : RoadKit.Arv Z h b kC .char N (cs.map Value.int) d) (S : RoadKit.Sta Z h StrChars.Road.ST "COMPACT_STRINGS" "Z" (.int z)) (hz : ¬ z = 0) (hn : cs.length = n) (hN : N = Int32.ofNat n) (l0 : 0 < n) (l2 : n ≤ 4000) (hp : ∀ c ∈ cs, ¬ c < 0 ∧ ¬ (255 : Int32) < c) (hb : bs = cs.map (fun c => c.toInt8.toInt32)) (hfr : 4 ≤ R.frames) (hlo : W + 65 ≤ R.locals) : Pays l R p e below s args (⟨"java/lang/String", "<init>", "([C)V"⟩ : MethodName) len W #[.ref x, .ref b] h 1 n (StrChars.Road.QV Z x N bs h n0) :=
  StrChars.Road.backV hZ hw wi hx0 hh0 E F C A S hz hn hN l0 l2 hp hb hfr hlo
end Jvm.Pilot.@@N@@
namespace Jvm.Pilot.@@N@@
open Jvm Jvm.ClassFile Sem Op Lib Jvm.Free Jvm.Stand Jvm.LawKit Jvm.RoadKit Bundle Jvm.Pilot.@@N@@.Jvm.D
theorem own_and255 (x : Int32) : ¬ nar .char ((x &&& (255 : Int32)).toUInt32.toUInt16.toUInt32.toInt32) < 0 ∧ ¬ (255 : Int32) < nar .char ((x &&& (255 : Int32)).toUInt32.toUInt16.toUInt32.toInt32) := by
  have t : ∀ k : Fin 256, ¬ nar .char ((Int32.ofNat k.val).toUInt32.toUInt16.toUInt32.toInt32) < 0 ∧ ¬ (255 : Int32) < nar .char ((Int32.ofNat k.val).toUInt32.toUInt16.toUInt32.toInt32) := by decide +kernel
  have h : (x &&& 255).toBitVec.toNat < 256 := by
    simp only [Int32.toBitVec_and, BitVec.toNat_and]
    exact Nat.lt_succ_of_le Nat.and_le_right
  have e : (x &&& 255) = Int32.ofNat (x &&& 255).toBitVec.toNat := by
    apply Int32.toBitVec_inj.mp
    show _ = BitVec.ofNat 32 _
    rw [BitVec.ofNat_toNat]; simp
  rw [e]
  exact t ⟨_, h⟩
theorem own_s0 {x : Int32} (h : ¬ x = 0) : ¬ (x.toInt64 ||| (0 : Int32).toInt64) = 0 := fun q => h (Int32.toInt_inj.mp (by
  have e : x.toInt64 ||| (0 : Int32).toInt64 = x.toInt64 := by
    apply Int64.toBitVec_inj.mp
    simp
  rw [e] at q
  have := congrArg Int64.toInt q
  rw [Int32.toInt_toInt64] at this
  exact this))
theorem own_s1 (x : Int32) : ¬ x.toInt64 < (-31557014167219200 : Int64) := by
  rw [Int64.lt_iff_toInt_lt, Int32.toInt_toInt64]
  have := x.le_toInt
  have e : (-31557014167219200 : Int64).toInt = -31557014167219200 := by decide
  omega
theorem own_s2 (x : Int32) : ¬ (31556889864403199 : Int64) < x.toInt64 := by
  rw [Int64.lt_iff_toInt_lt, Int32.toInt_toInt64]
  have := x.toInt_lt
  have e : (31556889864403199 : Int64).toInt = 31556889864403199 := by decide
  omega
theorem ef_m_rnn (m : MethodId) (a : Addr) : entryFrame m #[(.ref a)] 1 = mkF m 0 #[.val (.ref a)] [] := by first | (simp [entryFrame, mkF, argsToLocals, Value.category]; done) | rfl
theorem d_jdk_31_method_10_0 : decode jdk_31_method_10_code 0 = .ok (.aload_n 0, 1) := by decide +kernel
theorem d_jdk_31_method_10_1 : decode jdk_31_method_10_code 1 = .ok (.ifnonnull 11, 3) := by decide +kernel
theorem d_jdk_31_method_10_12 : decode jdk_31_method_10_code 12 = .ok (.aload_n 0, 1) := by decide +kernel
theorem d_jdk_31_method_10_13 : decode jdk_31_method_10_code 13 = .ok (.areturn, 1) := by decide +kernel
theorem pn_java_util_Objects : plainName "java/util/Objects" = true := by first | (simp [plainName, overriddenIn]; done) | decide +kernel
set_option maxRecDepth 65536 in
set_option maxHeartbeats 40000000 in
theorem m_rnn (l : Launch) (Z : State) (a0 : Array Value) (hw : ∀ d ∈ tables_1, d.before a0 Z = true) (h0 : Heap) (n0 : Nat) (Z0 : n0 ≤ h0.size) (a : Addr) :
    Met l Z [] (⟨"java/util/Objects", "requireNonNull", "(Ljava/lang/Object;)Ljava/lang/Object;"⟩ : MethodName) jdk_31_method_10_code 1 (some (.object "java/lang/Object")) ({ frames := 0, cells := 0, slots := 0, locals := 0 } : Room) #[(.ref a)] h0 n0 (fun v h => v = some (.ref a) ∧ h0 = h) := by
  refine Met.of (plainFor_of_name pn_java_util_Objects) ?_
  intro p e s m below meth c F K
  refine Go.cast (ef_m_rnn m a) ?_
  refine Go.aloadN K d_jdk_31_method_10_0 rfl rfl (pc' := 1) rfl ?_
  refine Go.ifnonnullR K d_jdk_31_method_10_1 (pc' := 12) (by decide) (by decide) ?_
  refine Go.aloadN K d_jdk_31_method_10_12 rfl rfl (pc' := 13) rfl ?_
  exact Go.retA K rfl rfl rfl (by decide) (by decide) d_jdk_31_method_10_13 (fun _ _ _ _ => ⟨rfl, rfl⟩)
theorem ef_m_rnn2 (m : MethodId) (a : Addr) (b : Addr) : entryFrame m #[(.ref a), (.ref b)] 2 = mkF m 0 #[.val (.ref a), .val (.ref b)] [] := by first | (simp [entryFrame, mkF, argsToLocals, Value.category]; done) | rfl
theorem d_jdk_31_method_11_0 : decode jdk_31_method_11_code 0 = .ok (.aload_n 0, 1) := by decide +kernel
theorem d_jdk_31_method_11_1 : decode jdk_31_method_11_code 1 = .ok (.ifnonnull 12, 3) := by decide +kernel
theorem d_jdk_31_method_11_13 : decode jdk_31_method_11_code 13 = .ok (.aload_n 0, 1) := by decide +kernel
theorem d_jdk_31_method_11_14 : decode jdk_31_method_11_code 14 = .ok (.areturn, 1) := by decide +kernel
set_option maxRecDepth 65536 in
set_option maxHeartbeats 40000000 in
theorem m_rnn2 (l : Launch) (Z : State) (a0 : Array Value) (hw : ∀ d ∈ tables_1, d.before a0 Z = true) (h0 : Heap) (n0 : Nat) (Z0 : n0 ≤ h0.size) (a : Addr) (b : Addr) :
    Met l Z [] (⟨"java/util/Objects", "requireNonNull", "(Ljava/lang/Object;Ljava/lang/String;)Ljava/lang/Object;"⟩ : MethodName) jdk_31_method_11_code 2 (some (.object "java/lang/Object")) ({ frames := 0, cells := 0, slots := 0, locals := 0 } : Room) #[(.ref a), (.ref b)] h0 n0 (fun v h => v = some (.ref a) ∧ h0 = h) := by
  refine Met.of (plainFor_of_name pn_java_util_Objects) ?_
  intro p e s m below meth c F K
  refine Go.cast (ef_m_rnn2 m a b) ?_
  refine Go.aloadN K d_jdk_31_method_11_0 rfl rfl (pc' := 1) rfl ?_
  refine Go.ifnonnullR K d_jdk_31_method_11_1 (pc' := 13) (by decide) (by decide) ?_
  refine Go.aloadN K d_jdk_31_method_11_13 rfl rfl (pc' := 14) rfl ?_
  exact Go.retA K rfl rfl rfl (by decide) (by decide) d_jdk_31_method_11_14 (fun _ _ _ _ => ⟨rfl, rfl⟩)
theorem ef_oe (m : MethodId)  : entryFrame m #[] 1 = mkF m 0 #[.unset] [] := by first | (simp [entryFrame, mkF, argsToLocals, Value.category]; done) | rfl
theorem d_jdk_32_method_1_0 : decode jdk_32_method_1_code 0 = .ok (.getstatic 1, 3) := by decide +kernel
theorem d_jdk_32_method_1_3 : decode jdk_32_method_1_code 3 = .ok (.astore_n 0, 1) := by decide +kernel
theorem d_jdk_32_method_1_4 : decode jdk_32_method_1_code 4 = .ok (.aload_n 0, 1) := by decide +kernel
theorem d_jdk_32_method_1_5 : decode jdk_32_method_1_code 5 = .ok (.areturn, 1) := by decide +kernel
theorem pn_java_util_Optional : plainName "java/util/Optional" = true := by first | (simp [plainName, overriddenIn]; done) | decide +kernel
set_option maxRecDepth 65536 in
set_option maxHeartbeats 40000000 in
theorem m_oe (l : Launch) (Z : State) (a0 : Array Value) (hw : ∀ d ∈ tables_1, d.before a0 Z = true) (h0 : Heap) (n0 : Nat) (Z0 : n0 ≤ h0.size) (eo : Addr) (SE : Sta Z Z.heap "java/util/Optional" "EMPTY" "Ljava/util/Optional;" (.ref eo)) (od : Old Z n0 h0) :
    Met l Z [] (⟨"java/util/Optional", "empty", "()Ljava/util/Optional;"⟩ : MethodName) jdk_32_method_1_code 1 (some (.object "java/util/Optional")) ({ frames := 0, cells := 0, slots := 0, locals := 0 } : Room) #[] h0 n0 (fun v h => v = some (.ref eo) ∧ h0 = h) := by
  refine Met.of (plainFor_of_name pn_java_util_Optional) ?_
  intro p e s m below meth c F K
  refine Go.cast (ef_oe m) ?_
  refine Go.getS K (host := "") (Or.inl (hw _ (List.mem_of_getElem? (i := 5) rfl))) Via.refl (SE.ext od.2) d_jdk_32_method_1_0 (pc' := 3) rfl ?_
  refine Go.astoreN K d_jdk_32_method_1_3 rfl (Ls' := #[.val (.ref eo)]) rfl (pc' := 4) rfl ?_
  refine Go.aloadN K d_jdk_32_method_1_4 rfl rfl (pc' := 5) rfl ?_
  exact Go.retA K rfl rfl rfl (by decide) (by decide) d_jdk_32_method_1_5 (fun _ _ _ _ => ⟨rfl, rfl⟩)
theorem ef_oi (m : MethodId) (o : Addr) (a : Addr) : entryFrame m #[(.ref o), (.ref a)] 2 = mkF m 0 #[.val (.ref o), .val (.ref a)] [] := by first | (simp [entryFrame, mkF, argsToLocals, Value.category]; done) | rfl
theorem d_jdk_32_method_2_0 : decode jdk_32_method_2_code 0 = .ok (.aload_n 0, 1) := by decide +kernel
theorem d_jdk_32_method_2_1 : decode jdk_32_method_2_code 1 = .ok (.invokespecial 7, 3) := by decide +kernel
theorem d_jdk_32_method_2_4 : decode jdk_32_method_2_code 4 = .ok (.aload_n 0, 1) := by decide +kernel
theorem d_jdk_32_method_2_5 : decode jdk_32_method_2_code 5 = .ok (.aload_n 1, 1) := by decide +kernel
theorem d_jdk_32_method_2_6 : decode jdk_32_method_2_code 6 = .ok (.putfield 13, 3) := by decide +kernel
theorem d_jdk_32_method_2_9 : decode jdk_32_method_2_code 9 = .ok (.return_, 1) := by decide +kernel
set_option maxRecDepth 65536 in
set_option maxHeartbeats 40000000 in
theorem m_oi (l : Launch) (Z : State) (a0 : Array Value) (hw : ∀ d ∈ tables_1, d.before a0 Z = true) (h0 : Heap) (n0 : Nat) (Z0 : n0 ≤ h0.size) (o a : Addr) (u : Value) (E_o : Exa Z h0 o "java/util/Optional") (F_o : Fld Z h0 o "java/util/Optional" "value" "Ljava/lang/Object;" u) (g_o : n0 ≤ o) :
    Met l Z [] (⟨"java/util/Optional", "<init>", "(Ljava/lang/Object;)V"⟩ : MethodName) jdk_32_method_2_code 2 none ({ frames := 1, cells := 0, slots := 0, locals := 14 } : Room) #[(.ref o), (.ref a)] h0 n0 (fun v h => v = none ∧ Keep h0 h [o] ∧ Exa Z h o "java/util/Optional" ∧ Fld Z h o "java/util/Optional" "value" "Ljava/lang/Object;" (.ref a)) := by
  refine Met.of (plainFor_of_name pn_java_util_Optional) ?_
  intro p e s m below meth c F K
  refine Go.cast (ef_oi m o a) ?_
  have kc0 := Keep.refl h0 [o]
  refine Go.aloadN K d_jdk_32_method_2_0 rfl rfl (pc' := 1) rfl ?_
  refine Go.initO K (hw _ (List.mem_of_getElem? (i := 70) rfl)) (hw _ (List.mem_of_getElem? (i := 18) rfl)) (hw _ (List.mem_of_getElem? (i := 19) rfl)) rfl (by decide) 0 (Nat.le_of_ble_eq_true rfl) (by decide) d_jdk_32_method_2_1 (pc' := 4) rfl ?_
  refine Go.aloadN K d_jdk_32_method_2_4 rfl rfl (pc' := 5) rfl ?_
  refine Go.aloadN K d_jdk_32_method_2_5 rfl rfl (pc' := 6) rfl ?_
  refine Go.putF K (host := "") (Or.inl (hw _ (List.mem_of_getElem? (i := 50) rfl))) Via.refl F_o E_o (Or.inr ⟨(hw _ (List.mem_of_getElem? (i := 51) rfl)), rfl, rfl⟩) (hw _ (List.mem_of_getElem? (i := 62) rfl)) (ty := (.object "java/lang/Object")) (by decide) rfl rfl g_o d_jdk_32_method_2_6 (pc' := 9) rfl ?_
  intro h1 W2 f3
  have K4 := Keep.of_wr W2
  have f5 := E_o.keep K4
  have z7 := Nat.le_trans Z0 K4.1
  have kc8 := kc0.trans K4 (allS (Or.inl (List.mem_of_getElem? (i := 0) rfl)) all0)
  exact Go.retV K (by decide) (by decide) d_jdk_32_method_2_9 (fun _ _ _ _ => ⟨rfl, kc8, f5, f3⟩)
theorem ef_oo (m : MethodId) (a : Addr) : entryFrame m #[(.ref a)] 1 = mkF m 0 #[.val (.ref a)] [] := by first | (simp [entryFrame, mkF, argsToLocals, Value.category]; done) | rfl
theorem d_jdk_32_method_3_0 : decode jdk_32_method_3_code 0 = .ok (.new 2, 3) := by decide +kernel
theorem d_jdk_32_method_3_3 : decode jdk_32_method_3_code 3 = .ok (.dup, 1) := by decide +kernel
theorem d_jdk_32_method_3_4 : decode jdk_32_method_3_code 4 = .ok (.aload_n 0, 1) := by decide +kernel
theorem d_jdk_32_method_3_5 : decode jdk_32_method_3_code 5 = .ok (.invokestatic 17, 3) := by decide +kernel
theorem pd__28Ljava_2flang_2fObject_3b_29Ljava_2flang_2fObject_3b : parseMethodDescriptor "(Ljava/lang/Object;)Ljava/lang/Object;" = some ⟨[(.object "java/lang/Object")], some (.object "java/lang/Object")⟩ := by decide +kernel
theorem d_jdk_32_method_3_8 : decode jdk_32_method_3_code 8 = .ok (.invokespecial 23, 3) := by decide +kernel
theorem pd__28Ljava_2flang_2fObject_3b_29V : parseMethodDescriptor "(Ljava/lang/Object;)V" = some ⟨[(.object "java/lang/Object")], none⟩ := by decide +kernel
theorem d_jdk_32_method_3_11 : decode jdk_32_method_3_code 11 = .ok (.areturn, 1) := by decide +kernel
set_option maxRecDepth 65536 in
set_option maxHeartbeats 40000000 in
theorem m_oo (l : Launch) (Z : State) (a0 : Array Value) (hw : ∀ d ∈ tables_1, d.before a0 Z = true) (h0 : Heap) (n0 : Nat) (Z0 : n0 ≤ h0.size) (a : Addr) :
    Met l Z [] (⟨"java/util/Optional", "of", "(Ljava/lang/Object;)Ljava/util/Optional;"⟩ : MethodName) jdk_32_method_3_code 1 (some (.object "java/util/Optional")) ({ frames := 2, cells := 1, slots := 1, locals := 40 } : Room) #[(.ref a)] h0 n0 (fun v h => ∃ o : Addr, v = some (.ref o) ∧ h0.size ≤ o ∧ Keep h0 h [] ∧ Exa Z h o "java/util/Optional" ∧ Fld Z h o "java/util/Optional" "value" "Ljava/lang/Object;" (.ref a)) := by
  refine Met.of (plainFor_of_name pn_java_util_Optional) ?_
  intro p e s m below meth c F K
  refine Go.cast (ef_oo m a) ?_
  have kc0 := Keep.refl h0 []
  refine Go.newO K (hw _ (List.mem_of_getElem? (i := 61) rfl)) (hw _ (List.mem_of_getElem? (i := 62) rfl)) (hw _ (List.mem_of_getElem? (i := 3) rfl)) (by decide) (by decide) d_jdk_32_method_3_0 (pc' := 3) rfl ?_
  intro h9 o eq12 E10 E_o D11
  have sz_o := Nat.le_trans kc0.1 (Nat.le_of_eq eq12.symm)
  have g_o : n0 ≤ o := Nat.le_trans Z0 (Nat.le_of_eq eq12.symm)
  have z13 := Nat.le_trans Z0 E10.1
  have kc14 := kc0.ext E10
  have f15 : Fld Z h9 o "java/util/Optional" "value" "Ljava/lang/Object;" .null := D11 (Or.inr (hw _ (List.mem_of_getElem? (i := 51) rfl))) (ty := (.object "java/lang/Object")) (by decide)
  refine Go.dup K d_jdk_32_method_3_3 rfl (pc' := 4) rfl ?_
  refine Go.aloadN K d_jdk_32_method_3_4 rfl rfl (pc' := 5) rfl ?_
  refine Go.callS K (y := (⟨"java/util/Objects", "requireNonNull", "(Ljava/lang/Object;)Ljava/lang/Object;"⟩ : MethodName)) (W := 2) (kc := 0) (nc := 0) (mvT K.cz (hw _ (List.mem_of_getElem? (i := 63) rfl))) (mvT K.cz (hw _ (List.mem_of_getElem? (i := 64) rfl))) (mvT K.cz (hw _ (List.mem_of_getElem? (i := 30) rfl))) (mvT K.cz (hw _ (List.mem_of_getElem? (i := 65) rfl))) (by decide) ((m_rnn l Z a0 hw h9 n0 z13 a).pays (W := 2) K.cz (hw _ (List.mem_of_getElem? (i := 65) rfl)) (hw _ (List.mem_of_getElem? (i := 30) rfl)) (by decide) (by decide)) rfl (argsL := [(.ref a)]) (rest := [(.ref o), (.ref o)]) (lenOf pd__28Ljava_2flang_2fObject_3b_29Ljava_2flang_2fObject_3b rfl) rfl (Nat.le_of_ble_eq_true rfl) (by decide) (by decide) frOf grOf d_jdk_32_method_3_5 (pc' := 8) rfl ?_
  rintro v18 h16 Lc17 ⟨⟨⟨rfl, eh⟩, -⟩, -⟩
  obtain rfl := eh
  show Go p l e _ _ m _ below meth c _ _ _ _ h9 _ _ (mkF m 8 #[.val (.ref a)] [(.ref a), (.ref o), (.ref o)])
  refine Go.callC K (y := (⟨"java/util/Optional", "<init>", "(Ljava/lang/Object;)V"⟩ : MethodName)) (W := 1) (kc := 0) (nc := 0) (a := o) rfl (mvT K.cz (hw _ (List.mem_of_getElem? (i := 66) rfl))) (mvT K.cz (hw _ (List.mem_of_getElem? (i := 67) rfl))) (mvT K.cz (hw _ (List.mem_of_getElem? (i := 69) rfl))) (by decide) ((m_oi l Z a0 hw h9 n0 z13 o a _ E_o f15 g_o).pays (W := 1) K.cz (hw _ (List.mem_of_getElem? (i := 69) rfl)) (hw _ (List.mem_of_getElem? (i := 3) rfl)) (by decide) (by decide)) rfl (argsL := [(.ref a)]) (rest := [(.ref o)]) (lenOf pd__28Ljava_2flang_2fObject_3b_29V rfl) rfl (Nat.le_of_ble_eq_true rfl) (by decide) (by decide) frOf grOf d_jdk_32_method_3_8 (pc' := 11) rfl ?_
  rintro v21 h19 Lc20 ⟨⟨⟨rfl, Kq, Eq, Fq⟩, -⟩, -⟩
  have f22 := E_o.keep Kq
  have z24 := Nat.le_trans z13 Kq.1
  have kc25 := kc14.trans Kq (allS (Or.inr sz_o) all0)
  show Go p l e _ _ m _ below meth c _ _ _ _ h19 _ _ (mkF m 11 #[.val (.ref a)] [(.ref o)])
  exact Go.retA K rfl rfl rfl (by decide) (by decide) d_jdk_32_method_3_11 (fun _ _ _ _ => ⟨o, rfl, sz_o, kc25, Eq, Fq⟩)
theorem ef_op (m : MethodId) (o : Addr) : entryFrame m #[(.ref o)] 1 = mkF m 0 #[.val (.ref o)] [] := by first | (simp [entryFrame, mkF, argsToLocals, Value.category]; done) | rfl
theorem d_jdk_32_method_6_0 : decode jdk_32_method_6_code 0 = .ok (.aload_n 0, 1) := by decide +kernel
theorem d_jdk_32_method_6_1 : decode jdk_32_method_6_code 1 = .ok (.getfield 13, 3) := by decide +kernel
theorem d_jdk_32_method_6_4 : decode jdk_32_method_6_code 4 = .ok (.ifnull 7, 3) := by decide +kernel
theorem d_jdk_32_method_6_11 : decode jdk_32_method_6_code 11 = .ok (.iconst 0, 1) := by decide +kernel
theorem d_jdk_32_method_6_12 : decode jdk_32_method_6_code 12 = .ok (.ireturn, 1) := by decide +kernel
set_option maxRecDepth 65536 in
set_option maxHeartbeats 40000000 in
theorem m_op0 (l : Launch) (Z : State) (a0 : Array Value) (hw : ∀ d ∈ tables_1, d.before a0 Z = true) (h0 : Heap) (n0 : Nat) (Z0 : n0 ≤ h0.size) (o a : Addr) (E_o : Exa Z h0 o "java/util/Optional") (F_o : Fld Z h0 o "java/util/Optional" "value" "Ljava/lang/Object;" .null) :
    Met l Z [] (⟨"java/util/Optional", "isPresent", "()Z"⟩ : MethodName) jdk_32_method_6_code 1 (some .boolean) ({ frames := 0, cells := 0, slots := 0, locals := 0 } : Room) #[(.ref o)] h0 n0 (fun v h => v = some (.int 0) ∧ h0 = h) := by
  refine Met.of (plainFor_of_name pn_java_util_Optional) ?_
  intro p e s m below meth c F K
  refine Go.cast (ef_op m o) ?_
  refine Go.aloadN K d_jdk_32_method_6_0 rfl rfl (pc' := 1) rfl ?_
  refine Go.getF K (host := "") (Or.inl (hw _ (List.mem_of_getElem? (i := 50) rfl))) Via.refl F_o d_jdk_32_method_6_1 (pc' := 4) rfl ?_
  refine Go.ifnullN K d_jdk_32_method_6_4 (pc' := 11) (by decide) (by decide) ?_
  refine Go.iconst K (v := 0) d_jdk_32_method_6_11 rfl (pc' := 12) rfl ?_
  exact Go.retN K (by simp) (by decide) (by decide) d_jdk_32_method_6_12 (fun _ _ _ _ => ⟨rfl, rfl⟩)
theorem d_jdk_32_method_6_7 : decode jdk_32_method_6_code 7 = .ok (.iconst 1, 1) := by decide +kernel
theorem d_jdk_32_method_6_8 : decode jdk_32_method_6_code 8 = .ok (.goto 4, 3) := by decide +kernel
set_option maxRecDepth 65536 in
set_option maxHeartbeats 40000000 in
theorem m_op1 (l : Launch) (Z : State) (a0 : Array Value) (hw : ∀ d ∈ tables_1, d.before a0 Z = true) (h0 : Heap) (n0 : Nat) (Z0 : n0 ≤ h0.size) (o a : Addr) (E_o : Exa Z h0 o "java/util/Optional") (F_o : Fld Z h0 o "java/util/Optional" "value" "Ljava/lang/Object;" (.ref a)) :
    Met l Z [] (⟨"java/util/Optional", "isPresent", "()Z"⟩ : MethodName) jdk_32_method_6_code 1 (some .boolean) ({ frames := 0, cells := 0, slots := 0, locals := 0 } : Room) #[(.ref o)] h0 n0 (fun v h => v = some (.int 1) ∧ h0 = h) := by
  refine Met.of (plainFor_of_name pn_java_util_Optional) ?_
  intro p e s m below meth c F K
  refine Go.cast (ef_op m o) ?_
  refine Go.aloadN K d_jdk_32_method_6_0 rfl rfl (pc' := 1) rfl ?_
  refine Go.getF K (host := "") (Or.inl (hw _ (List.mem_of_getElem? (i := 50) rfl))) Via.refl F_o d_jdk_32_method_6_1 (pc' := 4) rfl ?_
  refine Go.ifnullR K d_jdk_32_method_6_4 (pc' := 7) rfl ?_
  refine Go.iconst K (v := 1) d_jdk_32_method_6_7 rfl (pc' := 8) rfl ?_
  refine Go.goto K d_jdk_32_method_6_8 (pc' := 12) (by decide) (by decide) ?_
  exact Go.retN K (by simp) (by decide) (by decide) d_jdk_32_method_6_12 (fun _ _ _ _ => ⟨rfl, rfl⟩)
theorem ef_rc (m : MethodId) (o : Addr) : entryFrame m #[(.ref o)] 1 = mkF m 0 #[.val (.ref o)] [] := by first | (simp [entryFrame, mkF, argsToLocals, Value.category]; done) | rfl
theorem d_jdk_30_method_1_0 : decode jdk_30_method_1_code 0 = .ok (.aload_n 0, 1) := by decide +kernel
theorem d_jdk_30_method_1_1 : decode jdk_30_method_1_code 1 = .ok (.invokespecial 1, 3) := by decide +kernel
theorem d_jdk_30_method_1_4 : decode jdk_30_method_1_code 4 = .ok (.return_, 1) := by decide +kernel
theorem pn_java_lang_Record : plainName "java/lang/Record" = true := by first | (simp [plainName, overriddenIn]; done) | decide +kernel
set_option maxRecDepth 65536 in
set_option maxHeartbeats 40000000 in
theorem m_rc (l : Launch) (Z : State) (a0 : Array Value) (hw : ∀ d ∈ tables_1, d.before a0 Z = true) (h0 : Heap) (n0 : Nat) (Z0 : n0 ≤ h0.size) (o : Addr) :
    Met l Z [] (⟨"java/lang/Record", "<init>", "()V"⟩ : MethodName) jdk_30_method_1_code 1 none ({ frames := 1, cells := 0, slots := 0, locals := 14 } : Room) #[(.ref o)] h0 n0 (fun v h => v = none ∧ h0 = h) := by
  refine Met.of (plainFor_of_name pn_java_lang_Record) ?_
  intro p e s m below meth c F K
  refine Go.cast (ef_rc m o) ?_
  refine Go.aloadN K d_jdk_30_method_1_0 rfl rfl (pc' := 1) rfl ?_
  refine Go.initO K (hw _ (List.mem_of_getElem? (i := 17) rfl)) (hw _ (List.mem_of_getElem? (i := 18) rfl)) (hw _ (List.mem_of_getElem? (i := 19) rfl)) rfl (by decide) 0 (Nat.le_of_ble_eq_true rfl) (by decide) d_jdk_30_method_1_1 (pc' := 4) rfl ?_
  exact Go.retV K (by decide) (by decide) d_jdk_30_method_1_4 (fun _ _ _ _ => ⟨rfl, rfl⟩)
theorem ef_si (m : MethodId) (o : Addr) (pp : Addr) (f : Addr) (t : Addr) : entryFrame m #[(.ref o), (.ref pp), (.ref f), (.ref t)] 4 = mkF m 0 #[.val (.ref o), .val (.ref pp), .val (.ref f), .val (.ref t)] [] := by first | (simp [entryFrame, mkF, argsToLocals, Value.category]; done) | rfl
theorem d_prog_38_method_1_0 : decode prog_38_method_1_code 0 = .ok (.aload_n 0, 1) := by decide +kernel
theorem d_prog_38_method_1_1 : decode prog_38_method_1_code 1 = .ok (.invokespecial 1, 3) := by decide +kernel
theorem pd__28_29V : parseMethodDescriptor "()V" = some ⟨[], none⟩ := by decide +kernel
theorem d_prog_38_method_1_4 : decode prog_38_method_1_code 4 = .ok (.aload_n 1, 1) := by decide +kernel
theorem d_prog_38_method_1_5 : decode prog_38_method_1_code 5 = .ok (.ldc 7, 2) := by decide +kernel
theorem d_prog_38_method_1_7 : decode prog_38_method_1_code 7 = .ok (.invokestatic 9, 3) := by decide +kernel
theorem pd__28Ljava_2flang_2fObject_3bLjava_2flang_2fString_3b_29Ljava_2flang_2fObject_3b : parseMethodDescriptor "(Ljava/lang/Object;Ljava/lang/String;)Ljava/lang/Object;" = some ⟨[(.object "java/lang/Object"), (.object "java/lang/String")], some (.object "java/lang/Object")⟩ := by decide +kernel
theorem d_prog_38_method_1_10 : decode prog_38_method_1_code 10 = .ok (.pop, 1) := by decide +kernel
theorem d_prog_38_method_1_11 : decode prog_38_method_1_code 11 = .ok (.aload_n 2, 1) := by decide +kernel
theorem d_prog_38_method_1_12 : decode prog_38_method_1_code 12 = .ok (.ldc 15, 2) := by decide +kernel
theorem d_prog_38_method_1_14 : decode prog_38_method_1_code 14 = .ok (.invokestatic 9, 3) := by decide +kernel
theorem d_prog_38_method_1_17 : decode prog_38_method_1_code 17 = .ok (.pop, 1) := by decide +kernel
theorem d_prog_38_method_1_18 : decode prog_38_method_1_code 18 = .ok (.aload_n 3, 1) := by decide +kernel
theorem d_prog_38_method_1_19 : decode prog_38_method_1_code 19 = .ok (.ldc 17, 2) := by decide +kernel
theorem d_prog_38_method_1_21 : decode prog_38_method_1_code 21 = .ok (.invokestatic 9, 3) := by decide +kernel
theorem d_prog_38_method_1_24 : decode prog_38_method_1_code 24 = .ok (.pop, 1) := by decide +kernel
theorem d_prog_38_method_1_25 : decode prog_38_method_1_code 25 = .ok (.aload_n 0, 1) := by decide +kernel
theorem d_prog_38_method_1_26 : decode prog_38_method_1_code 26 = .ok (.aload_n 1, 1) := by decide +kernel
theorem d_prog_38_method_1_27 : decode prog_38_method_1_code 27 = .ok (.putfield 19, 3) := by decide +kernel
theorem d_prog_38_method_1_30 : decode prog_38_method_1_code 30 = .ok (.aload_n 0, 1) := by decide +kernel
theorem d_prog_38_method_1_31 : decode prog_38_method_1_code 31 = .ok (.aload_n 2, 1) := by decide +kernel
theorem d_prog_38_method_1_32 : decode prog_38_method_1_code 32 = .ok (.putfield 24, 3) := by decide +kernel
theorem d_prog_38_method_1_35 : decode prog_38_method_1_code 35 = .ok (.aload_n 0, 1) := by decide +kernel
theorem d_prog_38_method_1_36 : decode prog_38_method_1_code 36 = .ok (.aload_n 3, 1) := by decide +kernel
theorem d_prog_38_method_1_37 : decode prog_38_method_1_code 37 = .ok (.putfield 26, 3) := by decide +kernel
theorem d_prog_38_method_1_40 : decode prog_38_method_1_code 40 = .ok (.return_, 1) := by decide +kernel
theorem pn_com_example_chartwarden_chartwarden_trail_Selection : plainName "com/example/chartwarden/chartwarden/trail/Selection" = true := by first | (simp [plainName, overriddenIn]; done) | decide +kernel
set_option maxRecDepth 65536 in
set_option maxHeartbeats 40000000 in
theorem m_si (l : Launch) (Z : State) (a0 : Array Value) (hw : ∀ d ∈ tables_1, d.before a0 Z = true) (h0 : Heap) (n0 : Nat) (Z0 : n0 ≤ h0.size) (EL : List (String × Nat)) (wS : ∀ a ∈ Bundle.stringAtoms, a.before a0 Z = true) (hEL : EW Z a0 EL) (o pp f t : Addr) (E_o : Exa Z h0 o "com/example/chartwarden/chartwarden/trail/Selection") (F_patient : Fld Z h0 o "com/example/chartwarden/chartwarden/trail/Selection" "patient" "Ljava/util/Optional;" .null) (F_from : Fld Z h0 o "com/example/chartwarden/chartwarden/trail/Selection" "from" "Ljava/util/Optional;" .null) (F_to : Fld Z h0 o "com/example/chartwarden/chartwarden/trail/Selection" "to" "Ljava/util/Optional;" .null) (g_o : n0 ≤ o) :
    MetW l Z [] EL (⟨"com/example/chartwarden/chartwarden/trail/Selection", "<init>", "(Ljava/util/Optional;Ljava/util/Optional;Ljava/util/Optional;)V"⟩ : MethodName) prog_38_method_1_code 4 none ({ frames := 2, cells := 6, slots := 64, locals := 40 } : Room) #[(.ref o), (.ref pp), (.ref f), (.ref t)] h0 n0 (fun v h => v = none ∧ Keep h0 h [o] ∧ Exa Z h o "com/example/chartwarden/chartwarden/trail/Selection" ∧ Fld Z h o "com/example/chartwarden/chartwarden/trail/Selection" "from" "Ljava/util/Optional;" (.ref f) ∧ Fld Z h o "com/example/chartwarden/chartwarden/trail/Selection" "to" "Ljava/util/Optional;" (.ref t)) := by
  refine MetW.of (plainFor_of_name pn_com_example_chartwarden_chartwarden_trail_Selection) ?_
  intro p e s m below meth c vm0 B hS HC K
  have CR := CHr.refl HC
  refine Go.cast (ef_si m o pp f t) ?_
  have kc0 := Keep.refl h0 [o]
  refine Go.aloadN K d_prog_38_method_1_0 rfl rfl (pc' := 1) rfl ?_
  refine Go.callC K (y := (⟨"java/lang/Record", "<init>", "()V"⟩ : MethodName)) (W := 0) (kc := 0) (nc := 0) (a := o) rfl (mvT K.cz (hw _ (List.mem_of_getElem? (i := 12) rfl))) (mvT K.cz (hw _ (List.mem_of_getElem? (i := 13) rfl))) (mvT K.cz (hw _ (List.mem_of_getElem? (i := 16) rfl))) (by decide) ((m_rc l Z a0 hw h0 n0 Z0 o).pays (W := 0) K.cz (hw _ (List.mem_of_getElem? (i := 16) rfl)) (hw _ (List.mem_of_getElem? (i := 15) rfl)) (by decide) (by decide)) rfl (argsL := []) (rest := []) (lenOf pd__28_29V rfl) rfl (Nat.le_of_ble_eq_true rfl) (by decide) (by decide) frOf grOf d_prog_38_method_1_1 (pc' := 4) rfl ?_
  rintro v28 h26 Lc27 ⟨⟨⟨rfl, eh⟩, -⟩, -⟩
  obtain rfl := eh
  show Go p l e _ _ m _ below meth c _ _ _ _ h0 _ _ (mkF m 4 #[.val (.ref o), .val (.ref pp), .val (.ref f), .val (.ref t)] [])
  refine Go.aloadN K d_prog_38_method_1_4 rfl rfl (pc' := 5) rfl ?_
  refine Go.ldcO K hS (i := 28) (hw _ (List.mem_of_getElem? (i := 20) rfl)) wS hEL CR.1 (by decide) (by decide) (by decide) (by decide) d_prog_38_method_1_5 (pc' := 7) rfl ?_
  intro c0 vm32 h29 B33 E30 hr31 hS K
  have f38 := E_o.ext E30
  have f39 := F_patient.ext E30
  have f40 := F_from.ext E30
  have f41 := F_to.ext E30
  have z42 := Nat.le_trans Z0 E30.1
  have cr43 := CR.trans (hr31)
  have kc44 := kc0.ext E30
  refine Go.callS K (y := (⟨"java/util/Objects", "requireNonNull", "(Ljava/lang/Object;Ljava/lang/String;)Ljava/lang/Object;"⟩ : MethodName)) (W := 0) (kc := 0) (nc := 0) (mvT K.cz (hw _ (List.mem_of_getElem? (i := 28) rfl))) (mvT K.cz (hw _ (List.mem_of_getElem? (i := 29) rfl))) (mvT K.cz (hw _ (List.mem_of_getElem? (i := 30) rfl))) (mvT K.cz (hw _ (List.mem_of_getElem? (i := 31) rfl))) (by decide) ((m_rnn2 l Z a0 hw h29 n0 z42 pp c0).pays (W := 0) K.cz (hw _ (List.mem_of_getElem? (i := 31) rfl)) (hw _ (List.mem_of_getElem? (i := 30) rfl)) (by decide) (by decide)) rfl (argsL := [(.ref pp), (.ref c0)]) (rest := []) (lenOf pd__28Ljava_2flang_2fObject_3bLjava_2flang_2fString_3b_29Ljava_2flang_2fObject_3b rfl) rfl (Nat.le_of_ble_eq_true rfl) (by decide) (by decide) frOf grOf d_prog_38_method_1_7 (pc' := 10) rfl ?_
  rintro v47 h45 Lc46 ⟨⟨⟨rfl, eh⟩, -⟩, -⟩
  obtain rfl := eh
  show Go p l e _ _ m _ below meth c _ _ _ _ h29 _ _ (mkF m 10 #[.val (.ref o), .val (.ref pp), .val (.ref f), .val (.ref t)] [(.ref pp)])
  refine Go.pop K d_prog_38_method_1_10 rfl (pc' := 11) rfl ?_
  refine Go.aloadN K d_prog_38_method_1_11 rfl rfl (pc' := 12) rfl ?_
  refine Go.ldcO K hS (i := 16) (hw _ (List.mem_of_getElem? (i := 32) rfl)) wS hEL cr43.1 (by decide) (by decide) (by decide) (by decide) d_prog_38_method_1_12 (pc' := 14) rfl ?_
  intro c1 vm51 h48 B52 E49 hr50 hS K
  have f57 := f38.ext E49
  have f58 := f39.ext E49
  have f59 := f40.ext E49
  have f60 := f41.ext E49
  have z61 := Nat.le_trans z42 E49.1
  have cr62 := cr43.trans (hr50)
  have kc63 := kc44.ext E49
  refine Go.callS K (y := (⟨"java/util/Objects", "requireNonNull", "(Ljava/lang/Object;Ljava/lang/String;)Ljava/lang/Object;"⟩ : MethodName)) (W := 0) (kc := 0) (nc := 0) (mvT K.cz (hw _ (List.mem_of_getElem? (i := 28) rfl))) (mvT K.cz (hw _ (List.mem_of_getElem? (i := 29) rfl))) (mvT K.cz (hw _ (List.mem_of_getElem? (i := 30) rfl))) (mvT K.cz (hw _ (List.mem_of_getElem? (i := 31) rfl))) (by decide) ((m_rnn2 l Z a0 hw h48 n0 z61 f c1).pays (W := 0) K.cz (hw _ (List.mem_of_getElem? (i := 31) rfl)) (hw _ (List.mem_of_getElem? (i := 30) rfl)) (by decide) (by decide)) rfl (argsL := [(.ref f), (.ref c1)]) (rest := []) (lenOf pd__28Ljava_2flang_2fObject_3bLjava_2flang_2fString_3b_29Ljava_2flang_2fObject_3b rfl) rfl (Nat.le_of_ble_eq_true rfl) (by decide) (by decide) frOf grOf d_prog_38_method_1_14 (pc' := 17) rfl ?_
  rintro v66 h64 Lc65 ⟨⟨⟨rfl, eh⟩, -⟩, -⟩
  obtain rfl := eh
  show Go p l e _ _ m _ below meth c _ _ _ _ h48 _ _ (mkF m 17 #[.val (.ref o), .val (.ref pp), .val (.ref f), .val (.ref t)] [(.ref f)])
  refine Go.pop K d_prog_38_method_1_17 rfl (pc' := 18) rfl ?_
  refine Go.aloadN K d_prog_38_method_1_18 rfl rfl (pc' := 19) rfl ?_
  refine Go.ldcO K hS (i := 8) (hw _ (List.mem_of_getElem? (i := 33) rfl)) wS hEL cr62.1 (by decide) (by decide) (by decide) (by decide) d_prog_38_method_1_19 (pc' := 21) rfl ?_
  intro c2 vm70 h67 B71 E68 hr69 hS K
  have f76 := f57.ext E68
  have f77 := f58.ext E68
  have f78 := f59.ext E68
  have f79 := f60.ext E68
  have z80 := Nat.le_trans z61 E68.1
  have cr81 := cr62.trans (hr69)
  have kc82 := kc63.ext E68
  refine Go.callS K (y := (⟨"java/util/Objects", "requireNonNull", "(Ljava/lang/Object;Ljava/lang/String;)Ljava/lang/Object;"⟩ : MethodName)) (W := 0) (kc := 0) (nc := 0) (mvT K.cz (hw _ (List.mem_of_getElem? (i := 28) rfl))) (mvT K.cz (hw _ (List.mem_of_getElem? (i := 29) rfl))) (mvT K.cz (hw _ (List.mem_of_getElem? (i := 30) rfl))) (mvT K.cz (hw _ (List.mem_of_getElem? (i := 31) rfl))) (by decide) ((m_rnn2 l Z a0 hw h67 n0 z80 t c2).pays (W := 0) K.cz (hw _ (List.mem_of_getElem? (i := 31) rfl)) (hw _ (List.mem_of_getElem? (i := 30) rfl)) (by decide) (by decide)) rfl (argsL := [(.ref t), (.ref c2)]) (rest := []) (lenOf pd__28Ljava_2flang_2fObject_3bLjava_2flang_2fString_3b_29Ljava_2flang_2fObject_3b rfl) rfl (Nat.le_of_ble_eq_true rfl) (by decide) (by decide) frOf grOf d_prog_38_method_1_21 (pc' := 24) rfl ?_
  rintro v85 h83 Lc84 ⟨⟨⟨rfl, eh⟩, -⟩, -⟩
  obtain rfl := eh
  show Go p l e _ _ m _ below meth c _ _ _ _ h67 _ _ (mkF m 24 #[.val (.ref o), .val (.ref pp), .val (.ref f), .val (.ref t)] [(.ref t)])
  refine Go.pop K d_prog_38_method_1_24 rfl (pc' := 25) rfl ?_
  refine Go.aloadN K d_prog_38_method_1_25 rfl rfl (pc' := 26) rfl ?_
  refine Go.aloadN K d_prog_38_method_1_26 rfl rfl (pc' := 27) rfl ?_
  refine Go.putF K (host := "") (Or.inl (hw _ (List.mem_of_getElem? (i := 34) rfl))) Via.refl f77 f76 (Or.inr ⟨(hw _ (List.mem_of_getElem? (i := 35) rfl)), rfl, rfl⟩) (hw _ (List.mem_of_getElem? (i := 7) rfl)) (ty := (.object "java/util/Optional")) (by decide) rfl rfl g_o d_prog_38_method_1_27 (pc' := 30) rfl ?_
  intro h86 W87 f88
  have f89 := f78.other W87 (Or.inr (slot_ne (Or.inr (hw _ (List.mem_of_getElem? (i := 37) rfl))) (Or.inr (hw _ (List.mem_of_getElem? (i := 35) rfl))) (by decide) (t := (.object "java/util/Optional")) (t' := (.object "java/util/Optional")) (by decide) (by decide)))
  have f90 := f79.other W87 (Or.inr (slot_ne (Or.inr (hw _ (List.mem_of_getElem? (i := 39) rfl))) (Or.inr (hw _ (List.mem_of_getElem? (i := 35) rfl))) (by decide) (t := (.object "java/util/Optional")) (t' := (.object "java/util/Optional")) (by decide) (by decide)))
  have K91 := Keep.of_wr W87
  have cr92 := cr81.trans (CHr.keep K91 (sfS (Safe.exa K.cz.alike f76 (by decide) (by decide)) sf0) cr81.1)
  have f93 := f76.keep K91
  have z97 := Nat.le_trans z80 K91.1
  have kc98 := kc82.trans K91 (allS (Or.inl (List.mem_of_getElem? (i := 0) rfl)) all0)
  refine Go.aloadN K d_prog_38_method_1_30 rfl rfl (pc' := 31) rfl ?_
  refine Go.aloadN K d_prog_38_method_1_31 rfl rfl (pc' := 32) rfl ?_
  refine Go.putF K (host := "") (Or.inl (hw _ (List.mem_of_getElem? (i := 36) rfl))) Via.refl f89 f93 (Or.inr ⟨(hw _ (List.mem_of_getElem? (i := 37) rfl)), rfl, rfl⟩) (hw _ (List.mem_of_getElem? (i := 7) rfl)) (ty := (.object "java/util/Optional")) (by decide) rfl rfl g_o d_prog_38_method_1_32 (pc' := 35) rfl ?_
  intro h99 W100 f101
  have f102 := f90.other W100 (Or.inr (slot_ne (Or.inr (hw _ (List.mem_of_getElem? (i := 39) rfl))) (Or.inr (hw _ (List.mem_of_getElem? (i := 37) rfl))) (by decide) (t := (.object "java/util/Optional")) (t' := (.object "java/util/Optional")) (by decide) (by decide)))
  have f103 := f88.other W100 (Or.inr (slot_ne (Or.inr (hw _ (List.mem_of_getElem? (i := 35) rfl))) (Or.inr (hw _ (List.mem_of_getElem? (i := 37) rfl))) (by decide) (t := (.object "java/util/Optional")) (t' := (.object "java/util/Optional")) (by decide) (by decide)))
  have K104 := Keep.of_wr W100
  have cr105 := cr92.trans (CHr.keep K104 (sfS (Safe.exa K.cz.alike f93 (by decide) (by decide)) sf0) cr92.1)
  have f106 := f93.keep K104
  have z110 := Nat.le_trans z97 K104.1
  have kc111 := kc98.trans K104 (allS (Or.inl (List.mem_of_getElem? (i := 0) rfl)) all0)
  refine Go.aloadN K d_prog_38_method_1_35 rfl rfl (pc' := 36) rfl ?_
  refine Go.aloadN K d_prog_38_method_1_36 rfl rfl (pc' := 37) rfl ?_
  refine Go.putF K (host := "") (Or.inl (hw _ (List.mem_of_getElem? (i := 38) rfl))) Via.refl f102 f106 (Or.inr ⟨(hw _ (List.mem_of_getElem? (i := 39) rfl)), rfl, rfl⟩) (hw _ (List.mem_of_getElem? (i := 7) rfl)) (ty := (.object "java/util/Optional")) (by decide) rfl rfl g_o d_prog_38_method_1_37 (pc' := 40) rfl ?_
  intro h112 W113 f114
  have f115 := f103.other W113 (Or.inr (slot_ne (Or.inr (hw _ (List.mem_of_getElem? (i := 35) rfl))) (Or.inr (hw _ (List.mem_of_getElem? (i := 39) rfl))) (by decide) (t := (.object "java/util/Optional")) (t' := (.object "java/util/Optional")) (by decide) (by decide)))
  have f116 := f101.other W113 (Or.inr (slot_ne (Or.inr (hw _ (List.mem_of_getElem? (i := 37) rfl))) (Or.inr (hw _ (List.mem_of_getElem? (i := 39) rfl))) (by decide) (t := (.object "java/util/Optional")) (t' := (.object "java/util/Optional")) (by decide) (by decide)))
  have K117 := Keep.of_wr W113
  have cr118 := cr105.trans (CHr.keep K117 (sfS (Safe.exa K.cz.alike f106 (by decide) (by decide)) sf0) cr105.1)
  have f119 := f106.keep K117
  have z123 := Nat.le_trans z110 K117.1
  have kc124 := kc111.trans K117 (allS (Or.inl (List.mem_of_getElem? (i := 0) rfl)) all0)
  exact Go.retV K (by decide) (by decide) d_prog_38_method_1_40 (own_end hEL K.cz cr118 ⟨rfl, kc124, f119, f116, f114⟩)
theorem ef_tm (m : MethodId) (o : Addr) : entryFrame m #[(.ref o)] 1 = mkF m 0 #[.val (.ref o)] [] := by first | (simp [entryFrame, mkF, argsToLocals, Value.category]; done) | rfl
theorem d_prog_38_method_2_0 : decode prog_38_method_2_code 0 = .ok (.aload_n 0, 1) := by decide +kernel
theorem d_prog_38_method_2_1 : decode prog_38_method_2_code 1 = .ok (.getfield 24, 3) := by decide +kernel
theorem d_prog_38_method_2_4 : decode prog_38_method_2_code 4 = .ok (.invokevirtual 28, 3) := by decide +kernel
theorem pd__28_29Z : parseMethodDescriptor "()Z" = some ⟨[], some .boolean⟩ := by decide +kernel
theorem d_prog_38_method_2_7 : decode prog_38_method_2_code 7 = .ok (.ifCond .ne 13, 3) := by decide +kernel
theorem d_prog_38_method_2_10 : decode prog_38_method_2_code 10 = .ok (.aload_n 0, 1) := by decide +kernel
theorem d_prog_38_method_2_11 : decode prog_38_method_2_code 11 = .ok (.getfield 26, 3) := by decide +kernel
theorem d_prog_38_method_2_14 : decode prog_38_method_2_code 14 = .ok (.invokevirtual 28, 3) := by decide +kernel
theorem d_prog_38_method_2_17 : decode prog_38_method_2_code 17 = .ok (.ifCond .eq 7, 3) := by decide +kernel
theorem d_prog_38_method_2_24 : decode prog_38_method_2_code 24 = .ok (.iconst 0, 1) := by decide +kernel
theorem d_prog_38_method_2_25 : decode prog_38_method_2_code 25 = .ok (.ireturn, 1) := by decide +kernel
set_option maxRecDepth 65536 in
set_option maxHeartbeats 40000000 in
theorem m_tm00 (l : Launch) (Z : State) (a0 : Array Value) (hw : ∀ d ∈ tables_1, d.before a0 Z = true) (h0 : Heap) (n0 : Nat) (Z0 : n0 ≤ h0.size) (o f t vf vt : Addr) (E_o : Exa Z h0 o "com/example/chartwarden/chartwarden/trail/Selection") (F_f : Fld Z h0 o "com/example/chartwarden/chartwarden/trail/Selection" "from" "Ljava/util/Optional;" (.ref f)) (F_t : Fld Z h0 o "com/example/chartwarden/chartwarden/trail/Selection" "to" "Ljava/util/Optional;" (.ref t)) (E_f : Exa Z h0 f "java/util/Optional") (G_f : Fld Z h0 f "java/util/Optional" "value" "Ljava/lang/Object;" .null) (E_t : Exa Z h0 t "java/util/Optional") (G_t : Fld Z h0 t "java/util/Optional" "value" "Ljava/lang/Object;" .null) :
    Met l Z [] (⟨"com/example/chartwarden/chartwarden/trail/Selection", "timed", "()Z"⟩ : MethodName) prog_38_method_2_code 1 (some .boolean) ({ frames := 1, cells := 0, slots := 0, locals := 20 } : Room) #[(.ref o)] h0 n0 (fun v h => v = some (.int 0) ∧ h0 = h) := by
  refine Met.of (plainFor_of_name pn_com_example_chartwarden_chartwarden_trail_Selection) ?_
  intro p e s m below meth c F K
  refine Go.cast (ef_tm m o) ?_
  refine Go.aloadN K d_prog_38_method_2_0 rfl rfl (pc' := 1) rfl ?_
  refine Go.getF K (host := "") (Or.inl (hw _ (List.mem_of_getElem? (i := 36) rfl))) Via.refl F_f d_prog_38_method_2_1 (pc' := 4) rfl ?_
  refine Go.callV K (y := (⟨"java/util/Optional", "isPresent", "()Z"⟩ : MethodName)) (z := (⟨"java/util/Optional", "isPresent", "()Z"⟩ : MethodName)) (W := 0) (kc := 0) (nc := 0) (a := f) (mvT K.cz (hw _ (List.mem_of_getElem? (i := 45) rfl))) (mvT K.cz (hw _ (List.mem_of_getElem? (i := 46) rfl))) (notFace_of_selects (args := #[]) (mvT K.cz (hw _ (List.mem_of_getElem? (i := 48) rfl)))) (mvT K.cz (hw _ (List.mem_of_getElem? (i := 48) rfl))) (mvT K.cz (hw _ (List.mem_of_getElem? (i := 47) rfl))) (by decide) E_f ((m_op0 l Z a0 hw h0 n0 Z0 f vf E_f G_f).pays (W := 0) K.cz (hw _ (List.mem_of_getElem? (i := 49) rfl)) (hw _ (List.mem_of_getElem? (i := 3) rfl)) (by decide) (by decide)) rfl (argsL := []) (rest := []) (lenOf pd__28_29Z rfl) rfl (Nat.le_of_ble_eq_true rfl) (by decide) (by decide) frOf grOf d_prog_38_method_2_4 (pc' := 7) rfl ?_
  rintro v127 h125 Lc126 ⟨⟨⟨rfl, eh⟩, -⟩, -⟩
  obtain rfl := eh
  show Go p l e _ _ m _ below meth c _ _ _ _ h0 _ _ (mkF m 7 #[.val (.ref o)] [(.int (0 : Int32))])
  refine Go.ifc K d_prog_38_method_2_7 (by decide) (pcT := 20) (pcF := 10) (by decide) rfl (fun h7 => ?_) (fun h7 => ?_)
  · replace h7 : ¬ (0 : Int32) = 0 := h7
    exact absurd rfl h7
  · replace h7 : ¬ (¬ (0 : Int32) = 0) := h7
    refine Go.aloadN K d_prog_38_method_2_10 rfl rfl (pc' := 11) rfl ?_
    refine Go.getF K (host := "") (Or.inl (hw _ (List.mem_of_getElem? (i := 38) rfl))) Via.refl F_t d_prog_38_method_2_11 (pc' := 14) rfl ?_
    refine Go.callV K (y := (⟨"java/util/Optional", "isPresent", "()Z"⟩ : MethodName)) (z := (⟨"java/util/Optional", "isPresent", "()Z"⟩ : MethodName)) (W := 0) (kc := 0) (nc := 0) (a := t) (mvT K.cz (hw _ (List.mem_of_getElem? (i := 45) rfl))) (mvT K.cz (hw _ (List.mem_of_getElem? (i := 46) rfl))) (notFace_of_selects (args := #[]) (mvT K.cz (hw _ (List.mem_of_getElem? (i := 48) rfl)))) (mvT K.cz (hw _ (List.mem_of_getElem? (i := 48) rfl))) (mvT K.cz (hw _ (List.mem_of_getElem? (i := 47) rfl))) (by decide) E_t ((m_op0 l Z a0 hw h0 n0 Z0 t vt E_t G_t).pays (W := 0) K.cz (hw _ (List.mem_of_getElem? (i := 49) rfl)) (hw _ (List.mem_of_getElem? (i := 3) rfl)) (by decide) (by decide)) rfl (argsL := []) (rest := []) (lenOf pd__28_29Z rfl) rfl (Nat.le_of_ble_eq_true rfl) (by decide) (by decide) frOf grOf d_prog_38_method_2_14 (pc' := 17) rfl ?_
    rintro v130 h128 Lc129 ⟨⟨⟨rfl, eh⟩, -⟩, -⟩
    obtain rfl := eh
    show Go p l e _ _ m _ below meth c _ _ _ _ h0 _ _ (mkF m 17 #[.val (.ref o)] [(.int (0 : Int32))])
    refine Go.ifc K d_prog_38_method_2_17 (by decide) (pcT := 24) (pcF := 20) (by decide) rfl (fun h17 => ?_) (fun h17 => ?_)
    · replace h17 : (0 : Int32) = 0 := h17
      refine Go.iconst K (v := 0) d_prog_38_method_2_24 rfl (pc' := 25) rfl ?_
      exact Go.retN K (by simp) (by decide) (by decide) d_prog_38_method_2_25 (fun _ _ _ _ => ⟨rfl, rfl⟩)
    · replace h17 : ¬ ((0 : Int32) = 0) := h17
      exact absurd rfl h17
theorem d_prog_38_method_2_20 : decode prog_38_method_2_code 20 = .ok (.iconst 1, 1) := by decide +kernel
theorem d_prog_38_method_2_21 : decode prog_38_method_2_code 21 = .ok (.goto 4, 3) := by decide +kernel
set_option maxRecDepth 65536 in
set_option maxHeartbeats 40000000 in
theorem m_tm01 (l : Launch) (Z : State) (a0 : Array Value) (hw : ∀ d ∈ tables_1, d.before a0 Z = true) (h0 : Heap) (n0 : Nat) (Z0 : n0 ≤ h0.size) (o f t vf vt : Addr) (E_o : Exa Z h0 o "com/example/chartwarden/chartwarden/trail/Selection") (F_f : Fld Z h0 o "com/example/chartwarden/chartwarden/trail/Selection" "from" "Ljava/util/Optional;" (.ref f)) (F_t : Fld Z h0 o "com/example/chartwarden/chartwarden/trail/Selection" "to" "Ljava/util/Optional;" (.ref t)) (E_f : Exa Z h0 f "java/util/Optional") (G_f : Fld Z h0 f "java/util/Optional" "value" "Ljava/lang/Object;" .null) (E_t : Exa Z h0 t "java/util/Optional") (G_t : Fld Z h0 t "java/util/Optional" "value" "Ljava/lang/Object;" (.ref vt)) :
    Met l Z [] (⟨"com/example/chartwarden/chartwarden/trail/Selection", "timed", "()Z"⟩ : MethodName) prog_38_method_2_code 1 (some .boolean) ({ frames := 1, cells := 0, slots := 0, locals := 20 } : Room) #[(.ref o)] h0 n0 (fun v h => v = some (.int 1) ∧ h0 = h) := by
  refine Met.of (plainFor_of_name pn_com_example_chartwarden_chartwarden_trail_Selection) ?_
  intro p e s m below meth c F K
  refine Go.cast (ef_tm m o) ?_
  refine Go.aloadN K d_prog_38_method_2_0 rfl rfl (pc' := 1) rfl ?_
  refine Go.getF K (host := "") (Or.inl (hw _ (List.mem_of_getElem? (i := 36) rfl))) Via.refl F_f d_prog_38_method_2_1 (pc' := 4) rfl ?_
  refine Go.callV K (y := (⟨"java/util/Optional", "isPresent", "()Z"⟩ : MethodName)) (z := (⟨"java/util/Optional", "isPresent", "()Z"⟩ : MethodName)) (W := 0) (kc := 0) (nc := 0) (a := f) (mvT K.cz (hw _ (List.mem_of_getElem? (i := 45) rfl))) (mvT K.cz (hw _ (List.mem_of_getElem? (i := 46) rfl))) (notFace_of_selects (args := #[]) (mvT K.cz (hw _ (List.mem_of_getElem? (i := 48) rfl)))) (mvT K.cz (hw _ (List.mem_of_getElem? (i := 48) rfl))) (mvT K.cz (hw _ (List.mem_of_getElem? (i := 47) rfl))) (by decide) E_f ((m_op0 l Z a0 hw h0 n0 Z0 f vf E_f G_f).pays (W := 0) K.cz (hw _ (List.mem_of_getElem? (i := 49) rfl)) (hw _ (List.mem_of_getElem? (i := 3) rfl)) (by decide) (by decide)) rfl (argsL := []) (rest := []) (lenOf pd__28_29Z rfl) rfl (Nat.le_of_ble_eq_true rfl) (by decide) (by decide) frOf grOf d_prog_38_method_2_4 (pc' := 7) rfl ?_
  rintro v133 h131 Lc132 ⟨⟨⟨rfl, eh⟩, -⟩, -⟩
  obtain rfl := eh
  show Go p l e _ _ m _ below meth c _ _ _ _ h0 _ _ (mkF m 7 #[.val (.ref o)] [(.int (0 : Int32))])
  refine Go.ifc K d_prog_38_method_2_7 (by decide) (pcT := 20) (pcF := 10) (by decide) rfl (fun h7 => ?_) (fun h7 => ?_)
  · replace h7 : ¬ (0 : Int32) = 0 := h7
    exact absurd rfl h7
  · replace h7 : ¬ (¬ (0 : Int32) = 0) := h7
    refine Go.aloadN K d_prog_38_method_2_10 rfl rfl (pc' := 11) rfl ?_
    refine Go.getF K (host := "") (Or.inl (hw _ (List.mem_of_getElem? (i := 38) rfl))) Via.refl F_t d_prog_38_method_2_11 (pc' := 14) rfl ?_
    refine Go.callV K (y := (⟨"java/util/Optional", "isPresent", "()Z"⟩ : MethodName)) (z := (⟨"java/util/Optional", "isPresent", "()Z"⟩ : MethodName)) (W := 0) (kc := 0) (nc := 0) (a := t) (mvT K.cz (hw _ (List.mem_of_getElem? (i := 45) rfl))) (mvT K.cz (hw _ (List.mem_of_getElem? (i := 46) rfl))) (notFace_of_selects (args := #[]) (mvT K.cz (hw _ (List.mem_of_getElem? (i := 48) rfl)))) (mvT K.cz (hw _ (List.mem_of_getElem? (i := 48) rfl))) (mvT K.cz (hw _ (List.mem_of_getElem? (i := 47) rfl))) (by decide) E_t ((m_op1 l Z a0 hw h0 n0 Z0 t vt E_t G_t).pays (W := 0) K.cz (hw _ (List.mem_of_getElem? (i := 49) rfl)) (hw _ (List.mem_of_getElem? (i := 3) rfl)) (by decide) (by decide)) rfl (argsL := []) (rest := []) (lenOf pd__28_29Z rfl) rfl (Nat.le_of_ble_eq_true rfl) (by decide) (by decide) frOf grOf d_prog_38_method_2_14 (pc' := 17) rfl ?_
    rintro v136 h134 Lc135 ⟨⟨⟨rfl, eh⟩, -⟩, -⟩
    obtain rfl := eh
    show Go p l e _ _ m _ below meth c _ _ _ _ h0 _ _ (mkF m 17 #[.val (.ref o)] [(.int (1 : Int32))])
    refine Go.ifc K d_prog_38_method_2_17 (by decide) (pcT := 24) (pcF := 20) (by decide) rfl (fun h17 => ?_) (fun h17 => ?_)
    · replace h17 : (1 : Int32) = 0 := h17
      exact absurd h17 (by decide)
    · replace h17 : ¬ ((1 : Int32) = 0) := h17
      refine Go.iconst K (v := 1) d_prog_38_method_2_20 rfl (pc' := 21) rfl ?_
      refine Go.goto K d_prog_38_method_2_21 (pc' := 25) (by decide) (by decide) ?_
      exact Go.retN K (by simp) (by decide) (by decide) d_prog_38_method_2_25 (fun _ _ _ _ => ⟨rfl, rfl⟩)
set_option maxRecDepth 65536 in
set_option maxHeartbeats 40000000 in
theorem m_tm10 (l : Launch) (Z : State) (a0 : Array Value) (hw : ∀ d ∈ tables_1, d.before a0 Z = true) (h0 : Heap) (n0 : Nat) (Z0 : n0 ≤ h0.size) (o f t vf vt : Addr) (E_o : Exa Z h0 o "com/example/chartwarden/chartwarden/trail/Selection") (F_f : Fld Z h0 o "com/example/chartwarden/chartwarden/trail/Selection" "from" "Ljava/util/Optional;" (.ref f)) (F_t : Fld Z h0 o "com/example/chartwarden/chartwarden/trail/Selection" "to" "Ljava/util/Optional;" (.ref t)) (E_f : Exa Z h0 f "java/util/Optional") (G_f : Fld Z h0 f "java/util/Optional" "value" "Ljava/lang/Object;" (.ref vf)) (E_t : Exa Z h0 t "java/util/Optional") (G_t : Fld Z h0 t "java/util/Optional" "value" "Ljava/lang/Object;" .null) :
    Met l Z [] (⟨"com/example/chartwarden/chartwarden/trail/Selection", "timed", "()Z"⟩ : MethodName) prog_38_method_2_code 1 (some .boolean) ({ frames := 1, cells := 0, slots := 0, locals := 20 } : Room) #[(.ref o)] h0 n0 (fun v h => v = some (.int 1) ∧ h0 = h) := by
  refine Met.of (plainFor_of_name pn_com_example_chartwarden_chartwarden_trail_Selection) ?_
  intro p e s m below meth c F K
  refine Go.cast (ef_tm m o) ?_
  refine Go.aloadN K d_prog_38_method_2_0 rfl rfl (pc' := 1) rfl ?_
  refine Go.getF K (host := "") (Or.inl (hw _ (List.mem_of_getElem? (i := 36) rfl))) Via.refl F_f d_prog_38_method_2_1 (pc' := 4) rfl ?_
  refine Go.callV K (y := (⟨"java/util/Optional", "isPresent", "()Z"⟩ : MethodName)) (z := (⟨"java/util/Optional", "isPresent", "()Z"⟩ : MethodName)) (W := 0) (kc := 0) (nc := 0) (a := f) (mvT K.cz (hw _ (List.mem_of_getElem? (i := 45) rfl))) (mvT K.cz (hw _ (List.mem_of_getElem? (i := 46) rfl))) (notFace_of_selects (args := #[]) (mvT K.cz (hw _ (List.mem_of_getElem? (i := 48) rfl)))) (mvT K.cz (hw _ (List.mem_of_getElem? (i := 48) rfl))) (mvT K.cz (hw _ (List.mem_of_getElem? (i := 47) rfl))) (by decide) E_f ((m_op1 l Z a0 hw h0 n0 Z0 f vf E_f G_f).pays (W := 0) K.cz (hw _ (List.mem_of_getElem? (i := 49) rfl)) (hw _ (List.mem_of_getElem? (i := 3) rfl)) (by decide) (by decide)) rfl (argsL := []) (rest := []) (lenOf pd__28_29Z rfl) rfl (Nat.le_of_ble_eq_true rfl) (by decide) (by decide) frOf grOf d_prog_38_method_2_4 (pc' := 7) rfl ?_
  rintro v139 h137 Lc138 ⟨⟨⟨rfl, eh⟩, -⟩, -⟩
  obtain rfl := eh
  show Go p l e _ _ m _ below meth c _ _ _ _ h0 _ _ (mkF m 7 #[.val (.ref o)] [(.int (1 : Int32))])
  refine Go.ifc K d_prog_38_method_2_7 (by decide) (pcT := 20) (pcF := 10) (by decide) rfl (fun h7 => ?_) (fun h7 => ?_)
  · replace h7 : ¬ (1 : Int32) = 0 := h7
    refine Go.iconst K (v := 1) d_prog_38_method_2_20 rfl (pc' := 21) rfl ?_
    refine Go.goto K d_prog_38_method_2_21 (pc' := 25) (by decide) (by decide) ?_
    exact Go.retN K (by simp) (by decide) (by decide) d_prog_38_method_2_25 (fun _ _ _ _ => ⟨rfl, rfl⟩)
  · replace h7 : ¬ (¬ (1 : Int32) = 0) := h7
    exact absurd (by decide) h7
set_option maxRecDepth 65536 in
set_option maxHeartbeats 40000000 in
theorem m_tm11 (l : Launch) (Z : State) (a0 : Array Value) (hw : ∀ d ∈ tables_1, d.before a0 Z = true) (h0 : Heap) (n0 : Nat) (Z0 : n0 ≤ h0.size) (o f t vf vt : Addr) (E_o : Exa Z h0 o "com/example/chartwarden/chartwarden/trail/Selection") (F_f : Fld Z h0 o "com/example/chartwarden/chartwarden/trail/Selection" "from" "Ljava/util/Optional;" (.ref f)) (F_t : Fld Z h0 o "com/example/chartwarden/chartwarden/trail/Selection" "to" "Ljava/util/Optional;" (.ref t)) (E_f : Exa Z h0 f "java/util/Optional") (G_f : Fld Z h0 f "java/util/Optional" "value" "Ljava/lang/Object;" (.ref vf)) (E_t : Exa Z h0 t "java/util/Optional") (G_t : Fld Z h0 t "java/util/Optional" "value" "Ljava/lang/Object;" (.ref vt)) :
    Met l Z [] (⟨"com/example/chartwarden/chartwarden/trail/Selection", "timed", "()Z"⟩ : MethodName) prog_38_method_2_code 1 (some .boolean) ({ frames := 1, cells := 0, slots := 0, locals := 20 } : Room) #[(.ref o)] h0 n0 (fun v h => v = some (.int 1) ∧ h0 = h) := by
  refine Met.of (plainFor_of_name pn_com_example_chartwarden_chartwarden_trail_Selection) ?_
  intro p e s m below meth c F K
  refine Go.cast (ef_tm m o) ?_
  refine Go.aloadN K d_prog_38_method_2_0 rfl rfl (pc' := 1) rfl ?_
  refine Go.getF K (host := "") (Or.inl (hw _ (List.mem_of_getElem? (i := 36) rfl))) Via.refl F_f d_prog_38_method_2_1 (pc' := 4) rfl ?_
  refine Go.callV K (y := (⟨"java/util/Optional", "isPresent", "()Z"⟩ : MethodName)) (z := (⟨"java/util/Optional", "isPresent", "()Z"⟩ : MethodName)) (W := 0) (kc := 0) (nc := 0) (a := f) (mvT K.cz (hw _ (List.mem_of_getElem? (i := 45) rfl))) (mvT K.cz (hw _ (List.mem_of_getElem? (i := 46) rfl))) (notFace_of_selects (args := #[]) (mvT K.cz (hw _ (List.mem_of_getElem? (i := 48) rfl)))) (mvT K.cz (hw _ (List.mem_of_getElem? (i := 48) rfl))) (mvT K.cz (hw _ (List.mem_of_getElem? (i := 47) rfl))) (by decide) E_f ((m_op1 l Z a0 hw h0 n0 Z0 f vf E_f G_f).pays (W := 0) K.cz (hw _ (List.mem_of_getElem? (i := 49) rfl)) (hw _ (List.mem_of_getElem? (i := 3) rfl)) (by decide) (by decide)) rfl (argsL := []) (rest := []) (lenOf pd__28_29Z rfl) rfl (Nat.le_of_ble_eq_true rfl) (by decide) (by decide) frOf grOf d_prog_38_method_2_4 (pc' := 7) rfl ?_
  rintro v142 h140 Lc141 ⟨⟨⟨rfl, eh⟩, -⟩, -⟩
  obtain rfl := eh
  show Go p l e _ _ m _ below meth c _ _ _ _ h0 _ _ (mkF m 7 #[.val (.ref o)] [(.int (1 : Int32))])
  refine Go.ifc K d_prog_38_method_2_7 (by decide) (pcT := 20) (pcF := 10) (by decide) rfl (fun h7 => ?_) (fun h7 => ?_)
  · replace h7 : ¬ (1 : Int32) = 0 := h7
    refine Go.iconst K (v := 1) d_prog_38_method_2_20 rfl (pc' := 21) rfl ?_
    refine Go.goto K d_prog_38_method_2_21 (pc' := 25) (by decide) (by decide) ?_
    exact Go.retN K (by simp) (by decide) (by decide) d_prog_38_method_2_25 (fun _ _ _ _ => ⟨rfl, rfl⟩)
  · replace h7 : ¬ (¬ (1 : Int32) = 0) := h7
    exact absurd (by decide) h7
theorem ef_ii (m : MethodId) (o : Addr) (q : Int64) (i : Int32) : entryFrame m #[(.ref o), (.long q), (.int i)] 4 = mkF m 0 #[.val (.ref o), .val (.long q), .second, .val (.int i)] [] := by first | (simp [entryFrame, mkF, argsToLocals, Value.category]; done) | rfl
theorem d_jdk_2320_method_9_0 : decode jdk_2320_method_9_code 0 = .ok (.aload_n 0, 1) := by decide +kernel
theorem d_jdk_2320_method_9_1 : decode jdk_2320_method_9_code 1 = .ok (.invokespecial 137, 3) := by decide +kernel
theorem d_jdk_2320_method_9_4 : decode jdk_2320_method_9_code 4 = .ok (.aload_n 0, 1) := by decide +kernel
theorem d_jdk_2320_method_9_5 : decode jdk_2320_method_9_code 5 = .ok (.lload_n 1, 1) := by decide +kernel
theorem d_jdk_2320_method_9_6 : decode jdk_2320_method_9_code 6 = .ok (.putfield 140, 3) := by decide +kernel
theorem d_jdk_2320_method_9_9 : decode jdk_2320_method_9_code 9 = .ok (.aload_n 0, 1) := by decide +kernel
theorem d_jdk_2320_method_9_10 : decode jdk_2320_method_9_code 10 = .ok (.iload_n 3, 1) := by decide +kernel
theorem d_jdk_2320_method_9_11 : decode jdk_2320_method_9_code 11 = .ok (.putfield 144, 3) := by decide +kernel
theorem d_jdk_2320_method_9_14 : decode jdk_2320_method_9_code 14 = .ok (.return_, 1) := by decide +kernel
theorem pn_java_time_Instant : plainName "java/time/Instant" = true := by first | (simp [plainName, overriddenIn]; done) | decide +kernel
set_option maxRecDepth 65536 in
set_option maxHeartbeats 40000000 in
theorem m_ii (l : Launch) (Z : State) (a0 : Array Value) (hw : ∀ d ∈ tables_1, d.before a0 Z = true) (h0 : Heap) (n0 : Nat) (Z0 : n0 ≤ h0.size) (o : Addr) (q : Int64) (i : Int32) (E_o : Exa Z h0 o "java/time/Instant") (F_s : Fld Z h0 o "java/time/Instant" "seconds" "J" (.long (0 : Int64))) (F_n : Fld Z h0 o "java/time/Instant" "nanos" "I" (.int (0 : Int32))) (g_o : n0 ≤ o) :
    Met l Z [] (⟨"java/time/Instant", "<init>", "(JI)V"⟩ : MethodName) jdk_2320_method_9_code 4 none ({ frames := 1, cells := 0, slots := 0, locals := 14 } : Room) #[(.ref o), (.long q), (.int i)] h0 n0 (fun v h => v = none ∧ Keep h0 h [o]) := by
  refine Met.of (plainFor_of_name pn_java_time_Instant) ?_
  intro p e s m below meth c F K
  refine Go.cast (ef_ii m o q i) ?_
  have kc0 := Keep.refl h0 [o]
  refine Go.aloadN K d_jdk_2320_method_9_0 rfl rfl (pc' := 1) rfl ?_
  refine Go.initO K (hw _ (List.mem_of_getElem? (i := 108) rfl)) (hw _ (List.mem_of_getElem? (i := 18) rfl)) (hw _ (List.mem_of_getElem? (i := 19) rfl)) rfl (by decide) 0 (Nat.le_of_ble_eq_true rfl) (by decide) d_jdk_2320_method_9_1 (pc' := 4) rfl ?_
  refine Go.aloadN K d_jdk_2320_method_9_4 rfl rfl (pc' := 5) rfl ?_
  refine Go.lloadN K d_jdk_2320_method_9_5 rfl (pc' := 6) rfl ?_
  refine Go.putF K (host := "") (Or.inl (hw _ (List.mem_of_getElem? (i := 109) rfl))) Via.refl F_s E_o (Or.inr ⟨(hw _ (List.mem_of_getElem? (i := 110) rfl)), rfl, rfl⟩) (hw _ (List.mem_of_getElem? (i := 103) rfl)) (ty := .long) (by decide) rfl rfl g_o d_jdk_2320_method_9_6 (pc' := 9) rfl ?_
  intro h143 W144 f145
  have f146 := F_n.other W144 (Or.inr (slot_ne (Or.inr (hw _ (List.mem_of_getElem? (i := 112) rfl))) (Or.inr (hw _ (List.mem_of_getElem? (i := 110) rfl))) (by decide) (t := .int) (t' := .long) (by decide) (by decide)))
  have K147 := Keep.of_wr W144
  have f148 := E_o.keep K147
  have z151 := Nat.le_trans Z0 K147.1
  have kc152 := kc0.trans K147 (allS (Or.inl (List.mem_of_getElem? (i := 0) rfl)) all0)
  refine Go.aloadN K d_jdk_2320_method_9_9 rfl rfl (pc' := 10) rfl ?_
  refine Go.iloadN K d_jdk_2320_method_9_10 rfl (pc' := 11) rfl ?_
  refine Go.putF K (host := "") (Or.inl (hw _ (List.mem_of_getElem? (i := 111) rfl))) Via.refl f146 f148 (Or.inr ⟨(hw _ (List.mem_of_getElem? (i := 112) rfl)), rfl, rfl⟩) (hw _ (List.mem_of_getElem? (i := 103) rfl)) (ty := .int) (by decide) rfl rfl g_o d_jdk_2320_method_9_11 (pc' := 14) rfl ?_
  intro h153 W154 f155
  have f156 := f145.other W154 (Or.inr (slot_ne (Or.inr (hw _ (List.mem_of_getElem? (i := 110) rfl))) (Or.inr (hw _ (List.mem_of_getElem? (i := 112) rfl))) (by decide) (t := .long) (t' := .int) (by decide) (by decide)))
  have K157 := Keep.of_wr W154
  have f158 := f148.keep K157
  have z161 := Nat.le_trans z151 K157.1
  have kc162 := kc152.trans K157 (allS (Or.inl (List.mem_of_getElem? (i := 0) rfl)) all0)
  exact Go.retV K (by decide) (by decide) d_jdk_2320_method_9_14 (fun _ _ _ _ => ⟨rfl, kc162⟩)
theorem ef_ic (m : MethodId) (q : Int64) (i : Int32) : entryFrame m #[(.long q), (.int i)] 3 = mkF m 0 #[.val (.long q), .second, .val (.int i)] [] := by first | (simp [entryFrame, mkF, argsToLocals, Value.category]; done) | rfl
theorem d_jdk_2320_method_8_0 : decode jdk_2320_method_8_code 0 = .ok (.lload_n 0, 1) := by decide +kernel
theorem d_jdk_2320_method_8_1 : decode jdk_2320_method_8_code 1 = .ok (.iload_n 2, 1) := by decide +kernel
theorem d_jdk_2320_method_8_2 : decode jdk_2320_method_8_code 2 = .ok (.i2l, 1) := by decide +kernel
theorem d_jdk_2320_method_8_3 : decode jdk_2320_method_8_code 3 = .ok (.lor, 1) := by decide +kernel
theorem d_jdk_2320_method_8_4 : decode jdk_2320_method_8_code 4 = .ok (.lconst 0, 1) := by decide +kernel
theorem d_jdk_2320_method_8_5 : decode jdk_2320_method_8_code 5 = .ok (.lcmp, 1) := by decide +kernel
theorem d_jdk_2320_method_8_6 : decode jdk_2320_method_8_code 6 = .ok (.ifCond .ne 7, 3) := by decide +kernel
theorem d_jdk_2320_method_8_13 : decode jdk_2320_method_8_code 13 = .ok (.lload_n 0, 1) := by decide +kernel
theorem d_jdk_2320_method_8_14 : decode jdk_2320_method_8_code 14 = .ok (.ldc2_w 125, 3) := by decide +kernel
theorem d_jdk_2320_method_8_17 : decode jdk_2320_method_8_code 17 = .ok (.lcmp, 1) := by decide +kernel
theorem d_jdk_2320_method_8_18 : decode jdk_2320_method_8_code 18 = .ok (.ifCond .lt 11, 3) := by decide +kernel
theorem d_jdk_2320_method_8_21 : decode jdk_2320_method_8_code 21 = .ok (.lload_n 0, 1) := by decide +kernel
theorem d_jdk_2320_method_8_22 : decode jdk_2320_method_8_code 22 = .ok (.ldc2_w 127, 3) := by decide +kernel
theorem d_jdk_2320_method_8_25 : decode jdk_2320_method_8_code 25 = .ok (.lcmp, 1) := by decide +kernel
theorem d_jdk_2320_method_8_26 : decode jdk_2320_method_8_code 26 = .ok (.ifCond .le 13, 3) := by decide +kernel
theorem d_jdk_2320_method_8_39 : decode jdk_2320_method_8_code 39 = .ok (.new 21, 3) := by decide +kernel
theorem d_jdk_2320_method_8_42 : decode jdk_2320_method_8_code 42 = .ok (.dup, 1) := by decide +kernel
theorem d_jdk_2320_method_8_43 : decode jdk_2320_method_8_code 43 = .ok (.lload_n 0, 1) := by decide +kernel
theorem d_jdk_2320_method_8_44 : decode jdk_2320_method_8_code 44 = .ok (.iload_n 2, 1) := by decide +kernel
theorem d_jdk_2320_method_8_45 : decode jdk_2320_method_8_code 45 = .ok (.invokespecial 134, 3) := by decide +kernel
theorem pd__28JI_29V : parseMethodDescriptor "(JI)V" = some ⟨[.long, .int], none⟩ := by decide +kernel
theorem d_jdk_2320_method_8_48 : decode jdk_2320_method_8_code 48 = .ok (.areturn, 1) := by decide +kernel
set_option maxRecDepth 65536 in
set_option maxHeartbeats 40000000 in
theorem m_ic (l : Launch) (Z : State) (a0 : Array Value) (hw : ∀ d ∈ tables_1, d.before a0 Z = true) (h0 : Heap) (n0 : Nat) (Z0 : n0 ≤ h0.size) (q : Int64) (i : Int32) (hq0 : ¬ (q ||| i.toInt64) = 0) (hq1 : ¬ q < (-31557014167219200 : Int64)) (hq2 : ¬ (31556889864403199 : Int64) < q) :
    Met l Z [] (⟨"java/time/Instant", "create", "(JI)Ljava/time/Instant;"⟩ : MethodName) jdk_2320_method_8_code 3 (some (.object "java/time/Instant")) ({ frames := 2, cells := 1, slots := 2, locals := 40 } : Room) #[(.long q), (.int i)] h0 n0 (fun v h => ∃ o : Addr, v = some (.ref o) ∧ Keep h0 h []) := by
  refine Met.of (plainFor_of_name pn_java_time_Instant) ?_
  intro p e s m below meth c F K
  refine Go.cast (ef_ic m q i) ?_
  have kc0 := Keep.refl h0 []
  refine Go.lloadN K d_jdk_2320_method_8_0 rfl (pc' := 1) rfl ?_
  refine Go.iloadN K d_jdk_2320_method_8_1 rfl (pc' := 2) rfl ?_
  refine Go.i2l K d_jdk_2320_method_8_2 (pc' := 3) rfl ?_
  refine Go.lor K d_jdk_2320_method_8_3 (pc' := 4) rfl ?_
  refine Go.lconst K (v := 0) d_jdk_2320_method_8_4 rfl (pc' := 5) rfl ?_
  refine Go.lcmp K d_jdk_2320_method_8_5 (pc' := 6) rfl ?_
  refine Go.ifc K d_jdk_2320_method_8_6 (by decide) (pcT := 13) (pcF := 9) (by decide) rfl (fun h6 => ?_) (fun h6 => ?_)
  · replace h6 : ¬ (lcmpW (q ||| (i.toInt64)) (0 : Int64)) = 0 := h6
    refine Go.lloadN K d_jdk_2320_method_8_13 rfl (pc' := 14) rfl ?_
    refine Go.ldcLong K (mvT K.cz (hw _ (List.mem_of_getElem? (i := 100) rfl))) d_jdk_2320_method_8_14 (pc' := 17) rfl ?_
    refine Go.lcmp K d_jdk_2320_method_8_17 (pc' := 18) rfl ?_
    refine Go.ifc K d_jdk_2320_method_8_18 (by decide) (pcT := 29) (pcF := 21) (by decide) rfl (fun h18 => ?_) (fun h18 => ?_)
    · replace h18 : (lcmpW q (-31557014167219200 : Int64)) < 0 := h18
      exact absurd ((lw_lt _ _).mp h18) hq1
    · replace h18 : ¬ ((lcmpW q (-31557014167219200 : Int64)) < 0) := h18
      refine Go.lloadN K d_jdk_2320_method_8_21 rfl (pc' := 22) rfl ?_
      refine Go.ldcLong K (mvT K.cz (hw _ (List.mem_of_getElem? (i := 101) rfl))) d_jdk_2320_method_8_22 (pc' := 25) rfl ?_
      refine Go.lcmp K d_jdk_2320_method_8_25 (pc' := 26) rfl ?_
      refine Go.ifc K d_jdk_2320_method_8_26 (by decide) (pcT := 39) (pcF := 29) (by decide) rfl (fun h26 => ?_) (fun h26 => ?_)
      · replace h26 : ¬ 0 < (lcmpW q (31556889864403199 : Int64)) := h26
        refine Go.newO K (hw _ (List.mem_of_getElem? (i := 102) rfl)) (hw _ (List.mem_of_getElem? (i := 103) rfl)) (hw _ (List.mem_of_getElem? (i := 57) rfl)) (by decide) (by decide) d_jdk_2320_method_8_39 (pc' := 42) rfl ?_
        intro h163 o eq166 E164 E_o D165
        have sz_o := Nat.le_trans kc0.1 (Nat.le_of_eq eq166.symm)
        have g_o : n0 ≤ o := Nat.le_trans Z0 (Nat.le_of_eq eq166.symm)
        have z167 := Nat.le_trans Z0 E164.1
        have kc168 := kc0.ext E164
        have f169 : Fld Z h163 o "java/time/Instant" "seconds" "J" (.long (0 : Int64)) := D165 (Or.inr (hw _ (List.mem_of_getElem? (i := 110) rfl))) (ty := .long) (by decide)
        have f170 : Fld Z h163 o "java/time/Instant" "nanos" "I" (.int (0 : Int32)) := D165 (Or.inr (hw _ (List.mem_of_getElem? (i := 112) rfl))) (ty := .int) (by decide)
        refine Go.dup K d_jdk_2320_method_8_42 rfl (pc' := 43) rfl ?_
        refine Go.lloadN K d_jdk_2320_method_8_43 rfl (pc' := 44) rfl ?_
        refine Go.iloadN K d_jdk_2320_method_8_44 rfl (pc' := 45) rfl ?_
        refine Go.callC K (y := (⟨"java/time/Instant", "<init>", "(JI)V"⟩ : MethodName)) (W := 1) (kc := 0) (nc := 0) (a := o) rfl (mvT K.cz (hw _ (List.mem_of_getElem? (i := 104) rfl))) (mvT K.cz (hw _ (List.mem_of_getElem? (i := 105) rfl))) (mvT K.cz (hw _ (List.mem_of_getElem? (i := 107) rfl))) (by decide) ((m_ii l Z a0 hw h163 n0 z167 o q i E_o f169 f170 g_o).pays (W := 1) K.cz (hw _ (List.mem_of_getElem? (i := 107) rfl)) (hw _ (List.mem_of_getElem? (i := 57) rfl)) (by decide) (by decide)) rfl (argsL := [(.long q), (.int i)]) (rest := [(.ref o)]) (lenOf pd__28JI_29V rfl) rfl (Nat.le_of_ble_eq_true rfl) (by decide) (by decide) frOf grOf d_jdk_2320_method_8_45 (pc' := 48) rfl ?_
        rintro v173 h171 Lc172 ⟨⟨⟨rfl, Kq⟩, -⟩, -⟩
        have f174 := E_o.keep Kq
        have z177 := Nat.le_trans z167 Kq.1
        have kc178 := kc168.trans Kq (allS (Or.inr sz_o) all0)
        show Go p l e _ _ m _ below meth c _ _ _ _ h171 _ _ (mkF m 48 #[.val (.long q), .second, .val (.int i)] [(.ref o)])
        exact Go.retA K rfl rfl rfl (by decide) (by decide) d_jdk_2320_method_8_48 (fun _ _ _ _ => ⟨o, rfl, kc178⟩)
      · replace h26 : ¬ (¬ 0 < (lcmpW q (31556889864403199 : Int64))) := h26
        exact absurd ((lw_gt _ _).mp (Decidable.not_not.mp h26)) hq2
  · replace h6 : ¬ (¬ (lcmpW (q ||| (i.toInt64)) (0 : Int64)) = 0) := h6
    exact absurd ((lw_eq _ _).mp (Decidable.not_not.mp h6)) hq0
theorem ef_io (m : MethodId) (q : Int64) : entryFrame m #[(.long q)] 2 = mkF m 0 #[.val (.long q), .second] [] := by first | (simp [entryFrame, mkF, argsToLocals, Value.category]; done) | rfl
theorem d_jdk_2320_method_3_0 : decode jdk_2320_method_3_code 0 = .ok (.lload_n 0, 1) := by decide +kernel
theorem d_jdk_2320_method_3_1 : decode jdk_2320_method_3_code 1 = .ok (.iconst 0, 1) := by decide +kernel
theorem d_jdk_2320_method_3_2 : decode jdk_2320_method_3_code 2 = .ok (.invokestatic 20, 3) := by decide +kernel
theorem pd__28JI_29Ljava_2ftime_2fInstant_3b : parseMethodDescriptor "(JI)Ljava/time/Instant;" = some ⟨[.long, .int], some (.object "java/time/Instant")⟩ := by decide +kernel
theorem d_jdk_2320_method_3_5 : decode jdk_2320_method_3_code 5 = .ok (.areturn, 1) := by decide +kernel
set_option maxRecDepth 65536 in
set_option maxHeartbeats 40000000 in
theorem m_io (l : Launch) (Z : State) (a0 : Array Value) (hw : ∀ d ∈ tables_1, d.before a0 Z = true) (h0 : Heap) (n0 : Nat) (Z0 : n0 ≤ h0.size) (q : Int64) (hq0 : ¬ (q ||| (0 : Int32).toInt64) = 0) (hq1 : ¬ q < (-31557014167219200 : Int64)) (hq2 : ¬ (31556889864403199 : Int64) < q) :
    Met l Z [] (⟨"java/time/Instant", "ofEpochSecond", "(J)Ljava/time/Instant;"⟩ : MethodName) jdk_2320_method_3_code 2 (some (.object "java/time/Instant")) ({ frames := 3, cells := 1, slots := 2, locals := 60 } : Room) #[(.long q)] h0 n0 (fun v h => ∃ o : Addr, v = some (.ref o) ∧ Keep h0 h []) := by
  refine Met.of (plainFor_of_name pn_java_time_Instant) ?_
  intro p e s m below meth c F K
  refine Go.cast (ef_io m q) ?_
  refine Go.lloadN K d_jdk_2320_method_3_0 rfl (pc' := 1) rfl ?_
  refine Go.iconst K (v := 0) d_jdk_2320_method_3_1 rfl (pc' := 2) rfl ?_
  refine Go.callS K (y := (⟨"java/time/Instant", "create", "(JI)Ljava/time/Instant;"⟩ : MethodName)) (W := 0) (kc := 1) (nc := 2) (mvT K.cz (hw _ (List.mem_of_getElem? (i := 97) rfl))) (mvT K.cz (hw _ (List.mem_of_getElem? (i := 98) rfl))) (mvT K.cz (hw _ (List.mem_of_getElem? (i := 57) rfl))) (mvT K.cz (hw _ (List.mem_of_getElem? (i := 99) rfl))) (by decide) ((m_ic l Z a0 hw h0 n0 Z0 q 0 hq0 hq1 hq2).pays (W := 0) K.cz (hw _ (List.mem_of_getElem? (i := 99) rfl)) (hw _ (List.mem_of_getElem? (i := 57) rfl)) (by decide) (by decide)) rfl (argsL := [(.long q), (.int (0 : Int32))]) (rest := []) (lenOf pd__28JI_29Ljava_2ftime_2fInstant_3b rfl) rfl (Nat.le_of_ble_eq_true rfl) (by decide) (by decide) frOf grOf d_jdk_2320_method_3_2 (pc' := 5) rfl ?_
  rintro v181 h179 Lc180 ⟨⟨⟨o, rfl, Kq⟩, -⟩, -⟩
  show Go p l e _ _ m _ below meth c _ _ _ _ h179 _ _ (mkF m 5 #[.val (.long q), .second] [(.ref o)])
  exact Go.retA K rfl rfl rfl (by decide) (by decide) d_jdk_2320_method_3_5 (fun _ _ _ _ => ⟨o, rfl, Kq⟩)
theorem ef_pk (m : MethodId) (x : Int32) : entryFrame m #[(.int x)] 2 = mkF m 0 #[.val (.int x), .unset] [] := by first | (simp [entryFrame, mkF, argsToLocals, Value.category]; done) | rfl
theorem d_method_2_0 : decode method_2_code 0 = .ok (.iload_n 0, 1) := by decide +kernel
theorem d_method_2_1 : decode method_2_code 1 = .ok (.iconst 3, 1) := by decide +kernel
theorem d_method_2_2 : decode method_2_code 2 = .ok (.iand, 1) := by decide +kernel
theorem d_method_2_3 : decode method_2_code 3 = .ok (.istore_n 1, 1) := by decide +kernel
theorem d_method_2_4 : decode method_2_code 4 = .ok (.iload_n 1, 1) := by decide +kernel
theorem d_method_2_5 : decode method_2_code 5 = .ok (.ifCond .ne 7, 3) := by decide +kernel
theorem d_method_2_8 : decode method_2_code 8 = .ok (.getstatic 7, 3) := by decide +kernel
theorem d_method_2_11 : decode method_2_code 11 = .ok (.areturn, 1) := by decide +kernel
theorem d_method_2_12 : decode method_2_code 12 = .ok (.iload_n 1, 1) := by decide +kernel
theorem d_method_2_13 : decode method_2_code 13 = .ok (.iconst 1, 1) := by decide +kernel
theorem d_method_2_14 : decode method_2_code 14 = .ok (.if_icmp .ne 7, 3) := by decide +kernel
theorem d_method_2_17 : decode method_2_code 17 = .ok (.getstatic 13, 3) := by decide +kernel
theorem d_method_2_20 : decode method_2_code 20 = .ok (.areturn, 1) := by decide +kernel
theorem d_method_2_21 : decode method_2_code 21 = .ok (.iload_n 1, 1) := by decide +kernel
theorem d_method_2_22 : decode method_2_code 22 = .ok (.iconst 2, 1) := by decide +kernel
theorem d_method_2_23 : decode method_2_code 23 = .ok (.if_icmp .ne 7, 3) := by decide +kernel
theorem d_method_2_26 : decode method_2_code 26 = .ok (.getstatic 16, 3) := by decide +kernel
theorem d_method_2_29 : decode method_2_code 29 = .ok (.areturn, 1) := by decide +kernel
theorem d_method_2_30 : decode method_2_code 30 = .ok (.iload_n 0, 1) := by decide +kernel
theorem d_method_2_31 : decode method_2_code 31 = .ok (.i2l, 1) := by decide +kernel
theorem d_method_2_32 : decode method_2_code 32 = .ok (.invokestatic 19, 3) := by decide +kernel
theorem pd__28J_29Ljava_2ftime_2fInstant_3b : parseMethodDescriptor "(J)Ljava/time/Instant;" = some ⟨[.long], some (.object "java/time/Instant")⟩ := by decide +kernel
theorem d_method_2_35 : decode method_2_code 35 = .ok (.areturn, 1) := by decide +kernel
theorem pn_com_example_chartwarden_chartwarden_trail_SelectionTimedPinLaw : plainName "com/example/chartwarden/chartwarden/trail/SelectionTimedPinLaw" = true := by first | (simp [plainName, overriddenIn]; done) | decide +kernel
set_option maxRecDepth 65536 in
set_option maxHeartbeats 40000000 in
theorem m_pk (l : Launch) (Z : State) (a0 : Array Value) (hw : ∀ d ∈ tables_1, d.before a0 Z = true) (h0 : Heap) (n0 : Nat) (Z0 : n0 ≤ h0.size) (x : Int32) (od : Old Z n0 h0) (iMIN : Addr) (SMIN : Sta Z Z.heap "java/time/Instant" "MIN" "Ljava/time/Instant;" (.ref iMIN)) (iEPOCH : Addr) (SEPOCH : Sta Z Z.heap "java/time/Instant" "EPOCH" "Ljava/time/Instant;" (.ref iEPOCH)) (iMAX : Addr) (SMAX : Sta Z Z.heap "java/time/Instant" "MAX" "Ljava/time/Instant;" (.ref iMAX)) :
    Met l Z [] (⟨"com/example/chartwarden/chartwarden/trail/SelectionTimedPinLaw", "pick", "(I)Ljava/time/Instant;"⟩ : MethodName) method_2_code 2 (some (.object "java/time/Instant")) ({ frames := 4, cells := 1, slots := 2, locals := 80 } : Room) #[(.int x)] h0 n0 (fun v h => ∃ o : Addr, v = some (.ref o) ∧ Keep h0 h []) := by
  refine Met.of (plainFor_of_name pn_com_example_chartwarden_chartwarden_trail_SelectionTimedPinLaw) ?_
  intro p e s m below meth c F K
  refine Go.cast (ef_pk m x) ?_
  refine Go.iloadN K d_method_2_0 rfl (pc' := 1) rfl ?_
  refine Go.iconst K (v := 3) d_method_2_1 rfl (pc' := 2) rfl ?_
  refine Go.iand K d_method_2_2 (pc' := 3) rfl ?_
  refine Go.istoreN K d_method_2_3 (Ls' := #[.val (.int x), .val (.int (x &&& (3 : Int32)))]) rfl (pc' := 4) rfl ?_
  refine Go.iloadN K d_method_2_4 rfl (pc' := 5) rfl ?_
  refine Go.ifc K d_method_2_5 (by decide) (pcT := 12) (pcF := 8) (by decide) rfl (fun h5 => ?_) (fun h5 => ?_)
  · replace h5 : ¬ (x &&& (3 : Int32)) = 0 := h5
    refine Go.iloadN K d_method_2_12 rfl (pc' := 13) rfl ?_
    refine Go.iconst K (v := 1) d_method_2_13 rfl (pc' := 14) rfl ?_
    refine Go.icmp K d_method_2_14 (by decide) (pcT := 21) (pcF := 17) (by decide) rfl (fun h14 => ?_) (fun h14 => ?_)
    · replace h14 : ¬ (x &&& (3 : Int32)) = (1 : Int32) := h14
      refine Go.iloadN K d_method_2_21 rfl (pc' := 22) rfl ?_
      refine Go.iconst K (v := 2) d_method_2_22 rfl (pc' := 23) rfl ?_
      refine Go.icmp K d_method_2_23 (by decide) (pcT := 30) (pcF := 26) (by decide) rfl (fun h23 => ?_) (fun h23 => ?_)
      · replace h23 : ¬ (x &&& (3 : Int32)) = (2 : Int32) := h23
        refine Go.iloadN K d_method_2_30 rfl (pc' := 31) rfl ?_
        refine Go.i2l K d_method_2_31 (pc' := 32) rfl ?_
        have hx : ¬ x = 0 := fun q => h5 (by rw [q]; rfl)
        refine Go.callS K (y := (⟨"java/time/Instant", "ofEpochSecond", "(J)Ljava/time/Instant;"⟩ : MethodName)) (W := 0) (kc := 1) (nc := 2) (mvT K.cz (hw _ (List.mem_of_getElem? (i := 94) rfl))) (mvT K.cz (hw _ (List.mem_of_getElem? (i := 95) rfl))) (mvT K.cz (hw _ (List.mem_of_getElem? (i := 57) rfl))) (mvT K.cz (hw _ (List.mem_of_getElem? (i := 96) rfl))) (by decide) ((m_io l Z a0 hw h0 n0 Z0 x.toInt64 (own_s0 hx) (own_s1 x) (own_s2 x)).pays (W := 0) K.cz (hw _ (List.mem_of_getElem? (i := 96) rfl)) (hw _ (List.mem_of_getElem? (i := 57) rfl)) (by decide) (by decide)) rfl (argsL := [(.long (x.toInt64))]) (rest := []) (lenOf pd__28J_29Ljava_2ftime_2fInstant_3b rfl) rfl (Nat.le_of_ble_eq_true rfl) (by decide) (by decide) frOf grOf d_method_2_32 (pc' := 35) rfl ?_
        rintro v184 h182 Lc183 ⟨⟨⟨o, rfl, Kq⟩, -⟩, -⟩
        show Go p l e _ _ m _ below meth c _ _ _ _ h182 _ _ (mkF m 35 #[.val (.int x), .val (.int (x &&& (3 : Int32)))] [(.ref o)])
        exact Go.retA K rfl rfl rfl (by decide) (by decide) d_method_2_35 (fun _ _ _ _ => ⟨o, rfl, Kq⟩)
      · replace h23 : ¬ (¬ (x &&& (3 : Int32)) = (2 : Int32)) := h23
        refine Go.getS K (host := "") (Or.inl (hw _ (List.mem_of_getElem? (i := 56) rfl))) Via.refl (SMAX.ext od.2) d_method_2_26 (pc' := 29) rfl ?_
        exact Go.retA K rfl rfl rfl (by decide) (by decide) d_method_2_29 (fun _ _ _ _ => ⟨_, rfl, Keep.refl _ _⟩)
    · replace h14 : ¬ (¬ (x &&& (3 : Int32)) = (1 : Int32)) := h14
      refine Go.getS K (host := "") (Or.inl (hw _ (List.mem_of_getElem? (i := 113) rfl))) Via.refl (SEPOCH.ext od.2) d_method_2_17 (pc' := 20) rfl ?_
      exact Go.retA K rfl rfl rfl (by decide) (by decide) d_method_2_20 (fun _ _ _ _ => ⟨_, rfl, Keep.refl _ _⟩)
  · replace h5 : ¬ (¬ (x &&& (3 : Int32)) = 0) := h5
    refine Go.getS K (host := "") (Or.inl (hw _ (List.mem_of_getElem? (i := 93) rfl))) Via.refl (SMIN.ext od.2) d_method_2_8 (pc' := 11) rfl ?_
    exact Go.retA K rfl rfl rfl (by decide) (by decide) d_method_2_11 (fun _ _ _ _ => ⟨_, rfl, Keep.refl _ _⟩)
theorem ef_law (m : MethodId) (p0 : Int32) (p1 : Int32) (p2 : Int32) (p3 : Int32) : entryFrame m #[(.int p0), (.int p1), (.int p2), (.int p3)] maxLocals = mkF m 0 #[.val (.int p0), .val (.int p1), .val (.int p2), .val (.int p3), .unset, .unset, .unset, .unset, .unset, .unset, .unset, .unset, .unset] [] := by first | (simp [entryFrame, mkF, argsToLocals, Value.category, maxLocals]; done) | rfl
theorem pd__28_29Ljava_2futil_2fOptional_3b : parseMethodDescriptor "()Ljava/util/Optional;" = some ⟨[], some (.object "java/util/Optional")⟩ := by decide +kernel
theorem pd__28Ljava_2futil_2fOptional_3bLjava_2futil_2fOptional_3bLjava_2futil_2fOptional_3b_29V : parseMethodDescriptor "(Ljava/util/Optional;Ljava/util/Optional;Ljava/util/Optional;)V" = some ⟨[(.object "java/util/Optional"), (.object "java/util/Optional"), (.object "java/util/Optional")], none⟩ := by decide +kernel
theorem pd__28I_29Ljava_2ftime_2fInstant_3b : parseMethodDescriptor "(I)Ljava/time/Instant;" = some ⟨[.int], some (.object "java/time/Instant")⟩ := by decide +kernel
theorem pd__28Ljava_2flang_2fObject_3b_29Ljava_2futil_2fOptional_3b : parseMethodDescriptor "(Ljava/lang/Object;)Ljava/util/Optional;" = some ⟨[(.object "java/lang/Object")], some (.object "java/util/Optional")⟩ := by decide +kernel
theorem pd__28_5bC_29V : parseMethodDescriptor "([C)V" = some ⟨[(.array .char)], none⟩ := by decide +kernel
set_option maxRecDepth 65536 in
set_option maxHeartbeats 40000000 in
theorem m_law (l : Launch) (Z : State) (a0 : Array Value) (hw : ∀ d ∈ tables_1, d.before a0 Z = true) (h0 : Heap) (n0 : Nat) (Z0 : n0 ≤ h0.size) (wS : ∀ a ∈ Bundle.stringAtoms, a.before a0 Z = true) (hEL : EW Z a0 []) (p0 : Int32) (p1 : Int32) (p2 : Int32) (p3 : Int32) (zc : Int32) (S1 : Sta Z Z.heap "java/lang/String" "COMPACT_STRINGS" "Z" (.int zc)) (P1 : ¬ (zc = (0 : Int32))) (od : Old Z n0 h0) (eo : Addr) (SE : Sta Z Z.heap "java/util/Optional" "EMPTY" "Ljava/util/Optional;" (.ref eo)) (E_eo : Exa Z h0 eo "java/util/Optional") (F_eo : Fld Z h0 eo "java/util/Optional" "value" "Ljava/lang/Object;" .null) (iMIN : Addr) (SMIN : Sta Z Z.heap "java/time/Instant" "MIN" "Ljava/time/Instant;" (.ref iMIN)) (iEPOCH : Addr) (SEPOCH : Sta Z Z.heap "java/time/Instant" "EPOCH" "Ljava/time/Instant;" (.ref iEPOCH)) (iMAX : Addr) (SMAX : Sta Z Z.heap "java/time/Instant" "MAX" "Ljava/time/Instant;" (.ref iMAX)) :
    MetW l Z tables_1 [] x code maxLocals ret room_1 #[(.int p0), (.int p1), (.int p2), (.int p3)] h0 n0 (fun v _ => v = some (.int 1)) := by
  refine MetW.of (plainFor_of_name pn_com_example_chartwarden_chartwarden_trail_SelectionTimedPinLaw) ?_
  intro p e s m below meth c vm0 B hS HC K
  have CR := CHr.refl HC
  have hws : ∀ d ∈ StrChars.Road.words, d.before a0 Z = true := fun d hd => hw d ((by decide +kernel : ∀ d ∈ StrChars.Road.words, d ∈ tables_1) d hd)
  refine Go.cast (ef_law m p0 p1 p2 p3) ?_
  refine Go.iloadN K at_0 rfl (pc' := 1) rfl ?_
  refine Go.iconst K (v := 1) at_1 rfl (pc' := 2) rfl ?_
  refine Go.iand K at_2 (pc' := 3) rfl ?_
  refine Go.ifc K at_3 (by decide) (pcT := 10) (pcF := 6) (by decide) rfl (fun h3 => ?_) (fun h3 => ?_)
  · replace h3 : (p0 &&& (1 : Int32)) = 0 := h3
    refine Go.iconst K (v := 0) at_10 rfl (pc' := 11) rfl ?_
    refine Go.istore K at_11 (Ls' := #[.val (.int p0), .val (.int p1), .val (.int p2), .val (.int p3), .val (.int (0 : Int32)), .unset, .unset, .unset, .unset, .unset, .unset, .unset, .unset]) rfl (pc' := 13) rfl ?_
    refine Go.iloadN K at_13 rfl (pc' := 14) rfl ?_
    refine Go.iconst K (v := 2) at_14 rfl (pc' := 15) rfl ?_
    refine Go.iand K at_15 (pc' := 16) rfl ?_
    refine Go.ifc K at_16 (by decide) (pcT := 23) (pcF := 19) (by decide) rfl (fun h16 => ?_) (fun h16 => ?_)
    · replace h16 : (p0 &&& (2 : Int32)) = 0 := h16
      refine Go.iconst K (v := 0) at_23 rfl (pc' := 24) rfl ?_
      refine Go.istore K at_24 (Ls' := #[.val (.int p0), .val (.int p1), .val (.int p2), .val (.int p3), .val (.int (0 : Int32)), .val (.int (0 : Int32)), .unset, .unset, .unset, .unset, .unset, .unset, .unset]) rfl (pc' := 26) rfl ?_
      refine Go.iloadN K at_26 rfl (pc' := 27) rfl ?_
      refine Go.iconst K (v := 4) at_27 rfl (pc' := 28) rfl ?_
      refine Go.iand K at_28 (pc' := 29) rfl ?_
      refine Go.ifc K at_29 (by decide) (pcT := 36) (pcF := 32) (by decide) rfl (fun h29 => ?_) (fun h29 => ?_)
      · replace h29 : (p0 &&& (4 : Int32)) = 0 := h29
        refine Go.iconst K (v := 0) at_36 rfl (pc' := 37) rfl ?_
        refine Go.istore K at_37 (Ls' := #[.val (.int p0), .val (.int p1), .val (.int p2), .val (.int p3), .val (.int (0 : Int32)), .val (.int (0 : Int32)), .val (.int (0 : Int32)), .unset, .unset, .unset, .unset, .unset, .unset]) rfl (pc' := 39) rfl ?_
        refine Go.iconst K (v := 1) at_39 rfl (pc' := 40) rfl ?_
        refine Go.newP K (hw _ (List.mem_of_getElem? (i := 0) rfl)) (by decide) 1 (by decide) (by decide) (by decide) (by decide) at_40 (pc' := 42) rfl ?_
        intro h185 b kA_b eq187 E186 V_b
        have ne188 : eo ≠ b := own_ne E_eo.lt (Nat.le_of_eq eq187.symm)
        have g_b : n0 ≤ b := Nat.le_trans Z0 (Nat.le_of_eq eq187.symm)
        have f191 := E_eo.ext E186
        have f192 := F_eo.ext E186
        have od193 := od.ext E186
        have z194 := Nat.le_trans Z0 E186.1
        have cr195 := CR.trans (CHr.ext E186 CR.1)
        have V196 : Arv Z h185 b kA_b .char (1 : Int32) [(.int (0 : Int32))] (.int (0 : Int32)) := V_b.pad (pad_rep [] (.int (0 : Int32)) 1)
        refine Go.dup K at_42 rfl (pc' := 43) rfl ?_
        refine Go.iconst K (v := 0) at_43 rfl (pc' := 44) rfl ?_
        refine Go.iloadN K at_44 rfl (pc' := 45) rfl ?_
        refine Go.sipush K (v := 255) at_45 rfl (pc' := 48) rfl ?_
        refine Go.iand K at_48 (pc' := 49) rfl ?_
        refine Go.i2c K at_49 (pc' := 50) rfl ?_
        refine Go.castore K V196 0 rfl (Nat.le_of_ble_eq_true rfl) ⟨by decide, by decide⟩ g_b at_50 (pc' := 51) rfl ?_
        intro h197 K198 V199
        replace V199 : Arv Z h197 b kA_b .char (1 : Int32) [(.int (nar .char ((p1 &&& (255 : Int32)).toUInt32.toUInt16.toUInt32.toInt32)))] (.int (0 : Int32)) := V199
        have cr200 := cr195.trans (CHr.keep K198 (sfS (Safe.arv K.cz.alike V196 (by decide)) sf0) cr195.1)
        have f201 := f191.keep K198
        have f202 := f192.keep K198 (ninS ne188 nin0)
        have od204 := od193.keep K198 (allS g_b all0)
        have z205 := Nat.le_trans z194 K198.1
        refine Go.astore K at_51 rfl (Ls' := #[.val (.int p0), .val (.int p1), .val (.int p2), .val (.int p3), .val (.int (0 : Int32)), .val (.int (0 : Int32)), .val (.int (0 : Int32)), .val (.ref b), .unset, .unset, .unset, .unset, .unset]) rfl (pc' := 53) rfl ?_
        refine Go.iload K at_53 rfl (pc' := 55) rfl ?_
        refine Go.ifc K at_55 (by decide) (pcT := 75) (pcF := 58) (by decide) rfl (fun h55 => ?_) (fun h55 => ?_)
        · replace h55 : (0 : Int32) = 0 := h55
          refine Go.callS K (y := (⟨"java/util/Optional", "empty", "()Ljava/util/Optional;"⟩ : MethodName)) (W := 0) (kc := 0) (nc := 0) (mvT K.cz (hw _ (List.mem_of_getElem? (i := 1) rfl))) (mvT K.cz (hw _ (List.mem_of_getElem? (i := 2) rfl))) (mvT K.cz (hw _ (List.mem_of_getElem? (i := 3) rfl))) (mvT K.cz (hw _ (List.mem_of_getElem? (i := 4) rfl))) (by decide) ((m_oe l Z a0 hw h197 n0 z205 eo SE od204).pays (W := 0) K.cz (hw _ (List.mem_of_getElem? (i := 4) rfl)) (hw _ (List.mem_of_getElem? (i := 3) rfl)) (by decide) (by decide)) rfl (argsL := []) (rest := []) (lenOf pd__28_29Ljava_2futil_2fOptional_3b rfl) rfl (Nat.le_of_ble_eq_true rfl) (by decide) (by decide) frOf grOf at_75 (pc' := 78) rfl ?_
          rintro v208 h206 Lc207 ⟨⟨⟨rfl, eh⟩, -⟩, -⟩
          obtain rfl := eh
          show Go p l e _ _ m _ below meth c _ _ _ _ h197 _ _ (mkF m 78 #[.val (.int p0), .val (.int p1), .val (.int p2), .val (.int p3), .val (.int (0 : Int32)), .val (.int (0 : Int32)), .val (.int (0 : Int32)), .val (.ref b), .unset, .unset, .unset, .unset, .unset] [(.ref eo)])
          refine Go.astore K at_78 rfl (Ls' := #[.val (.int p0), .val (.int p1), .val (.int p2), .val (.int p3), .val (.int (0 : Int32)), .val (.int (0 : Int32)), .val (.int (0 : Int32)), .val (.ref b), .val (.ref eo), .unset, .unset, .unset, .unset]) rfl (pc' := 80) rfl ?_
          refine Go.iload K at_80 rfl (pc' := 82) rfl ?_
          refine Go.ifc K at_82 (by decide) (pcT := 97) (pcF := 85) (by decide) rfl (fun h82 => ?_) (fun h82 => ?_)
          · replace h82 : (0 : Int32) = 0 := h82
            refine Go.callS K (y := (⟨"java/util/Optional", "empty", "()Ljava/util/Optional;"⟩ : MethodName)) (W := 0) (kc := 0) (nc := 0) (mvT K.cz (hw _ (List.mem_of_getElem? (i := 1) rfl))) (mvT K.cz (hw _ (List.mem_of_getElem? (i := 2) rfl))) (mvT K.cz (hw _ (List.mem_of_getElem? (i := 3) rfl))) (mvT K.cz (hw _ (List.mem_of_getElem? (i := 4) rfl))) (by decide) ((m_oe l Z a0 hw h197 n0 z205 eo SE od204).pays (W := 0) K.cz (hw _ (List.mem_of_getElem? (i := 4) rfl)) (hw _ (List.mem_of_getElem? (i := 3) rfl)) (by decide) (by decide)) rfl (argsL := []) (rest := []) (lenOf pd__28_29Ljava_2futil_2fOptional_3b rfl) rfl (Nat.le_of_ble_eq_true rfl) (by decide) (by decide) frOf grOf at_97 (pc' := 100) rfl ?_
            rintro v211 h209 Lc210 ⟨⟨⟨rfl, eh⟩, -⟩, -⟩
            obtain rfl := eh
            show Go p l e _ _ m _ below meth c _ _ _ _ h197 _ _ (mkF m 100 #[.val (.int p0), .val (.int p1), .val (.int p2), .val (.int p3), .val (.int (0 : Int32)), .val (.int (0 : Int32)), .val (.int (0 : Int32)), .val (.ref b), .val (.ref eo), .unset, .unset, .unset, .unset] [(.ref eo)])
            refine Go.astore K at_100 rfl (Ls' := #[.val (.int p0), .val (.int p1), .val (.int p2), .val (.int p3), .val (.int (0 : Int32)), .val (.int (0 : Int32)), .val (.int (0 : Int32)), .val (.ref b), .val (.ref eo), .val (.ref eo), .unset, .unset, .unset]) rfl (pc' := 102) rfl ?_
            refine Go.iload K at_102 rfl (pc' := 104) rfl ?_
            refine Go.ifc K at_104 (by decide) (pcT := 119) (pcF := 107) (by decide) rfl (fun h104 => ?_) (fun h104 => ?_)
            · replace h104 : (0 : Int32) = 0 := h104
              refine Go.callS K (y := (⟨"java/util/Optional", "empty", "()Ljava/util/Optional;"⟩ : MethodName)) (W := 0) (kc := 0) (nc := 0) (mvT K.cz (hw _ (List.mem_of_getElem? (i := 1) rfl))) (mvT K.cz (hw _ (List.mem_of_getElem? (i := 2) rfl))) (mvT K.cz (hw _ (List.mem_of_getElem? (i := 3) rfl))) (mvT K.cz (hw _ (List.mem_of_getElem? (i := 4) rfl))) (by decide) ((m_oe l Z a0 hw h197 n0 z205 eo SE od204).pays (W := 0) K.cz (hw _ (List.mem_of_getElem? (i := 4) rfl)) (hw _ (List.mem_of_getElem? (i := 3) rfl)) (by decide) (by decide)) rfl (argsL := []) (rest := []) (lenOf pd__28_29Ljava_2futil_2fOptional_3b rfl) rfl (Nat.le_of_ble_eq_true rfl) (by decide) (by decide) frOf grOf at_119 (pc' := 122) rfl ?_
              rintro v214 h212 Lc213 ⟨⟨⟨rfl, eh⟩, -⟩, -⟩
              obtain rfl := eh
              show Go p l e _ _ m _ below meth c _ _ _ _ h197 _ _ (mkF m 122 #[.val (.int p0), .val (.int p1), .val (.int p2), .val (.int p3), .val (.int (0 : Int32)), .val (.int (0 : Int32)), .val (.int (0 : Int32)), .val (.ref b), .val (.ref eo), .val (.ref eo), .unset, .unset, .unset] [(.ref eo)])
              refine Go.astore K at_122 rfl (Ls' := #[.val (.int p0), .val (.int p1), .val (.int p2), .val (.int p3), .val (.int (0 : Int32)), .val (.int (0 : Int32)), .val (.int (0 : Int32)), .val (.ref b), .val (.ref eo), .val (.ref eo), .val (.ref eo), .unset, .unset]) rfl (pc' := 124) rfl ?_
              refine Go.newO K (hw _ (List.mem_of_getElem? (i := 6) rfl)) (hw _ (List.mem_of_getElem? (i := 7) rfl)) (hw _ (List.mem_of_getElem? (i := 8) rfl)) (by decide) (by decide) at_124 (pc' := 127) rfl ?_
              intro h215 se eq218 E216 E_se D217
              have ne219 : b ≠ se := own_ne V199.lt (Nat.le_of_eq eq218.symm)
              have ne220 : eo ≠ se := own_ne f201.lt (Nat.le_of_eq eq218.symm)
              have g_se : n0 ≤ se := Nat.le_trans z205 (Nat.le_of_eq eq218.symm)
              have f224 := f201.ext E216
              have f225 := f202.ext E216
              have f226 := V199.ext E216
              have od227 := od204.ext E216
              have z228 := Nat.le_trans z205 E216.1
              have cr229 := cr200.trans (CHr.ext E216 cr200.1)
              have f230 : Fld Z h215 se "com/example/chartwarden/chartwarden/trail/Selection" "patient" "Ljava/util/Optional;" .null := D217 (Or.inr (hw _ (List.mem_of_getElem? (i := 35) rfl))) (ty := (.object "java/util/Optional")) (by decide)
              have f231 : Fld Z h215 se "com/example/chartwarden/chartwarden/trail/Selection" "from" "Ljava/util/Optional;" .null := D217 (Or.inr (hw _ (List.mem_of_getElem? (i := 37) rfl))) (ty := (.object "java/util/Optional")) (by decide)
              have f232 : Fld Z h215 se "com/example/chartwarden/chartwarden/trail/Selection" "to" "Ljava/util/Optional;" .null := D217 (Or.inr (hw _ (List.mem_of_getElem? (i := 39) rfl))) (ty := (.object "java/util/Optional")) (by decide)
              refine Go.dup K at_127 rfl (pc' := 128) rfl ?_
              refine Go.aload K at_128 rfl rfl (pc' := 130) rfl ?_
              refine Go.aload K at_130 rfl rfl (pc' := 132) rfl ?_
              refine Go.aload K at_132 rfl rfl (pc' := 134) rfl ?_
              refine Go.callCW K hS (y := (⟨"com/example/chartwarden/chartwarden/trail/Selection", "<init>", "(Ljava/util/Optional;Ljava/util/Optional;Ljava/util/Optional;)V"⟩ : MethodName)) (W := 1) (kc := 6) (nc := 64) (a := se) rfl (mvT K.cz (hw _ (List.mem_of_getElem? (i := 9) rfl))) (mvT K.cz (hw _ (List.mem_of_getElem? (i := 10) rfl))) (mvT K.cz (hw _ (List.mem_of_getElem? (i := 11) rfl))) (by decide) ((m_si l Z a0 hw h215 n0 z228 [] wS hEL se eo eo eo E_se f230 f231 f232 g_se).pays (W := 1) K.cz (hw _ (List.mem_of_getElem? (i := 11) rfl)) (hw _ (List.mem_of_getElem? (i := 8) rfl)) (by decide) (by decide) hEL cr229.1) rfl (argsL := [(.ref eo), (.ref eo), (.ref eo)]) (rest := [(.ref se)]) (lenOf pd__28Ljava_2futil_2fOptional_3bLjava_2futil_2fOptional_3bLjava_2futil_2fOptional_3b_29V rfl) rfl (Nat.le_of_ble_eq_true rfl) (by decide) (by decide) frOf at_134 (pc' := 137) rfl ?_
              rintro v235 h233 Lc234 vm236 B237 ⟨⟨⟨rfl, Kq2, Eq2, Ff, Ft⟩, -⟩, -⟩ hrh233 hS K
              have cr238 := cr229.trans (hrh233)
              have f239 := f224.keep Kq2
              have f240 := f225.keep Kq2 (ninS ne220 nin0)
              have f241 := f226.keep Kq2 (ninS ne219 nin0)
              have f242 := E_se.keep Kq2
              have od246 := od227.keep Kq2 (allS g_se all0)
              have z247 := Nat.le_trans z228 Kq2.1
              show Go p l e _ _ m _ below meth c _ _ _ _ h233 _ _ (mkF m 137 #[.val (.int p0), .val (.int p1), .val (.int p2), .val (.int p3), .val (.int (0 : Int32)), .val (.int (0 : Int32)), .val (.int (0 : Int32)), .val (.ref b), .val (.ref eo), .val (.ref eo), .val (.ref eo), .unset, .unset] [(.ref se)])
              refine Go.astore K at_137 rfl (Ls' := #[.val (.int p0), .val (.int p1), .val (.int p2), .val (.int p3), .val (.int (0 : Int32)), .val (.int (0 : Int32)), .val (.int (0 : Int32)), .val (.ref b), .val (.ref eo), .val (.ref eo), .val (.ref eo), .val (.ref se), .unset]) rfl (pc' := 139) rfl ?_
              refine Go.iload K at_139 rfl (pc' := 141) rfl ?_
              refine Go.ifc K at_141 (by decide) (pcT := 149) (pcF := 144) (by decide) rfl (fun h141 => ?_) (fun h141 => ?_)
              · replace h141 : ¬ (0 : Int32) = 0 := h141
                exact absurd rfl h141
              · replace h141 : ¬ (¬ (0 : Int32) = 0) := h141
                refine Go.iload K at_144 rfl (pc' := 146) rfl ?_
                refine Go.ifc K at_146 (by decide) (pcT := 153) (pcF := 149) (by decide) rfl (fun h146 => ?_) (fun h146 => ?_)
                · replace h146 : (0 : Int32) = 0 := h146
                  refine Go.iconst K (v := 0) at_153 rfl (pc' := 154) rfl ?_
                  refine Go.istore K at_154 (Ls' := #[.val (.int p0), .val (.int p1), .val (.int p2), .val (.int p3), .val (.int (0 : Int32)), .val (.int (0 : Int32)), .val (.int (0 : Int32)), .val (.ref b), .val (.ref eo), .val (.ref eo), .val (.ref eo), .val (.ref se), .val (.int (0 : Int32))]) rfl (pc' := 156) rfl ?_
                  refine Go.aload K at_156 rfl rfl (pc' := 158) rfl ?_
                  refine Go.callV K (y := (⟨"com/example/chartwarden/chartwarden/trail/Selection", "timed", "()Z"⟩ : MethodName)) (z := (⟨"com/example/chartwarden/chartwarden/trail/Selection", "timed", "()Z"⟩ : MethodName)) (W := 0) (kc := 0) (nc := 0) (a := se) (mvT K.cz (hw _ (List.mem_of_getElem? (i := 40) rfl))) (mvT K.cz (hw _ (List.mem_of_getElem? (i := 41) rfl))) (notFace_of_selects (args := #[]) (mvT K.cz (hw _ (List.mem_of_getElem? (i := 43) rfl)))) (mvT K.cz (hw _ (List.mem_of_getElem? (i := 43) rfl))) (mvT K.cz (hw _ (List.mem_of_getElem? (i := 42) rfl))) (by decide) f242 ((m_tm00 l Z a0 hw h233 n0 z247 se eo eo eo eo f242 Ff Ft f239 f240 f239 f240).pays (W := 0) K.cz (hw _ (List.mem_of_getElem? (i := 44) rfl)) (hw _ (List.mem_of_getElem? (i := 8) rfl)) (by decide) (by decide)) rfl (argsL := []) (rest := []) (lenOf pd__28_29Z rfl) rfl (Nat.le_of_ble_eq_true rfl) (by decide) (by decide) frOf grOf at_158 (pc' := 161) rfl ?_
                  rintro v250 h248 Lc249 ⟨⟨⟨rfl, eh⟩, -⟩, -⟩
                  obtain rfl := eh
                  show Go p l e _ _ m _ below meth c _ _ _ _ h233 _ _ (mkF m 161 #[.val (.int p0), .val (.int p1), .val (.int p2), .val (.int p3), .val (.int (0 : Int32)), .val (.int (0 : Int32)), .val (.int (0 : Int32)), .val (.ref b), .val (.ref eo), .val (.ref eo), .val (.ref eo), .val (.ref se), .val (.int (0 : Int32))] [(.int (0 : Int32))])
                  refine Go.iload K at_161 rfl (pc' := 163) rfl ?_
                  refine Go.icmp K at_163 (by decide) (pcT := 170) (pcF := 166) (by decide) rfl (fun h163 => ?_) (fun h163 => ?_)
                  · replace h163 : ¬ (0 : Int32) = (0 : Int32) := h163
                    exact absurd rfl h163
                  · replace h163 : ¬ (¬ (0 : Int32) = (0 : Int32)) := h163
                    refine Go.iconst K (v := 1) at_166 rfl (pc' := 167) rfl ?_
                    refine Go.goto K at_167 (pc' := 171) (by decide) (by decide) ?_
                    exact Go.retN K (by simp) (by decide) (by decide) at_171 (own_end hEL K.cz cr238 rfl)
                · replace h146 : ¬ ((0 : Int32) = 0) := h146
                  exact absurd rfl h146
            · replace h104 : ¬ ((0 : Int32) = 0) := h104
              exact absurd rfl h104
          · replace h82 : ¬ ((0 : Int32) = 0) := h82
            exact absurd rfl h82
        · replace h55 : ¬ ((0 : Int32) = 0) := h55
          exact absurd rfl h55
      · replace h29 : ¬ ((p0 &&& (4 : Int32)) = 0) := h29
        refine Go.iconst K (v := 1) at_32 rfl (pc' := 33) rfl ?_
        refine Go.goto K at_33 (pc' := 37) (by decide) (by decide) ?_
        refine Go.istore K at_37 (Ls' := #[.val (.int p0), .val (.int p1), .val (.int p2), .val (.int p3), .val (.int (0 : Int32)), .val (.int (0 : Int32)), .val (.int (1 : Int32)), .unset, .unset, .unset, .unset, .unset, .unset]) rfl (pc' := 39) rfl ?_
        refine Go.iconst K (v := 1) at_39 rfl (pc' := 40) rfl ?_
        refine Go.newP K (hw _ (List.mem_of_getElem? (i := 0) rfl)) (by decide) 1 (by decide) (by decide) (by decide) (by decide) at_40 (pc' := 42) rfl ?_
        intro h251 b kA_b eq253 E252 V_b
        have ne254 : eo ≠ b := own_ne E_eo.lt (Nat.le_of_eq eq253.symm)
        have g_b : n0 ≤ b := Nat.le_trans Z0 (Nat.le_of_eq eq253.symm)
        have f257 := E_eo.ext E252
        have f258 := F_eo.ext E252
        have od259 := od.ext E252
        have z260 := Nat.le_trans Z0 E252.1
        have cr261 := CR.trans (CHr.ext E252 CR.1)
        have V262 : Arv Z h251 b kA_b .char (1 : Int32) [(.int (0 : Int32))] (.int (0 : Int32)) := V_b.pad (pad_rep [] (.int (0 : Int32)) 1)
        refine Go.dup K at_42 rfl (pc' := 43) rfl ?_
        refine Go.iconst K (v := 0) at_43 rfl (pc' := 44) rfl ?_
        refine Go.iloadN K at_44 rfl (pc' := 45) rfl ?_
        refine Go.sipush K (v := 255) at_45 rfl (pc' := 48) rfl ?_
        refine Go.iand K at_48 (pc' := 49) rfl ?_
        refine Go.i2c K at_49 (pc' := 50) rfl ?_
        refine Go.castore K V262 0 rfl (Nat.le_of_ble_eq_true rfl) ⟨by decide, by decide⟩ g_b at_50 (pc' := 51) rfl ?_
        intro h263 K264 V265
        replace V265 : Arv Z h263 b kA_b .char (1 : Int32) [(.int (nar .char ((p1 &&& (255 : Int32)).toUInt32.toUInt16.toUInt32.toInt32)))] (.int (0 : Int32)) := V265
        have cr266 := cr261.trans (CHr.keep K264 (sfS (Safe.arv K.cz.alike V262 (by decide)) sf0) cr261.1)
        have f267 := f257.keep K264
        have f268 := f258.keep K264 (ninS ne254 nin0)
        have od270 := od259.keep K264 (allS g_b all0)
        have z271 := Nat.le_trans z260 K264.1
        refine Go.astore K at_51 rfl (Ls' := #[.val (.int p0), .val (.int p1), .val (.int p2), .val (.int p3), .val (.int (0 : Int32)), .val (.int (0 : Int32)), .val (.int (1 : Int32)), .val (.ref b), .unset, .unset, .unset, .unset, .unset]) rfl (pc' := 53) rfl ?_
        refine Go.iload K at_53 rfl (pc' := 55) rfl ?_
        refine Go.ifc K at_55 (by decide) (pcT := 75) (pcF := 58) (by decide) rfl (fun h55 => ?_) (fun h55 => ?_)
        · replace h55 : (0 : Int32) = 0 := h55
          refine Go.callS K (y := (⟨"java/util/Optional", "empty", "()Ljava/util/Optional;"⟩ : MethodName)) (W := 0) (kc := 0) (nc := 0) (mvT K.cz (hw _ (List.mem_of_getElem? (i := 1) rfl))) (mvT K.cz (hw _ (List.mem_of_getElem? (i := 2) rfl))) (mvT K.cz (hw _ (List.mem_of_getElem? (i := 3) rfl))) (mvT K.cz (hw _ (List.mem_of_getElem? (i := 4) rfl))) (by decide) ((m_oe l Z a0 hw h263 n0 z271 eo SE od270).pays (W := 0) K.cz (hw _ (List.mem_of_getElem? (i := 4) rfl)) (hw _ (List.mem_of_getElem? (i := 3) rfl)) (by decide) (by decide)) rfl (argsL := []) (rest := []) (lenOf pd__28_29Ljava_2futil_2fOptional_3b rfl) rfl (Nat.le_of_ble_eq_true rfl) (by decide) (by decide) frOf grOf at_75 (pc' := 78) rfl ?_
          rintro v274 h272 Lc273 ⟨⟨⟨rfl, eh⟩, -⟩, -⟩
          obtain rfl := eh
          show Go p l e _ _ m _ below meth c _ _ _ _ h263 _ _ (mkF m 78 #[.val (.int p0), .val (.int p1), .val (.int p2), .val (.int p3), .val (.int (0 : Int32)), .val (.int (0 : Int32)), .val (.int (1 : Int32)), .val (.ref b), .unset, .unset, .unset, .unset, .unset] [(.ref eo)])
          refine Go.astore K at_78 rfl (Ls' := #[.val (.int p0), .val (.int p1), .val (.int p2), .val (.int p3), .val (.int (0 : Int32)), .val (.int (0 : Int32)), .val (.int (1 : Int32)), .val (.ref b), .val (.ref eo), .unset, .unset, .unset, .unset]) rfl (pc' := 80) rfl ?_
          refine Go.iload K at_80 rfl (pc' := 82) rfl ?_
          refine Go.ifc K at_82 (by decide) (pcT := 97) (pcF := 85) (by decide) rfl (fun h82 => ?_) (fun h82 => ?_)
          · replace h82 : (0 : Int32) = 0 := h82
            refine Go.callS K (y := (⟨"java/util/Optional", "empty", "()Ljava/util/Optional;"⟩ : MethodName)) (W := 0) (kc := 0) (nc := 0) (mvT K.cz (hw _ (List.mem_of_getElem? (i := 1) rfl))) (mvT K.cz (hw _ (List.mem_of_getElem? (i := 2) rfl))) (mvT K.cz (hw _ (List.mem_of_getElem? (i := 3) rfl))) (mvT K.cz (hw _ (List.mem_of_getElem? (i := 4) rfl))) (by decide) ((m_oe l Z a0 hw h263 n0 z271 eo SE od270).pays (W := 0) K.cz (hw _ (List.mem_of_getElem? (i := 4) rfl)) (hw _ (List.mem_of_getElem? (i := 3) rfl)) (by decide) (by decide)) rfl (argsL := []) (rest := []) (lenOf pd__28_29Ljava_2futil_2fOptional_3b rfl) rfl (Nat.le_of_ble_eq_true rfl) (by decide) (by decide) frOf grOf at_97 (pc' := 100) rfl ?_
            rintro v277 h275 Lc276 ⟨⟨⟨rfl, eh⟩, -⟩, -⟩
            obtain rfl := eh
            show Go p l e _ _ m _ below meth c _ _ _ _ h263 _ _ (mkF m 100 #[.val (.int p0), .val (.int p1), .val (.int p2), .val (.int p3), .val (.int (0 : Int32)), .val (.int (0 : Int32)), .val (.int (1 : Int32)), .val (.ref b), .val (.ref eo), .unset, .unset, .unset, .unset] [(.ref eo)])
            refine Go.astore K at_100 rfl (Ls' := #[.val (.int p0), .val (.int p1), .val (.int p2), .val (.int p3), .val (.int (0 : Int32)), .val (.int (0 : Int32)), .val (.int (1 : Int32)), .val (.ref b), .val (.ref eo), .val (.ref eo), .unset, .unset, .unset]) rfl (pc' := 102) rfl ?_
            refine Go.iload K at_102 rfl (pc' := 104) rfl ?_
            refine Go.ifc K at_104 (by decide) (pcT := 119) (pcF := 107) (by decide) rfl (fun h104 => ?_) (fun h104 => ?_)
            · replace h104 : (1 : Int32) = 0 := h104
              exact absurd h104 (by decide)
            · replace h104 : ¬ ((1 : Int32) = 0) := h104
              refine Go.iloadN K at_107 rfl (pc' := 108) rfl ?_
              refine Go.callS K (y := (⟨"com/example/chartwarden/chartwarden/trail/SelectionTimedPinLaw", "pick", "(I)Ljava/time/Instant;"⟩ : MethodName)) (W := 0) (kc := 1) (nc := 2) (mvT K.cz (hw _ (List.mem_of_getElem? (i := 52) rfl))) (mvT K.cz (hw _ (List.mem_of_getElem? (i := 53) rfl))) (mvT K.cz (hw _ (List.mem_of_getElem? (i := 54) rfl))) (mvT K.cz (hw _ (List.mem_of_getElem? (i := 55) rfl))) (by decide) ((m_pk l Z a0 hw h263 n0 z271 p3 od270 iMIN SMIN iEPOCH SEPOCH iMAX SMAX).pays (W := 0) K.cz (hw _ (List.mem_of_getElem? (i := 55) rfl)) (hw _ (List.mem_of_getElem? (i := 54) rfl)) (by decide) (by decide)) rfl (argsL := [(.int p3)]) (rest := []) (lenOf pd__28I_29Ljava_2ftime_2fInstant_3b rfl) rfl (Nat.le_of_ble_eq_true rfl) (by decide) (by decide) frOf grOf at_108 (pc' := 111) rfl ?_
              rintro v280 h278 Lc279 ⟨⟨⟨i_ot, rfl, Ki_ot⟩, -⟩, -⟩
              have cr281 := cr266.trans (CHr.keep Ki_ot sf0 cr266.1)
              have f282 := f267.keep Ki_ot
              have f283 := f268.keep Ki_ot nin0
              have f284 := V265.keep Ki_ot nin0
              have od285 := od270.keep Ki_ot all0
              have z286 := Nat.le_trans z271 Ki_ot.1
              show Go p l e _ _ m _ below meth c _ _ _ _ h278 _ _ (mkF m 111 #[.val (.int p0), .val (.int p1), .val (.int p2), .val (.int p3), .val (.int (0 : Int32)), .val (.int (0 : Int32)), .val (.int (1 : Int32)), .val (.ref b), .val (.ref eo), .val (.ref eo), .unset, .unset, .unset] [(.ref i_ot)])
              refine Go.callS K (y := (⟨"java/util/Optional", "of", "(Ljava/lang/Object;)Ljava/util/Optional;"⟩ : MethodName)) (W := 0) (kc := 1) (nc := 1) (mvT K.cz (hw _ (List.mem_of_getElem? (i := 58) rfl))) (mvT K.cz (hw _ (List.mem_of_getElem? (i := 59) rfl))) (mvT K.cz (hw _ (List.mem_of_getElem? (i := 3) rfl))) (mvT K.cz (hw _ (List.mem_of_getElem? (i := 60) rfl))) (by decide) ((m_oo l Z a0 hw h278 n0 z286 i_ot).pays (W := 0) K.cz (hw _ (List.mem_of_getElem? (i := 60) rfl)) (hw _ (List.mem_of_getElem? (i := 3) rfl)) (by decide) (by decide)) rfl (argsL := [(.ref i_ot)]) (rest := []) (lenOf pd__28Ljava_2flang_2fObject_3b_29Ljava_2futil_2fOptional_3b rfl) rfl (Nat.le_of_ble_eq_true rfl) (by decide) (by decide) frOf grOf at_111 (pc' := 114) rfl ?_
              rintro v289 h287 Lc288 ⟨⟨⟨ot, rfl, hle_ot, K_ot, E_ot, F_ot⟩, -⟩, -⟩
              have ne290 : b ≠ ot := own_ne f284.lt hle_ot
              have ne291 : eo ≠ ot := own_ne f282.lt hle_ot
              have cr292 := cr281.trans (CHr.keep K_ot sf0 cr281.1)
              have f293 := f282.keep K_ot
              have f294 := f283.keep K_ot nin0
              have f295 := f284.keep K_ot nin0
              have od296 := od285.keep K_ot all0
              have z297 := Nat.le_trans z286 K_ot.1
              show Go p l e _ _ m _ below meth c _ _ _ _ h287 _ _ (mkF m 114 #[.val (.int p0), .val (.int p1), .val (.int p2), .val (.int p3), .val (.int (0 : Int32)), .val (.int (0 : Int32)), .val (.int (1 : Int32)), .val (.ref b), .val (.ref eo), .val (.ref eo), .unset, .unset, .unset] [(.ref ot)])
              refine Go.astore K at_114 rfl (Ls' := #[.val (.int p0), .val (.int p1), .val (.int p2), .val (.int p3), .val (.int (0 : Int32)), .val (.int (0 : Int32)), .val (.int (1 : Int32)), .val (.ref b), .val (.ref eo), .val (.ref eo), .val (.ref ot), .unset, .unset]) rfl (pc' := 116) rfl ?_
              refine Go.goto K at_116 (pc' := 124) (by decide) (by decide) ?_
              refine Go.newO K (hw _ (List.mem_of_getElem? (i := 6) rfl)) (hw _ (List.mem_of_getElem? (i := 7) rfl)) (hw _ (List.mem_of_getElem? (i := 8) rfl)) (by decide) (by decide) at_124 (pc' := 127) rfl ?_
              intro h298 se eq301 E299 E_se D300
              have ne302 : ot ≠ se := own_ne E_ot.lt (Nat.le_of_eq eq301.symm)
              have ne303 : b ≠ se := own_ne f295.lt (Nat.le_of_eq eq301.symm)
              have ne304 : eo ≠ se := own_ne f293.lt (Nat.le_of_eq eq301.symm)
              have g_se : n0 ≤ se := Nat.le_trans z297 (Nat.le_of_eq eq301.symm)
              have f310 := f293.ext E299
              have f311 := f294.ext E299
              have f312 := f295.ext E299
              have f313 := E_ot.ext E299
              have f314 := F_ot.ext E299
              have od315 := od296.ext E299
              have z316 := Nat.le_trans z297 E299.1
              have cr317 := cr292.trans (CHr.ext E299 cr292.1)
              have f318 : Fld Z h298 se "com/example/chartwarden/chartwarden/trail/Selection" "patient" "Ljava/util/Optional;" .null := D300 (Or.inr (hw _ (List.mem_of_getElem? (i := 35) rfl))) (ty := (.object "java/util/Optional")) (by decide)
              have f319 : Fld Z h298 se "com/example/chartwarden/chartwarden/trail/Selection" "from" "Ljava/util/Optional;" .null := D300 (Or.inr (hw _ (List.mem_of_getElem? (i := 37) rfl))) (ty := (.object "java/util/Optional")) (by decide)
              have f320 : Fld Z h298 se "com/example/chartwarden/chartwarden/trail/Selection" "to" "Ljava/util/Optional;" .null := D300 (Or.inr (hw _ (List.mem_of_getElem? (i := 39) rfl))) (ty := (.object "java/util/Optional")) (by decide)
              refine Go.dup K at_127 rfl (pc' := 128) rfl ?_
              refine Go.aload K at_128 rfl rfl (pc' := 130) rfl ?_
              refine Go.aload K at_130 rfl rfl (pc' := 132) rfl ?_
              refine Go.aload K at_132 rfl rfl (pc' := 134) rfl ?_
              refine Go.callCW K hS (y := (⟨"com/example/chartwarden/chartwarden/trail/Selection", "<init>", "(Ljava/util/Optional;Ljava/util/Optional;Ljava/util/Optional;)V"⟩ : MethodName)) (W := 1) (kc := 6) (nc := 64) (a := se) rfl (mvT K.cz (hw _ (List.mem_of_getElem? (i := 9) rfl))) (mvT K.cz (hw _ (List.mem_of_getElem? (i := 10) rfl))) (mvT K.cz (hw _ (List.mem_of_getElem? (i := 11) rfl))) (by decide) ((m_si l Z a0 hw h298 n0 z316 [] wS hEL se eo eo ot E_se f318 f319 f320 g_se).pays (W := 1) K.cz (hw _ (List.mem_of_getElem? (i := 11) rfl)) (hw _ (List.mem_of_getElem? (i := 8) rfl)) (by decide) (by decide) hEL cr317.1) rfl (argsL := [(.ref eo), (.ref eo), (.ref ot)]) (rest := [(.ref se)]) (lenOf pd__28Ljava_2futil_2fOptional_3bLjava_2futil_2fOptional_3bLjava_2futil_2fOptional_3b_29V rfl) rfl (Nat.le_of_ble_eq_true rfl) (by decide) (by decide) frOf at_134 (pc' := 137) rfl ?_
              rintro v323 h321 Lc322 vm324 B325 ⟨⟨⟨rfl, Kq2, Eq2, Ff, Ft⟩, -⟩, -⟩ hrh321 hS K
              have cr326 := cr317.trans (hrh321)
              have f327 := f310.keep Kq2
              have f328 := f311.keep Kq2 (ninS ne304 nin0)
              have f329 := f312.keep Kq2 (ninS ne303 nin0)
              have f330 := f313.keep Kq2
              have f331 := f314.keep Kq2 (ninS ne302 nin0)
              have f332 := E_se.keep Kq2
              have od336 := od315.keep Kq2 (allS g_se all0)
              have z337 := Nat.le_trans z316 Kq2.1
              show Go p l e _ _ m _ below meth c _ _ _ _ h321 _ _ (mkF m 137 #[.val (.int p0), .val (.int p1), .val (.int p2), .val (.int p3), .val (.int (0 : Int32)), .val (.int (0 : Int32)), .val (.int (1 : Int32)), .val (.ref b), .val (.ref eo), .val (.ref eo), .val (.ref ot), .unset, .unset] [(.ref se)])
              refine Go.astore K at_137 rfl (Ls' := #[.val (.int p0), .val (.int p1), .val (.int p2), .val (.int p3), .val (.int (0 : Int32)), .val (.int (0 : Int32)), .val (.int (1 : Int32)), .val (.ref b), .val (.ref eo), .val (.ref eo), .val (.ref ot), .val (.ref se), .unset]) rfl (pc' := 139) rfl ?_
              refine Go.iload K at_139 rfl (pc' := 141) rfl ?_
              refine Go.ifc K at_141 (by decide) (pcT := 149) (pcF := 144) (by decide) rfl (fun h141 => ?_) (fun h141 => ?_)
              · replace h141 : ¬ (0 : Int32) = 0 := h141
                exact absurd rfl h141
              · replace h141 : ¬ (¬ (0 : Int32) = 0) := h141
                refine Go.iload K at_144 rfl (pc' := 146) rfl ?_
                refine Go.ifc K at_146 (by decide) (pcT := 153) (pcF := 149) (by decide) rfl (fun h146 => ?_) (fun h146 => ?_)
                · replace h146 : (1 : Int32) = 0 := h146
                  exact absurd h146 (by decide)
                · replace h146 : ¬ ((1 : Int32) = 0) := h146
                  refine Go.iconst K (v := 1) at_149 rfl (pc' := 150) rfl ?_
                  refine Go.goto K at_150 (pc' := 154) (by decide) (by decide) ?_
                  refine Go.istore K at_154 (Ls' := #[.val (.int p0), .val (.int p1), .val (.int p2), .val (.int p3), .val (.int (0 : Int32)), .val (.int (0 : Int32)), .val (.int (1 : Int32)), .val (.ref b), .val (.ref eo), .val (.ref eo), .val (.ref ot), .val (.ref se), .val (.int (1 : Int32))]) rfl (pc' := 156) rfl ?_
                  refine Go.aload K at_156 rfl rfl (pc' := 158) rfl ?_
                  refine Go.callV K (y := (⟨"com/example/chartwarden/chartwarden/trail/Selection", "timed", "()Z"⟩ : MethodName)) (z := (⟨"com/example/chartwarden/chartwarden/trail/Selection", "timed", "()Z"⟩ : MethodName)) (W := 0) (kc := 0) (nc := 0) (a := se) (mvT K.cz (hw _ (List.mem_of_getElem? (i := 40) rfl))) (mvT K.cz (hw _ (List.mem_of_getElem? (i := 41) rfl))) (notFace_of_selects (args := #[]) (mvT K.cz (hw _ (List.mem_of_getElem? (i := 43) rfl)))) (mvT K.cz (hw _ (List.mem_of_getElem? (i := 43) rfl))) (mvT K.cz (hw _ (List.mem_of_getElem? (i := 42) rfl))) (by decide) f332 ((m_tm01 l Z a0 hw h321 n0 z337 se eo ot eo i_ot f332 Ff Ft f327 f328 f330 f331).pays (W := 0) K.cz (hw _ (List.mem_of_getElem? (i := 44) rfl)) (hw _ (List.mem_of_getElem? (i := 8) rfl)) (by decide) (by decide)) rfl (argsL := []) (rest := []) (lenOf pd__28_29Z rfl) rfl (Nat.le_of_ble_eq_true rfl) (by decide) (by decide) frOf grOf at_158 (pc' := 161) rfl ?_
                  rintro v340 h338 Lc339 ⟨⟨⟨rfl, eh⟩, -⟩, -⟩
                  obtain rfl := eh
                  show Go p l e _ _ m _ below meth c _ _ _ _ h321 _ _ (mkF m 161 #[.val (.int p0), .val (.int p1), .val (.int p2), .val (.int p3), .val (.int (0 : Int32)), .val (.int (0 : Int32)), .val (.int (1 : Int32)), .val (.ref b), .val (.ref eo), .val (.ref eo), .val (.ref ot), .val (.ref se), .val (.int (1 : Int32))] [(.int (1 : Int32))])
                  refine Go.iload K at_161 rfl (pc' := 163) rfl ?_
                  refine Go.icmp K at_163 (by decide) (pcT := 170) (pcF := 166) (by decide) rfl (fun h163 => ?_) (fun h163 => ?_)
                  · replace h163 : ¬ (1 : Int32) = (1 : Int32) := h163
                    exact absurd rfl h163
                  · replace h163 : ¬ (¬ (1 : Int32) = (1 : Int32)) := h163
                    refine Go.iconst K (v := 1) at_166 rfl (pc' := 167) rfl ?_
                    refine Go.goto K at_167 (pc' := 171) (by decide) (by decide) ?_
                    exact Go.retN K (by simp) (by decide) (by decide) at_171 (own_end hEL K.cz cr326 rfl)
          · replace h82 : ¬ ((0 : Int32) = 0) := h82
            exact absurd rfl h82
        · replace h55 : ¬ ((0 : Int32) = 0) := h55
          exact absurd rfl h55
    · replace h16 : ¬ ((p0 &&& (2 : Int32)) = 0) := h16
      refine Go.iconst K (v := 1) at_19 rfl (pc' := 20) rfl ?_
      refine Go.goto K at_20 (pc' := 24) (by decide) (by decide) ?_
      refine Go.istore K at_24 (Ls' := #[.val (.int p0), .val (.int p1), .val (.int p2), .val (.int p3), .val (.int (0 : Int32)), .val (.int (1 : Int32)), .unset, .unset, .unset, .unset, .unset, .unset, .unset]) rfl (pc' := 26) rfl ?_
      refine Go.iloadN K at_26 rfl (pc' := 27) rfl ?_
      refine Go.iconst K (v := 4) at_27 rfl (pc' := 28) rfl ?_
      refine Go.iand K at_28 (pc' := 29) rfl ?_
      refine Go.ifc K at_29 (by decide) (pcT := 36) (pcF := 32) (by decide) rfl (fun h29 => ?_) (fun h29 => ?_)
      · replace h29 : (p0 &&& (4 : Int32)) = 0 := h29
        refine Go.iconst K (v := 0) at_36 rfl (pc' := 37) rfl ?_
        refine Go.istore K at_37 (Ls' := #[.val (.int p0), .val (.int p1), .val (.int p2), .val (.int p3), .val (.int (0 : Int32)), .val (.int (1 : Int32)), .val (.int (0 : Int32)), .unset, .unset, .unset, .unset, .unset, .unset]) rfl (pc' := 39) rfl ?_
        refine Go.iconst K (v := 1) at_39 rfl (pc' := 40) rfl ?_
        refine Go.newP K (hw _ (List.mem_of_getElem? (i := 0) rfl)) (by decide) 1 (by decide) (by decide) (by decide) (by decide) at_40 (pc' := 42) rfl ?_
        intro h341 b kA_b eq343 E342 V_b
        have ne344 : eo ≠ b := own_ne E_eo.lt (Nat.le_of_eq eq343.symm)
        have g_b : n0 ≤ b := Nat.le_trans Z0 (Nat.le_of_eq eq343.symm)
        have f347 := E_eo.ext E342
        have f348 := F_eo.ext E342
        have od349 := od.ext E342
        have z350 := Nat.le_trans Z0 E342.1
        have cr351 := CR.trans (CHr.ext E342 CR.1)
        have V352 : Arv Z h341 b kA_b .char (1 : Int32) [(.int (0 : Int32))] (.int (0 : Int32)) := V_b.pad (pad_rep [] (.int (0 : Int32)) 1)
        refine Go.dup K at_42 rfl (pc' := 43) rfl ?_
        refine Go.iconst K (v := 0) at_43 rfl (pc' := 44) rfl ?_
        refine Go.iloadN K at_44 rfl (pc' := 45) rfl ?_
        refine Go.sipush K (v := 255) at_45 rfl (pc' := 48) rfl ?_
        refine Go.iand K at_48 (pc' := 49) rfl ?_
        refine Go.i2c K at_49 (pc' := 50) rfl ?_
        refine Go.castore K V352 0 rfl (Nat.le_of_ble_eq_true rfl) ⟨by decide, by decide⟩ g_b at_50 (pc' := 51) rfl ?_
        intro h353 K354 V355
        replace V355 : Arv Z h353 b kA_b .char (1 : Int32) [(.int (nar .char ((p1 &&& (255 : Int32)).toUInt32.toUInt16.toUInt32.toInt32)))] (.int (0 : Int32)) := V355
        have cr356 := cr351.trans (CHr.keep K354 (sfS (Safe.arv K.cz.alike V352 (by decide)) sf0) cr351.1)
        have f357 := f347.keep K354
        have f358 := f348.keep K354 (ninS ne344 nin0)
        have od360 := od349.keep K354 (allS g_b all0)
        have z361 := Nat.le_trans z350 K354.1
        refine Go.astore K at_51 rfl (Ls' := #[.val (.int p0), .val (.int p1), .val (.int p2), .val (.int p3), .val (.int (0 : Int32)), .val (.int (1 : Int32)), .val (.int (0 : Int32)), .val (.ref b), .unset, .unset, .unset, .unset, .unset]) rfl (pc' := 53) rfl ?_
        refine Go.iload K at_53 rfl (pc' := 55) rfl ?_
        refine Go.ifc K at_55 (by decide) (pcT := 75) (pcF := 58) (by decide) rfl (fun h55 => ?_) (fun h55 => ?_)
        · replace h55 : (0 : Int32) = 0 := h55
          refine Go.callS K (y := (⟨"java/util/Optional", "empty", "()Ljava/util/Optional;"⟩ : MethodName)) (W := 0) (kc := 0) (nc := 0) (mvT K.cz (hw _ (List.mem_of_getElem? (i := 1) rfl))) (mvT K.cz (hw _ (List.mem_of_getElem? (i := 2) rfl))) (mvT K.cz (hw _ (List.mem_of_getElem? (i := 3) rfl))) (mvT K.cz (hw _ (List.mem_of_getElem? (i := 4) rfl))) (by decide) ((m_oe l Z a0 hw h353 n0 z361 eo SE od360).pays (W := 0) K.cz (hw _ (List.mem_of_getElem? (i := 4) rfl)) (hw _ (List.mem_of_getElem? (i := 3) rfl)) (by decide) (by decide)) rfl (argsL := []) (rest := []) (lenOf pd__28_29Ljava_2futil_2fOptional_3b rfl) rfl (Nat.le_of_ble_eq_true rfl) (by decide) (by decide) frOf grOf at_75 (pc' := 78) rfl ?_
          rintro v364 h362 Lc363 ⟨⟨⟨rfl, eh⟩, -⟩, -⟩
          obtain rfl := eh
          show Go p l e _ _ m _ below meth c _ _ _ _ h353 _ _ (mkF m 78 #[.val (.int p0), .val (.int p1), .val (.int p2), .val (.int p3), .val (.int (0 : Int32)), .val (.int (1 : Int32)), .val (.int (0 : Int32)), .val (.ref b), .unset, .unset, .unset, .unset, .unset] [(.ref eo)])
          refine Go.astore K at_78 rfl (Ls' := #[.val (.int p0), .val (.int p1), .val (.int p2), .val (.int p3), .val (.int (0 : Int32)), .val (.int (1 : Int32)), .val (.int (0 : Int32)), .val (.ref b), .val (.ref eo), .unset, .unset, .unset, .unset]) rfl (pc' := 80) rfl ?_
          refine Go.iload K at_80 rfl (pc' := 82) rfl ?_
          refine Go.ifc K at_82 (by decide) (pcT := 97) (pcF := 85) (by decide) rfl (fun h82 => ?_) (fun h82 => ?_)
          · replace h82 : (1 : Int32) = 0 := h82
            exact absurd h82 (by decide)
          · replace h82 : ¬ ((1 : Int32) = 0) := h82
            refine Go.iloadN K at_85 rfl (pc' := 86) rfl ?_
            refine Go.callS K (y := (⟨"com/example/chartwarden/chartwarden/trail/SelectionTimedPinLaw", "pick", "(I)Ljava/time/Instant;"⟩ : MethodName)) (W := 0) (kc := 1) (nc := 2) (mvT K.cz (hw _ (List.mem_of_getElem? (i := 52) rfl))) (mvT K.cz (hw _ (List.mem_of_getElem? (i := 53) rfl))) (mvT K.cz (hw _ (List.mem_of_getElem? (i := 54) rfl))) (mvT K.cz (hw _ (List.mem_of_getElem? (i := 55) rfl))) (by decide) ((m_pk l Z a0 hw h353 n0 z361 p2 od360 iMIN SMIN iEPOCH SEPOCH iMAX SMAX).pays (W := 0) K.cz (hw _ (List.mem_of_getElem? (i := 55) rfl)) (hw _ (List.mem_of_getElem? (i := 54) rfl)) (by decide) (by decide)) rfl (argsL := [(.int p2)]) (rest := []) (lenOf pd__28I_29Ljava_2ftime_2fInstant_3b rfl) rfl (Nat.le_of_ble_eq_true rfl) (by decide) (by decide) frOf grOf at_86 (pc' := 89) rfl ?_
            rintro v367 h365 Lc366 ⟨⟨⟨i_of, rfl, Ki_of⟩, -⟩, -⟩
            have cr368 := cr356.trans (CHr.keep Ki_of sf0 cr356.1)
            have f369 := f357.keep Ki_of
            have f370 := f358.keep Ki_of nin0
            have f371 := V355.keep Ki_of nin0
            have od372 := od360.keep Ki_of all0
            have z373 := Nat.le_trans z361 Ki_of.1
            show Go p l e _ _ m _ below meth c _ _ _ _ h365 _ _ (mkF m 89 #[.val (.int p0), .val (.int p1), .val (.int p2), .val (.int p3), .val (.int (0 : Int32)), .val (.int (1 : Int32)), .val (.int (0 : Int32)), .val (.ref b), .val (.ref eo), .unset, .unset, .unset, .unset] [(.ref i_of)])
            refine Go.callS K (y := (⟨"java/util/Optional", "of", "(Ljava/lang/Object;)Ljava/util/Optional;"⟩ : MethodName)) (W := 0) (kc := 1) (nc := 1) (mvT K.cz (hw _ (List.mem_of_getElem? (i := 58) rfl))) (mvT K.cz (hw _ (List.mem_of_getElem? (i := 59) rfl))) (mvT K.cz (hw _ (List.mem_of_getElem? (i := 3) rfl))) (mvT K.cz (hw _ (List.mem_of_getElem? (i := 60) rfl))) (by decide) ((m_oo l Z a0 hw h365 n0 z373 i_of).pays (W := 0) K.cz (hw _ (List.mem_of_getElem? (i := 60) rfl)) (hw _ (List.mem_of_getElem? (i := 3) rfl)) (by decide) (by decide)) rfl (argsL := [(.ref i_of)]) (rest := []) (lenOf pd__28Ljava_2flang_2fObject_3b_29Ljava_2futil_2fOptional_3b rfl) rfl (Nat.le_of_ble_eq_true rfl) (by decide) (by decide) frOf grOf at_89 (pc' := 92) rfl ?_
            rintro v376 h374 Lc375 ⟨⟨⟨of, rfl, hle_of, K_of, E_of, F_of⟩, -⟩, -⟩
            have ne377 : b ≠ of := own_ne f371.lt hle_of
            have ne378 : eo ≠ of := own_ne f369.lt hle_of
            have cr379 := cr368.trans (CHr.keep K_of sf0 cr368.1)
            have f380 := f369.keep K_of
            have f381 := f370.keep K_of nin0
            have f382 := f371.keep K_of nin0
            have od383 := od372.keep K_of all0
            have z384 := Nat.le_trans z373 K_of.1
            show Go p l e _ _ m _ below meth c _ _ _ _ h374 _ _ (mkF m 92 #[.val (.int p0), .val (.int p1), .val (.int p2), .val (.int p3), .val (.int (0 : Int32)), .val (.int (1 : Int32)), .val (.int (0 : Int32)), .val (.ref b), .val (.ref eo), .unset, .unset, .unset, .unset] [(.ref of)])
            refine Go.astore K at_92 rfl (Ls' := #[.val (.int p0), .val (.int p1), .val (.int p2), .val (.int p3), .val (.int (0 : Int32)), .val (.int (1 : Int32)), .val (.int (0 : Int32)), .val (.ref b), .val (.ref eo), .val (.ref of), .unset, .unset, .unset]) rfl (pc' := 94) rfl ?_
            refine Go.goto K at_94 (pc' := 102) (by decide) (by decide) ?_
            refine Go.iload K at_102 rfl (pc' := 104) rfl ?_
            refine Go.ifc K at_104 (by decide) (pcT := 119) (pcF := 107) (by decide) rfl (fun h104 => ?_) (fun h104 => ?_)
            · replace h104 : (0 : Int32) = 0 := h104
              refine Go.callS K (y := (⟨"java/util/Optional", "empty", "()Ljava/util/Optional;"⟩ : MethodName)) (W := 0) (kc := 0) (nc := 0) (mvT K.cz (hw _ (List.mem_of_getElem? (i := 1) rfl))) (mvT K.cz (hw _ (List.mem_of_getElem? (i := 2) rfl))) (mvT K.cz (hw _ (List.mem_of_getElem? (i := 3) rfl))) (mvT K.cz (hw _ (List.mem_of_getElem? (i := 4) rfl))) (by decide) ((m_oe l Z a0 hw h374 n0 z384 eo SE od383).pays (W := 0) K.cz (hw _ (List.mem_of_getElem? (i := 4) rfl)) (hw _ (List.mem_of_getElem? (i := 3) rfl)) (by decide) (by decide)) rfl (argsL := []) (rest := []) (lenOf pd__28_29Ljava_2futil_2fOptional_3b rfl) rfl (Nat.le_of_ble_eq_true rfl) (by decide) (by decide) frOf grOf at_119 (pc' := 122) rfl ?_
              rintro v387 h385 Lc386 ⟨⟨⟨rfl, eh⟩, -⟩, -⟩
              obtain rfl := eh
              show Go p l e _ _ m _ below meth c _ _ _ _ h374 _ _ (mkF m 122 #[.val (.int p0), .val (.int p1), .val (.int p2), .val (.int p3), .val (.int (0 : Int32)), .val (.int (1 : Int32)), .val (.int (0 : Int32)), .val (.ref b), .val (.ref eo), .val (.ref of), .unset, .unset, .unset] [(.ref eo)])
              refine Go.astore K at_122 rfl (Ls' := #[.val (.int p0), .val (.int p1), .val (.int p2), .val (.int p3), .val (.int (0 : Int32)), .val (.int (1 : Int32)), .val (.int (0 : Int32)), .val (.ref b), .val (.ref eo), .val (.ref of), .val (.ref eo), .unset, .unset]) rfl (pc' := 124) rfl ?_
              refine Go.newO K (hw _ (List.mem_of_getElem? (i := 6) rfl)) (hw _ (List.mem_of_getElem? (i := 7) rfl)) (hw _ (List.mem_of_getElem? (i := 8) rfl)) (by decide) (by decide) at_124 (pc' := 127) rfl ?_
              intro h388 se eq391 E389 E_se D390
              have ne392 : of ≠ se := own_ne E_of.lt (Nat.le_of_eq eq391.symm)
              have ne393 : b ≠ se := own_ne f382.lt (Nat.le_of_eq eq391.symm)
              have ne394 : eo ≠ se := own_ne f380.lt (Nat.le_of_eq eq391.symm)
              have g_se : n0 ≤ se := Nat.le_trans z384 (Nat.le_of_eq eq391.symm)
              have f400 := f380.ext E389
              have f401 := f381.ext E389
              have f402 := f382.ext E389
              have f403 := E_of.ext E389
              have f404 := F_of.ext E389
              have od405 := od383.ext E389
              have z406 := Nat.le_trans z384 E389.1
              have cr407 := cr379.trans (CHr.ext E389 cr379.1)
              have f408 : Fld Z h388 se "com/example/chartwarden/chartwarden/trail/Selection" "patient" "Ljava/util/Optional;" .null := D390 (Or.inr (hw _ (List.mem_of_getElem? (i := 35) rfl))) (ty := (.object "java/util/Optional")) (by decide)
              have f409 : Fld Z h388 se "com/example/chartwarden/chartwarden/trail/Selection" "from" "Ljava/util/Optional;" .null := D390 (Or.inr (hw _ (List.mem_of_getElem? (i := 37) rfl))) (ty := (.object "java/util/Optional")) (by decide)
              have f410 : Fld Z h388 se "com/example/chartwarden/chartwarden/trail/Selection" "to" "Ljava/util/Optional;" .null := D390 (Or.inr (hw _ (List.mem_of_getElem? (i := 39) rfl))) (ty := (.object "java/util/Optional")) (by decide)
              refine Go.dup K at_127 rfl (pc' := 128) rfl ?_
              refine Go.aload K at_128 rfl rfl (pc' := 130) rfl ?_
              refine Go.aload K at_130 rfl rfl (pc' := 132) rfl ?_
              refine Go.aload K at_132 rfl rfl (pc' := 134) rfl ?_
              refine Go.callCW K hS (y := (⟨"com/example/chartwarden/chartwarden/trail/Selection", "<init>", "(Ljava/util/Optional;Ljava/util/Optional;Ljava/util/Optional;)V"⟩ : MethodName)) (W := 1) (kc := 6) (nc := 64) (a := se) rfl (mvT K.cz (hw _ (List.mem_of_getElem? (i := 9) rfl))) (mvT K.cz (hw _ (List.mem_of_getElem? (i := 10) rfl))) (mvT K.cz (hw _ (List.mem_of_getElem? (i := 11) rfl))) (by decide) ((m_si l Z a0 hw h388 n0 z406 [] wS hEL se eo of eo E_se f408 f409 f410 g_se).pays (W := 1) K.cz (hw _ (List.mem_of_getElem? (i := 11) rfl)) (hw _ (List.mem_of_getElem? (i := 8) rfl)) (by decide) (by decide) hEL cr407.1) rfl (argsL := [(.ref eo), (.ref of), (.ref eo)]) (rest := [(.ref se)]) (lenOf pd__28Ljava_2futil_2fOptional_3bLjava_2futil_2fOptional_3bLjava_2futil_2fOptional_3b_29V rfl) rfl (Nat.le_of_ble_eq_true rfl) (by decide) (by decide) frOf at_134 (pc' := 137) rfl ?_
              rintro v413 h411 Lc412 vm414 B415 ⟨⟨⟨rfl, Kq2, Eq2, Ff, Ft⟩, -⟩, -⟩ hrh411 hS K
              have cr416 := cr407.trans (hrh411)
              have f417 := f400.keep Kq2
              have f418 := f401.keep Kq2 (ninS ne394 nin0)
              have f419 := f402.keep Kq2 (ninS ne393 nin0)
              have f420 := f403.keep Kq2
              have f421 := f404.keep Kq2 (ninS ne392 nin0)
              have f422 := E_se.keep Kq2
              have od426 := od405.keep Kq2 (allS g_se all0)
              have z427 := Nat.le_trans z406 Kq2.1
              show Go p l e _ _ m _ below meth c _ _ _ _ h411 _ _ (mkF m 137 #[.val (.int p0), .val (.int p1), .val (.int p2), .val (.int p3), .val (.int (0 : Int32)), .val (.int (1 : Int32)), .val (.int (0 : Int32)), .val (.ref b), .val (.ref eo), .val (.ref of), .val (.ref eo), .unset, .unset] [(.ref se)])
              refine Go.astore K at_137 rfl (Ls' := #[.val (.int p0), .val (.int p1), .val (.int p2), .val (.int p3), .val (.int (0 : Int32)), .val (.int (1 : Int32)), .val (.int (0 : Int32)), .val (.ref b), .val (.ref eo), .val (.ref of), .val (.ref eo), .val (.ref se), .unset]) rfl (pc' := 139) rfl ?_
              refine Go.iload K at_139 rfl (pc' := 141) rfl ?_
              refine Go.ifc K at_141 (by decide) (pcT := 149) (pcF := 144) (by decide) rfl (fun h141 => ?_) (fun h141 => ?_)
              · replace h141 : ¬ (1 : Int32) = 0 := h141
                refine Go.iconst K (v := 1) at_149 rfl (pc' := 150) rfl ?_
                refine Go.goto K at_150 (pc' := 154) (by decide) (by decide) ?_
                refine Go.istore K at_154 (Ls' := #[.val (.int p0), .val (.int p1), .val (.int p2), .val (.int p3), .val (.int (0 : Int32)), .val (.int (1 : Int32)), .val (.int (0 : Int32)), .val (.ref b), .val (.ref eo), .val (.ref of), .val (.ref eo), .val (.ref se), .val (.int (1 : Int32))]) rfl (pc' := 156) rfl ?_
                refine Go.aload K at_156 rfl rfl (pc' := 158) rfl ?_
                refine Go.callV K (y := (⟨"com/example/chartwarden/chartwarden/trail/Selection", "timed", "()Z"⟩ : MethodName)) (z := (⟨"com/example/chartwarden/chartwarden/trail/Selection", "timed", "()Z"⟩ : MethodName)) (W := 0) (kc := 0) (nc := 0) (a := se) (mvT K.cz (hw _ (List.mem_of_getElem? (i := 40) rfl))) (mvT K.cz (hw _ (List.mem_of_getElem? (i := 41) rfl))) (notFace_of_selects (args := #[]) (mvT K.cz (hw _ (List.mem_of_getElem? (i := 43) rfl)))) (mvT K.cz (hw _ (List.mem_of_getElem? (i := 43) rfl))) (mvT K.cz (hw _ (List.mem_of_getElem? (i := 42) rfl))) (by decide) f422 ((m_tm10 l Z a0 hw h411 n0 z427 se of eo i_of eo f422 Ff Ft f420 f421 f417 f418).pays (W := 0) K.cz (hw _ (List.mem_of_getElem? (i := 44) rfl)) (hw _ (List.mem_of_getElem? (i := 8) rfl)) (by decide) (by decide)) rfl (argsL := []) (rest := []) (lenOf pd__28_29Z rfl) rfl (Nat.le_of_ble_eq_true rfl) (by decide) (by decide) frOf grOf at_158 (pc' := 161) rfl ?_
                rintro v430 h428 Lc429 ⟨⟨⟨rfl, eh⟩, -⟩, -⟩
                obtain rfl := eh
                show Go p l e _ _ m _ below meth c _ _ _ _ h411 _ _ (mkF m 161 #[.val (.int p0), .val (.int p1), .val (.int p2), .val (.int p3), .val (.int (0 : Int32)), .val (.int (1 : Int32)), .val (.int (0 : Int32)), .val (.ref b), .val (.ref eo), .val (.ref of), .val (.ref eo), .val (.ref se), .val (.int (1 : Int32))] [(.int (1 : Int32))])
                refine Go.iload K at_161 rfl (pc' := 163) rfl ?_
                refine Go.icmp K at_163 (by decide) (pcT := 170) (pcF := 166) (by decide) rfl (fun h163 => ?_) (fun h163 => ?_)
                · replace h163 : ¬ (1 : Int32) = (1 : Int32) := h163
                  exact absurd rfl h163
                · replace h163 : ¬ (¬ (1 : Int32) = (1 : Int32)) := h163
                  refine Go.iconst K (v := 1) at_166 rfl (pc' := 167) rfl ?_
                  refine Go.goto K at_167 (pc' := 171) (by decide) (by decide) ?_
                  exact Go.retN K (by simp) (by decide) (by decide) at_171 (own_end hEL K.cz cr416 rfl)
              · replace h141 : ¬ (¬ (1 : Int32) = 0) := h141
                exact absurd (by decide) h141
            · replace h104 : ¬ ((0 : Int32) = 0) := h104
              exact absurd rfl h104
        · replace h55 : ¬ ((0 : Int32) = 0) := h55
          exact absurd rfl h55
      · replace h29 : ¬ ((p0 &&& (4 : Int32)) = 0) := h29
        refine Go.iconst K (v := 1) at_32 rfl (pc' := 33) rfl ?_
        refine Go.goto K at_33 (pc' := 37) (by decide) (by decide) ?_
        refine Go.istore K at_37 (Ls' := #[.val (.int p0), .val (.int p1), .val (.int p2), .val (.int p3), .val (.int (0 : Int32)), .val (.int (1 : Int32)), .val (.int (1 : Int32)), .unset, .unset, .unset, .unset, .unset, .unset]) rfl (pc' := 39) rfl ?_
        refine Go.iconst K (v := 1) at_39 rfl (pc' := 40) rfl ?_
        refine Go.newP K (hw _ (List.mem_of_getElem? (i := 0) rfl)) (by decide) 1 (by decide) (by decide) (by decide) (by decide) at_40 (pc' := 42) rfl ?_
        intro h431 b kA_b eq433 E432 V_b
        have ne434 : eo ≠ b := own_ne E_eo.lt (Nat.le_of_eq eq433.symm)
        have g_b : n0 ≤ b := Nat.le_trans Z0 (Nat.le_of_eq eq433.symm)
        have f437 := E_eo.ext E432
        have f438 := F_eo.ext E432
        have od439 := od.ext E432
        have z440 := Nat.le_trans Z0 E432.1
        have cr441 := CR.trans (CHr.ext E432 CR.1)
        have V442 : Arv Z h431 b kA_b .char (1 : Int32) [(.int (0 : Int32))] (.int (0 : Int32)) := V_b.pad (pad_rep [] (.int (0 : Int32)) 1)
        refine Go.dup K at_42 rfl (pc' := 43) rfl ?_
        refine Go.iconst K (v := 0) at_43 rfl (pc' := 44) rfl ?_
        refine Go.iloadN K at_44 rfl (pc' := 45) rfl ?_
        refine Go.sipush K (v := 255) at_45 rfl (pc' := 48) rfl ?_
        refine Go.iand K at_48 (pc' := 49) rfl ?_
        refine Go.i2c K at_49 (pc' := 50) rfl ?_
        refine Go.castore K V442 0 rfl (Nat.le_of_ble_eq_true rfl) ⟨by decide, by decide⟩ g_b at_50 (pc' := 51) rfl ?_
        intro h443 K444 V445
        replace V445 : Arv Z h443 b kA_b .char (1 : Int32) [(.int (nar .char ((p1 &&& (255 : Int32)).toUInt32.toUInt16.toUInt32.toInt32)))] (.int (0 : Int32)) := V445
        have cr446 := cr441.trans (CHr.keep K444 (sfS (Safe.arv K.cz.alike V442 (by decide)) sf0) cr441.1)
        have f447 := f437.keep K444
        have f448 := f438.keep K444 (ninS ne434 nin0)
        have od450 := od439.keep K444 (allS g_b all0)
        have z451 := Nat.le_trans z440 K444.1
        refine Go.astore K at_51 rfl (Ls' := #[.val (.int p0), .val (.int p1), .val (.int p2), .val (.int p3), .val (.int (0 : Int32)), .val (.int (1 : Int32)), .val (.int (1 : Int32)), .val (.ref b), .unset, .unset, .unset, .unset, .unset]) rfl (pc' := 53) rfl ?_
        refine Go.iload K at_53 rfl (pc' := 55) rfl ?_
        refine Go.ifc K at_55 (by decide) (pcT := 75) (pcF := 58) (by decide) rfl (fun h55 => ?_) (fun h55 => ?_)
        · replace h55 : (0 : Int32) = 0 := h55
          refine Go.callS K (y := (⟨"java/util/Optional", "empty", "()Ljava/util/Optional;"⟩ : MethodName)) (W := 0) (kc := 0) (nc := 0) (mvT K.cz (hw _ (List.mem_of_getElem? (i := 1) rfl))) (mvT K.cz (hw _ (List.mem_of_getElem? (i := 2) rfl))) (mvT K.cz (hw _ (List.mem_of_getElem? (i := 3) rfl))) (mvT K.cz (hw _ (List.mem_of_getElem? (i := 4) rfl))) (by decide) ((m_oe l Z a0 hw h443 n0 z451 eo SE od450).pays (W := 0) K.cz (hw _ (List.mem_of_getElem? (i := 4) rfl)) (hw _ (List.mem_of_getElem? (i := 3) rfl)) (by decide) (by decide)) rfl (argsL := []) (rest := []) (lenOf pd__28_29Ljava_2futil_2fOptional_3b rfl) rfl (Nat.le_of_ble_eq_true rfl) (by decide) (by decide) frOf grOf at_75 (pc' := 78) rfl ?_
          rintro v454 h452 Lc453 ⟨⟨⟨rfl, eh⟩, -⟩, -⟩
          obtain rfl := eh
          show Go p l e _ _ m _ below meth c _ _ _ _ h443 _ _ (mkF m 78 #[.val (.int p0), .val (.int p1), .val (.int p2), .val (.int p3), .val (.int (0 : Int32)), .val (.int (1 : Int32)), .val (.int (1 : Int32)), .val (.ref b), .unset, .unset, .unset, .unset, .unset] [(.ref eo)])
          refine Go.astore K at_78 rfl (Ls' := #[.val (.int p0), .val (.int p1), .val (.int p2), .val (.int p3), .val (.int (0 : Int32)), .val (.int (1 : Int32)), .val (.int (1 : Int32)), .val (.ref b), .val (.ref eo), .unset, .unset, .unset, .unset]) rfl (pc' := 80) rfl ?_
          refine Go.iload K at_80 rfl (pc' := 82) rfl ?_
          refine Go.ifc K at_82 (by decide) (pcT := 97) (pcF := 85) (by decide) rfl (fun h82 => ?_) (fun h82 => ?_)
          · replace h82 : (1 : Int32) = 0 := h82
            exact absurd h82 (by decide)
          · replace h82 : ¬ ((1 : Int32) = 0) := h82
            refine Go.iloadN K at_85 rfl (pc' := 86) rfl ?_
            refine Go.callS K (y := (⟨"com/example/chartwarden/chartwarden/trail/SelectionTimedPinLaw", "pick", "(I)Ljava/time/Instant;"⟩ : MethodName)) (W := 0) (kc := 1) (nc := 2) (mvT K.cz (hw _ (List.mem_of_getElem? (i := 52) rfl))) (mvT K.cz (hw _ (List.mem_of_getElem? (i := 53) rfl))) (mvT K.cz (hw _ (List.mem_of_getElem? (i := 54) rfl))) (mvT K.cz (hw _ (List.mem_of_getElem? (i := 55) rfl))) (by decide) ((m_pk l Z a0 hw h443 n0 z451 p2 od450 iMIN SMIN iEPOCH SEPOCH iMAX SMAX).pays (W := 0) K.cz (hw _ (List.mem_of_getElem? (i := 55) rfl)) (hw _ (List.mem_of_getElem? (i := 54) rfl)) (by decide) (by decide)) rfl (argsL := [(.int p2)]) (rest := []) (lenOf pd__28I_29Ljava_2ftime_2fInstant_3b rfl) rfl (Nat.le_of_ble_eq_true rfl) (by decide) (by decide) frOf grOf at_86 (pc' := 89) rfl ?_
            rintro v457 h455 Lc456 ⟨⟨⟨i_of, rfl, Ki_of⟩, -⟩, -⟩
            have cr458 := cr446.trans (CHr.keep Ki_of sf0 cr446.1)
            have f459 := f447.keep Ki_of
            have f460 := f448.keep Ki_of nin0
            have f461 := V445.keep Ki_of nin0
            have od462 := od450.keep Ki_of all0
            have z463 := Nat.le_trans z451 Ki_of.1
            show Go p l e _ _ m _ below meth c _ _ _ _ h455 _ _ (mkF m 89 #[.val (.int p0), .val (.int p1), .val (.int p2), .val (.int p3), .val (.int (0 : Int32)), .val (.int (1 : Int32)), .val (.int (1 : Int32)), .val (.ref b), .val (.ref eo), .unset, .unset, .unset, .unset] [(.ref i_of)])
            refine Go.callS K (y := (⟨"java/util/Optional", "of", "(Ljava/lang/Object;)Ljava/util/Optional;"⟩ : MethodName)) (W := 0) (kc := 1) (nc := 1) (mvT K.cz (hw _ (List.mem_of_getElem? (i := 58) rfl))) (mvT K.cz (hw _ (List.mem_of_getElem? (i := 59) rfl))) (mvT K.cz (hw _ (List.mem_of_getElem? (i := 3) rfl))) (mvT K.cz (hw _ (List.mem_of_getElem? (i := 60) rfl))) (by decide) ((m_oo l Z a0 hw h455 n0 z463 i_of).pays (W := 0) K.cz (hw _ (List.mem_of_getElem? (i := 60) rfl)) (hw _ (List.mem_of_getElem? (i := 3) rfl)) (by decide) (by decide)) rfl (argsL := [(.ref i_of)]) (rest := []) (lenOf pd__28Ljava_2flang_2fObject_3b_29Ljava_2futil_2fOptional_3b rfl) rfl (Nat.le_of_ble_eq_true rfl) (by decide) (by decide) frOf grOf at_89 (pc' := 92) rfl ?_
            rintro v466 h464 Lc465 ⟨⟨⟨of, rfl, hle_of, K_of, E_of, F_of⟩, -⟩, -⟩
            have ne467 : b ≠ of := own_ne f461.lt hle_of
            have ne468 : eo ≠ of := own_ne f459.lt hle_of
            have cr469 := cr458.trans (CHr.keep K_of sf0 cr458.1)
            have f470 := f459.keep K_of
            have f471 := f460.keep K_of nin0
            have f472 := f461.keep K_of nin0
            have od473 := od462.keep K_of all0
            have z474 := Nat.le_trans z463 K_of.1
            show Go p l e _ _ m _ below meth c _ _ _ _ h464 _ _ (mkF m 92 #[.val (.int p0), .val (.int p1), .val (.int p2), .val (.int p3), .val (.int (0 : Int32)), .val (.int (1 : Int32)), .val (.int (1 : Int32)), .val (.ref b), .val (.ref eo), .unset, .unset, .unset, .unset] [(.ref of)])
            refine Go.astore K at_92 rfl (Ls' := #[.val (.int p0), .val (.int p1), .val (.int p2), .val (.int p3), .val (.int (0 : Int32)), .val (.int (1 : Int32)), .val (.int (1 : Int32)), .val (.ref b), .val (.ref eo), .val (.ref of), .unset, .unset, .unset]) rfl (pc' := 94) rfl ?_
            refine Go.goto K at_94 (pc' := 102) (by decide) (by decide) ?_
            refine Go.iload K at_102 rfl (pc' := 104) rfl ?_
            refine Go.ifc K at_104 (by decide) (pcT := 119) (pcF := 107) (by decide) rfl (fun h104 => ?_) (fun h104 => ?_)
            · replace h104 : (1 : Int32) = 0 := h104
              exact absurd h104 (by decide)
            · replace h104 : ¬ ((1 : Int32) = 0) := h104
              refine Go.iloadN K at_107 rfl (pc' := 108) rfl ?_
              refine Go.callS K (y := (⟨"com/example/chartwarden/chartwarden/trail/SelectionTimedPinLaw", "pick", "(I)Ljava/time/Instant;"⟩ : MethodName)) (W := 0) (kc := 1) (nc := 2) (mvT K.cz (hw _ (List.mem_of_getElem? (i := 52) rfl))) (mvT K.cz (hw _ (List.mem_of_getElem? (i := 53) rfl))) (mvT K.cz (hw _ (List.mem_of_getElem? (i := 54) rfl))) (mvT K.cz (hw _ (List.mem_of_getElem? (i := 55) rfl))) (by decide) ((m_pk l Z a0 hw h464 n0 z474 p3 od473 iMIN SMIN iEPOCH SEPOCH iMAX SMAX).pays (W := 0) K.cz (hw _ (List.mem_of_getElem? (i := 55) rfl)) (hw _ (List.mem_of_getElem? (i := 54) rfl)) (by decide) (by decide)) rfl (argsL := [(.int p3)]) (rest := []) (lenOf pd__28I_29Ljava_2ftime_2fInstant_3b rfl) rfl (Nat.le_of_ble_eq_true rfl) (by decide) (by decide) frOf grOf at_108 (pc' := 111) rfl ?_
              rintro v477 h475 Lc476 ⟨⟨⟨i_ot, rfl, Ki_ot⟩, -⟩, -⟩
              have cr478 := cr469.trans (CHr.keep Ki_ot sf0 cr469.1)
              have f479 := f470.keep Ki_ot
              have f480 := f471.keep Ki_ot nin0
              have f481 := f472.keep Ki_ot nin0
              have f482 := E_of.keep Ki_ot
              have f483 := F_of.keep Ki_ot nin0
              have od484 := od473.keep Ki_ot all0
              have z485 := Nat.le_trans z474 Ki_ot.1
              show Go p l e _ _ m _ below meth c _ _ _ _ h475 _ _ (mkF m 111 #[.val (.int p0), .val (.int p1), .val (.int p2), .val (.int p3), .val (.int (0 : Int32)), .val (.int (1 : Int32)), .val (.int (1 : Int32)), .val (.ref b), .val (.ref eo), .val (.ref of), .unset, .unset, .unset] [(.ref i_ot)])
              refine Go.callS K (y := (⟨"java/util/Optional", "of", "(Ljava/lang/Object;)Ljava/util/Optional;"⟩ : MethodName)) (W := 0) (kc := 1) (nc := 1) (mvT K.cz (hw _ (List.mem_of_getElem? (i := 58) rfl))) (mvT K.cz (hw _ (List.mem_of_getElem? (i := 59) rfl))) (mvT K.cz (hw _ (List.mem_of_getElem? (i := 3) rfl))) (mvT K.cz (hw _ (List.mem_of_getElem? (i := 60) rfl))) (by decide) ((m_oo l Z a0 hw h475 n0 z485 i_ot).pays (W := 0) K.cz (hw _ (List.mem_of_getElem? (i := 60) rfl)) (hw _ (List.mem_of_getElem? (i := 3) rfl)) (by decide) (by decide)) rfl (argsL := [(.ref i_ot)]) (rest := []) (lenOf pd__28Ljava_2flang_2fObject_3b_29Ljava_2futil_2fOptional_3b rfl) rfl (Nat.le_of_ble_eq_true rfl) (by decide) (by decide) frOf grOf at_111 (pc' := 114) rfl ?_
              rintro v488 h486 Lc487 ⟨⟨⟨ot, rfl, hle_ot, K_ot, E_ot, F_ot⟩, -⟩, -⟩
              have ne489 : of ≠ ot := own_ne f482.lt hle_ot
              have ne490 : b ≠ ot := own_ne f481.lt hle_ot
              have ne491 : eo ≠ ot := own_ne f479.lt hle_ot
              have cr492 := cr478.trans (CHr.keep K_ot sf0 cr478.1)
              have f493 := f479.keep K_ot
              have f494 := f480.keep K_ot nin0
              have f495 := f481.keep K_ot nin0
              have f496 := f482.keep K_ot
              have f497 := f483.keep K_ot nin0
              have od498 := od484.keep K_ot all0
              have z499 := Nat.le_trans z485 K_ot.1
              show Go p l e _ _ m _ below meth c _ _ _ _ h486 _ _ (mkF m 114 #[.val (.int p0), .val (.int p1), .val (.int p2), .val (.int p3), .val (.int (0 : Int32)), .val (.int (1 : Int32)), .val (.int (1 : Int32)), .val (.ref b), .val (.ref eo), .val (.ref of), .unset, .unset, .unset] [(.ref ot)])
              refine Go.astore K at_114 rfl (Ls' := #[.val (.int p0), .val (.int p1), .val (.int p2), .val (.int p3), .val (.int (0 : Int32)), .val (.int (1 : Int32)), .val (.int (1 : Int32)), .val (.ref b), .val (.ref eo), .val (.ref of), .val (.ref ot), .unset, .unset]) rfl (pc' := 116) rfl ?_
              refine Go.goto K at_116 (pc' := 124) (by decide) (by decide) ?_
              refine Go.newO K (hw _ (List.mem_of_getElem? (i := 6) rfl)) (hw _ (List.mem_of_getElem? (i := 7) rfl)) (hw _ (List.mem_of_getElem? (i := 8) rfl)) (by decide) (by decide) at_124 (pc' := 127) rfl ?_
              intro h500 se eq503 E501 E_se D502
              have ne504 : of ≠ se := own_ne f496.lt (Nat.le_of_eq eq503.symm)
              have ne505 : ot ≠ se := own_ne E_ot.lt (Nat.le_of_eq eq503.symm)
              have ne506 : b ≠ se := own_ne f495.lt (Nat.le_of_eq eq503.symm)
              have ne507 : eo ≠ se := own_ne f493.lt (Nat.le_of_eq eq503.symm)
              have g_se : n0 ≤ se := Nat.le_trans z499 (Nat.le_of_eq eq503.symm)
              have f515 := f493.ext E501
              have f516 := f494.ext E501
              have f517 := f495.ext E501
              have f518 := f496.ext E501
              have f519 := f497.ext E501
              have f520 := E_ot.ext E501
              have f521 := F_ot.ext E501
              have od522 := od498.ext E501
              have z523 := Nat.le_trans z499 E501.1
              have cr524 := cr492.trans (CHr.ext E501 cr492.1)
              have f525 : Fld Z h500 se "com/example/chartwarden/chartwarden/trail/Selection" "patient" "Ljava/util/Optional;" .null := D502 (Or.inr (hw _ (List.mem_of_getElem? (i := 35) rfl))) (ty := (.object "java/util/Optional")) (by decide)
              have f526 : Fld Z h500 se "com/example/chartwarden/chartwarden/trail/Selection" "from" "Ljava/util/Optional;" .null := D502 (Or.inr (hw _ (List.mem_of_getElem? (i := 37) rfl))) (ty := (.object "java/util/Optional")) (by decide)
              have f527 : Fld Z h500 se "com/example/chartwarden/chartwarden/trail/Selection" "to" "Ljava/util/Optional;" .null := D502 (Or.inr (hw _ (List.mem_of_getElem? (i := 39) rfl))) (ty := (.object "java/util/Optional")) (by decide)
              refine Go.dup K at_127 rfl (pc' := 128) rfl ?_
              refine Go.aload K at_128 rfl rfl (pc' := 130) rfl ?_
              refine Go.aload K at_130 rfl rfl (pc' := 132) rfl ?_
              refine Go.aload K at_132 rfl rfl (pc' := 134) rfl ?_
              refine Go.callCW K hS (y := (⟨"com/example/chartwarden/chartwarden/trail/Selection", "<init>", "(Ljava/util/Optional;Ljava/util/Optional;Ljava/util/Optional;)V"⟩ : MethodName)) (W := 1) (kc := 6) (nc := 64) (a := se) rfl (mvT K.cz (hw _ (List.mem_of_getElem? (i := 9) rfl))) (mvT K.cz (hw _ (List.mem_of_getElem? (i := 10) rfl))) (mvT K.cz (hw _ (List.mem_of_getElem? (i := 11) rfl))) (by decide) ((m_si l Z a0 hw h500 n0 z523 [] wS hEL se eo of ot E_se f525 f526 f527 g_se).pays (W := 1) K.cz (hw _ (List.mem_of_getElem? (i := 11) rfl)) (hw _ (List.mem_of_getElem? (i := 8) rfl)) (by decide) (by decide) hEL cr524.1) rfl (argsL := [(.ref eo), (.ref of), (.ref ot)]) (rest := [(.ref se)]) (lenOf pd__28Ljava_2futil_2fOptional_3bLjava_2futil_2fOptional_3bLjava_2futil_2fOptional_3b_29V rfl) rfl (Nat.le_of_ble_eq_true rfl) (by decide) (by decide) frOf at_134 (pc' := 137) rfl ?_
              rintro v530 h528 Lc529 vm531 B532 ⟨⟨⟨rfl, Kq2, Eq2, Ff, Ft⟩, -⟩, -⟩ hrh528 hS K
              have cr533 := cr524.trans (hrh528)
              have f534 := f515.keep Kq2
              have f535 := f516.keep Kq2 (ninS ne507 nin0)
              have f536 := f517.keep Kq2 (ninS ne506 nin0)
              have f537 := f518.keep Kq2
              have f538 := f519.keep Kq2 (ninS ne504 nin0)
              have f539 := f520.keep Kq2
              have f540 := f521.keep Kq2 (ninS ne505 nin0)
              have f541 := E_se.keep Kq2
              have od545 := od522.keep Kq2 (allS g_se all0)
              have z546 := Nat.le_trans z523 Kq2.1
              show Go p l e _ _ m _ below meth c _ _ _ _ h528 _ _ (mkF m 137 #[.val (.int p0), .val (.int p1), .val (.int p2), .val (.int p3), .val (.int (0 : Int32)), .val (.int (1 : Int32)), .val (.int (1 : Int32)), .val (.ref b), .val (.ref eo), .val (.ref of), .val (.ref ot), .unset, .unset] [(.ref se)])
              refine Go.astore K at_137 rfl (Ls' := #[.val (.int p0), .val (.int p1), .val (.int p2), .val (.int p3), .val (.int (0 : Int32)), .val (.int (1 : Int32)), .val (.int (1 : Int32)), .val (.ref b), .val (.ref eo), .val (.ref of), .val (.ref ot), .val (.ref se), .unset]) rfl (pc' := 139) rfl ?_
              refine Go.iload K at_139 rfl (pc' := 141) rfl ?_
              refine Go.ifc K at_141 (by decide) (pcT := 149) (pcF := 144) (by decide) rfl (fun h141 => ?_) (fun h141 => ?_)
              · replace h141 : ¬ (1 : Int32) = 0 := h141
                refine Go.iconst K (v := 1) at_149 rfl (pc' := 150) rfl ?_
                refine Go.goto K at_150 (pc' := 154) (by decide) (by decide) ?_
                refine Go.istore K at_154 (Ls' := #[.val (.int p0), .val (.int p1), .val (.int p2), .val (.int p3), .val (.int (0 : Int32)), .val (.int (1 : Int32)), .val (.int (1 : Int32)), .val (.ref b), .val (.ref eo), .val (.ref of), .val (.ref ot), .val (.ref se), .val (.int (1 : Int32))]) rfl (pc' := 156) rfl ?_
                refine Go.aload K at_156 rfl rfl (pc' := 158) rfl ?_
                refine Go.callV K (y := (⟨"com/example/chartwarden/chartwarden/trail/Selection", "timed", "()Z"⟩ : MethodName)) (z := (⟨"com/example/chartwarden/chartwarden/trail/Selection", "timed", "()Z"⟩ : MethodName)) (W := 0) (kc := 0) (nc := 0) (a := se) (mvT K.cz (hw _ (List.mem_of_getElem? (i := 40) rfl))) (mvT K.cz (hw _ (List.mem_of_getElem? (i := 41) rfl))) (notFace_of_selects (args := #[]) (mvT K.cz (hw _ (List.mem_of_getElem? (i := 43) rfl)))) (mvT K.cz (hw _ (List.mem_of_getElem? (i := 43) rfl))) (mvT K.cz (hw _ (List.mem_of_getElem? (i := 42) rfl))) (by decide) f541 ((m_tm11 l Z a0 hw h528 n0 z546 se of ot i_of i_ot f541 Ff Ft f537 f538 f539 f540).pays (W := 0) K.cz (hw _ (List.mem_of_getElem? (i := 44) rfl)) (hw _ (List.mem_of_getElem? (i := 8) rfl)) (by decide) (by decide)) rfl (argsL := []) (rest := []) (lenOf pd__28_29Z rfl) rfl (Nat.le_of_ble_eq_true rfl) (by decide) (by decide) frOf grOf at_158 (pc' := 161) rfl ?_
                rintro v549 h547 Lc548 ⟨⟨⟨rfl, eh⟩, -⟩, -⟩
                obtain rfl := eh
                show Go p l e _ _ m _ below meth c _ _ _ _ h528 _ _ (mkF m 161 #[.val (.int p0), .val (.int p1), .val (.int p2), .val (.int p3), .val (.int (0 : Int32)), .val (.int (1 : Int32)), .val (.int (1 : Int32)), .val (.ref b), .val (.ref eo), .val (.ref of), .val (.ref ot), .val (.ref se), .val (.int (1 : Int32))] [(.int (1 : Int32))])
                refine Go.iload K at_161 rfl (pc' := 163) rfl ?_
                refine Go.icmp K at_163 (by decide) (pcT := 170) (pcF := 166) (by decide) rfl (fun h163 => ?_) (fun h163 => ?_)
                · replace h163 : ¬ (1 : Int32) = (1 : Int32) := h163
                  exact absurd rfl h163
                · replace h163 : ¬ (¬ (1 : Int32) = (1 : Int32)) := h163
                  refine Go.iconst K (v := 1) at_166 rfl (pc' := 167) rfl ?_
                  refine Go.goto K at_167 (pc' := 171) (by decide) (by decide) ?_
                  exact Go.retN K (by simp) (by decide) (by decide) at_171 (own_end hEL K.cz cr533 rfl)
              · replace h141 : ¬ (¬ (1 : Int32) = 0) := h141
                exact absurd (by decide) h141
        · replace h55 : ¬ ((0 : Int32) = 0) := h55
          exact absurd rfl h55
  · replace h3 : ¬ ((p0 &&& (1 : Int32)) = 0) := h3
    refine Go.iconst K (v := 1) at_6 rfl (pc' := 7) rfl ?_
    refine Go.goto K at_7 (pc' := 11) (by decide) (by decide) ?_
    refine Go.istore K at_11 (Ls' := #[.val (.int p0), .val (.int p1), .val (.int p2), .val (.int p3), .val (.int (1 : Int32)), .unset, .unset, .unset, .unset, .unset, .unset, .unset, .unset]) rfl (pc' := 13) rfl ?_
    refine Go.iloadN K at_13 rfl (pc' := 14) rfl ?_
    refine Go.iconst K (v := 2) at_14 rfl (pc' := 15) rfl ?_
    refine Go.iand K at_15 (pc' := 16) rfl ?_
    refine Go.ifc K at_16 (by decide) (pcT := 23) (pcF := 19) (by decide) rfl (fun h16 => ?_) (fun h16 => ?_)
    · replace h16 : (p0 &&& (2 : Int32)) = 0 := h16
      refine Go.iconst K (v := 0) at_23 rfl (pc' := 24) rfl ?_
      refine Go.istore K at_24 (Ls' := #[.val (.int p0), .val (.int p1), .val (.int p2), .val (.int p3), .val (.int (1 : Int32)), .val (.int (0 : Int32)), .unset, .unset, .unset, .unset, .unset, .unset, .unset]) rfl (pc' := 26) rfl ?_
      refine Go.iloadN K at_26 rfl (pc' := 27) rfl ?_
      refine Go.iconst K (v := 4) at_27 rfl (pc' := 28) rfl ?_
      refine Go.iand K at_28 (pc' := 29) rfl ?_
      refine Go.ifc K at_29 (by decide) (pcT := 36) (pcF := 32) (by decide) rfl (fun h29 => ?_) (fun h29 => ?_)
      · replace h29 : (p0 &&& (4 : Int32)) = 0 := h29
        refine Go.iconst K (v := 0) at_36 rfl (pc' := 37) rfl ?_
        refine Go.istore K at_37 (Ls' := #[.val (.int p0), .val (.int p1), .val (.int p2), .val (.int p3), .val (.int (1 : Int32)), .val (.int (0 : Int32)), .val (.int (0 : Int32)), .unset, .unset, .unset, .unset, .unset, .unset]) rfl (pc' := 39) rfl ?_
        refine Go.iconst K (v := 1) at_39 rfl (pc' := 40) rfl ?_
        refine Go.newP K (hw _ (List.mem_of_getElem? (i := 0) rfl)) (by decide) 1 (by decide) (by decide) (by decide) (by decide) at_40 (pc' := 42) rfl ?_
        intro h550 b kA_b eq552 E551 V_b
        have ne553 : eo ≠ b := own_ne E_eo.lt (Nat.le_of_eq eq552.symm)
        have g_b : n0 ≤ b := Nat.le_trans Z0 (Nat.le_of_eq eq552.symm)
        have f556 := E_eo.ext E551
        have f557 := F_eo.ext E551
        have od558 := od.ext E551
        have z559 := Nat.le_trans Z0 E551.1
        have cr560 := CR.trans (CHr.ext E551 CR.1)
        have V561 : Arv Z h550 b kA_b .char (1 : Int32) [(.int (0 : Int32))] (.int (0 : Int32)) := V_b.pad (pad_rep [] (.int (0 : Int32)) 1)
        refine Go.dup K at_42 rfl (pc' := 43) rfl ?_
        refine Go.iconst K (v := 0) at_43 rfl (pc' := 44) rfl ?_
        refine Go.iloadN K at_44 rfl (pc' := 45) rfl ?_
        refine Go.sipush K (v := 255) at_45 rfl (pc' := 48) rfl ?_
        refine Go.iand K at_48 (pc' := 49) rfl ?_
        refine Go.i2c K at_49 (pc' := 50) rfl ?_
        refine Go.castore K V561 0 rfl (Nat.le_of_ble_eq_true rfl) ⟨by decide, by decide⟩ g_b at_50 (pc' := 51) rfl ?_
        intro h562 K563 V564
        replace V564 : Arv Z h562 b kA_b .char (1 : Int32) [(.int (nar .char ((p1 &&& (255 : Int32)).toUInt32.toUInt16.toUInt32.toInt32)))] (.int (0 : Int32)) := V564
        have cr565 := cr560.trans (CHr.keep K563 (sfS (Safe.arv K.cz.alike V561 (by decide)) sf0) cr560.1)
        have f566 := f556.keep K563
        have f567 := f557.keep K563 (ninS ne553 nin0)
        have od569 := od558.keep K563 (allS g_b all0)
        have z570 := Nat.le_trans z559 K563.1
        refine Go.astore K at_51 rfl (Ls' := #[.val (.int p0), .val (.int p1), .val (.int p2), .val (.int p3), .val (.int (1 : Int32)), .val (.int (0 : Int32)), .val (.int (0 : Int32)), .val (.ref b), .unset, .unset, .unset, .unset, .unset]) rfl (pc' := 53) rfl ?_
        refine Go.iload K at_53 rfl (pc' := 55) rfl ?_
        refine Go.ifc K at_55 (by decide) (pcT := 75) (pcF := 58) (by decide) rfl (fun h55 => ?_) (fun h55 => ?_)
        · replace h55 : (1 : Int32) = 0 := h55
          exact absurd h55 (by decide)
        · replace h55 : ¬ ((1 : Int32) = 0) := h55
          refine Go.newO K (hw _ (List.mem_of_getElem? (i := 71) rfl)) (hw _ (List.mem_of_getElem? (i := 22) rfl)) (hw _ (List.mem_of_getElem? (i := 21) rfl)) (by decide) (by decide) at_58 (pc' := 61) rfl ?_
          intro h571 sr eq574 E572 E_sr D573
          have ne575 : b ≠ sr := own_ne V564.lt (Nat.le_of_eq eq574.symm)
          have ne576 : eo ≠ sr := own_ne f566.lt (Nat.le_of_eq eq574.symm)
          have g_sr : n0 ≤ sr := Nat.le_trans z570 (Nat.le_of_eq eq574.symm)
          have sf577 := Safe.ext E572 cr565.1 (Safe.new (Nat.le_of_eq eq574.symm))
          have f581 := f566.ext E572
          have f582 := f567.ext E572
          have f583 := V564.ext E572
          have od584 := od569.ext E572
          have z585 := Nat.le_trans z570 E572.1
          have cr586 := cr565.trans (CHr.ext E572 cr565.1)
          have f587 : Fld Z h571 sr "java/lang/String" "value" "[B" .null := D573 (Or.inr (hw _ (List.mem_of_getElem? (i := 24) rfl))) (ty := (.array .byte)) (by decide)
          have f588 : Fld Z h571 sr "java/lang/String" "coder" "B" (.int (0 : Int32)) := D573 (Or.inr (hw _ (List.mem_of_getElem? (i := 25) rfl))) (ty := .byte) (by decide)
          refine Go.dup K at_61 rfl (pc' := 62) rfl ?_
          refine Go.aload K at_62 rfl rfl (pc' := 64) rfl ?_
          have hp : ∀ c ∈ ([(nar .char ((p1 &&& (255 : Int32)).toUInt32.toUInt16.toUInt32.toInt32))] : List Int32), ¬ c < 0 ∧ ¬ (255 : Int32) < c := by
            intro c hc
            obtain rfl := List.mem_singleton.mp hc
            exact own_and255 p1
          refine Go.callC K (y := (⟨"java/lang/String", "<init>", "([C)V"⟩ : MethodName)) (W := 1) (kc := 1) (nc := 1) (a := sr) rfl (mvT K.cz (hw _ (List.mem_of_getElem? (i := 72) rfl))) (mvT K.cz (hw _ (List.mem_of_getElem? (i := 73) rfl))) (mvT K.cz (hw _ (List.mem_of_getElem? (i := 74) rfl))) (by decide) (paysNew (W := 1) K.cz hws (kI := 4) (hw _ (List.mem_of_getElem? (i := 22) rfl)) (cs := ([(nar .char ((p1 &&& (255 : Int32)).toUInt32.toUInt16.toUInt32.toInt32))] : List Int32)) (bs := ([(nar .char ((p1 &&& (255 : Int32)).toUInt32.toUInt16.toUInt32.toInt32))] : List Int32).map (fun c => c.toInt8.toInt32)) (n := 1) g_sr z585 E_sr f587 f588 f583 (S1.ext od584.2) P1 rfl rfl (by decide) (by decide) hp rfl (by decide) (by decide)) rfl (argsL := [(.ref b)]) (rest := [(.ref sr)]) (lenOf pd__28_5bC_29V rfl) rfl (Nat.le_of_ble_eq_true rfl) (by decide) (by decide) (fun v h' L q => q.2.1) (fun v h' L q => q.2.2.1.1) at_64 (pc' := 67) rfl ?_
          rintro v591 h589 Lc590 ⟨rfl, Nq, Kq, Eq, Cq, t, kb, ht0, ht1, htne, Vq, Aq⟩
          have f592 := Safe.keep Kq (sfS sf577 sf0) cr586.1 sf577
          have cr593 := cr586.trans (CHr.keep Kq (sfS sf577 sf0) cr586.1)
          have f594 := f581.keep Kq
          have f595 := f582.keep Kq (ninS ne576 nin0)
          have f596 := f583.keep Kq (ninS ne575 nin0)
          have f597 := E_sr.keep Kq
          have od600 := od584.keep Kq (allS g_sr all0)
          have z601 := Nat.le_trans z585 Kq.1
          show Go p l e _ _ m _ below meth c _ _ _ _ h589 _ _ (mkF m 67 #[.val (.int p0), .val (.int p1), .val (.int p2), .val (.int p3), .val (.int (1 : Int32)), .val (.int (0 : Int32)), .val (.int (0 : Int32)), .val (.ref b), .unset, .unset, .unset, .unset, .unset] [(.ref sr)])
          refine Go.callS K (y := (⟨"java/util/Optional", "of", "(Ljava/lang/Object;)Ljava/util/Optional;"⟩ : MethodName)) (W := 0) (kc := 1) (nc := 1) (mvT K.cz (hw _ (List.mem_of_getElem? (i := 58) rfl))) (mvT K.cz (hw _ (List.mem_of_getElem? (i := 59) rfl))) (mvT K.cz (hw _ (List.mem_of_getElem? (i := 3) rfl))) (mvT K.cz (hw _ (List.mem_of_getElem? (i := 60) rfl))) (by decide) ((m_oo l Z a0 hw h589 n0 z601 sr).pays (W := 0) K.cz (hw _ (List.mem_of_getElem? (i := 60) rfl)) (hw _ (List.mem_of_getElem? (i := 3) rfl)) (by decide) (by decide)) rfl (argsL := [(.ref sr)]) (rest := []) (lenOf pd__28Ljava_2flang_2fObject_3b_29Ljava_2futil_2fOptional_3b rfl) rfl (Nat.le_of_ble_eq_true rfl) (by decide) (by decide) frOf grOf at_67 (pc' := 70) rfl ?_
          rintro v604 h602 Lc603 ⟨⟨⟨op, rfl, hle_op, K_op, E_op, F_op⟩, -⟩, -⟩
          have ne605 : sr ≠ op := own_ne f597.lt hle_op
          have ne606 : b ≠ op := own_ne f596.lt hle_op
          have ne607 : eo ≠ op := own_ne f594.lt hle_op
          have f608 := Safe.keep K_op sf0 cr593.1 f592
          have cr609 := cr593.trans (CHr.keep K_op sf0 cr593.1)
          have f610 := f594.keep K_op
          have f611 := f595.keep K_op nin0
          have f612 := f596.keep K_op nin0
          have f613 := f597.keep K_op
          have od614 := od600.keep K_op all0
          have z615 := Nat.le_trans z601 K_op.1
          show Go p l e _ _ m _ below meth c _ _ _ _ h602 _ _ (mkF m 70 #[.val (.int p0), .val (.int p1), .val (.int p2), .val (.int p3), .val (.int (1 : Int32)), .val (.int (0 : Int32)), .val (.int (0 : Int32)), .val (.ref b), .unset, .unset, .unset, .unset, .unset] [(.ref op)])
          refine Go.astore K at_70 rfl (Ls' := #[.val (.int p0), .val (.int p1), .val (.int p2), .val (.int p3), .val (.int (1 : Int32)), .val (.int (0 : Int32)), .val (.int (0 : Int32)), .val (.ref b), .val (.ref op), .unset, .unset, .unset, .unset]) rfl (pc' := 72) rfl ?_
          refine Go.goto K at_72 (pc' := 80) (by decide) (by decide) ?_
          refine Go.iload K at_80 rfl (pc' := 82) rfl ?_
          refine Go.ifc K at_82 (by decide) (pcT := 97) (pcF := 85) (by decide) rfl (fun h82 => ?_) (fun h82 => ?_)
          · replace h82 : (0 : Int32) = 0 := h82
            refine Go.callS K (y := (⟨"java/util/Optional", "empty", "()Ljava/util/Optional;"⟩ : MethodName)) (W := 0) (kc := 0) (nc := 0) (mvT K.cz (hw _ (List.mem_of_getElem? (i := 1) rfl))) (mvT K.cz (hw _ (List.mem_of_getElem? (i := 2) rfl))) (mvT K.cz (hw _ (List.mem_of_getElem? (i := 3) rfl))) (mvT K.cz (hw _ (List.mem_of_getElem? (i := 4) rfl))) (by decide) ((m_oe l Z a0 hw h602 n0 z615 eo SE od614).pays (W := 0) K.cz (hw _ (List.mem_of_getElem? (i := 4) rfl)) (hw _ (List.mem_of_getElem? (i := 3) rfl)) (by decide) (by decide)) rfl (argsL := []) (rest := []) (lenOf pd__28_29Ljava_2futil_2fOptional_3b rfl) rfl (Nat.le_of_ble_eq_true rfl) (by decide) (by decide) frOf grOf at_97 (pc' := 100) rfl ?_
            rintro v618 h616 Lc617 ⟨⟨⟨rfl, eh⟩, -⟩, -⟩
            obtain rfl := eh
            show Go p l e _ _ m _ below meth c _ _ _ _ h602 _ _ (mkF m 100 #[.val (.int p0), .val (.int p1), .val (.int p2), .val (.int p3), .val (.int (1 : Int32)), .val (.int (0 : Int32)), .val (.int (0 : Int32)), .val (.ref b), .val (.ref op), .unset, .unset, .unset, .unset] [(.ref eo)])
            refine Go.astore K at_100 rfl (Ls' := #[.val (.int p0), .val (.int p1), .val (.int p2), .val (.int p3), .val (.int (1 : Int32)), .val (.int (0 : Int32)), .val (.int (0 : Int32)), .val (.ref b), .val (.ref op), .val (.ref eo), .unset, .unset, .unset]) rfl (pc' := 102) rfl ?_
            refine Go.iload K at_102 rfl (pc' := 104) rfl ?_
            refine Go.ifc K at_104 (by decide) (pcT := 119) (pcF := 107) (by decide) rfl (fun h104 => ?_) (fun h104 => ?_)
            · replace h104 : (0 : Int32) = 0 := h104
              refine Go.callS K (y := (⟨"java/util/Optional", "empty", "()Ljava/util/Optional;"⟩ : MethodName)) (W := 0) (kc := 0) (nc := 0) (mvT K.cz (hw _ (List.mem_of_getElem? (i := 1) rfl))) (mvT K.cz (hw _ (List.mem_of_getElem? (i := 2) rfl))) (mvT K.cz (hw _ (List.mem_of_getElem? (i := 3) rfl))) (mvT K.cz (hw _ (List.mem_of_getElem? (i := 4) rfl))) (by decide) ((m_oe l Z a0 hw h602 n0 z615 eo SE od614).pays (W := 0) K.cz (hw _ (List.mem_of_getElem? (i := 4) rfl)) (hw _ (List.mem_of_getElem? (i := 3) rfl)) (by decide) (by decide)) rfl (argsL := []) (rest := []) (lenOf pd__28_29Ljava_2futil_2fOptional_3b rfl) rfl (Nat.le_of_ble_eq_true rfl) (by decide) (by decide) frOf grOf at_119 (pc' := 122) rfl ?_
              rintro v621 h619 Lc620 ⟨⟨⟨rfl, eh⟩, -⟩, -⟩
              obtain rfl := eh
              show Go p l e _ _ m _ below meth c _ _ _ _ h602 _ _ (mkF m 122 #[.val (.int p0), .val (.int p1), .val (.int p2), .val (.int p3), .val (.int (1 : Int32)), .val (.int (0 : Int32)), .val (.int (0 : Int32)), .val (.ref b), .val (.ref op), .val (.ref eo), .unset, .unset, .unset] [(.ref eo)])
              refine Go.astore K at_122 rfl (Ls' := #[.val (.int p0), .val (.int p1), .val (.int p2), .val (.int p3), .val (.int (1 : Int32)), .val (.int (0 : Int32)), .val (.int (0 : Int32)), .val (.ref b), .val (.ref op), .val (.ref eo), .val (.ref eo), .unset, .unset]) rfl (pc' := 124) rfl ?_
              refine Go.newO K (hw _ (List.mem_of_getElem? (i := 6) rfl)) (hw _ (List.mem_of_getElem? (i := 7) rfl)) (hw _ (List.mem_of_getElem? (i := 8) rfl)) (by decide) (by decide) at_124 (pc' := 127) rfl ?_
              intro h622 se eq625 E623 E_se D624
              have ne626 : op ≠ se := own_ne E_op.lt (Nat.le_of_eq eq625.symm)
              have ne627 : sr ≠ se := own_ne f613.lt (Nat.le_of_eq eq625.symm)
              have ne628 : b ≠ se := own_ne f612.lt (Nat.le_of_eq eq625.symm)
              have ne629 : eo ≠ se := own_ne f610.lt (Nat.le_of_eq eq625.symm)
              have g_se : n0 ≤ se := Nat.le_trans z615 (Nat.le_of_eq eq625.symm)
              have f634 := Safe.ext E623 cr609.1 f608
              have f637 := f610.ext E623
              have f638 := f611.ext E623
              have f639 := f612.ext E623
              have f640 := f613.ext E623
              have f641 := E_op.ext E623
              have f642 := F_op.ext E623
              have od643 := od614.ext E623
              have z644 := Nat.le_trans z615 E623.1
              have cr645 := cr609.trans (CHr.ext E623 cr609.1)
              have f646 : Fld Z h622 se "com/example/chartwarden/chartwarden/trail/Selection" "patient" "Ljava/util/Optional;" .null := D624 (Or.inr (hw _ (List.mem_of_getElem? (i := 35) rfl))) (ty := (.object "java/util/Optional")) (by decide)
              have f647 : Fld Z h622 se "com/example/chartwarden/chartwarden/trail/Selection" "from" "Ljava/util/Optional;" .null := D624 (Or.inr (hw _ (List.mem_of_getElem? (i := 37) rfl))) (ty := (.object "java/util/Optional")) (by decide)
              have f648 : Fld Z h622 se "com/example/chartwarden/chartwarden/trail/Selection" "to" "Ljava/util/Optional;" .null := D624 (Or.inr (hw _ (List.mem_of_getElem? (i := 39) rfl))) (ty := (.object "java/util/Optional")) (by decide)
              refine Go.dup K at_127 rfl (pc' := 128) rfl ?_
              refine Go.aload K at_128 rfl rfl (pc' := 130) rfl ?_
              refine Go.aload K at_130 rfl rfl (pc' := 132) rfl ?_
              refine Go.aload K at_132 rfl rfl (pc' := 134) rfl ?_
              refine Go.callCW K hS (y := (⟨"com/example/chartwarden/chartwarden/trail/Selection", "<init>", "(Ljava/util/Optional;Ljava/util/Optional;Ljava/util/Optional;)V"⟩ : MethodName)) (W := 1) (kc := 6) (nc := 64) (a := se) rfl (mvT K.cz (hw _ (List.mem_of_getElem? (i := 9) rfl))) (mvT K.cz (hw _ (List.mem_of_getElem? (i := 10) rfl))) (mvT K.cz (hw _ (List.mem_of_getElem? (i := 11) rfl))) (by decide) ((m_si l Z a0 hw h622 n0 z644 [] wS hEL se op eo eo E_se f646 f647 f648 g_se).pays (W := 1) K.cz (hw _ (List.mem_of_getElem? (i := 11) rfl)) (hw _ (List.mem_of_getElem? (i := 8) rfl)) (by decide) (by decide) hEL cr645.1) rfl (argsL := [(.ref op), (.ref eo), (.ref eo)]) (rest := [(.ref se)]) (lenOf pd__28Ljava_2futil_2fOptional_3bLjava_2futil_2fOptional_3bLjava_2futil_2fOptional_3b_29V rfl) rfl (Nat.le_of_ble_eq_true rfl) (by decide) (by decide) frOf at_134 (pc' := 137) rfl ?_
              rintro v651 h649 Lc650 vm652 B653 ⟨⟨⟨rfl, Kq2, Eq2, Ff, Ft⟩, -⟩, -⟩ hrh649 hS K
              have f654 := hrh649.safe f640.lt f634
              have cr655 := cr645.trans (hrh649)
              have f656 := f637.keep Kq2
              have f657 := f638.keep Kq2 (ninS ne629 nin0)
              have f658 := f639.keep Kq2 (ninS ne628 nin0)
              have f659 := f640.keep Kq2
              have f660 := f641.keep Kq2
              have f661 := f642.keep Kq2 (ninS ne626 nin0)
              have f662 := E_se.keep Kq2
              have od666 := od643.keep Kq2 (allS g_se all0)
              have z667 := Nat.le_trans z644 Kq2.1
              show Go p l e _ _ m _ below meth c _ _ _ _ h649 _ _ (mkF m 137 #[.val (.int p0), .val (.int p1), .val (.int p2), .val (.int p3), .val (.int (1 : Int32)), .val (.int (0 : Int32)), .val (.int (0 : Int32)), .val (.ref b), .val (.ref op), .val (.ref eo), .val (.ref eo), .unset, .unset] [(.ref se)])
              refine Go.astore K at_137 rfl (Ls' := #[.val (.int p0), .val (.int p1), .val (.int p2), .val (.int p3), .val (.int (1 : Int32)), .val (.int (0 : Int32)), .val (.int (0 : Int32)), .val (.ref b), .val (.ref op), .val (.ref eo), .val (.ref eo), .val (.ref se), .unset]) rfl (pc' := 139) rfl ?_
              refine Go.iload K at_139 rfl (pc' := 141) rfl ?_
              refine Go.ifc K at_141 (by decide) (pcT := 149) (pcF := 144) (by decide) rfl (fun h141 => ?_) (fun h141 => ?_)
              · replace h141 : ¬ (0 : Int32) = 0 := h141
                exact absurd rfl h141
              · replace h141 : ¬ (¬ (0 : Int32) = 0) := h141
                refine Go.iload K at_144 rfl (pc' := 146) rfl ?_
                refine Go.ifc K at_146 (by decide) (pcT := 153) (pcF := 149) (by decide) rfl (fun h146 => ?_) (fun h146 => ?_)
                · replace h146 : (0 : Int32) = 0 := h146
                  refine Go.iconst K (v := 0) at_153 rfl (pc' := 154) rfl ?_
                  refine Go.istore K at_154 (Ls' := #[.val (.int p0), .val (.int p1), .val (.int p2), .val (.int p3), .val (.int (1 : Int32)), .val (.int (0 : Int32)), .val (.int (0 : Int32)), .val (.ref b), .val (.ref op), .val (.ref eo), .val (.ref eo), .val (.ref se), .val (.int (0 : Int32))]) rfl (pc' := 156) rfl ?_
                  refine Go.aload K at_156 rfl rfl (pc' := 158) rfl ?_
                  refine Go.callV K (y := (⟨"com/example/chartwarden/chartwarden/trail/Selection", "timed", "()Z"⟩ : MethodName)) (z := (⟨"com/example/chartwarden/chartwarden/trail/Selection", "timed", "()Z"⟩ : MethodName)) (W := 0) (kc := 0) (nc := 0) (a := se) (mvT K.cz (hw _ (List.mem_of_getElem? (i := 40) rfl))) (mvT K.cz (hw _ (List.mem_of_getElem? (i := 41) rfl))) (notFace_of_selects (args := #[]) (mvT K.cz (hw _ (List.mem_of_getElem? (i := 43) rfl)))) (mvT K.cz (hw _ (List.mem_of_getElem? (i := 43) rfl))) (mvT K.cz (hw _ (List.mem_of_getElem? (i := 42) rfl))) (by decide) f662 ((m_tm00 l Z a0 hw h649 n0 z667 se eo eo eo eo f662 Ff Ft f656 f657 f656 f657).pays (W := 0) K.cz (hw _ (List.mem_of_getElem? (i := 44) rfl)) (hw _ (List.mem_of_getElem? (i := 8) rfl)) (by decide) (by decide)) rfl (argsL := []) (rest := []) (lenOf pd__28_29Z rfl) rfl (Nat.le_of_ble_eq_true rfl) (by decide) (by decide) frOf grOf at_158 (pc' := 161) rfl ?_
                  rintro v670 h668 Lc669 ⟨⟨⟨rfl, eh⟩, -⟩, -⟩
                  obtain rfl := eh
                  show Go p l e _ _ m _ below meth c _ _ _ _ h649 _ _ (mkF m 161 #[.val (.int p0), .val (.int p1), .val (.int p2), .val (.int p3), .val (.int (1 : Int32)), .val (.int (0 : Int32)), .val (.int (0 : Int32)), .val (.ref b), .val (.ref op), .val (.ref eo), .val (.ref eo), .val (.ref se), .val (.int (0 : Int32))] [(.int (0 : Int32))])
                  refine Go.iload K at_161 rfl (pc' := 163) rfl ?_
                  refine Go.icmp K at_163 (by decide) (pcT := 170) (pcF := 166) (by decide) rfl (fun h163 => ?_) (fun h163 => ?_)
                  · replace h163 : ¬ (0 : Int32) = (0 : Int32) := h163
                    exact absurd rfl h163
                  · replace h163 : ¬ (¬ (0 : Int32) = (0 : Int32)) := h163
                    refine Go.iconst K (v := 1) at_166 rfl (pc' := 167) rfl ?_
                    refine Go.goto K at_167 (pc' := 171) (by decide) (by decide) ?_
                    exact Go.retN K (by simp) (by decide) (by decide) at_171 (own_end hEL K.cz cr655 rfl)
                · replace h146 : ¬ ((0 : Int32) = 0) := h146
                  exact absurd rfl h146
            · replace h104 : ¬ ((0 : Int32) = 0) := h104
              exact absurd rfl h104
          · replace h82 : ¬ ((0 : Int32) = 0) := h82
            exact absurd rfl h82
      · replace h29 : ¬ ((p0 &&& (4 : Int32)) = 0) := h29
        refine Go.iconst K (v := 1) at_32 rfl (pc' := 33) rfl ?_
        refine Go.goto K at_33 (pc' := 37) (by decide) (by decide) ?_
        refine Go.istore K at_37 (Ls' := #[.val (.int p0), .val (.int p1), .val (.int p2), .val (.int p3), .val (.int (1 : Int32)), .val (.int (0 : Int32)), .val (.int (1 : Int32)), .unset, .unset, .unset, .unset, .unset, .unset]) rfl (pc' := 39) rfl ?_
        refine Go.iconst K (v := 1) at_39 rfl (pc' := 40) rfl ?_
        refine Go.newP K (hw _ (List.mem_of_getElem? (i := 0) rfl)) (by decide) 1 (by decide) (by decide) (by decide) (by decide) at_40 (pc' := 42) rfl ?_
        intro h671 b kA_b eq673 E672 V_b
        have ne674 : eo ≠ b := own_ne E_eo.lt (Nat.le_of_eq eq673.symm)
        have g_b : n0 ≤ b := Nat.le_trans Z0 (Nat.le_of_eq eq673.symm)
        have f677 := E_eo.ext E672
        have f678 := F_eo.ext E672
        have od679 := od.ext E672
        have z680 := Nat.le_trans Z0 E672.1
        have cr681 := CR.trans (CHr.ext E672 CR.1)
        have V682 : Arv Z h671 b kA_b .char (1 : Int32) [(.int (0 : Int32))] (.int (0 : Int32)) := V_b.pad (pad_rep [] (.int (0 : Int32)) 1)
        refine Go.dup K at_42 rfl (pc' := 43) rfl ?_
        refine Go.iconst K (v := 0) at_43 rfl (pc' := 44) rfl ?_
        refine Go.iloadN K at_44 rfl (pc' := 45) rfl ?_
        refine Go.sipush K (v := 255) at_45 rfl (pc' := 48) rfl ?_
        refine Go.iand K at_48 (pc' := 49) rfl ?_
        refine Go.i2c K at_49 (pc' := 50) rfl ?_
        refine Go.castore K V682 0 rfl (Nat.le_of_ble_eq_true rfl) ⟨by decide, by decide⟩ g_b at_50 (pc' := 51) rfl ?_
        intro h683 K684 V685
        replace V685 : Arv Z h683 b kA_b .char (1 : Int32) [(.int (nar .char ((p1 &&& (255 : Int32)).toUInt32.toUInt16.toUInt32.toInt32)))] (.int (0 : Int32)) := V685
        have cr686 := cr681.trans (CHr.keep K684 (sfS (Safe.arv K.cz.alike V682 (by decide)) sf0) cr681.1)
        have f687 := f677.keep K684
        have f688 := f678.keep K684 (ninS ne674 nin0)
        have od690 := od679.keep K684 (allS g_b all0)
        have z691 := Nat.le_trans z680 K684.1
        refine Go.astore K at_51 rfl (Ls' := #[.val (.int p0), .val (.int p1), .val (.int p2), .val (.int p3), .val (.int (1 : Int32)), .val (.int (0 : Int32)), .val (.int (1 : Int32)), .val (.ref b), .unset, .unset, .unset, .unset, .unset]) rfl (pc' := 53) rfl ?_
        refine Go.iload K at_53 rfl (pc' := 55) rfl ?_
        refine Go.ifc K at_55 (by decide) (pcT := 75) (pcF := 58) (by decide) rfl (fun h55 => ?_) (fun h55 => ?_)
        · replace h55 : (1 : Int32) = 0 := h55
          exact absurd h55 (by decide)
        · replace h55 : ¬ ((1 : Int32) = 0) := h55
          refine Go.newO K (hw _ (List.mem_of_getElem? (i := 71) rfl)) (hw _ (List.mem_of_getElem? (i := 22) rfl)) (hw _ (List.mem_of_getElem? (i := 21) rfl)) (by decide) (by decide) at_58 (pc' := 61) rfl ?_
          intro h692 sr eq695 E693 E_sr D694
          have ne696 : b ≠ sr := own_ne V685.lt (Nat.le_of_eq eq695.symm)
          have ne697 : eo ≠ sr := own_ne f687.lt (Nat.le_of_eq eq695.symm)
          have g_sr : n0 ≤ sr := Nat.le_trans z691 (Nat.le_of_eq eq695.symm)
          have sf698 := Safe.ext E693 cr686.1 (Safe.new (Nat.le_of_eq eq695.symm))
          have f702 := f687.ext E693
          have f703 := f688.ext E693
          have f704 := V685.ext E693
          have od705 := od690.ext E693
          have z706 := Nat.le_trans z691 E693.1
          have cr707 := cr686.trans (CHr.ext E693 cr686.1)
          have f708 : Fld Z h692 sr "java/lang/String" "value" "[B" .null := D694 (Or.inr (hw _ (List.mem_of_getElem? (i := 24) rfl))) (ty := (.array .byte)) (by decide)
          have f709 : Fld Z h692 sr "java/lang/String" "coder" "B" (.int (0 : Int32)) := D694 (Or.inr (hw _ (List.mem_of_getElem? (i := 25) rfl))) (ty := .byte) (by decide)
          refine Go.dup K at_61 rfl (pc' := 62) rfl ?_
          refine Go.aload K at_62 rfl rfl (pc' := 64) rfl ?_
          have hp : ∀ c ∈ ([(nar .char ((p1 &&& (255 : Int32)).toUInt32.toUInt16.toUInt32.toInt32))] : List Int32), ¬ c < 0 ∧ ¬ (255 : Int32) < c := by
            intro c hc
            obtain rfl := List.mem_singleton.mp hc
            exact own_and255 p1
          refine Go.callC K (y := (⟨"java/lang/String", "<init>", "([C)V"⟩ : MethodName)) (W := 1) (kc := 1) (nc := 1) (a := sr) rfl (mvT K.cz (hw _ (List.mem_of_getElem? (i := 72) rfl))) (mvT K.cz (hw _ (List.mem_of_getElem? (i := 73) rfl))) (mvT K.cz (hw _ (List.mem_of_getElem? (i := 74) rfl))) (by decide) (paysNew (W := 1) K.cz hws (kI := 4) (hw _ (List.mem_of_getElem? (i := 22) rfl)) (cs := ([(nar .char ((p1 &&& (255 : Int32)).toUInt32.toUInt16.toUInt32.toInt32))] : List Int32)) (bs := ([(nar .char ((p1 &&& (255 : Int32)).toUInt32.toUInt16.toUInt32.toInt32))] : List Int32).map (fun c => c.toInt8.toInt32)) (n := 1) g_sr z706 E_sr f708 f709 f704 (S1.ext od705.2) P1 rfl rfl (by decide) (by decide) hp rfl (by decide) (by decide)) rfl (argsL := [(.ref b)]) (rest := [(.ref sr)]) (lenOf pd__28_5bC_29V rfl) rfl (Nat.le_of_ble_eq_true rfl) (by decide) (by decide) (fun v h' L q => q.2.1) (fun v h' L q => q.2.2.1.1) at_64 (pc' := 67) rfl ?_
          rintro v712 h710 Lc711 ⟨rfl, Nq, Kq, Eq, Cq, t, kb, ht0, ht1, htne, Vq, Aq⟩
          have f713 := Safe.keep Kq (sfS sf698 sf0) cr707.1 sf698
          have cr714 := cr707.trans (CHr.keep Kq (sfS sf698 sf0) cr707.1)
          have f715 := f702.keep Kq
          have f716 := f703.keep Kq (ninS ne697 nin0)
          have f717 := f704.keep Kq (ninS ne696 nin0)
          have f718 := E_sr.keep Kq
          have od721 := od705.keep Kq (allS g_sr all0)
          have z722 := Nat.le_trans z706 Kq.1
          show Go p l e _ _ m _ below meth c _ _ _ _ h710 _ _ (mkF m 67 #[.val (.int p0), .val (.int p1), .val (.int p2), .val (.int p3), .val (.int (1 : Int32)), .val (.int (0 : Int32)), .val (.int (1 : Int32)), .val (.ref b), .unset, .unset, .unset, .unset, .unset] [(.ref sr)])
          refine Go.callS K (y := (⟨"java/util/Optional", "of", "(Ljava/lang/Object;)Ljava/util/Optional;"⟩ : MethodName)) (W := 0) (kc := 1) (nc := 1) (mvT K.cz (hw _ (List.mem_of_getElem? (i := 58) rfl))) (mvT K.cz (hw _ (List.mem_of_getElem? (i := 59) rfl))) (mvT K.cz (hw _ (List.mem_of_getElem? (i := 3) rfl))) (mvT K.cz (hw _ (List.mem_of_getElem? (i := 60) rfl))) (by decide) ((m_oo l Z a0 hw h710 n0 z722 sr).pays (W := 0) K.cz (hw _ (List.mem_of_getElem? (i := 60) rfl)) (hw _ (List.mem_of_getElem? (i := 3) rfl)) (by decide) (by decide)) rfl (argsL := [(.ref sr)]) (rest := []) (lenOf pd__28Ljava_2flang_2fObject_3b_29Ljava_2futil_2fOptional_3b rfl) rfl (Nat.le_of_ble_eq_true rfl) (by decide) (by decide) frOf grOf at_67 (pc' := 70) rfl ?_
          rintro v725 h723 Lc724 ⟨⟨⟨op, rfl, hle_op, K_op, E_op, F_op⟩, -⟩, -⟩
          have ne726 : sr ≠ op := own_ne f718.lt hle_op
          have ne727 : b ≠ op := own_ne f717.lt hle_op
          have ne728 : eo ≠ op := own_ne f715.lt hle_op
          have f729 := Safe.keep K_op sf0 cr714.1 f713
          have cr730 := cr714.trans (CHr.keep K_op sf0 cr714.1)
          have f731 := f715.keep K_op
          have f732 := f716.keep K_op nin0
          have f733 := f717.keep K_op nin0
          have f734 := f718.keep K_op
          have od735 := od721.keep K_op all0
          have z736 := Nat.le_trans z722 K_op.1
          show Go p l e _ _ m _ below meth c _ _ _ _ h723 _ _ (mkF m 70 #[.val (.int p0), .val (.int p1), .val (.int p2), .val (.int p3), .val (.int (1 : Int32)), .val (.int (0 : Int32)), .val (.int (1 : Int32)), .val (.ref b), .unset, .unset, .unset, .unset, .unset] [(.ref op)])
          refine Go.astore K at_70 rfl (Ls' := #[.val (.int p0), .val (.int p1), .val (.int p2), .val (.int p3), .val (.int (1 : Int32)), .val (.int (0 : Int32)), .val (.int (1 : Int32)), .val (.ref b), .val (.ref op), .unset, .unset, .unset, .unset]) rfl (pc' := 72) rfl ?_
          refine Go.goto K at_72 (pc' := 80) (by decide) (by decide) ?_
          refine Go.iload K at_80 rfl (pc' := 82) rfl ?_
          refine Go.ifc K at_82 (by decide) (pcT := 97) (pcF := 85) (by decide) rfl (fun h82 => ?_) (fun h82 => ?_)
          · replace h82 : (0 : Int32) = 0 := h82
            refine Go.callS K (y := (⟨"java/util/Optional", "empty", "()Ljava/util/Optional;"⟩ : MethodName)) (W := 0) (kc := 0) (nc := 0) (mvT K.cz (hw _ (List.mem_of_getElem? (i := 1) rfl))) (mvT K.cz (hw _ (List.mem_of_getElem? (i := 2) rfl))) (mvT K.cz (hw _ (List.mem_of_getElem? (i := 3) rfl))) (mvT K.cz (hw _ (List.mem_of_getElem? (i := 4) rfl))) (by decide) ((m_oe l Z a0 hw h723 n0 z736 eo SE od735).pays (W := 0) K.cz (hw _ (List.mem_of_getElem? (i := 4) rfl)) (hw _ (List.mem_of_getElem? (i := 3) rfl)) (by decide) (by decide)) rfl (argsL := []) (rest := []) (lenOf pd__28_29Ljava_2futil_2fOptional_3b rfl) rfl (Nat.le_of_ble_eq_true rfl) (by decide) (by decide) frOf grOf at_97 (pc' := 100) rfl ?_
            rintro v739 h737 Lc738 ⟨⟨⟨rfl, eh⟩, -⟩, -⟩
            obtain rfl := eh
            show Go p l e _ _ m _ below meth c _ _ _ _ h723 _ _ (mkF m 100 #[.val (.int p0), .val (.int p1), .val (.int p2), .val (.int p3), .val (.int (1 : Int32)), .val (.int (0 : Int32)), .val (.int (1 : Int32)), .val (.ref b), .val (.ref op), .unset, .unset, .unset, .unset] [(.ref eo)])
            refine Go.astore K at_100 rfl (Ls' := #[.val (.int p0), .val (.int p1), .val (.int p2), .val (.int p3), .val (.int (1 : Int32)), .val (.int (0 : Int32)), .val (.int (1 : Int32)), .val (.ref b), .val (.ref op), .val (.ref eo), .unset, .unset, .unset]) rfl (pc' := 102) rfl ?_
            refine Go.iload K at_102 rfl (pc' := 104) rfl ?_
            refine Go.ifc K at_104 (by decide) (pcT := 119) (pcF := 107) (by decide) rfl (fun h104 => ?_) (fun h104 => ?_)
            · replace h104 : (1 : Int32) = 0 := h104
              exact absurd h104 (by decide)
            · replace h104 : ¬ ((1 : Int32) = 0) := h104
              refine Go.iloadN K at_107 rfl (pc' := 108) rfl ?_
              refine Go.callS K (y := (⟨"com/example/chartwarden/chartwarden/trail/SelectionTimedPinLaw", "pick", "(I)Ljava/time/Instant;"⟩ : MethodName)) (W := 0) (kc := 1) (nc := 2) (mvT K.cz (hw _ (List.mem_of_getElem? (i := 52) rfl))) (mvT K.cz (hw _ (List.mem_of_getElem? (i := 53) rfl))) (mvT K.cz (hw _ (List.mem_of_getElem? (i := 54) rfl))) (mvT K.cz (hw _ (List.mem_of_getElem? (i := 55) rfl))) (by decide) ((m_pk l Z a0 hw h723 n0 z736 p3 od735 iMIN SMIN iEPOCH SEPOCH iMAX SMAX).pays (W := 0) K.cz (hw _ (List.mem_of_getElem? (i := 55) rfl)) (hw _ (List.mem_of_getElem? (i := 54) rfl)) (by decide) (by decide)) rfl (argsL := [(.int p3)]) (rest := []) (lenOf pd__28I_29Ljava_2ftime_2fInstant_3b rfl) rfl (Nat.le_of_ble_eq_true rfl) (by decide) (by decide) frOf grOf at_108 (pc' := 111) rfl ?_
              rintro v742 h740 Lc741 ⟨⟨⟨i_ot, rfl, Ki_ot⟩, -⟩, -⟩
              have f743 := Safe.keep Ki_ot sf0 cr730.1 f729
              have cr744 := cr730.trans (CHr.keep Ki_ot sf0 cr730.1)
              have f745 := f731.keep Ki_ot
              have f746 := f732.keep Ki_ot nin0
              have f747 := f733.keep Ki_ot nin0
              have f748 := f734.keep Ki_ot
              have f749 := E_op.keep Ki_ot
              have f750 := F_op.keep Ki_ot nin0
              have od751 := od735.keep Ki_ot all0
              have z752 := Nat.le_trans z736 Ki_ot.1
              show Go p l e _ _ m _ below meth c _ _ _ _ h740 _ _ (mkF m 111 #[.val (.int p0), .val (.int p1), .val (.int p2), .val (.int p3), .val (.int (1 : Int32)), .val (.int (0 : Int32)), .val (.int (1 : Int32)), .val (.ref b), .val (.ref op), .val (.ref eo), .unset, .unset, .unset] [(.ref i_ot)])
              refine Go.callS K (y := (⟨"java/util/Optional", "of", "(Ljava/lang/Object;)Ljava/util/Optional;"⟩ : MethodName)) (W := 0) (kc := 1) (nc := 1) (mvT K.cz (hw _ (List.mem_of_getElem? (i := 58) rfl))) (mvT K.cz (hw _ (List.mem_of_getElem? (i := 59) rfl))) (mvT K.cz (hw _ (List.mem_of_getElem? (i := 3) rfl))) (mvT K.cz (hw _ (List.mem_of_getElem? (i := 60) rfl))) (by decide) ((m_oo l Z a0 hw h740 n0 z752 i_ot).pays (W := 0) K.cz (hw _ (List.mem_of_getElem? (i := 60) rfl)) (hw _ (List.mem_of_getElem? (i := 3) rfl)) (by decide) (by decide)) rfl (argsL := [(.ref i_ot)]) (rest := []) (lenOf pd__28Ljava_2flang_2fObject_3b_29Ljava_2futil_2fOptional_3b rfl) rfl (Nat.le_of_ble_eq_true rfl) (by decide) (by decide) frOf grOf at_111 (pc' := 114) rfl ?_
              rintro v755 h753 Lc754 ⟨⟨⟨ot, rfl, hle_ot, K_ot, E_ot, F_ot⟩, -⟩, -⟩
              have ne756 : op ≠ ot := own_ne f749.lt hle_ot
              have ne757 : sr ≠ ot := own_ne f748.lt hle_ot
              have ne758 : b ≠ ot := own_ne f747.lt hle_ot
              have ne759 : eo ≠ ot := own_ne f745.lt hle_ot
              have f760 := Safe.keep K_ot sf0 cr744.1 f743
              have cr761 := cr744.trans (CHr.keep K_ot sf0 cr744.1)
              have f762 := f745.keep K_ot
              have f763 := f746.keep K_ot nin0
              have f764 := f747.keep K_ot nin0
              have f765 := f748.keep K_ot
              have f766 := f749.keep K_ot
              have f767 := f750.keep K_ot nin0
              have od768 := od751.keep K_ot all0
              have z769 := Nat.le_trans z752 K_ot.1
              show Go p l e _ _ m _ below meth c _ _ _ _ h753 _ _ (mkF m 114 #[.val (.int p0), .val (.int p1), .val (.int p2), .val (.int p3), .val (.int (1 : Int32)), .val (.int (0 : Int32)), .val (.int (1 : Int32)), .val (.ref b), .val (.ref op), .val (.ref eo), .unset, .unset, .unset] [(.ref ot)])
              refine Go.astore K at_114 rfl (Ls' := #[.val (.int p0), .val (.int p1), .val (.int p2), .val (.int p3), .val (.int (1 : Int32)), .val (.int (0 : Int32)), .val (.int (1 : Int32)), .val (.ref b), .val (.ref op), .val (.ref eo), .val (.ref ot), .unset, .unset]) rfl (pc' := 116) rfl ?_
              refine Go.goto K at_116 (pc' := 124) (by decide) (by decide) ?_
              refine Go.newO K (hw _ (List.mem_of_getElem? (i := 6) rfl)) (hw _ (List.mem_of_getElem? (i := 7) rfl)) (hw _ (List.mem_of_getElem? (i := 8) rfl)) (by decide) (by decide) at_124 (pc' := 127) rfl ?_
              intro h770 se eq773 E771 E_se D772
              have ne774 : sr ≠ se := own_ne f765.lt (Nat.le_of_eq eq773.symm)
              have ne775 : b ≠ se := own_ne f764.lt (Nat.le_of_eq eq773.symm)
              have ne776 : ot ≠ se := own_ne E_ot.lt (Nat.le_of_eq eq773.symm)
              have ne777 : op ≠ se := own_ne f766.lt (Nat.le_of_eq eq773.symm)
              have ne778 : eo ≠ se := own_ne f762.lt (Nat.le_of_eq eq773.symm)
              have g_se : n0 ≤ se := Nat.le_trans z769 (Nat.le_of_eq eq773.symm)
              have f783 := Safe.ext E771 cr761.1 f760
              have f788 := f762.ext E771
              have f789 := f763.ext E771
              have f790 := f764.ext E771
              have f791 := f765.ext E771
              have f792 := f766.ext E771
              have f793 := f767.ext E771
              have f794 := E_ot.ext E771
              have f795 := F_ot.ext E771
              have od796 := od768.ext E771
              have z797 := Nat.le_trans z769 E771.1
              have cr798 := cr761.trans (CHr.ext E771 cr761.1)
              have f799 : Fld Z h770 se "com/example/chartwarden/chartwarden/trail/Selection" "patient" "Ljava/util/Optional;" .null := D772 (Or.inr (hw _ (List.mem_of_getElem? (i := 35) rfl))) (ty := (.object "java/util/Optional")) (by decide)
              have f800 : Fld Z h770 se "com/example/chartwarden/chartwarden/trail/Selection" "from" "Ljava/util/Optional;" .null := D772 (Or.inr (hw _ (List.mem_of_getElem? (i := 37) rfl))) (ty := (.object "java/util/Optional")) (by decide)
              have f801 : Fld Z h770 se "com/example/chartwarden/chartwarden/trail/Selection" "to" "Ljava/util/Optional;" .null := D772 (Or.inr (hw _ (List.mem_of_getElem? (i := 39) rfl))) (ty := (.object "java/util/Optional")) (by decide)
              refine Go.dup K at_127 rfl (pc' := 128) rfl ?_
              refine Go.aload K at_128 rfl rfl (pc' := 130) rfl ?_
              refine Go.aload K at_130 rfl rfl (pc' := 132) rfl ?_
              refine Go.aload K at_132 rfl rfl (pc' := 134) rfl ?_
              refine Go.callCW K hS (y := (⟨"com/example/chartwarden/chartwarden/trail/Selection", "<init>", "(Ljava/util/Optional;Ljava/util/Optional;Ljava/util/Optional;)V"⟩ : MethodName)) (W := 1) (kc := 6) (nc := 64) (a := se) rfl (mvT K.cz (hw _ (List.mem_of_getElem? (i := 9) rfl))) (mvT K.cz (hw _ (List.mem_of_getElem? (i := 10) rfl))) (mvT K.cz (hw _ (List.mem_of_getElem? (i := 11) rfl))) (by decide) ((m_si l Z a0 hw h770 n0 z797 [] wS hEL se op eo ot E_se f799 f800 f801 g_se).pays (W := 1) K.cz (hw _ (List.mem_of_getElem? (i := 11) rfl)) (hw _ (List.mem_of_getElem? (i := 8) rfl)) (by decide) (by decide) hEL cr798.1) rfl (argsL := [(.ref op), (.ref eo), (.ref ot)]) (rest := [(.ref se)]) (lenOf pd__28Ljava_2futil_2fOptional_3bLjava_2futil_2fOptional_3bLjava_2futil_2fOptional_3b_29V rfl) rfl (Nat.le_of_ble_eq_true rfl) (by decide) (by decide) frOf at_134 (pc' := 137) rfl ?_
              rintro v804 h802 Lc803 vm805 B806 ⟨⟨⟨rfl, Kq2, Eq2, Ff, Ft⟩, -⟩, -⟩ hrh802 hS K
              have f807 := hrh802.safe f791.lt f783
              have cr808 := cr798.trans (hrh802)
              have f809 := f788.keep Kq2
              have f810 := f789.keep Kq2 (ninS ne778 nin0)
              have f811 := f790.keep Kq2 (ninS ne775 nin0)
              have f812 := f791.keep Kq2
              have f813 := f792.keep Kq2
              have f814 := f793.keep Kq2 (ninS ne777 nin0)
              have f815 := f794.keep Kq2
              have f816 := f795.keep Kq2 (ninS ne776 nin0)
              have f817 := E_se.keep Kq2
              have od821 := od796.keep Kq2 (allS g_se all0)
              have z822 := Nat.le_trans z797 Kq2.1
              show Go p l e _ _ m _ below meth c _ _ _ _ h802 _ _ (mkF m 137 #[.val (.int p0), .val (.int p1), .val (.int p2), .val (.int p3), .val (.int (1 : Int32)), .val (.int (0 : Int32)), .val (.int (1 : Int32)), .val (.ref b), .val (.ref op), .val (.ref eo), .val (.ref ot), .unset, .unset] [(.ref se)])
              refine Go.astore K at_137 rfl (Ls' := #[.val (.int p0), .val (.int p1), .val (.int p2), .val (.int p3), .val (.int (1 : Int32)), .val (.int (0 : Int32)), .val (.int (1 : Int32)), .val (.ref b), .val (.ref op), .val (.ref eo), .val (.ref ot), .val (.ref se), .unset]) rfl (pc' := 139) rfl ?_
              refine Go.iload K at_139 rfl (pc' := 141) rfl ?_
              refine Go.ifc K at_141 (by decide) (pcT := 149) (pcF := 144) (by decide) rfl (fun h141 => ?_) (fun h141 => ?_)
              · replace h141 : ¬ (0 : Int32) = 0 := h141
                exact absurd rfl h141
              · replace h141 : ¬ (¬ (0 : Int32) = 0) := h141
                refine Go.iload K at_144 rfl (pc' := 146) rfl ?_
                refine Go.ifc K at_146 (by decide) (pcT := 153) (pcF := 149) (by decide) rfl (fun h146 => ?_) (fun h146 => ?_)
                · replace h146 : (1 : Int32) = 0 := h146
                  exact absurd h146 (by decide)
                · replace h146 : ¬ ((1 : Int32) = 0) := h146
                  refine Go.iconst K (v := 1) at_149 rfl (pc' := 150) rfl ?_
                  refine Go.goto K at_150 (pc' := 154) (by decide) (by decide) ?_
                  refine Go.istore K at_154 (Ls' := #[.val (.int p0), .val (.int p1), .val (.int p2), .val (.int p3), .val (.int (1 : Int32)), .val (.int (0 : Int32)), .val (.int (1 : Int32)), .val (.ref b), .val (.ref op), .val (.ref eo), .val (.ref ot), .val (.ref se), .val (.int (1 : Int32))]) rfl (pc' := 156) rfl ?_
                  refine Go.aload K at_156 rfl rfl (pc' := 158) rfl ?_
                  refine Go.callV K (y := (⟨"com/example/chartwarden/chartwarden/trail/Selection", "timed", "()Z"⟩ : MethodName)) (z := (⟨"com/example/chartwarden/chartwarden/trail/Selection", "timed", "()Z"⟩ : MethodName)) (W := 0) (kc := 0) (nc := 0) (a := se) (mvT K.cz (hw _ (List.mem_of_getElem? (i := 40) rfl))) (mvT K.cz (hw _ (List.mem_of_getElem? (i := 41) rfl))) (notFace_of_selects (args := #[]) (mvT K.cz (hw _ (List.mem_of_getElem? (i := 43) rfl)))) (mvT K.cz (hw _ (List.mem_of_getElem? (i := 43) rfl))) (mvT K.cz (hw _ (List.mem_of_getElem? (i := 42) rfl))) (by decide) f817 ((m_tm01 l Z a0 hw h802 n0 z822 se eo ot eo i_ot f817 Ff Ft f809 f810 f815 f816).pays (W := 0) K.cz (hw _ (List.mem_of_getElem? (i := 44) rfl)) (hw _ (List.mem_of_getElem? (i := 8) rfl)) (by decide) (by decide)) rfl (argsL := []) (rest := []) (lenOf pd__28_29Z rfl) rfl (Nat.le_of_ble_eq_true rfl) (by decide) (by decide) frOf grOf at_158 (pc' := 161) rfl ?_
                  rintro v825 h823 Lc824 ⟨⟨⟨rfl, eh⟩, -⟩, -⟩
                  obtain rfl := eh
                  show Go p l e _ _ m _ below meth c _ _ _ _ h802 _ _ (mkF m 161 #[.val (.int p0), .val (.int p1), .val (.int p2), .val (.int p3), .val (.int (1 : Int32)), .val (.int (0 : Int32)), .val (.int (1 : Int32)), .val (.ref b), .val (.ref op), .val (.ref eo), .val (.ref ot), .val (.ref se), .val (.int (1 : Int32))] [(.int (1 : Int32))])
                  refine Go.iload K at_161 rfl (pc' := 163) rfl ?_
                  refine Go.icmp K at_163 (by decide) (pcT := 170) (pcF := 166) (by decide) rfl (fun h163 => ?_) (fun h163 => ?_)
                  · replace h163 : ¬ (1 : Int32) = (1 : Int32) := h163
                    exact absurd rfl h163
                  · replace h163 : ¬ (¬ (1 : Int32) = (1 : Int32)) := h163
                    refine Go.iconst K (v := 1) at_166 rfl (pc' := 167) rfl ?_
                    refine Go.goto K at_167 (pc' := 171) (by decide) (by decide) ?_
                    exact Go.retN K (by simp) (by decide) (by decide) at_171 (own_end hEL K.cz cr808 rfl)
          · replace h82 : ¬ ((0 : Int32) = 0) := h82
            exact absurd rfl h82
    · replace h16 : ¬ ((p0 &&& (2 : Int32)) = 0) := h16
      refine Go.iconst K (v := 1) at_19 rfl (pc' := 20) rfl ?_
      refine Go.goto K at_20 (pc' := 24) (by decide) (by decide) ?_
      refine Go.istore K at_24 (Ls' := #[.val (.int p0), .val (.int p1), .val (.int p2), .val (.int p3), .val (.int (1 : Int32)), .val (.int (1 : Int32)), .unset, .unset, .unset, .unset, .unset, .unset, .unset]) rfl (pc' := 26) rfl ?_
      refine Go.iloadN K at_26 rfl (pc' := 27) rfl ?_
      refine Go.iconst K (v := 4) at_27 rfl (pc' := 28) rfl ?_
      refine Go.iand K at_28 (pc' := 29) rfl ?_
      refine Go.ifc K at_29 (by decide) (pcT := 36) (pcF := 32) (by decide) rfl (fun h29 => ?_) (fun h29 => ?_)
      · replace h29 : (p0 &&& (4 : Int32)) = 0 := h29
        refine Go.iconst K (v := 0) at_36 rfl (pc' := 37) rfl ?_
        refine Go.istore K at_37 (Ls' := #[.val (.int p0), .val (.int p1), .val (.int p2), .val (.int p3), .val (.int (1 : Int32)), .val (.int (1 : Int32)), .val (.int (0 : Int32)), .unset, .unset, .unset, .unset, .unset, .unset]) rfl (pc' := 39) rfl ?_
        refine Go.iconst K (v := 1) at_39 rfl (pc' := 40) rfl ?_
        refine Go.newP K (hw _ (List.mem_of_getElem? (i := 0) rfl)) (by decide) 1 (by decide) (by decide) (by decide) (by decide) at_40 (pc' := 42) rfl ?_
        intro h826 b kA_b eq828 E827 V_b
        have ne829 : eo ≠ b := own_ne E_eo.lt (Nat.le_of_eq eq828.symm)
        have g_b : n0 ≤ b := Nat.le_trans Z0 (Nat.le_of_eq eq828.symm)
        have f832 := E_eo.ext E827
        have f833 := F_eo.ext E827
        have od834 := od.ext E827
        have z835 := Nat.le_trans Z0 E827.1
        have cr836 := CR.trans (CHr.ext E827 CR.1)
        have V837 : Arv Z h826 b kA_b .char (1 : Int32) [(.int (0 : Int32))] (.int (0 : Int32)) := V_b.pad (pad_rep [] (.int (0 : Int32)) 1)
        refine Go.dup K at_42 rfl (pc' := 43) rfl ?_
        refine Go.iconst K (v := 0) at_43 rfl (pc' := 44) rfl ?_
        refine Go.iloadN K at_44 rfl (pc' := 45) rfl ?_
        refine Go.sipush K (v := 255) at_45 rfl (pc' := 48) rfl ?_
        refine Go.iand K at_48 (pc' := 49) rfl ?_
        refine Go.i2c K at_49 (pc' := 50) rfl ?_
        refine Go.castore K V837 0 rfl (Nat.le_of_ble_eq_true rfl) ⟨by decide, by decide⟩ g_b at_50 (pc' := 51) rfl ?_
        intro h838 K839 V840
        replace V840 : Arv Z h838 b kA_b .char (1 : Int32) [(.int (nar .char ((p1 &&& (255 : Int32)).toUInt32.toUInt16.toUInt32.toInt32)))] (.int (0 : Int32)) := V840
        have cr841 := cr836.trans (CHr.keep K839 (sfS (Safe.arv K.cz.alike V837 (by decide)) sf0) cr836.1)
        have f842 := f832.keep K839
        have f843 := f833.keep K839 (ninS ne829 nin0)
        have od845 := od834.keep K839 (allS g_b all0)
        have z846 := Nat.le_trans z835 K839.1
        refine Go.astore K at_51 rfl (Ls' := #[.val (.int p0), .val (.int p1), .val (.int p2), .val (.int p3), .val (.int (1 : Int32)), .val (.int (1 : Int32)), .val (.int (0 : Int32)), .val (.ref b), .unset, .unset, .unset, .unset, .unset]) rfl (pc' := 53) rfl ?_
        refine Go.iload K at_53 rfl (pc' := 55) rfl ?_
        refine Go.ifc K at_55 (by decide) (pcT := 75) (pcF := 58) (by decide) rfl (fun h55 => ?_) (fun h55 => ?_)
        · replace h55 : (1 : Int32) = 0 := h55
          exact absurd h55 (by decide)
        · replace h55 : ¬ ((1 : Int32) = 0) := h55
          refine Go.newO K (hw _ (List.mem_of_getElem? (i := 71) rfl)) (hw _ (List.mem_of_getElem? (i := 22) rfl)) (hw _ (List.mem_of_getElem? (i := 21) rfl)) (by decide) (by decide) at_58 (pc' := 61) rfl ?_
          intro h847 sr eq850 E848 E_sr D849
          have ne851 : b ≠ sr := own_ne V840.lt (Nat.le_of_eq eq850.symm)
          have ne852 : eo ≠ sr := own_ne f842.lt (Nat.le_of_eq eq850.symm)
          have g_sr : n0 ≤ sr := Nat.le_trans z846 (Nat.le_of_eq eq850.symm)
          have sf853 := Safe.ext E848 cr841.1 (Safe.new (Nat.le_of_eq eq850.symm))
          have f857 := f842.ext E848
          have f858 := f843.ext E848
          have f859 := V840.ext E848
          have od860 := od845.ext E848
          have z861 := Nat.le_trans z846 E848.1
          have cr862 := cr841.trans (CHr.ext E848 cr841.1)
          have f863 : Fld Z h847 sr "java/lang/String" "value" "[B" .null := D849 (Or.inr (hw _ (List.mem_of_getElem? (i := 24) rfl))) (ty := (.array .byte)) (by decide)
          have f864 : Fld Z h847 sr "java/lang/String" "coder" "B" (.int (0 : Int32)) := D849 (Or.inr (hw _ (List.mem_of_getElem? (i := 25) rfl))) (ty := .byte) (by decide)
          refine Go.dup K at_61 rfl (pc' := 62) rfl ?_
          refine Go.aload K at_62 rfl rfl (pc' := 64) rfl ?_
          have hp : ∀ c ∈ ([(nar .char ((p1 &&& (255 : Int32)).toUInt32.toUInt16.toUInt32.toInt32))] : List Int32), ¬ c < 0 ∧ ¬ (255 : Int32) < c := by
            intro c hc
            obtain rfl := List.mem_singleton.mp hc
            exact own_and255 p1
          refine Go.callC K (y := (⟨"java/lang/String", "<init>", "([C)V"⟩ : MethodName)) (W := 1) (kc := 1) (nc := 1) (a := sr) rfl (mvT K.cz (hw _ (List.mem_of_getElem? (i := 72) rfl))) (mvT K.cz (hw _ (List.mem_of_getElem? (i := 73) rfl))) (mvT K.cz (hw _ (List.mem_of_getElem? (i := 74) rfl))) (by decide) (paysNew (W := 1) K.cz hws (kI := 4) (hw _ (List.mem_of_getElem? (i := 22) rfl)) (cs := ([(nar .char ((p1 &&& (255 : Int32)).toUInt32.toUInt16.toUInt32.toInt32))] : List Int32)) (bs := ([(nar .char ((p1 &&& (255 : Int32)).toUInt32.toUInt16.toUInt32.toInt32))] : List Int32).map (fun c => c.toInt8.toInt32)) (n := 1) g_sr z861 E_sr f863 f864 f859 (S1.ext od860.2) P1 rfl rfl (by decide) (by decide) hp rfl (by decide) (by decide)) rfl (argsL := [(.ref b)]) (rest := [(.ref sr)]) (lenOf pd__28_5bC_29V rfl) rfl (Nat.le_of_ble_eq_true rfl) (by decide) (by decide) (fun v h' L q => q.2.1) (fun v h' L q => q.2.2.1.1) at_64 (pc' := 67) rfl ?_
          rintro v867 h865 Lc866 ⟨rfl, Nq, Kq, Eq, Cq, t, kb, ht0, ht1, htne, Vq, Aq⟩
          have f868 := Safe.keep Kq (sfS sf853 sf0) cr862.1 sf853
          have cr869 := cr862.trans (CHr.keep Kq (sfS sf853 sf0) cr862.1)
          have f870 := f857.keep Kq
          have f871 := f858.keep Kq (ninS ne852 nin0)
          have f872 := f859.keep Kq (ninS ne851 nin0)
          have f873 := E_sr.keep Kq
          have od876 := od860.keep Kq (allS g_sr all0)
          have z877 := Nat.le_trans z861 Kq.1
          show Go p l e _ _ m _ below meth c _ _ _ _ h865 _ _ (mkF m 67 #[.val (.int p0), .val (.int p1), .val (.int p2), .val (.int p3), .val (.int (1 : Int32)), .val (.int (1 : Int32)), .val (.int (0 : Int32)), .val (.ref b), .unset, .unset, .unset, .unset, .unset] [(.ref sr)])
          refine Go.callS K (y := (⟨"java/util/Optional", "of", "(Ljava/lang/Object;)Ljava/util/Optional;"⟩ : MethodName)) (W := 0) (kc := 1) (nc := 1) (mvT K.cz (hw _ (List.mem_of_getElem? (i := 58) rfl))) (mvT K.cz (hw _ (List.mem_of_getElem? (i := 59) rfl))) (mvT K.cz (hw _ (List.mem_of_getElem? (i := 3) rfl))) (mvT K.cz (hw _ (List.mem_of_getElem? (i := 60) rfl))) (by decide) ((m_oo l Z a0 hw h865 n0 z877 sr).pays (W := 0) K.cz (hw _ (List.mem_of_getElem? (i := 60) rfl)) (hw _ (List.mem_of_getElem? (i := 3) rfl)) (by decide) (by decide)) rfl (argsL := [(.ref sr)]) (rest := []) (lenOf pd__28Ljava_2flang_2fObject_3b_29Ljava_2futil_2fOptional_3b rfl) rfl (Nat.le_of_ble_eq_true rfl) (by decide) (by decide) frOf grOf at_67 (pc' := 70) rfl ?_
          rintro v880 h878 Lc879 ⟨⟨⟨op, rfl, hle_op, K_op, E_op, F_op⟩, -⟩, -⟩
          have ne881 : sr ≠ op := own_ne f873.lt hle_op
          have ne882 : b ≠ op := own_ne f872.lt hle_op
          have ne883 : eo ≠ op := own_ne f870.lt hle_op
          have f884 := Safe.keep K_op sf0 cr869.1 f868
          have cr885 := cr869.trans (CHr.keep K_op sf0 cr869.1)
          have f886 := f870.keep K_op
          have f887 := f871.keep K_op nin0
          have f888 := f872.keep K_op nin0
          have f889 := f873.keep K_op
          have od890 := od876.keep K_op all0
          have z891 := Nat.le_trans z877 K_op.1
          show Go p l e _ _ m _ below meth c _ _ _ _ h878 _ _ (mkF m 70 #[.val (.int p0), .val (.int p1), .val (.int p2), .val (.int p3), .val (.int (1 : Int32)), .val (.int (1 : Int32)), .val (.int (0 : Int32)), .val (.ref b), .unset, .unset, .unset, .unset, .unset] [(.ref op)])
          refine Go.astore K at_70 rfl (Ls' := #[.val (.int p0), .val (.int p1), .val (.int p2), .val (.int p3), .val (.int (1 : Int32)), .val (.int (1 : Int32)), .val (.int (0 : Int32)), .val (.ref b), .val (.ref op), .unset, .unset, .unset, .unset]) rfl (pc' := 72) rfl ?_
          refine Go.goto K at_72 (pc' := 80) (by decide) (by decide) ?_
          refine Go.iload K at_80 rfl (pc' := 82) rfl ?_
          refine Go.ifc K at_82 (by decide) (pcT := 97) (pcF := 85) (by decide) rfl (fun h82 => ?_) (fun h82 => ?_)
          · replace h82 : (1 : Int32) = 0 := h82
            exact absurd h82 (by decide)
          · replace h82 : ¬ ((1 : Int32) = 0) := h82
            refine Go.iloadN K at_85 rfl (pc' := 86) rfl ?_
            refine Go.callS K (y := (⟨"com/example/chartwarden/chartwarden/trail/SelectionTimedPinLaw", "pick", "(I)Ljava/time/Instant;"⟩ : MethodName)) (W := 0) (kc := 1) (nc := 2) (mvT K.cz (hw _ (List.mem_of_getElem? (i := 52) rfl))) (mvT K.cz (hw _ (List.mem_of_getElem? (i := 53) rfl))) (mvT K.cz (hw _ (List.mem_of_getElem? (i := 54) rfl))) (mvT K.cz (hw _ (List.mem_of_getElem? (i := 55) rfl))) (by decide) ((m_pk l Z a0 hw h878 n0 z891 p2 od890 iMIN SMIN iEPOCH SEPOCH iMAX SMAX).pays (W := 0) K.cz (hw _ (List.mem_of_getElem? (i := 55) rfl)) (hw _ (List.mem_of_getElem? (i := 54) rfl)) (by decide) (by decide)) rfl (argsL := [(.int p2)]) (rest := []) (lenOf pd__28I_29Ljava_2ftime_2fInstant_3b rfl) rfl (Nat.le_of_ble_eq_true rfl) (by decide) (by decide) frOf grOf at_86 (pc' := 89) rfl ?_
            rintro v894 h892 Lc893 ⟨⟨⟨i_of, rfl, Ki_of⟩, -⟩, -⟩
            have f895 := Safe.keep Ki_of sf0 cr885.1 f884
            have cr896 := cr885.trans (CHr.keep Ki_of sf0 cr885.1)
            have f897 := f886.keep Ki_of
            have f898 := f887.keep Ki_of nin0
            have f899 := f888.keep Ki_of nin0
            have f900 := f889.keep Ki_of
            have f901 := E_op.keep Ki_of
            have f902 := F_op.keep Ki_of nin0
            have od903 := od890.keep Ki_of all0
            have z904 := Nat.le_trans z891 Ki_of.1
            show Go p l e _ _ m _ below meth c _ _ _ _ h892 _ _ (mkF m 89 #[.val (.int p0), .val (.int p1), .val (.int p2), .val (.int p3), .val (.int (1 : Int32)), .val (.int (1 : Int32)), .val (.int (0 : Int32)), .val (.ref b), .val (.ref op), .unset, .unset, .unset, .unset] [(.ref i_of)])
            refine Go.callS K (y := (⟨"java/util/Optional", "of", "(Ljava/lang/Object;)Ljava/util/Optional;"⟩ : MethodName)) (W := 0) (kc := 1) (nc := 1) (mvT K.cz (hw _ (List.mem_of_getElem? (i := 58) rfl))) (mvT K.cz (hw _ (List.mem_of_getElem? (i := 59) rfl))) (mvT K.cz (hw _ (List.mem_of_getElem? (i := 3) rfl))) (mvT K.cz (hw _ (List.mem_of_getElem? (i := 60) rfl))) (by decide) ((m_oo l Z a0 hw h892 n0 z904 i_of).pays (W := 0) K.cz (hw _ (List.mem_of_getElem? (i := 60) rfl)) (hw _ (List.mem_of_getElem? (i := 3) rfl)) (by decide) (by decide)) rfl (argsL := [(.ref i_of)]) (rest := []) (lenOf pd__28Ljava_2flang_2fObject_3b_29Ljava_2futil_2fOptional_3b rfl) rfl (Nat.le_of_ble_eq_true rfl) (by decide) (by decide) frOf grOf at_89 (pc' := 92) rfl ?_
            rintro v907 h905 Lc906 ⟨⟨⟨of, rfl, hle_of, K_of, E_of, F_of⟩, -⟩, -⟩
            have ne908 : op ≠ of := own_ne f901.lt hle_of
            have ne909 : sr ≠ of := own_ne f900.lt hle_of
            have ne910 : b ≠ of := own_ne f899.lt hle_of
            have ne911 : eo ≠ of := own_ne f897.lt hle_of
            have f912 := Safe.keep K_of sf0 cr896.1 f895
            have cr913 := cr896.trans (CHr.keep K_of sf0 cr896.1)
            have f914 := f897.keep K_of
            have f915 := f898.keep K_of nin0
            have f916 := f899.keep K_of nin0
            have f917 := f900.keep K_of
            have f918 := f901.keep K_of
            have f919 := f902.keep K_of nin0
            have od920 := od903.keep K_of all0
            have z921 := Nat.le_trans z904 K_of.1
            show Go p l e _ _ m _ below meth c _ _ _ _ h905 _ _ (mkF m 92 #[.val (.int p0), .val (.int p1), .val (.int p2), .val (.int p3), .val (.int (1 : Int32)), .val (.int (1 : Int32)), .val (.int (0 : Int32)), .val (.ref b), .val (.ref op), .unset, .unset, .unset, .unset] [(.ref of)])
            refine Go.astore K at_92 rfl (Ls' := #[.val (.int p0), .val (.int p1), .val (.int p2), .val (.int p3), .val (.int (1 : Int32)), .val (.int (1 : Int32)), .val (.int (0 : Int32)), .val (.ref b), .val (.ref op), .val (.ref of), .unset, .unset, .unset]) rfl (pc' := 94) rfl ?_
            refine Go.goto K at_94 (pc' := 102) (by decide) (by decide) ?_
            refine Go.iload K at_102 rfl (pc' := 104) rfl ?_
            refine Go.ifc K at_104 (by decide) (pcT := 119) (pcF := 107) (by decide) rfl (fun h104 => ?_) (fun h104 => ?_)
            · replace h104 : (0 : Int32) = 0 := h104
              refine Go.callS K (y := (⟨"java/util/Optional", "empty", "()Ljava/util/Optional;"⟩ : MethodName)) (W := 0) (kc := 0) (nc := 0) (mvT K.cz (hw _ (List.mem_of_getElem? (i := 1) rfl))) (mvT K.cz (hw _ (List.mem_of_getElem? (i := 2) rfl))) (mvT K.cz (hw _ (List.mem_of_getElem? (i := 3) rfl))) (mvT K.cz (hw _ (List.mem_of_getElem? (i := 4) rfl))) (by decide) ((m_oe l Z a0 hw h905 n0 z921 eo SE od920).pays (W := 0) K.cz (hw _ (List.mem_of_getElem? (i := 4) rfl)) (hw _ (List.mem_of_getElem? (i := 3) rfl)) (by decide) (by decide)) rfl (argsL := []) (rest := []) (lenOf pd__28_29Ljava_2futil_2fOptional_3b rfl) rfl (Nat.le_of_ble_eq_true rfl) (by decide) (by decide) frOf grOf at_119 (pc' := 122) rfl ?_
              rintro v924 h922 Lc923 ⟨⟨⟨rfl, eh⟩, -⟩, -⟩
              obtain rfl := eh
              show Go p l e _ _ m _ below meth c _ _ _ _ h905 _ _ (mkF m 122 #[.val (.int p0), .val (.int p1), .val (.int p2), .val (.int p3), .val (.int (1 : Int32)), .val (.int (1 : Int32)), .val (.int (0 : Int32)), .val (.ref b), .val (.ref op), .val (.ref of), .unset, .unset, .unset] [(.ref eo)])
              refine Go.astore K at_122 rfl (Ls' := #[.val (.int p0), .val (.int p1), .val (.int p2), .val (.int p3), .val (.int (1 : Int32)), .val (.int (1 : Int32)), .val (.int (0 : Int32)), .val (.ref b), .val (.ref op), .val (.ref of), .val (.ref eo), .unset, .unset]) rfl (pc' := 124) rfl ?_
              refine Go.newO K (hw _ (List.mem_of_getElem? (i := 6) rfl)) (hw _ (List.mem_of_getElem? (i := 7) rfl)) (hw _ (List.mem_of_getElem? (i := 8) rfl)) (by decide) (by decide) at_124 (pc' := 127) rfl ?_
              intro h925 se eq928 E926 E_se D927
              have ne929 : of ≠ se := own_ne E_of.lt (Nat.le_of_eq eq928.symm)
              have ne930 : sr ≠ se := own_ne f917.lt (Nat.le_of_eq eq928.symm)
              have ne931 : b ≠ se := own_ne f916.lt (Nat.le_of_eq eq928.symm)
              have ne932 : op ≠ se := own_ne f918.lt (Nat.le_of_eq eq928.symm)
              have ne933 : eo ≠ se := own_ne f914.lt (Nat.le_of_eq eq928.symm)
              have g_se : n0 ≤ se := Nat.le_trans z921 (Nat.le_of_eq eq928.symm)
              have f938 := Safe.ext E926 cr913.1 f912
              have f943 := f914.ext E926
              have f944 := f915.ext E926
              have f945 := f916.ext E926
              have f946 := f917.ext E926
              have f947 := f918.ext E926
              have f948 := f919.ext E926
              have f949 := E_of.ext E926
              have f950 := F_of.ext E926
              have od951 := od920.ext E926
              have z952 := Nat.le_trans z921 E926.1
              have cr953 := cr913.trans (CHr.ext E926 cr913.1)
              have f954 : Fld Z h925 se "com/example/chartwarden/chartwarden/trail/Selection" "patient" "Ljava/util/Optional;" .null := D927 (Or.inr (hw _ (List.mem_of_getElem? (i := 35) rfl))) (ty := (.object "java/util/Optional")) (by decide)
              have f955 : Fld Z h925 se "com/example/chartwarden/chartwarden/trail/Selection" "from" "Ljava/util/Optional;" .null := D927 (Or.inr (hw _ (List.mem_of_getElem? (i := 37) rfl))) (ty := (.object "java/util/Optional")) (by decide)
              have f956 : Fld Z h925 se "com/example/chartwarden/chartwarden/trail/Selection" "to" "Ljava/util/Optional;" .null := D927 (Or.inr (hw _ (List.mem_of_getElem? (i := 39) rfl))) (ty := (.object "java/util/Optional")) (by decide)
              refine Go.dup K at_127 rfl (pc' := 128) rfl ?_
              refine Go.aload K at_128 rfl rfl (pc' := 130) rfl ?_
              refine Go.aload K at_130 rfl rfl (pc' := 132) rfl ?_
              refine Go.aload K at_132 rfl rfl (pc' := 134) rfl ?_
              refine Go.callCW K hS (y := (⟨"com/example/chartwarden/chartwarden/trail/Selection", "<init>", "(Ljava/util/Optional;Ljava/util/Optional;Ljava/util/Optional;)V"⟩ : MethodName)) (W := 1) (kc := 6) (nc := 64) (a := se) rfl (mvT K.cz (hw _ (List.mem_of_getElem? (i := 9) rfl))) (mvT K.cz (hw _ (List.mem_of_getElem? (i := 10) rfl))) (mvT K.cz (hw _ (List.mem_of_getElem? (i := 11) rfl))) (by decide) ((m_si l Z a0 hw h925 n0 z952 [] wS hEL se op of eo E_se f954 f955 f956 g_se).pays (W := 1) K.cz (hw _ (List.mem_of_getElem? (i := 11) rfl)) (hw _ (List.mem_of_getElem? (i := 8) rfl)) (by decide) (by decide) hEL cr953.1) rfl (argsL := [(.ref op), (.ref of), (.ref eo)]) (rest := [(.ref se)]) (lenOf pd__28Ljava_2futil_2fOptional_3bLjava_2futil_2fOptional_3bLjava_2futil_2fOptional_3b_29V rfl) rfl (Nat.le_of_ble_eq_true rfl) (by decide) (by decide) frOf at_134 (pc' := 137) rfl ?_
              rintro v959 h957 Lc958 vm960 B961 ⟨⟨⟨rfl, Kq2, Eq2, Ff, Ft⟩, -⟩, -⟩ hrh957 hS K
              have f962 := hrh957.safe f946.lt f938
              have cr963 := cr953.trans (hrh957)
              have f964 := f943.keep Kq2
              have f965 := f944.keep Kq2 (ninS ne933 nin0)
              have f966 := f945.keep Kq2 (ninS ne931 nin0)
              have f967 := f946.keep Kq2
              have f968 := f947.keep Kq2
              have f969 := f948.keep Kq2 (ninS ne932 nin0)
              have f970 := f949.keep Kq2
              have f971 := f950.keep Kq2 (ninS ne929 nin0)
              have f972 := E_se.keep Kq2
              have od976 := od951.keep Kq2 (allS g_se all0)
              have z977 := Nat.le_trans z952 Kq2.1
              show Go p l e _ _ m _ below meth c _ _ _ _ h957 _ _ (mkF m 137 #[.val (.int p0), .val (.int p1), .val (.int p2), .val (.int p3), .val (.int (1 : Int32)), .val (.int (1 : Int32)), .val (.int (0 : Int32)), .val (.ref b), .val (.ref op), .val (.ref of), .val (.ref eo), .unset, .unset] [(.ref se)])
              refine Go.astore K at_137 rfl (Ls' := #[.val (.int p0), .val (.int p1), .val (.int p2), .val (.int p3), .val (.int (1 : Int32)), .val (.int (1 : Int32)), .val (.int (0 : Int32)), .val (.ref b), .val (.ref op), .val (.ref of), .val (.ref eo), .val (.ref se), .unset]) rfl (pc' := 139) rfl ?_
              refine Go.iload K at_139 rfl (pc' := 141) rfl ?_
              refine Go.ifc K at_141 (by decide) (pcT := 149) (pcF := 144) (by decide) rfl (fun h141 => ?_) (fun h141 => ?_)
              · replace h141 : ¬ (1 : Int32) = 0 := h141
                refine Go.iconst K (v := 1) at_149 rfl (pc' := 150) rfl ?_
                refine Go.goto K at_150 (pc' := 154) (by decide) (by decide) ?_
                refine Go.istore K at_154 (Ls' := #[.val (.int p0), .val (.int p1), .val (.int p2), .val (.int p3), .val (.int (1 : Int32)), .val (.int (1 : Int32)), .val (.int (0 : Int32)), .val (.ref b), .val (.ref op), .val (.ref of), .val (.ref eo), .val (.ref se), .val (.int (1 : Int32))]) rfl (pc' := 156) rfl ?_
                refine Go.aload K at_156 rfl rfl (pc' := 158) rfl ?_
                refine Go.callV K (y := (⟨"com/example/chartwarden/chartwarden/trail/Selection", "timed", "()Z"⟩ : MethodName)) (z := (⟨"com/example/chartwarden/chartwarden/trail/Selection", "timed", "()Z"⟩ : MethodName)) (W := 0) (kc := 0) (nc := 0) (a := se) (mvT K.cz (hw _ (List.mem_of_getElem? (i := 40) rfl))) (mvT K.cz (hw _ (List.mem_of_getElem? (i := 41) rfl))) (notFace_of_selects (args := #[]) (mvT K.cz (hw _ (List.mem_of_getElem? (i := 43) rfl)))) (mvT K.cz (hw _ (List.mem_of_getElem? (i := 43) rfl))) (mvT K.cz (hw _ (List.mem_of_getElem? (i := 42) rfl))) (by decide) f972 ((m_tm10 l Z a0 hw h957 n0 z977 se of eo i_of eo f972 Ff Ft f970 f971 f964 f965).pays (W := 0) K.cz (hw _ (List.mem_of_getElem? (i := 44) rfl)) (hw _ (List.mem_of_getElem? (i := 8) rfl)) (by decide) (by decide)) rfl (argsL := []) (rest := []) (lenOf pd__28_29Z rfl) rfl (Nat.le_of_ble_eq_true rfl) (by decide) (by decide) frOf grOf at_158 (pc' := 161) rfl ?_
                rintro v980 h978 Lc979 ⟨⟨⟨rfl, eh⟩, -⟩, -⟩
                obtain rfl := eh
                show Go p l e _ _ m _ below meth c _ _ _ _ h957 _ _ (mkF m 161 #[.val (.int p0), .val (.int p1), .val (.int p2), .val (.int p3), .val (.int (1 : Int32)), .val (.int (1 : Int32)), .val (.int (0 : Int32)), .val (.ref b), .val (.ref op), .val (.ref of), .val (.ref eo), .val (.ref se), .val (.int (1 : Int32))] [(.int (1 : Int32))])
                refine Go.iload K at_161 rfl (pc' := 163) rfl ?_
                refine Go.icmp K at_163 (by decide) (pcT := 170) (pcF := 166) (by decide) rfl (fun h163 => ?_) (fun h163 => ?_)
                · replace h163 : ¬ (1 : Int32) = (1 : Int32) := h163
                  exact absurd rfl h163
                · replace h163 : ¬ (¬ (1 : Int32) = (1 : Int32)) := h163
                  refine Go.iconst K (v := 1) at_166 rfl (pc' := 167) rfl ?_
                  refine Go.goto K at_167 (pc' := 171) (by decide) (by decide) ?_
                  exact Go.retN K (by simp) (by decide) (by decide) at_171 (own_end hEL K.cz cr963 rfl)
              · replace h141 : ¬ (¬ (1 : Int32) = 0) := h141
                exact absurd (by decide) h141
            · replace h104 : ¬ ((0 : Int32) = 0) := h104
              exact absurd rfl h104
      · replace h29 : ¬ ((p0 &&& (4 : Int32)) = 0) := h29
        refine Go.iconst K (v := 1) at_32 rfl (pc' := 33) rfl ?_
        refine Go.goto K at_33 (pc' := 37) (by decide) (by decide) ?_
        refine Go.istore K at_37 (Ls' := #[.val (.int p0), .val (.int p1), .val (.int p2), .val (.int p3), .val (.int (1 : Int32)), .val (.int (1 : Int32)), .val (.int (1 : Int32)), .unset, .unset, .unset, .unset, .unset, .unset]) rfl (pc' := 39) rfl ?_
        refine Go.iconst K (v := 1) at_39 rfl (pc' := 40) rfl ?_
        refine Go.newP K (hw _ (List.mem_of_getElem? (i := 0) rfl)) (by decide) 1 (by decide) (by decide) (by decide) (by decide) at_40 (pc' := 42) rfl ?_
        intro h981 b kA_b eq983 E982 V_b
        have ne984 : eo ≠ b := own_ne E_eo.lt (Nat.le_of_eq eq983.symm)
        have g_b : n0 ≤ b := Nat.le_trans Z0 (Nat.le_of_eq eq983.symm)
        have f987 := E_eo.ext E982
        have f988 := F_eo.ext E982
        have od989 := od.ext E982
        have z990 := Nat.le_trans Z0 E982.1
        have cr991 := CR.trans (CHr.ext E982 CR.1)
        have V992 : Arv Z h981 b kA_b .char (1 : Int32) [(.int (0 : Int32))] (.int (0 : Int32)) := V_b.pad (pad_rep [] (.int (0 : Int32)) 1)
        refine Go.dup K at_42 rfl (pc' := 43) rfl ?_
        refine Go.iconst K (v := 0) at_43 rfl (pc' := 44) rfl ?_
        refine Go.iloadN K at_44 rfl (pc' := 45) rfl ?_
        refine Go.sipush K (v := 255) at_45 rfl (pc' := 48) rfl ?_
        refine Go.iand K at_48 (pc' := 49) rfl ?_
        refine Go.i2c K at_49 (pc' := 50) rfl ?_
        refine Go.castore K V992 0 rfl (Nat.le_of_ble_eq_true rfl) ⟨by decide, by decide⟩ g_b at_50 (pc' := 51) rfl ?_
        intro h993 K994 V995
        replace V995 : Arv Z h993 b kA_b .char (1 : Int32) [(.int (nar .char ((p1 &&& (255 : Int32)).toUInt32.toUInt16.toUInt32.toInt32)))] (.int (0 : Int32)) := V995
        have cr996 := cr991.trans (CHr.keep K994 (sfS (Safe.arv K.cz.alike V992 (by decide)) sf0) cr991.1)
        have f997 := f987.keep K994
        have f998 := f988.keep K994 (ninS ne984 nin0)
        have od1000 := od989.keep K994 (allS g_b all0)
        have z1001 := Nat.le_trans z990 K994.1
        refine Go.astore K at_51 rfl (Ls' := #[.val (.int p0), .val (.int p1), .val (.int p2), .val (.int p3), .val (.int (1 : Int32)), .val (.int (1 : Int32)), .val (.int (1 : Int32)), .val (.ref b), .unset, .unset, .unset, .unset, .unset]) rfl (pc' := 53) rfl ?_
        refine Go.iload K at_53 rfl (pc' := 55) rfl ?_
        refine Go.ifc K at_55 (by decide) (pcT := 75) (pcF := 58) (by decide) rfl (fun h55 => ?_) (fun h55 => ?_)
        · replace h55 : (1 : Int32) = 0 := h55
          exact absurd h55 (by decide)
        · replace h55 : ¬ ((1 : Int32) = 0) := h55
          refine Go.newO K (hw _ (List.mem_of_getElem? (i := 71) rfl)) (hw _ (List.mem_of_getElem? (i := 22) rfl)) (hw _ (List.mem_of_getElem? (i := 21) rfl)) (by decide) (by decide) at_58 (pc' := 61) rfl ?_
          intro h1002 sr eq1005 E1003 E_sr D1004
          have ne1006 : b ≠ sr := own_ne V995.lt (Nat.le_of_eq eq1005.symm)
          have ne1007 : eo ≠ sr := own_ne f997.lt (Nat.le_of_eq eq1005.symm)
          have g_sr : n0 ≤ sr := Nat.le_trans z1001 (Nat.le_of_eq eq1005.symm)
          have sf1008 := Safe.ext E1003 cr996.1 (Safe.new (Nat.le_of_eq eq1005.symm))
          have f1012 := f997.ext E1003
          have f1013 := f998.ext E1003
          have f1014 := V995.ext E1003
          have od1015 := od1000.ext E1003
          have z1016 := Nat.le_trans z1001 E1003.1
          have cr1017 := cr996.trans (CHr.ext E1003 cr996.1)
          have f1018 : Fld Z h1002 sr "java/lang/String" "value" "[B" .null := D1004 (Or.inr (hw _ (List.mem_of_getElem? (i := 24) rfl))) (ty := (.array .byte)) (by decide)
          have f1019 : Fld Z h1002 sr "java/lang/String" "coder" "B" (.int (0 : Int32)) := D1004 (Or.inr (hw _ (List.mem_of_getElem? (i := 25) rfl))) (ty := .byte) (by decide)
          refine Go.dup K at_61 rfl (pc' := 62) rfl ?_
          refine Go.aload K at_62 rfl rfl (pc' := 64) rfl ?_
          have hp : ∀ c ∈ ([(nar .char ((p1 &&& (255 : Int32)).toUInt32.toUInt16.toUInt32.toInt32))] : List Int32), ¬ c < 0 ∧ ¬ (255 : Int32) < c := by
            intro c hc
            obtain rfl := List.mem_singleton.mp hc
            exact own_and255 p1
          refine Go.callC K (y := (⟨"java/lang/String", "<init>", "([C)V"⟩ : MethodName)) (W := 1) (kc := 1) (nc := 1) (a := sr) rfl (mvT K.cz (hw _ (List.mem_of_getElem? (i := 72) rfl))) (mvT K.cz (hw _ (List.mem_of_getElem? (i := 73) rfl))) (mvT K.cz (hw _ (List.mem_of_getElem? (i := 74) rfl))) (by decide) (paysNew (W := 1) K.cz hws (kI := 4) (hw _ (List.mem_of_getElem? (i := 22) rfl)) (cs := ([(nar .char ((p1 &&& (255 : Int32)).toUInt32.toUInt16.toUInt32.toInt32))] : List Int32)) (bs := ([(nar .char ((p1 &&& (255 : Int32)).toUInt32.toUInt16.toUInt32.toInt32))] : List Int32).map (fun c => c.toInt8.toInt32)) (n := 1) g_sr z1016 E_sr f1018 f1019 f1014 (S1.ext od1015.2) P1 rfl rfl (by decide) (by decide) hp rfl (by decide) (by decide)) rfl (argsL := [(.ref b)]) (rest := [(.ref sr)]) (lenOf pd__28_5bC_29V rfl) rfl (Nat.le_of_ble_eq_true rfl) (by decide) (by decide) (fun v h' L q => q.2.1) (fun v h' L q => q.2.2.1.1) at_64 (pc' := 67) rfl ?_
          rintro v1022 h1020 Lc1021 ⟨rfl, Nq, Kq, Eq, Cq, t, kb, ht0, ht1, htne, Vq, Aq⟩
          have f1023 := Safe.keep Kq (sfS sf1008 sf0) cr1017.1 sf1008
          have cr1024 := cr1017.trans (CHr.keep Kq (sfS sf1008 sf0) cr1017.1)
          have f1025 := f1012.keep Kq
          have f1026 := f1013.keep Kq (ninS ne1007 nin0)
          have f1027 := f1014.keep Kq (ninS ne1006 nin0)
          have f1028 := E_sr.keep Kq
          have od1031 := od1015.keep Kq (allS g_sr all0)
          have z1032 := Nat.le_trans z1016 Kq.1
          show Go p l e _ _ m _ below meth c _ _ _ _ h1020 _ _ (mkF m 67 #[.val (.int p0), .val (.int p1), .val (.int p2), .val (.int p3), .val (.int (1 : Int32)), .val (.int (1 : Int32)), .val (.int (1 : Int32)), .val (.ref b), .unset, .unset, .unset, .unset, .unset] [(.ref sr)])
          refine Go.callS K (y := (⟨"java/util/Optional", "of", "(Ljava/lang/Object;)Ljava/util/Optional;"⟩ : MethodName)) (W := 0) (kc := 1) (nc := 1) (mvT K.cz (hw _ (List.mem_of_getElem? (i := 58) rfl))) (mvT K.cz (hw _ (List.mem_of_getElem? (i := 59) rfl))) (mvT K.cz (hw _ (List.mem_of_getElem? (i := 3) rfl))) (mvT K.cz (hw _ (List.mem_of_getElem? (i := 60) rfl))) (by decide) ((m_oo l Z a0 hw h1020 n0 z1032 sr).pays (W := 0) K.cz (hw _ (List.mem_of_getElem? (i := 60) rfl)) (hw _ (List.mem_of_getElem? (i := 3) rfl)) (by decide) (by decide)) rfl (argsL := [(.ref sr)]) (rest := []) (lenOf pd__28Ljava_2flang_2fObject_3b_29Ljava_2futil_2fOptional_3b rfl) rfl (Nat.le_of_ble_eq_true rfl) (by decide) (by decide) frOf grOf at_67 (pc' := 70) rfl ?_
          rintro v1035 h1033 Lc1034 ⟨⟨⟨op, rfl, hle_op, K_op, E_op, F_op⟩, -⟩, -⟩
          have ne1036 : sr ≠ op := own_ne f1028.lt hle_op
          have ne1037 : b ≠ op := own_ne f1027.lt hle_op
          have ne1038 : eo ≠ op := own_ne f1025.lt hle_op
          have f1039 := Safe.keep K_op sf0 cr1024.1 f1023
          have cr1040 := cr1024.trans (CHr.keep K_op sf0 cr1024.1)
          have f1041 := f1025.keep K_op
          have f1042 := f1026.keep K_op nin0
          have f1043 := f1027.keep K_op nin0
          have f1044 := f1028.keep K_op
          have od1045 := od1031.keep K_op all0
          have z1046 := Nat.le_trans z1032 K_op.1
          show Go p l e _ _ m _ below meth c _ _ _ _ h1033 _ _ (mkF m 70 #[.val (.int p0), .val (.int p1), .val (.int p2), .val (.int p3), .val (.int (1 : Int32)), .val (.int (1 : Int32)), .val (.int (1 : Int32)), .val (.ref b), .unset, .unset, .unset, .unset, .unset] [(.ref op)])
          refine Go.astore K at_70 rfl (Ls' := #[.val (.int p0), .val (.int p1), .val (.int p2), .val (.int p3), .val (.int (1 : Int32)), .val (.int (1 : Int32)), .val (.int (1 : Int32)), .val (.ref b), .val (.ref op), .unset, .unset, .unset, .unset]) rfl (pc' := 72) rfl ?_
          refine Go.goto K at_72 (pc' := 80) (by decide) (by decide) ?_
          refine Go.iload K at_80 rfl (pc' := 82) rfl ?_
          refine Go.ifc K at_82 (by decide) (pcT := 97) (pcF := 85) (by decide) rfl (fun h82 => ?_) (fun h82 => ?_)
          · replace h82 : (1 : Int32) = 0 := h82
            exact absurd h82 (by decide)
          · replace h82 : ¬ ((1 : Int32) = 0) := h82
            refine Go.iloadN K at_85 rfl (pc' := 86) rfl ?_
            refine Go.callS K (y := (⟨"com/example/chartwarden/chartwarden/trail/SelectionTimedPinLaw", "pick", "(I)Ljava/time/Instant;"⟩ : MethodName)) (W := 0) (kc := 1) (nc := 2) (mvT K.cz (hw _ (List.mem_of_getElem? (i := 52) rfl))) (mvT K.cz (hw _ (List.mem_of_getElem? (i := 53) rfl))) (mvT K.cz (hw _ (List.mem_of_getElem? (i := 54) rfl))) (mvT K.cz (hw _ (List.mem_of_getElem? (i := 55) rfl))) (by decide) ((m_pk l Z a0 hw h1033 n0 z1046 p2 od1045 iMIN SMIN iEPOCH SEPOCH iMAX SMAX).pays (W := 0) K.cz (hw _ (List.mem_of_getElem? (i := 55) rfl)) (hw _ (List.mem_of_getElem? (i := 54) rfl)) (by decide) (by decide)) rfl (argsL := [(.int p2)]) (rest := []) (lenOf pd__28I_29Ljava_2ftime_2fInstant_3b rfl) rfl (Nat.le_of_ble_eq_true rfl) (by decide) (by decide) frOf grOf at_86 (pc' := 89) rfl ?_
            rintro v1049 h1047 Lc1048 ⟨⟨⟨i_of, rfl, Ki_of⟩, -⟩, -⟩
            have f1050 := Safe.keep Ki_of sf0 cr1040.1 f1039
            have cr1051 := cr1040.trans (CHr.keep Ki_of sf0 cr1040.1)
            have f1052 := f1041.keep Ki_of
            have f1053 := f1042.keep Ki_of nin0
            have f1054 := f1043.keep Ki_of nin0
            have f1055 := f1044.keep Ki_of
            have f1056 := E_op.keep Ki_of
            have f1057 := F_op.keep Ki_of nin0
            have od1058 := od1045.keep Ki_of all0
            have z1059 := Nat.le_trans z1046 Ki_of.1
            show Go p l e _ _ m _ below meth c _ _ _ _ h1047 _ _ (mkF m 89 #[.val (.int p0), .val (.int p1), .val (.int p2), .val (.int p3), .val (.int (1 : Int32)), .val (.int (1 : Int32)), .val (.int (1 : Int32)), .val (.ref b), .val (.ref op), .unset, .unset, .unset, .unset] [(.ref i_of)])
            refine Go.callS K (y := (⟨"java/util/Optional", "of", "(Ljava/lang/Object;)Ljava/util/Optional;"⟩ : MethodName)) (W := 0) (kc := 1) (nc := 1) (mvT K.cz (hw _ (List.mem_of_getElem? (i := 58) rfl))) (mvT K.cz (hw _ (List.mem_of_getElem? (i := 59) rfl))) (mvT K.cz (hw _ (List.mem_of_getElem? (i := 3) rfl))) (mvT K.cz (hw _ (List.mem_of_getElem? (i := 60) rfl))) (by decide) ((m_oo l Z a0 hw h1047 n0 z1059 i_of).pays (W := 0) K.cz (hw _ (List.mem_of_getElem? (i := 60) rfl)) (hw _ (List.mem_of_getElem? (i := 3) rfl)) (by decide) (by decide)) rfl (argsL := [(.ref i_of)]) (rest := []) (lenOf pd__28Ljava_2flang_2fObject_3b_29Ljava_2futil_2fOptional_3b rfl) rfl (Nat.le_of_ble_eq_true rfl) (by decide) (by decide) frOf grOf at_89 (pc' := 92) rfl ?_
            rintro v1062 h1060 Lc1061 ⟨⟨⟨of, rfl, hle_of, K_of, E_of, F_of⟩, -⟩, -⟩
            have ne1063 : op ≠ of := own_ne f1056.lt hle_of
            have ne1064 : sr ≠ of := own_ne f1055.lt hle_of
            have ne1065 : b ≠ of := own_ne f1054.lt hle_of
            have ne1066 : eo ≠ of := own_ne f1052.lt hle_of
            have f1067 := Safe.keep K_of sf0 cr1051.1 f1050
            have cr1068 := cr1051.trans (CHr.keep K_of sf0 cr1051.1)
            have f1069 := f1052.keep K_of
            have f1070 := f1053.keep K_of nin0
            have f1071 := f1054.keep K_of nin0
            have f1072 := f1055.keep K_of
            have f1073 := f1056.keep K_of
            have f1074 := f1057.keep K_of nin0
            have od1075 := od1058.keep K_of all0
            have z1076 := Nat.le_trans z1059 K_of.1
            show Go p l e _ _ m _ below meth c _ _ _ _ h1060 _ _ (mkF m 92 #[.val (.int p0), .val (.int p1), .val (.int p2), .val (.int p3), .val (.int (1 : Int32)), .val (.int (1 : Int32)), .val (.int (1 : Int32)), .val (.ref b), .val (.ref op), .unset, .unset, .unset, .unset] [(.ref of)])
            refine Go.astore K at_92 rfl (Ls' := #[.val (.int p0), .val (.int p1), .val (.int p2), .val (.int p3), .val (.int (1 : Int32)), .val (.int (1 : Int32)), .val (.int (1 : Int32)), .val (.ref b), .val (.ref op), .val (.ref of), .unset, .unset, .unset]) rfl (pc' := 94) rfl ?_
            refine Go.goto K at_94 (pc' := 102) (by decide) (by decide) ?_
            refine Go.iload K at_102 rfl (pc' := 104) rfl ?_
            refine Go.ifc K at_104 (by decide) (pcT := 119) (pcF := 107) (by decide) rfl (fun h104 => ?_) (fun h104 => ?_)
            · replace h104 : (1 : Int32) = 0 := h104
              exact absurd h104 (by decide)
            · replace h104 : ¬ ((1 : Int32) = 0) := h104
              refine Go.iloadN K at_107 rfl (pc' := 108) rfl ?_
              refine Go.callS K (y := (⟨"com/example/chartwarden/chartwarden/trail/SelectionTimedPinLaw", "pick", "(I)Ljava/time/Instant;"⟩ : MethodName)) (W := 0) (kc := 1) (nc := 2) (mvT K.cz (hw _ (List.mem_of_getElem? (i := 52) rfl))) (mvT K.cz (hw _ (List.mem_of_getElem? (i := 53) rfl))) (mvT K.cz (hw _ (List.mem_of_getElem? (i := 54) rfl))) (mvT K.cz (hw _ (List.mem_of_getElem? (i := 55) rfl))) (by decide) ((m_pk l Z a0 hw h1060 n0 z1076 p3 od1075 iMIN SMIN iEPOCH SEPOCH iMAX SMAX).pays (W := 0) K.cz (hw _ (List.mem_of_getElem? (i := 55) rfl)) (hw _ (List.mem_of_getElem? (i := 54) rfl)) (by decide) (by decide)) rfl (argsL := [(.int p3)]) (rest := []) (lenOf pd__28I_29Ljava_2ftime_2fInstant_3b rfl) rfl (Nat.le_of_ble_eq_true rfl) (by decide) (by decide) frOf grOf at_108 (pc' := 111) rfl ?_
              rintro v1079 h1077 Lc1078 ⟨⟨⟨i_ot, rfl, Ki_ot⟩, -⟩, -⟩
              have f1080 := Safe.keep Ki_ot sf0 cr1068.1 f1067
              have cr1081 := cr1068.trans (CHr.keep Ki_ot sf0 cr1068.1)
              have f1082 := f1069.keep Ki_ot
              have f1083 := f1070.keep Ki_ot nin0
              have f1084 := f1071.keep Ki_ot nin0
              have f1085 := f1072.keep Ki_ot
              have f1086 := f1073.keep Ki_ot
              have f1087 := f1074.keep Ki_ot nin0
              have f1088 := E_of.keep Ki_ot
              have f1089 := F_of.keep Ki_ot nin0
              have od1090 := od1075.keep Ki_ot all0
              have z1091 := Nat.le_trans z1076 Ki_ot.1
              show Go p l e _ _ m _ below meth c _ _ _ _ h1077 _ _ (mkF m 111 #[.val (.int p0), .val (.int p1), .val (.int p2), .val (.int p3), .val (.int (1 : Int32)), .val (.int (1 : Int32)), .val (.int (1 : Int32)), .val (.ref b), .val (.ref op), .val (.ref of), .unset, .unset, .unset] [(.ref i_ot)])
              refine Go.callS K (y := (⟨"java/util/Optional", "of", "(Ljava/lang/Object;)Ljava/util/Optional;"⟩ : MethodName)) (W := 0) (kc := 1) (nc := 1) (mvT K.cz (hw _ (List.mem_of_getElem? (i := 58) rfl))) (mvT K.cz (hw _ (List.mem_of_getElem? (i := 59) rfl))) (mvT K.cz (hw _ (List.mem_of_getElem? (i := 3) rfl))) (mvT K.cz (hw _ (List.mem_of_getElem? (i := 60) rfl))) (by decide) ((m_oo l Z a0 hw h1077 n0 z1091 i_ot).pays (W := 0) K.cz (hw _ (List.mem_of_getElem? (i := 60) rfl)) (hw _ (List.mem_of_getElem? (i := 3) rfl)) (by decide) (by decide)) rfl (argsL := [(.ref i_ot)]) (rest := []) (lenOf pd__28Ljava_2flang_2fObject_3b_29Ljava_2futil_2fOptional_3b rfl) rfl (Nat.le_of_ble_eq_true rfl) (by decide) (by decide) frOf grOf at_111 (pc' := 114) rfl ?_
              rintro v1094 h1092 Lc1093 ⟨⟨⟨ot, rfl, hle_ot, K_ot, E_ot, F_ot⟩, -⟩, -⟩
              have ne1095 : of ≠ ot := own_ne f1088.lt hle_ot
              have ne1096 : sr ≠ ot := own_ne f1085.lt hle_ot
              have ne1097 : b ≠ ot := own_ne f1084.lt hle_ot
              have ne1098 : op ≠ ot := own_ne f1086.lt hle_ot
              have ne1099 : eo ≠ ot := own_ne f1082.lt hle_ot
              have f1100 := Safe.keep K_ot sf0 cr1081.1 f1080
              have cr1101 := cr1081.trans (CHr.keep K_ot sf0 cr1081.1)
              have f1102 := f1082.keep K_ot
              have f1103 := f1083.keep K_ot nin0
              have f1104 := f1084.keep K_ot nin0
              have f1105 := f1085.keep K_ot
              have f1106 := f1086.keep K_ot
              have f1107 := f1087.keep K_ot nin0
              have f1108 := f1088.keep K_ot
              have f1109 := f1089.keep K_ot nin0
              have od1110 := od1090.keep K_ot all0
              have z1111 := Nat.le_trans z1091 K_ot.1
              show Go p l e _ _ m _ below meth c _ _ _ _ h1092 _ _ (mkF m 114 #[.val (.int p0), .val (.int p1), .val (.int p2), .val (.int p3), .val (.int (1 : Int32)), .val (.int (1 : Int32)), .val (.int (1 : Int32)), .val (.ref b), .val (.ref op), .val (.ref of), .unset, .unset, .unset] [(.ref ot)])
              refine Go.astore K at_114 rfl (Ls' := #[.val (.int p0), .val (.int p1), .val (.int p2), .val (.int p3), .val (.int (1 : Int32)), .val (.int (1 : Int32)), .val (.int (1 : Int32)), .val (.ref b), .val (.ref op), .val (.ref of), .val (.ref ot), .unset, .unset]) rfl (pc' := 116) rfl ?_
              refine Go.goto K at_116 (pc' := 124) (by decide) (by decide) ?_
              refine Go.newO K (hw _ (List.mem_of_getElem? (i := 6) rfl)) (hw _ (List.mem_of_getElem? (i := 7) rfl)) (hw _ (List.mem_of_getElem? (i := 8) rfl)) (by decide) (by decide) at_124 (pc' := 127) rfl ?_
              intro h1112 se eq1115 E1113 E_se D1114
              have ne1116 : of ≠ se := own_ne f1108.lt (Nat.le_of_eq eq1115.symm)
              have ne1117 : sr ≠ se := own_ne f1105.lt (Nat.le_of_eq eq1115.symm)
              have ne1118 : b ≠ se := own_ne f1104.lt (Nat.le_of_eq eq1115.symm)
              have ne1119 : ot ≠ se := own_ne E_ot.lt (Nat.le_of_eq eq1115.symm)
              have ne1120 : op ≠ se := own_ne f1106.lt (Nat.le_of_eq eq1115.symm)
              have ne1121 : eo ≠ se := own_ne f1102.lt (Nat.le_of_eq eq1115.symm)
              have g_se : n0 ≤ se := Nat.le_trans z1111 (Nat.le_of_eq eq1115.symm)
              have f1126 := Safe.ext E1113 cr1101.1 f1100
              have f1133 := f1102.ext E1113
              have f1134 := f1103.ext E1113
              have f1135 := f1104.ext E1113
              have f1136 := f1105.ext E1113
              have f1137 := f1106.ext E1113
              have f1138 := f1107.ext E1113
              have f1139 := f1108.ext E1113
              have f1140 := f1109.ext E1113
              have f1141 := E_ot.ext E1113
              have f1142 := F_ot.ext E1113
              have od1143 := od1110.ext E1113
              have z1144 := Nat.le_trans z1111 E1113.1
              have cr1145 := cr1101.trans (CHr.ext E1113 cr1101.1)
              have f1146 : Fld Z h1112 se "com/example/chartwarden/chartwarden/trail/Selection" "patient" "Ljava/util/Optional;" .null := D1114 (Or.inr (hw _ (List.mem_of_getElem? (i := 35) rfl))) (ty := (.object "java/util/Optional")) (by decide)
              have f1147 : Fld Z h1112 se "com/example/chartwarden/chartwarden/trail/Selection" "from" "Ljava/util/Optional;" .null := D1114 (Or.inr (hw _ (List.mem_of_getElem? (i := 37) rfl))) (ty := (.object "java/util/Optional")) (by decide)
              have f1148 : Fld Z h1112 se "com/example/chartwarden/chartwarden/trail/Selection" "to" "Ljava/util/Optional;" .null := D1114 (Or.inr (hw _ (List.mem_of_getElem? (i := 39) rfl))) (ty := (.object "java/util/Optional")) (by decide)
              refine Go.dup K at_127 rfl (pc' := 128) rfl ?_
              refine Go.aload K at_128 rfl rfl (pc' := 130) rfl ?_
              refine Go.aload K at_130 rfl rfl (pc' := 132) rfl ?_
              refine Go.aload K at_132 rfl rfl (pc' := 134) rfl ?_
              refine Go.callCW K hS (y := (⟨"com/example/chartwarden/chartwarden/trail/Selection", "<init>", "(Ljava/util/Optional;Ljava/util/Optional;Ljava/util/Optional;)V"⟩ : MethodName)) (W := 1) (kc := 6) (nc := 64) (a := se) rfl (mvT K.cz (hw _ (List.mem_of_getElem? (i := 9) rfl))) (mvT K.cz (hw _ (List.mem_of_getElem? (i := 10) rfl))) (mvT K.cz (hw _ (List.mem_of_getElem? (i := 11) rfl))) (by decide) ((m_si l Z a0 hw h1112 n0 z1144 [] wS hEL se op of ot E_se f1146 f1147 f1148 g_se).pays (W := 1) K.cz (hw _ (List.mem_of_getElem? (i := 11) rfl)) (hw _ (List.mem_of_getElem? (i := 8) rfl)) (by decide) (by decide) hEL cr1145.1) rfl (argsL := [(.ref op), (.ref of), (.ref ot)]) (rest := [(.ref se)]) (lenOf pd__28Ljava_2futil_2fOptional_3bLjava_2futil_2fOptional_3bLjava_2futil_2fOptional_3b_29V rfl) rfl (Nat.le_of_ble_eq_true rfl) (by decide) (by decide) frOf at_134 (pc' := 137) rfl ?_
              rintro v1151 h1149 Lc1150 vm1152 B1153 ⟨⟨⟨rfl, Kq2, Eq2, Ff, Ft⟩, -⟩, -⟩ hrh1149 hS K
              have f1154 := hrh1149.safe f1136.lt f1126
              have cr1155 := cr1145.trans (hrh1149)
              have f1156 := f1133.keep Kq2
              have f1157 := f1134.keep Kq2 (ninS ne1121 nin0)
              have f1158 := f1135.keep Kq2 (ninS ne1118 nin0)
              have f1159 := f1136.keep Kq2
              have f1160 := f1137.keep Kq2
              have f1161 := f1138.keep Kq2 (ninS ne1120 nin0)
              have f1162 := f1139.keep Kq2
              have f1163 := f1140.keep Kq2 (ninS ne1116 nin0)
              have f1164 := f1141.keep Kq2
              have f1165 := f1142.keep Kq2 (ninS ne1119 nin0)
              have f1166 := E_se.keep Kq2
              have od1170 := od1143.keep Kq2 (allS g_se all0)
              have z1171 := Nat.le_trans z1144 Kq2.1
              show Go p l e _ _ m _ below meth c _ _ _ _ h1149 _ _ (mkF m 137 #[.val (.int p0), .val (.int p1), .val (.int p2), .val (.int p3), .val (.int (1 : Int32)), .val (.int (1 : Int32)), .val (.int (1 : Int32)), .val (.ref b), .val (.ref op), .val (.ref of), .val (.ref ot), .unset, .unset] [(.ref se)])
              refine Go.astore K at_137 rfl (Ls' := #[.val (.int p0), .val (.int p1), .val (.int p2), .val (.int p3), .val (.int (1 : Int32)), .val (.int (1 : Int32)), .val (.int (1 : Int32)), .val (.ref b), .val (.ref op), .val (.ref of), .val (.ref ot), .val (.ref se), .unset]) rfl (pc' := 139) rfl ?_
              refine Go.iload K at_139 rfl (pc' := 141) rfl ?_
              refine Go.ifc K at_141 (by decide) (pcT := 149) (pcF := 144) (by decide) rfl (fun h141 => ?_) (fun h141 => ?_)
              · replace h141 : ¬ (1 : Int32) = 0 := h141
                refine Go.iconst K (v := 1) at_149 rfl (pc' := 150) rfl ?_
                refine Go.goto K at_150 (pc' := 154) (by decide) (by decide) ?_
                refine Go.istore K at_154 (Ls' := #[.val (.int p0), .val (.int p1), .val (.int p2), .val (.int p3), .val (.int (1 : Int32)), .val (.int (1 : Int32)), .val (.int (1 : Int32)), .val (.ref b), .val (.ref op), .val (.ref of), .val (.ref ot), .val (.ref se), .val (.int (1 : Int32))]) rfl (pc' := 156) rfl ?_
                refine Go.aload K at_156 rfl rfl (pc' := 158) rfl ?_
                refine Go.callV K (y := (⟨"com/example/chartwarden/chartwarden/trail/Selection", "timed", "()Z"⟩ : MethodName)) (z := (⟨"com/example/chartwarden/chartwarden/trail/Selection", "timed", "()Z"⟩ : MethodName)) (W := 0) (kc := 0) (nc := 0) (a := se) (mvT K.cz (hw _ (List.mem_of_getElem? (i := 40) rfl))) (mvT K.cz (hw _ (List.mem_of_getElem? (i := 41) rfl))) (notFace_of_selects (args := #[]) (mvT K.cz (hw _ (List.mem_of_getElem? (i := 43) rfl)))) (mvT K.cz (hw _ (List.mem_of_getElem? (i := 43) rfl))) (mvT K.cz (hw _ (List.mem_of_getElem? (i := 42) rfl))) (by decide) f1166 ((m_tm11 l Z a0 hw h1149 n0 z1171 se of ot i_of i_ot f1166 Ff Ft f1162 f1163 f1164 f1165).pays (W := 0) K.cz (hw _ (List.mem_of_getElem? (i := 44) rfl)) (hw _ (List.mem_of_getElem? (i := 8) rfl)) (by decide) (by decide)) rfl (argsL := []) (rest := []) (lenOf pd__28_29Z rfl) rfl (Nat.le_of_ble_eq_true rfl) (by decide) (by decide) frOf grOf at_158 (pc' := 161) rfl ?_
                rintro v1174 h1172 Lc1173 ⟨⟨⟨rfl, eh⟩, -⟩, -⟩
                obtain rfl := eh
                show Go p l e _ _ m _ below meth c _ _ _ _ h1149 _ _ (mkF m 161 #[.val (.int p0), .val (.int p1), .val (.int p2), .val (.int p3), .val (.int (1 : Int32)), .val (.int (1 : Int32)), .val (.int (1 : Int32)), .val (.ref b), .val (.ref op), .val (.ref of), .val (.ref ot), .val (.ref se), .val (.int (1 : Int32))] [(.int (1 : Int32))])
                refine Go.iload K at_161 rfl (pc' := 163) rfl ?_
                refine Go.icmp K at_163 (by decide) (pcT := 170) (pcF := 166) (by decide) rfl (fun h163 => ?_) (fun h163 => ?_)
                · replace h163 : ¬ (1 : Int32) = (1 : Int32) := h163
                  exact absurd rfl h163
                · replace h163 : ¬ (¬ (1 : Int32) = (1 : Int32)) := h163
                  refine Go.iconst K (v := 1) at_166 rfl (pc' := 167) rfl ?_
                  refine Go.goto K at_167 (pc' := 171) (by decide) (by decide) ?_
                  exact Go.retN K (by simp) (by decide) (by decide) at_171 (own_end hEL K.cz cr1155 rfl)
              · replace h141 : ¬ (¬ (1 : Int32) = 0) := h141
                exact absurd (by decide) h141
set_option maxRecDepth 65536 in
set_option maxHeartbeats 40000000 in
theorem comes_1 {Post : Tables → Env → Array Value → State → Outcome → State → Prop} (hpost : ∀ tb e args s v u, (limb_1_1.after args s (.returned v) u = true ∧ limb_1_2.after args s (.returned v) u = true ∧ True) → ReturnedEndW s (.returned v) u (Jvm.fieldLocs frame_1_writes args s ++ Jvm.arrayLocs frame_1_arrays args s ++ Jvm.staticLocs frame_1_statics s) 32 3200 → Post tb e args s (.returned v) u) :
    ArmFor flags0 classFile x code maxLocals ret World_1 tables_1 room_1 Calls_1 rest_1 Pre_1 Post := by
  intro l hfl _ _ p e ha hc hk s m args below hf hA hF happ hP
  obtain ⟨hcalls, hrest, hpre⟩ := hP
  obtain ⟨-, -, -, hnamed, -, -, -, hat⟩ := (Spec.applies_iff hf).mp happ
  obtain ⟨hg, hn⟩ := and_e (Cond.before_iff.mp (show (Jvm.Cond.and given_1 narrow_1).before args s = true from hpre))
  obtain ⟨q0, r0⟩ := and_e hg
  obtain ⟨q1, r1⟩ := and_e r0
  obtain ⟨q2, r2⟩ := and_e r1
  obtain ⟨q3, r3⟩ := and_e r2
  obtain ⟨w0, w1, w2, w3, rfl⟩ : ∃ w0 w1 w2 w3 : Value, args = #[w0, w1, w2, w3] := by
    have hs : args.size = 4 := by simpa [Cond.value, given_1] using q0
    obtain ⟨L⟩ := args
    match L, hs with
    | [w0, w1, w2, w3], _ => exact ⟨w0, w1, w2, w3, rfl⟩
  have hw := fun d (hd : d ∈ tables_1) => atoms_spec (ws := Jvm.Cond.code x code maxLocals ret :: tables_1) hat d (List.mem_cons_of_mem _ hd)
  obtain ⟨hsets, hown0⟩ := atoms_of _ (rest_1_c_eq ▸ (show rest_1_c.before _ s = true from hrest))
  have hr0 := Cond.before_iff.mp hown0
  have hfit : Fit s := fun {y c} hc i hi => by
    obtain ⟨ha, rfl⟩ := Array.getElem?_eq_some_iff.mp hc
    have q := List.all_eq_true.mp ((Array.all_eq_true_iff_forall_mem.mp hF) _ (Array.getElem_mem ha)) i (List.mem_range.mpr hi)
    simpa [Array.getElem?_eq_getElem hi] using q
  obtain ⟨i0, ei0⟩ := is_v q1
  obtain rfl : w0 = (.int i0) := Option.some.inj ei0
  obtain ⟨i1, ei1⟩ := is_v q2
  obtain rfl : w1 = (.int i1) := Option.some.inj ei1
  obtain ⟨i2, ei2⟩ := is_v q3
  obtain rfl : w2 = (.int i2) := Option.some.inj ei2
  obtain ⟨i3, ei3⟩ := is_v r3
  obtain rfl : w3 = (.int i3) := Option.some.inj ei3
  obtain ⟨zc, ezc⟩ := is_v (Cond.before_iff.mp (hsets _ (List.mem_of_getElem? (i := 10) rfl)))
  have S1 : Sta s s.heap "java/lang/String" "COMPACT_STRINGS" "Z" (.int zc) := Sta.start ezc (Or.inl (hsets _ (List.mem_of_getElem? (i := 9) rfl)))
  have P1 : ¬ (zc = (0 : Int32)) := gotF (Cond.eq_ints ezc (Term.int_eval (0))) (not_v (Cond.before_iff.mp (hsets _ (List.mem_of_getElem? (i := 11) rfl))))
  obtain ⟨eo, e_eo⟩ := exa_v (Cond.before_iff.mp (hsets _ (List.mem_of_getElem? (i := 2) rfl)))
  have S_eo : Sta s s.heap "java/util/Optional" "EMPTY" "Ljava/util/Optional;" (.ref eo) := Sta.start e_eo (Or.inl (hsets _ (List.mem_of_getElem? (i := 1) rfl)))
  have E_eo : Exa s s.heap eo "java/util/Optional" := Exa.start e_eo (Cond.before_iff.mp (hsets _ (List.mem_of_getElem? (i := 2) rfl)))
  have F_eo : Fld s s.heap eo "java/util/Optional" "value" "Ljava/lang/Object;" .null := Fld.start ((fld_at e_eo).symm.trans (null_v (Cond.before_iff.mp (hsets _ (List.mem_of_getElem? (i := 3) rfl)))))
  obtain ⟨iMIN, e_iMIN⟩ := exa_v (Cond.before_iff.mp (hsets _ (List.mem_of_getElem? (i := 20) rfl)))
  have S_iMIN : Sta s s.heap "java/time/Instant" "MIN" "Ljava/time/Instant;" (.ref iMIN) := Sta.start e_iMIN (Or.inl (hsets _ (List.mem_of_getElem? (i := 19) rfl)))
  have E_iMIN : Exa s s.heap iMIN "java/time/Instant" := Exa.start e_iMIN (Cond.before_iff.mp (hsets _ (List.mem_of_getElem? (i := 20) rfl)))
  obtain ⟨iEPOCH, e_iEPOCH⟩ := exa_v (Cond.before_iff.mp (hsets _ (List.mem_of_getElem? (i := 25) rfl)))
  have S_iEPOCH : Sta s s.heap "java/time/Instant" "EPOCH" "Ljava/time/Instant;" (.ref iEPOCH) := Sta.start e_iEPOCH (Or.inl (hsets _ (List.mem_of_getElem? (i := 24) rfl)))
  have E_iEPOCH : Exa s s.heap iEPOCH "java/time/Instant" := Exa.start e_iEPOCH (Cond.before_iff.mp (hsets _ (List.mem_of_getElem? (i := 25) rfl)))
  obtain ⟨iMAX, e_iMAX⟩ := exa_v (Cond.before_iff.mp (hsets _ (List.mem_of_getElem? (i := 6) rfl)))
  have S_iMAX : Sta s s.heap "java/time/Instant" "MAX" "Ljava/time/Instant;" (.ref iMAX) := Sta.start e_iMAX (Or.inl (hsets _ (List.mem_of_getElem? (i := 5) rfl)))
  have E_iMAX : Exa s s.heap iMAX "java/time/Instant" := Exa.start e_iMAX (Cond.before_iff.mp (hsets _ (List.mem_of_getElem? (i := 6) rfl)))
  have wS : ∀ a ∈ Bundle.stringAtoms, a.before _ s = true := fun d hd => hw d ((by decide +kernel : ∀ d ∈ Bundle.stringAtoms, d ∈ tables_1) d hd)
  have HC0 : CHv s [] s.vm s.heap := fun _ hp => by cases hp
  obtain ⟨n, o, h1, h2, h3, _, L, rfl, ⟨⟨rfl, N⟩, -⟩, -, hq⟩ := m_law l s _ hw s.heap s.heap.size (Nat.le_refl _) wS EW.nil i0 i1 i2 i3 zc S1 P1 (Old.start s) eo S_eo E_eo F_eo iMIN S_iMIN iEPOCH S_iEPOCH iMAX S_iMAX p e ha hc hk s m _ below hf ((Spec.applies_iff_loose hf).mp happ).1 ⟨rfl, State.Warmed39.refl s, rfl, HC0⟩ trivial
  refine ⟨n, _, h1, h2, h3, hpost _ _ _ _ _ _ ⟨Cond.after_iff.mpr rfl, Cond.after_iff.mpr (eq_i res_at (Term.int_eval (1)) rfl), trivial⟩ ⟨hq.1, hq.2.1, hq.2.2.1, (hq.2.2.2.sift fun y hy => Or.inr (N y hy)).mono (by decide) (by decide)⟩⟩
theorem main_1_1 : Claimed_1_1 := comes_1 fun _ _ _ _ _ _ h hF => ⟨h.1, hF⟩
theorem main_1_2 : Claimed_1_2 := comes_1 fun _ _ _ _ _ _ h hF => ⟨h.2.1, hF⟩
end Jvm.Pilot.@@N@@
namespace Jvm.Pilot.@@N@@
open Jvm Jvm.ClassFile Sem Op Lib Jvm.Free Jvm.Stand Jvm.Pilot.@@N@@.Jvm.D
/-! MADE BY PROGRAM (witnessworld.py) out of the Statement's table words and the real class files: 27 classes; the members and pool entries that the words name. The judged class is class 1, her method 2. -/
namespace start1
open Jvm.ClassFile
def u (s : String) : CpInfo := .utf8 (stringToUtf16 s)
/-- a pool by its gaps: so many unusable entries, then the entry; so many at the end -/
def gap : Nat → List CpInfo → List CpInfo
  | 0, r => r
  | n + 1, r => .unusable :: gap n r
def poolList (es : List (Nat × CpInfo)) (last : Nat) : List CpInfo := es.foldr (fun e r => gap e.1 (e.2 :: r)) (gap last [])
def pool (es : List (Nat × CpInfo)) (last : Nat) : Array CpInfo := ⟨poolList es last⟩
def fileOf (pool : Array CpInfo) (this : Nat) (attrs : Array Attribute := #[]) (ms : Array MethodInfo := #[]) (fl : Nat := 33) (sup : Nat := 0) (ifs : Array Nat := #[]) (fds : Array FieldInfo := #[]) : ClassFile where
  minorVersion := 0
  majorVersion := 65
  constantPool := pool
  accessFlags := fl
  thisClass := this
  superClass := sup
  interfaces := ifs
  fields := fds
  methods := ms
  attributes := attrs
def plain (name : String) (sup : Option ClassId) : Class where
  name := name
  kind := .ordinary
  loader := none
  accessFlags := 33
  super := sup
  interfaces := #[]
  cf := none
  fields := #[]
  methods := #[]
  instanceTypes := #[]
  staticTypes := #[]
  resolved := #[]
  callSites := []
  init := .initialized
  statics := none
  mirror := none

def pool0 : Array CpInfo := pool [(5, u "<init>"), (0, u "()V"), (1, .class_ 10), (1, u "java/lang/Object")] 113

def k0c0 : Code := { maxStack := 0, maxLocals := 1, code := object_method_1_code, exceptionTable := #[], attributes := #[] }
def k0m0 : Method := { name := "<init>", desc := "()V", sig := { parameters := [], returnType := none }, accessFlags := 1, code := some k0c0 }
/-- java/lang/Object -/
def k0 : Class := { plain "java/lang/Object" none with
  accessFlags := 33
  interfaces := #[]
  cf := some (fileOf pool0 8 #[] #[{ accessFlags := 1, nameIndex := 5, descriptorIndex := 6, attributes := #[] }] 33 0 #[] #[])
  fields := #[]
  methods := #[k0m0]
  instanceTypes := #[]
  staticTypes := #[]
  resolved := Array.replicate 124 none
  statics := none }

def pool1 : Array CpInfo := pool [(2, .class_ 4), (1, u "java/lang/Object"), (0, u "<init>"), (0, u "()V"), (0, .fieldref 8 9), (0, .class_ 10), (0, .nameAndType 11 12), (0, u "java/time/Instant"), (0, u "MIN"), (0, u "Ljava/time/Instant;"), (0, .fieldref 8 14), (0, .nameAndType 15 12), (0, u "EPOCH"), (0, .fieldref 8 17), (0, .nameAndType 18 12), (0, u "MAX"), (0, .methodref 8 20), (0, .nameAndType 21 22), (0, u "ofEpochSecond"), (0, u "(J)Ljava/time/Instant;"), (0, .class_ 24), (0, u "java/lang/String"), (0, .methodref 23 26), (0, .nameAndType 5 27), (0, u "([C)V"), (0, .methodref 29 30), (0, .class_ 31), (0, .nameAndType 32 33), (0, u "java/util/Optional"), (0, u "of"), (0, u "(Ljava/lang/Object;)Ljava/util/Optional;"), (0, .methodref 29 35), (0, .nameAndType 36 37), (0, u "empty"), (0, u "()Ljava/util/Optional;"), (0, .methodref 39 40), (0, .class_ 41), (0, .nameAndType 42 43), (0, u "com/example/chartwarden/chartwarden/trail/SelectionTimedPinLaw"), (0, u "pick"), (0, u "(I)Ljava/time/Instant;"), (0, .class_ 45), (0, u "com/example/chartwarden/chartwarden/trail/Selection"), (0, .methodref 44 47), (0, .nameAndType 5 48), (0, u "(Ljava/util/Optional;Ljava/util/Optional;Ljava/util/Optional;)V"), (0, .methodref 44 50), (0, .nameAndType 51 52), (0, u "timed"), (0, u "()Z"), (3, u "law"), (0, u "(IIII)Z")] 4

def k1m0 : Method := { name := "<init>", desc := "()V", sig := { parameters := [], returnType := none }, accessFlags := 2, code := none }
def k1c1 : Code := { maxStack := 2, maxLocals := 2, code := method_2_code, exceptionTable := #[], attributes := #[] }
def k1m1 : Method := { name := "pick", desc := "(I)Ljava/time/Instant;", sig := { parameters := [.int], returnType := some (.object "java/time/Instant") }, accessFlags := 10, code := some k1c1 }
def k1c2 : Code := { maxStack := 5, maxLocals := 13, code := code, exceptionTable := #[], attributes := #[] }
def k1m2 : Method := { name := "law", desc := "(IIII)Z", sig := { parameters := [.int, .int, .int, .int], returnType := some .boolean }, accessFlags := 9, code := some k1c2 }
/-- com/example/chartwarden/chartwarden/trail/SelectionTimedPinLaw -/
def k1 : Class := { plain "com/example/chartwarden/chartwarden/trail/SelectionTimedPinLaw" (some 0) with
  accessFlags := 49
  interfaces := #[]
  cf := some (fileOf pool1 39 #[] #[{ accessFlags := 2, nameIndex := 5, descriptorIndex := 6, attributes := #[] }, { accessFlags := 10, nameIndex := 42, descriptorIndex := 43, attributes := #[] }, { accessFlags := 9, nameIndex := 56, descriptorIndex := 57, attributes := #[] }] 49 2 #[] #[])
  fields := #[]
  methods := #[k1m0, k1m1, k1m2]
  instanceTypes := #[]
  staticTypes := #[]
  resolved := Array.replicate 62 none
  statics := none }

def pool2 : Array CpInfo := pool [(1, .fieldref 2 3), (0, .class_ 4), (0, .nameAndType 5 6), (0, u "java/util/Optional"), (0, u "EMPTY"), (0, u "Ljava/util/Optional;"), (0, .methodref 8 9), (0, .class_ 10), (0, .nameAndType 11 12), (0, u "java/lang/Object"), (0, u "<init>"), (0, u "()V"), (0, .fieldref 2 14), (0, .nameAndType 15 16), (0, u "value"), (0, u "Ljava/lang/Object;"), (0, .methodref 18 19), (0, .class_ 20), (0, .nameAndType 21 22), (0, u "java/util/Objects"), (0, u "requireNonNull"), (0, u "(Ljava/lang/Object;)Ljava/lang/Object;"), (0, .methodref 2 24), (0, .nameAndType 11 25), (0, u "(Ljava/lang/Object;)V"), (20, u "()Z"), (8, u "empty"), (0, u "()Ljava/util/Optional;"), (8, u "(Ljava/lang/Object;)Ljava/util/Optional;"), (2, u "isPresent"), (13, u "of")] 104

def k2c0 : Code := { maxStack := 1, maxLocals := 1, code := jdk_32_method_1_code, exceptionTable := #[], attributes := #[] }
def k2m0 : Method := { name := "empty", desc := "()Ljava/util/Optional;", sig := { parameters := [], returnType := some (.object "java/util/Optional") }, accessFlags := 9, code := some k2c0 }
def k2c1 : Code := { maxStack := 2, maxLocals := 2, code := jdk_32_method_2_code, exceptionTable := #[], attributes := #[] }
def k2m1 : Method := { name := "<init>", desc := "(Ljava/lang/Object;)V", sig := { parameters := [(.object "java/lang/Object")], returnType := none }, accessFlags := 2, code := some k2c1 }
def k2c2 : Code := { maxStack := 3, maxLocals := 1, code := jdk_32_method_3_code, exceptionTable := #[], attributes := #[] }
def k2m2 : Method := { name := "of", desc := "(Ljava/lang/Object;)Ljava/util/Optional;", sig := { parameters := [(.object "java/lang/Object")], returnType := some (.object "java/util/Optional") }, accessFlags := 9, code := some k2c2 }
def k2c3 : Code := { maxStack := 1, maxLocals := 1, code := jdk_32_method_6_code, exceptionTable := #[], attributes := #[] }
def k2m3 : Method := { name := "isPresent", desc := "()Z", sig := { parameters := [], returnType := some .boolean }, accessFlags := 1, code := some k2c3 }
/-- java/util/Optional -/
def k2 : Class := { plain "java/util/Optional" (some 0) with
  accessFlags := 49
  interfaces := #[]
  cf := some (fileOf pool2 2 #[] #[{ accessFlags := 9, nameIndex := 55, descriptorIndex := 56, attributes := #[] }, { accessFlags := 2, nameIndex := 11, descriptorIndex := 25, attributes := #[] }, { accessFlags := 9, nameIndex := 82, descriptorIndex := 65, attributes := #[] }, { accessFlags := 1, nameIndex := 68, descriptorIndex := 46, attributes := #[] }] 49 8 #[] #[{ accessFlags := 26, nameIndex := 5, descriptorIndex := 6, attributes := #[] }, { accessFlags := 18, nameIndex := 15, descriptorIndex := 16, attributes := #[] }])
  fields := #[{ name := "EMPTY", type := (.object "java/util/Optional"), accessFlags := 26, slot := 0, constantValue := 0 }, { name := "value", type := (.object "java/lang/Object"), accessFlags := 18, slot := 0, constantValue := 0 }]
  methods := #[k2m0, k2m1, k2m2, k2m3]
  instanceTypes := #[(.object "java/lang/Object")]
  staticTypes := #[(.object "java/util/Optional")]
  resolved := Array.replicate 187 none
  statics := some 0 }

def pool3 : Array CpInfo := pool [(1, .methodref 2 3), (0, .class_ 4), (0, .nameAndType 5 6), (0, u "java/lang/Object"), (0, u "<init>"), (0, u "()V"), (0, .class_ 8), (0, u "java/lang/Record")] 13

def k3c0 : Code := { maxStack := 1, maxLocals := 1, code := jdk_30_method_1_code, exceptionTable := #[], attributes := #[] }
def k3m0 : Method := { name := "<init>", desc := "()V", sig := { parameters := [], returnType := none }, accessFlags := 4, code := some k3c0 }
/-- java/lang/Record -/
def k3 : Class := { plain "java/lang/Record" (some 0) with
  accessFlags := 1057
  interfaces := #[]
  cf := some (fileOf pool3 7 #[] #[{ accessFlags := 4, nameIndex := 5, descriptorIndex := 6, attributes := #[] }] 1057 2 #[] #[])
  fields := #[]
  methods := #[k3m0]
  instanceTypes := #[]
  staticTypes := #[]
  resolved := Array.replicate 22 none
  statics := none }

def pool4 : Array CpInfo := pool [(1, .methodref 2 3), (0, .class_ 4), (0, .nameAndType 5 6), (0, u "java/lang/Record"), (0, u "<init>"), (0, u "()V"), (0, .string 8), (0, u "patient"), (0, .methodref 10 11), (0, .class_ 12), (0, .nameAndType 13 14), (0, u "java/util/Objects"), (0, u "requireNonNull"), (0, u "(Ljava/lang/Object;Ljava/lang/String;)Ljava/lang/Object;"), (0, .string 16), (0, u "from"), (0, .string 18), (0, u "to"), (0, .fieldref 20 21), (0, .class_ 22), (0, .nameAndType 8 23), (0, u "com/example/chartwarden/chartwarden/trail/Selection"), (0, u "Ljava/util/Optional;"), (0, .fieldref 20 25), (0, .nameAndType 16 23), (0, .fieldref 20 27), (0, .nameAndType 18 23), (0, .methodref 29 30), (0, .class_ 31), (0, .nameAndType 32 33), (0, u "java/util/Optional"), (0, u "isPresent"), (0, u "()Z"), (35, u "(Ljava/util/Optional;Ljava/util/Optional;Ljava/util/Optional;)V"), (2, u "EVERY"), (0, u "Lcom/example/chartwarden/chartwarden/trail/Selection;"), (7, u "timed")] 31

def k4c0 : Code := { maxStack := 2, maxLocals := 4, code := prog_38_method_1_code, exceptionTable := #[], attributes := #[] }
def k4m0 : Method := { name := "<init>", desc := "(Ljava/util/Optional;Ljava/util/Optional;Ljava/util/Optional;)V", sig := { parameters := [(.object "java/util/Optional"), (.object "java/util/Optional"), (.object "java/util/Optional")], returnType := none }, accessFlags := 1, code := some k4c0 }
def k4c1 : Code := { maxStack := 1, maxLocals := 1, code := prog_38_method_2_code, exceptionTable := #[], attributes := #[] }
def k4m1 : Method := { name := "timed", desc := "()Z", sig := { parameters := [], returnType := some .boolean }, accessFlags := 0, code := some k4c1 }
/-- com/example/chartwarden/chartwarden/trail/Selection -/
def k4 : Class := { plain "com/example/chartwarden/chartwarden/trail/Selection" (some 3) with
  accessFlags := 49
  interfaces := #[]
  cf := some (fileOf pool4 20 #[] #[{ accessFlags := 1, nameIndex := 5, descriptorIndex := 69, attributes := #[] }, { accessFlags := 0, nameIndex := 81, descriptorIndex := 33, attributes := #[] }] 49 2 #[] #[{ accessFlags := 18, nameIndex := 8, descriptorIndex := 23, attributes := #[] }, { accessFlags := 18, nameIndex := 16, descriptorIndex := 23, attributes := #[] }, { accessFlags := 18, nameIndex := 18, descriptorIndex := 23, attributes := #[] }, { accessFlags := 25, nameIndex := 72, descriptorIndex := 73, attributes := #[] }])
  fields := #[{ name := "patient", type := (.object "java/util/Optional"), accessFlags := 18, slot := 0, constantValue := 0 }, { name := "from", type := (.object "java/util/Optional"), accessFlags := 18, slot := 1, constantValue := 0 }, { name := "to", type := (.object "java/util/Optional"), accessFlags := 18, slot := 2, constantValue := 0 }, { name := "EVERY", type := (.object "com/example/chartwarden/chartwarden/trail/Selection"), accessFlags := 25, slot := 0, constantValue := 0 }]
  methods := #[k4m0, k4m1]
  instanceTypes := #[(.object "java/util/Optional"), (.object "java/util/Optional"), (.object "java/util/Optional")]
  staticTypes := #[(.object "com/example/chartwarden/chartwarden/trail/Selection")]
  resolved := Array.replicate 113 none
  statics := none }

def pool5 : Array CpInfo := pool [(1, .class_ 2), (0, u "java/io/Serializable"), (0, .class_ 4), (0, u "java/lang/Object")] 2

/-- java/io/Serializable -/
def k5 : Class := { plain "java/io/Serializable" (some 0) with
  accessFlags := 1537
  interfaces := #[]
  cf := some (fileOf pool5 1 #[] #[] 1537 3 #[] #[])
  fields := #[]
  methods := #[]
  instanceTypes := #[]
  staticTypes := #[]
  resolved := Array.replicate 7 none
  statics := none }

def pool6 : Array CpInfo := pool [(1, .class_ 2), (0, u "java/lang/Comparable"), (0, .class_ 4), (0, u "java/lang/Object")] 7

/-- java/lang/Comparable -/
def k6 : Class := { plain "java/lang/Comparable" (some 0) with
  accessFlags := 1537
  interfaces := #[]
  cf := some (fileOf pool6 1 #[] #[] 1537 3 #[] #[])
  fields := #[]
  methods := #[]
  instanceTypes := #[]
  staticTypes := #[]
  resolved := Array.replicate 12 none
  statics := none }

def pool7 : Array CpInfo := pool [(2, .class_ 4), (1, u "java/lang/CharSequence"), (42, .class_ 48), (0, u "java/lang/CharSequence$1CodePointIterator"), (10, .class_ 60), (0, u "java/lang/CharSequence$1CharIterator"), (5, .class_ 67), (0, u "java/lang/Object")] 63

/-- java/lang/CharSequence -/
def k7 : Class := { plain "java/lang/CharSequence" (some 0) with
  accessFlags := 1537
  interfaces := #[]
  cf := some (fileOf pool7 2 #[.nestMembers #[47, 59]] #[] 1537 66 #[] #[])
  fields := #[]
  methods := #[]
  instanceTypes := #[]
  staticTypes := #[]
  resolved := Array.replicate 131 none
  statics := none }

def pool8 : Array CpInfo := pool [(1, .class_ 2), (0, u "java/lang/constant/Constable"), (0, .class_ 4), (0, u "java/lang/Object")] 6

/-- java/lang/constant/Constable -/
def k8 : Class := { plain "java/lang/constant/Constable" (some 0) with
  accessFlags := 1537
  interfaces := #[]
  cf := some (fileOf pool8 1 #[] #[] 1537 3 #[] #[])
  fields := #[]
  methods := #[]
  instanceTypes := #[]
  staticTypes := #[]
  resolved := Array.replicate 11 none
  statics := none }

def pool9 : Array CpInfo := pool [(1, .class_ 2), (0, u "java/lang/constant/ConstantDesc"), (0, .class_ 4), (0, u "java/lang/Object")] 32

/-- java/lang/constant/ConstantDesc -/
def k9 : Class := { plain "java/lang/constant/ConstantDesc" (some 0) with
  accessFlags := 1537
  interfaces := #[]
  cf := some (fileOf pool9 1 #[] #[] 1537 3 #[] #[])
  fields := #[]
  methods := #[]
  instanceTypes := #[]
  staticTypes := #[]
  resolved := Array.replicate 37 none
  statics := none }

def pool10 : Array CpInfo := pool [(1, .methodref 2 3), (0, .class_ 4), (0, .nameAndType 5 6), (0, u "java/lang/Object"), (0, u "<init>"), (0, u "()V"), (2, .fieldref 10 11), (0, .class_ 12), (0, .nameAndType 13 14), (0, u "java/lang/String"), (0, u "value"), (0, u "[B"), (0, .fieldref 10 16), (0, .nameAndType 17 18), (0, u "coder"), (0, u "B"), (2, u "hash"), (0, u "I"), (2, u "hashIsZero"), (0, u "Z"), (0, .methodref 10 28), (0, .nameAndType 5 29), (0, u "([CIILjava/lang/Void;)V"), (8, .fieldref 10 39), (0, .nameAndType 40 26), (0, u "COMPACT_STRINGS"), (1, .class_ 44), (1, u "java/lang/StringUTF16"), (0, u "compress"), (1, .methodref 42 48), (0, .nameAndType 49 50), (0, u "coderFromArrayLen"), (0, u "([BI)B"), (126, .methodref 42 178), (0, .nameAndType 45 179), (0, u "([CII)[B"), (395, .class_ 576), (0, u "java/lang/CharSequence"), (22, u "CASE_INSENSITIVE_ORDER"), (0, u "Ljava/util/Comparator;"), (409, u "([C)V"), (90, u "serialPersistentFields"), (0, u "[Ljava/io/ObjectStreamField;"), (0, .class_ 1104), (0, u "java/lang/String$CaseInsensitiveComparator"), (1, .class_ 1107), (0, u "java/io/Serializable"), (0, .class_ 1109), (0, u "java/lang/Comparable"), (0, .class_ 1111), (0, u "java/lang/constant/Constable"), (0, .class_ 1113), (0, u "java/lang/constant/ConstantDesc"), (2, u "serialVersionUID"), (0, u "J"), (3, u "REPL"), (0, u "C"), (2, u "LATIN1"), (1, u "UTF16")] 323

def k10m0 : Method := { name := "<init>", desc := "()V", sig := { parameters := [], returnType := none }, accessFlags := 1, code := none }
def k10c1 : Code := { maxStack := 5, maxLocals := 2, code := jdk_42_method_3_code, exceptionTable := #[], attributes := #[] }
def k10m1 : Method := { name := "<init>", desc := "([C)V", sig := { parameters := [(.array .char)], returnType := none }, accessFlags := 1, code := some k10c1 }
def k10c2 : Code := { maxStack := 4, maxLocals := 6, code := jdk_42_method_149_code, exceptionTable := #[], attributes := #[] }
def k10m2 : Method := { name := "<init>", desc := "([CIILjava/lang/Void;)V", sig := { parameters := [(.array .char), .int, .int, (.object "java/lang/Void")], returnType := none }, accessFlags := 2, code := some k10c2 }
/-- java/lang/String -/
def k10 : Class := { plain "java/lang/String" (some 0) with
  accessFlags := 49
  interfaces := #[5, 6, 7, 8, 9]
  cf := some (fileOf pool10 10 #[.nestMembers #[1103]] #[{ accessFlags := 1, nameIndex := 5, descriptorIndex := 6, attributes := #[] }, { accessFlags := 1, nameIndex := 5, descriptorIndex := 1010, attributes := #[] }, { accessFlags := 2, nameIndex := 5, descriptorIndex := 29, attributes := #[] }] 49 2 #[1106, 1108, 575, 1110, 1112] #[{ accessFlags := 18, nameIndex := 13, descriptorIndex := 14, attributes := #[] }, { accessFlags := 18, nameIndex := 17, descriptorIndex := 18, attributes := #[] }, { accessFlags := 2, nameIndex := 21, descriptorIndex := 22, attributes := #[] }, { accessFlags := 2, nameIndex := 25, descriptorIndex := 26, attributes := #[] }, { accessFlags := 26, nameIndex := 1116, descriptorIndex := 1117, attributes := #[] }, { accessFlags := 24, nameIndex := 40, descriptorIndex := 26, attributes := #[] }, { accessFlags := 26, nameIndex := 1101, descriptorIndex := 1102, attributes := #[] }, { accessFlags := 26, nameIndex := 1121, descriptorIndex := 1122, attributes := #[] }, { accessFlags := 25, nameIndex := 599, descriptorIndex := 600, attributes := #[] }, { accessFlags := 24, nameIndex := 1125, descriptorIndex := 18, attributes := #[] }, { accessFlags := 24, nameIndex := 1127, descriptorIndex := 18, attributes := #[] }])
  fields := #[{ name := "value", type := (.array .byte), accessFlags := 18, slot := 0, constantValue := 0 }, { name := "coder", type := .byte, accessFlags := 18, slot := 1, constantValue := 0 }, { name := "hash", type := .int, accessFlags := 2, slot := 2, constantValue := 0 }, { name := "hashIsZero", type := .boolean, accessFlags := 2, slot := 3, constantValue := 0 }, { name := "serialVersionUID", type := .long, accessFlags := 26, slot := 0, constantValue := 0 }, { name := "COMPACT_STRINGS", type := .boolean, accessFlags := 24, slot := 1, constantValue := 0 }, { name := "serialPersistentFields", type := (.array (.object "java/io/ObjectStreamField")), accessFlags := 26, slot := 2, constantValue := 0 }, { name := "REPL", type := .char, accessFlags := 26, slot := 3, constantValue := 0 }, { name := "CASE_INSENSITIVE_ORDER", type := (.object "java/util/Comparator"), accessFlags := 25, slot := 4, constantValue := 0 }, { name := "LATIN1", type := .byte, accessFlags := 24, slot := 5, constantValue := 0 }, { name := "UTF16", type := .byte, accessFlags := 24, slot := 6, constantValue := 0 }]
  methods := #[k10m0, k10m1, k10m2]
  instanceTypes := #[(.array .byte), .byte, .int, .boolean]
  staticTypes := #[.long, .boolean, (.array (.object "java/io/ObjectStreamField")), .char, (.object "java/util/Comparator"), .byte, .byte]
  resolved := Array.replicate 1451 none
  statics := some 1 }

def pool11 : Array CpInfo := pool [(2, .class_ 4), (1, u "java/lang/Object"), (0, u "<init>"), (0, u "()V"), (35, .class_ 44), (1, u "java/util/Objects"), (0, u "requireNonNull"), (0, u "(Ljava/lang/Object;)Ljava/lang/Object;"), (47, u "(Ljava/lang/Object;Ljava/lang/String;)Ljava/lang/Object;")] 89

def k11m0 : Method := { name := "<init>", desc := "()V", sig := { parameters := [], returnType := none }, accessFlags := 2, code := none }
def k11c1 : Code := { maxStack := 2, maxLocals := 1, code := jdk_31_method_10_code, exceptionTable := #[], attributes := #[] }
def k11m1 : Method := { name := "requireNonNull", desc := "(Ljava/lang/Object;)Ljava/lang/Object;", sig := { parameters := [(.object "java/lang/Object")], returnType := some (.object "java/lang/Object") }, accessFlags := 9, code := some k11c1 }
def k11c2 : Code := { maxStack := 3, maxLocals := 2, code := jdk_31_method_11_code, exceptionTable := #[], attributes := #[] }
def k11m2 : Method := { name := "requireNonNull", desc := "(Ljava/lang/Object;Ljava/lang/String;)Ljava/lang/Object;", sig := { parameters := [(.object "java/lang/Object"), (.object "java/lang/String")], returnType := some (.object "java/lang/Object") }, accessFlags := 9, code := some k11c2 }
/-- java/util/Objects -/
def k11 : Class := { plain "java/util/Objects" (some 0) with
  accessFlags := 49
  interfaces := #[]
  cf := some (fileOf pool11 42 #[] #[{ accessFlags := 2, nameIndex := 5, descriptorIndex := 6, attributes := #[] }, { accessFlags := 9, nameIndex := 45, descriptorIndex := 46, attributes := #[] }, { accessFlags := 9, nameIndex := 45, descriptorIndex := 94, attributes := #[] }] 49 2 #[] #[])
  fields := #[]
  methods := #[k11m0, k11m1, k11m2]
  instanceTypes := #[]
  staticTypes := #[]
  resolved := Array.replicate 184 none
  statics := none }

def pool12 : Array CpInfo := pool [(4, .class_ 6), (1, u "java/time/temporal/TemporalAccessor"), (95, .class_ 103), (0, u "java/lang/Object")] 21

/-- java/time/temporal/TemporalAccessor -/
def k12 : Class := { plain "java/time/temporal/TemporalAccessor" (some 0) with
  accessFlags := 1537
  interfaces := #[]
  cf := some (fileOf pool12 4 #[] #[] 1537 102 #[] #[])
  fields := #[]
  methods := #[]
  instanceTypes := #[]
  staticTypes := #[]
  resolved := Array.replicate 125 none
  statics := none }

def pool13 : Array CpInfo := pool [(22, .class_ 24), (1, u "java/time/temporal/Temporal"), (2, .class_ 28), (0, u "java/lang/Object"), (0, .class_ 30), (0, u "java/time/temporal/TemporalAccessor")] 25

/-- java/time/temporal/Temporal -/
def k13 : Class := { plain "java/time/temporal/Temporal" (some 0) with
  accessFlags := 1537
  interfaces := #[12]
  cf := some (fileOf pool13 22 #[] #[] 1537 27 #[29] #[])
  fields := #[]
  methods := #[]
  instanceTypes := #[]
  staticTypes := #[]
  resolved := Array.replicate 56 none
  statics := none }

def pool14 : Array CpInfo := pool [(1, .class_ 2), (0, u "java/time/temporal/TemporalAdjuster"), (0, .class_ 4), (0, u "java/lang/Object")] 6

/-- java/time/temporal/TemporalAdjuster -/
def k14 : Class := { plain "java/time/temporal/TemporalAdjuster" (some 0) with
  accessFlags := 1537
  interfaces := #[]
  cf := some (fileOf pool14 1 #[] #[] 1537 3 #[] #[])
  fields := #[]
  methods := #[]
  instanceTypes := #[]
  staticTypes := #[]
  resolved := Array.replicate 11 none
  statics := none }

def pool15 : Array CpInfo := pool [(20, .methodref 21 22), (0, .class_ 23), (0, .nameAndType 24 25), (0, u "java/time/Instant"), (0, u "create"), (0, u "(JI)Ljava/time/Instant;"), (44, u "ofEpochSecond"), (6, .nameAndType 78 79), (0, u "<init>"), (0, u "()V"), (43, u "EPOCH"), (0, u "Ljava/time/Instant;"), (0, .long 18415187059542332416), (1, .long 31556889864403199), (6, .methodref 21 135), (0, .nameAndType 78 136), (0, u "(JI)V"), (0, .methodref 138 77), (0, .class_ 139), (0, u "java/lang/Object"), (0, .fieldref 21 141), (0, .nameAndType 142 143), (0, u "seconds"), (0, u "J"), (0, .fieldref 21 145), (0, .nameAndType 146 147), (0, u "nanos"), (0, u "I"), (28, .class_ 178), (1, u "java/time/temporal/Temporal"), (3, .class_ 184), (1, u "java/time/Instant$1"), (23, .class_ 210), (1, u "java/time/temporal/TemporalAdjuster"), (36, u "(J)Ljava/time/Instant;"), (175, u "MIN"), (4, u "MAX"), (0, .class_ 430), (0, u "java/lang/Comparable"), (0, .class_ 432), (0, u "java/io/Serializable"), (0, u "MIN_SECOND"), (1, u "MAX_SECOND"), (0, u "serialVersionUID")] 142

def k15c0 : Code := { maxStack := 3, maxLocals := 2, code := jdk_2320_method_3_code, exceptionTable := #[], attributes := #[] }
def k15m0 : Method := { name := "ofEpochSecond", desc := "(J)Ljava/time/Instant;", sig := { parameters := [.long], returnType := some (.object "java/time/Instant") }, accessFlags := 9, code := some k15c0 }
def k15c1 : Code := { maxStack := 5, maxLocals := 3, code := jdk_2320_method_8_code, exceptionTable := #[], attributes := #[] }
def k15m1 : Method := { name := "create", desc := "(JI)Ljava/time/Instant;", sig := { parameters := [.long, .int], returnType := some (.object "java/time/Instant") }, accessFlags := 10, code := some k15c1 }
def k15c2 : Code := { maxStack := 3, maxLocals := 4, code := jdk_2320_method_9_code, exceptionTable := #[], attributes := #[] }
def k15m2 : Method := { name := "<init>", desc := "(JI)V", sig := { parameters := [.long, .int], returnType := none }, accessFlags := 2, code := some k15c2 }
/-- java/time/Instant -/
def k15 : Class := { plain "java/time/Instant" (some 0) with
  accessFlags := 49
  interfaces := #[13, 14, 6, 5]
  cf := some (fileOf pool15 21 #[.nestMembers #[182]] #[{ accessFlags := 9, nameIndex := 70, descriptorIndex := 247, attributes := #[] }, { accessFlags := 10, nameIndex := 24, descriptorIndex := 25, attributes := #[] }, { accessFlags := 2, nameIndex := 78, descriptorIndex := 136, attributes := #[] }] 49 138 #[176, 208, 429, 431] #[{ accessFlags := 25, nameIndex := 123, descriptorIndex := 124, attributes := #[] }, { accessFlags := 26, nameIndex := 433, descriptorIndex := 143, attributes := #[] }, { accessFlags := 26, nameIndex := 435, descriptorIndex := 143, attributes := #[] }, { accessFlags := 25, nameIndex := 423, descriptorIndex := 124, attributes := #[] }, { accessFlags := 25, nameIndex := 428, descriptorIndex := 124, attributes := #[] }, { accessFlags := 26, nameIndex := 436, descriptorIndex := 143, attributes := #[] }, { accessFlags := 18, nameIndex := 142, descriptorIndex := 143, attributes := #[] }, { accessFlags := 18, nameIndex := 146, descriptorIndex := 147, attributes := #[] }])
  fields := #[{ name := "EPOCH", type := (.object "java/time/Instant"), accessFlags := 25, slot := 0, constantValue := 0 }, { name := "MIN_SECOND", type := .long, accessFlags := 26, slot := 1, constantValue := 0 }, { name := "MAX_SECOND", type := .long, accessFlags := 26, slot := 2, constantValue := 0 }, { name := "MIN", type := (.object "java/time/Instant"), accessFlags := 25, slot := 3, constantValue := 0 }, { name := "MAX", type := (.object "java/time/Instant"), accessFlags := 25, slot := 4, constantValue := 0 }, { name := "serialVersionUID", type := .long, accessFlags := 26, slot := 5, constantValue := 0 }, { name := "seconds", type := .long, accessFlags := 18, slot := 0, constantValue := 0 }, { name := "nanos", type := .int, accessFlags := 18, slot := 1, constantValue := 0 }]
  methods := #[k15m0, k15m1, k15m2]
  instanceTypes := #[.long, .int]
  staticTypes := #[(.object "java/time/Instant"), .long, .long, (.object "java/time/Instant"), (.object "java/time/Instant"), .long]
  resolved := Array.replicate 579 none
  statics := some 2 }

def pool16 : Array CpInfo := pool [(6, .class_ 8), (1, u "java/lang/Object"), (0, u "<init>"), (0, u "()V"), (1, .class_ 14), (1, u "java/lang/StringUTF16"), (31, u "$assertionsDisabled"), (0, u "Z"), (13, u "HI_BYTE_SHIFT"), (0, u "I"), (2, u "LO_BYTE_SHIFT"), (49, .methodref 12 116), (0, .nameAndType 117 118), (0, u "compress"), (0, u "([CI[BII)I"), (3, u "([CII)[B"), (138, u "coderFromArrayLen"), (0, u "([BI)B"), (106, .class_ 371), (1, u "java/lang/StringUTF16$LinesSpliterator"), (58, u "MAX_LENGTH"), (196, .class_ 628), (0, u "java/lang/StringUTF16$CodePointsSpliterator"), (0, .class_ 630), (0, u "java/lang/StringUTF16$CharsSpliterator")] 4

def k16m0 : Method := { name := "<init>", desc := "()V", sig := { parameters := [], returnType := none }, accessFlags := 0, code := none }
def k16c1 : Code := { maxStack := 2, maxLocals := 2, code := jdk_52_method_15_code, exceptionTable := #[], attributes := #[] }
def k16m1 : Method := { name := "coderFromArrayLen", desc := "([BI)B", sig := { parameters := [(.array .byte), .int], returnType := some .byte }, accessFlags := 8, code := some k16c1 }
def k16c2 : Code := { maxStack := 5, maxLocals := 6, code := jdk_52_method_16_code, exceptionTable := #[], attributes := #[] }
def k16m2 : Method := { name := "compress", desc := "([CII)[B", sig := { parameters := [(.array .char), .int, .int], returnType := some (.array .byte) }, accessFlags := 9, code := some k16c2 }
def k16c3 : Code := { maxStack := 3, maxLocals := 7, code := jdk_52_method_21_code, exceptionTable := #[], attributes := #[] }
def k16m3 : Method := { name := "compress", desc := "([CI[BII)I", sig := { parameters := [(.array .char), .int, (.array .byte), .int, .int], returnType := some .int }, accessFlags := 9, code := some k16c3 }
/-- java/lang/StringUTF16 -/
def k16 : Class := { plain "java/lang/StringUTF16" (some 0) with
  accessFlags := 48
  interfaces := #[]
  cf := some (fileOf pool16 12 #[.nestMembers #[627, 629, 369]] #[{ accessFlags := 0, nameIndex := 9, descriptorIndex := 10, attributes := #[] }, { accessFlags := 8, nameIndex := 261, descriptorIndex := 262, attributes := #[] }, { accessFlags := 9, nameIndex := 117, descriptorIndex := 122, attributes := #[] }, { accessFlags := 9, nameIndex := 117, descriptorIndex := 118, attributes := #[] }] 48 6 #[] #[{ accessFlags := 26, nameIndex := 61, descriptorIndex := 62, attributes := #[] }, { accessFlags := 26, nameIndex := 65, descriptorIndex := 62, attributes := #[] }, { accessFlags := 24, nameIndex := 430, descriptorIndex := 62, attributes := #[] }, { accessFlags := 4120, nameIndex := 46, descriptorIndex := 47, attributes := #[] }])
  fields := #[{ name := "HI_BYTE_SHIFT", type := .int, accessFlags := 26, slot := 0, constantValue := 0 }, { name := "LO_BYTE_SHIFT", type := .int, accessFlags := 26, slot := 1, constantValue := 0 }, { name := "MAX_LENGTH", type := .int, accessFlags := 24, slot := 2, constantValue := 0 }, { name := "$assertionsDisabled", type := .boolean, accessFlags := 4120, slot := 3, constantValue := 0 }]
  methods := #[k16m0, k16m1, k16m2, k16m3]
  instanceTypes := #[]
  staticTypes := #[.int, .int, .int, .boolean]
  resolved := Array.replicate 635 none
  statics := none }

def pool17 : Array CpInfo := pool [(4, .class_ 6), (1, u "java/lang/Object"), (0, u "<init>"), (0, u "()V"), (5, .class_ 16), (1, u "java/lang/StringLatin1"), (104, u "$assertionsDisabled"), (0, u "Z"), (98, .class_ 223), (1, u "java/lang/StringLatin1$LinesSpliterator"), (166, .class_ 391), (0, u "java/lang/StringLatin1$CharsSpliterator")] 3

def k17m0 : Method := { name := "<init>", desc := "()V", sig := { parameters := [], returnType := none }, accessFlags := 0, code := none }
/-- java/lang/StringLatin1 -/
def k17 : Class := { plain "java/lang/StringLatin1" (some 0) with
  accessFlags := 48
  interfaces := #[]
  cf := some (fileOf pool17 14 #[.nestMembers #[390, 221]] #[{ accessFlags := 0, nameIndex := 7, descriptorIndex := 8, attributes := #[] }] 48 4 #[] #[{ accessFlags := 4120, nameIndex := 121, descriptorIndex := 122, attributes := #[] }])
  fields := #[{ name := "$assertionsDisabled", type := .boolean, accessFlags := 4120, slot := 0, constantValue := 0 }]
  methods := #[k17m0]
  instanceTypes := #[]
  staticTypes := #[.boolean]
  resolved := Array.replicate 395 none
  statics := none }

def pool18 : Array CpInfo := pool [(2, .class_ 4), (1, u "java/lang/Object"), (0, u "<init>"), (0, u "()V"), (17, .class_ 26), (1, u "jdk/internal/util/Preconditions"), (28, .class_ 56), (0, u "jdk/internal/util/Preconditions$4"), (57, .class_ 115), (0, u "jdk/internal/util/Preconditions$1"), (7, u "SIOOBE_FORMATTER"), (0, u "Ljava/util/function/BiFunction;"), (0, .class_ 126), (0, u "jdk/internal/util/Preconditions$2"), (3, u "AIOOBE_FORMATTER"), (0, .class_ 132), (0, u "jdk/internal/util/Preconditions$3"), (3, u "IOOBE_FORMATTER")] 57

def k18m0 : Method := { name := "<init>", desc := "()V", sig := { parameters := [], returnType := none }, accessFlags := 1, code := none }
/-- jdk/internal/util/Preconditions -/
def k18 : Class := { plain "jdk/internal/util/Preconditions" (some 0) with
  accessFlags := 33
  interfaces := #[]
  cf := some (fileOf pool18 24 #[.nestMembers #[55, 131, 125, 114]] #[{ accessFlags := 1, nameIndex := 5, descriptorIndex := 6, attributes := #[] }] 33 2 #[] #[{ accessFlags := 25, nameIndex := 123, descriptorIndex := 124, attributes := #[] }, { accessFlags := 25, nameIndex := 130, descriptorIndex := 124, attributes := #[] }, { accessFlags := 25, nameIndex := 136, descriptorIndex := 124, attributes := #[] }])
  fields := #[{ name := "SIOOBE_FORMATTER", type := (.object "java/util/function/BiFunction"), accessFlags := 25, slot := 0, constantValue := 0 }, { name := "AIOOBE_FORMATTER", type := (.object "java/util/function/BiFunction"), accessFlags := 25, slot := 1, constantValue := 0 }, { name := "IOOBE_FORMATTER", type := (.object "java/util/function/BiFunction"), accessFlags := 25, slot := 2, constantValue := 0 }]
  methods := #[k18m0]
  instanceTypes := #[]
  staticTypes := #[(.object "java/util/function/BiFunction"), (.object "java/util/function/BiFunction"), (.object "java/util/function/BiFunction")]
  resolved := Array.replicate 194 none
  statics := some 3 }

def pool19 : Array CpInfo := pool [(9, u "<init>"), (6, .class_ 18), (1, u "java/lang/Object"), (0, u "()V"), (1, .class_ 23), (1, u "jdk/internal/util/ArraysSupport"), (0, u "LOG2_ARRAY_LONG_INDEX_SCALE"), (0, u "I"), (2, u "U"), (0, u "Ljdk/internal/misc/Unsafe;"), (8, u "BIG_ENDIAN"), (0, u "Z"), (8, u "LOG2_BYTE_BIT_SIZE"), (4, u "LOG2_ARRAY_INT_INDEX_SCALE"), (54, u "JLA"), (0, u "Ljdk/internal/access/JavaLangAccess;"), (11, u "LOG2_ARRAY_BOOLEAN_INDEX_SCALE"), (9, u "LOG2_ARRAY_BYTE_INDEX_SCALE"), (5, u "LOG2_ARRAY_CHAR_INDEX_SCALE"), (5, u "LOG2_ARRAY_SHORT_INDEX_SCALE"), (18, u "LOG2_ARRAY_FLOAT_INDEX_SCALE"), (24, u "LOG2_ARRAY_DOUBLE_INDEX_SCALE"), (89, u "T_BOOLEAN"), (2, u "T_CHAR"), (1, u "T_FLOAT"), (1, u "T_DOUBLE"), (1, u "T_BYTE"), (1, u "T_SHORT"), (1, u "T_INT"), (1, u "T_LONG"), (1, u "SOFT_MAX_ARRAY_LENGTH")] 83

def k19m0 : Method := { name := "<init>", desc := "()V", sig := { parameters := [], returnType := none }, accessFlags := 2, code := none }
/-- jdk/internal/util/ArraysSupport -/
def k19 : Class := { plain "jdk/internal/util/ArraysSupport" (some 0) with
  accessFlags := 33
  interfaces := #[]
  cf := some (fileOf pool19 21 #[] #[{ accessFlags := 2, nameIndex := 9, descriptorIndex := 19, attributes := #[] }] 33 16 #[] #[{ accessFlags := 24, nameIndex := 28, descriptorIndex := 29, attributes := #[] }, { accessFlags := 26, nameIndex := 38, descriptorIndex := 39, attributes := #[] }, { accessFlags := 25, nameIndex := 121, descriptorIndex := 25, attributes := #[] }, { accessFlags := 25, nameIndex := 131, descriptorIndex := 25, attributes := #[] }, { accessFlags := 25, nameIndex := 137, descriptorIndex := 25, attributes := #[] }, { accessFlags := 25, nameIndex := 143, descriptorIndex := 25, attributes := #[] }, { accessFlags := 25, nameIndex := 53, descriptorIndex := 25, attributes := #[] }, { accessFlags := 25, nameIndex := 24, descriptorIndex := 25, attributes := #[] }, { accessFlags := 25, nameIndex := 162, descriptorIndex := 25, attributes := #[] }, { accessFlags := 25, nameIndex := 187, descriptorIndex := 25, attributes := #[] }, { accessFlags := 26, nameIndex := 48, descriptorIndex := 25, attributes := #[] }, { accessFlags := 25, nameIndex := 277, descriptorIndex := 25, attributes := #[] }, { accessFlags := 25, nameIndex := 280, descriptorIndex := 25, attributes := #[] }, { accessFlags := 25, nameIndex := 282, descriptorIndex := 25, attributes := #[] }, { accessFlags := 25, nameIndex := 284, descriptorIndex := 25, attributes := #[] }, { accessFlags := 25, nameIndex := 286, descriptorIndex := 25, attributes := #[] }, { accessFlags := 25, nameIndex := 288, descriptorIndex := 25, attributes := #[] }, { accessFlags := 25, nameIndex := 290, descriptorIndex := 25, attributes := #[] }, { accessFlags := 25, nameIndex := 292, descriptorIndex := 25, attributes := #[] }, { accessFlags := 26, nameIndex := 108, descriptorIndex := 109, attributes := #[] }, { accessFlags := 25, nameIndex := 294, descriptorIndex := 25, attributes := #[] }])
  fields := #[{ name := "U", type := (.object "jdk/internal/misc/Unsafe"), accessFlags := 24, slot := 0, constantValue := 0 }, { name := "BIG_ENDIAN", type := .boolean, accessFlags := 26, slot := 1, constantValue := 0 }, { name := "LOG2_ARRAY_BOOLEAN_INDEX_SCALE", type := .int, accessFlags := 25, slot := 2, constantValue := 0 }, { name := "LOG2_ARRAY_BYTE_INDEX_SCALE", type := .int, accessFlags := 25, slot := 3, constantValue := 0 }, { name := "LOG2_ARRAY_CHAR_INDEX_SCALE", type := .int, accessFlags := 25, slot := 4, constantValue := 0 }, { name := "LOG2_ARRAY_SHORT_INDEX_SCALE", type := .int, accessFlags := 25, slot := 5, constantValue := 0 }, { name := "LOG2_ARRAY_INT_INDEX_SCALE", type := .int, accessFlags := 25, slot := 6, constantValue := 0 }, { name := "LOG2_ARRAY_LONG_INDEX_SCALE", type := .int, accessFlags := 25, slot := 7, constantValue := 0 }, { name := "LOG2_ARRAY_FLOAT_INDEX_SCALE", type := .int, accessFlags := 25, slot := 8, constantValue := 0 }, { name := "LOG2_ARRAY_DOUBLE_INDEX_SCALE", type := .int, accessFlags := 25, slot := 9, constantValue := 0 }, { name := "LOG2_BYTE_BIT_SIZE", type := .int, accessFlags := 26, slot := 10, constantValue := 0 }, { name := "T_BOOLEAN", type := .int, accessFlags := 25, slot := 11, constantValue := 0 }, { name := "T_CHAR", type := .int, accessFlags := 25, slot := 12, constantValue := 0 }, { name := "T_FLOAT", type := .int, accessFlags := 25, slot := 13, constantValue := 0 }, { name := "T_DOUBLE", type := .int, accessFlags := 25, slot := 14, constantValue := 0 }, { name := "T_BYTE", type := .int, accessFlags := 25, slot := 15, constantValue := 0 }, { name := "T_SHORT", type := .int, accessFlags := 25, slot := 16, constantValue := 0 }, { name := "T_INT", type := .int, accessFlags := 25, slot := 17, constantValue := 0 }, { name := "T_LONG", type := .int, accessFlags := 25, slot := 18, constantValue := 0 }, { name := "JLA", type := (.object "jdk/internal/access/JavaLangAccess"), accessFlags := 26, slot := 19, constantValue := 0 }, { name := "SOFT_MAX_ARRAY_LENGTH", type := .int, accessFlags := 25, slot := 20, constantValue := 0 }]
  methods := #[k19m0]
  instanceTypes := #[]
  staticTypes := #[(.object "jdk/internal/misc/Unsafe"), .boolean, .int, .int, .int, .int, .int, .int, .int, .int, .int, .int, .int, .int, .int, .int, .int, .int, .int, (.object "jdk/internal/access/JavaLangAccess"), .int]
  resolved := Array.replicate 378 none
  statics := none }

def pool20 : Array CpInfo := pool [(1, u "java/lang/Cloneable"), (0, .class_ 1), (0, u "java/lang/Object"), (0, .class_ 3)] 3

/-- java/lang/Cloneable -/
def k20 : Class := { plain "java/lang/Cloneable" (some 0) with
  accessFlags := 1537
  interfaces := #[]
  cf := some (fileOf pool20 2 #[] #[] 1537 4 #[] #[])
  fields := #[]
  methods := #[]
  instanceTypes := #[]
  staticTypes := #[]
  resolved := Array.replicate 8 none
  statics := none }

/-- the primitive byte -/
def k21 : Class := { plain "byte" none with kind := .primitive 'B', accessFlags := 0x411 }
/-- [B -/
def k22 : Class := { plain "[B" (some 0) with kind := .array 21 .byte, interfaces := #[20, 5], accessFlags := 1041 }

/-- the primitive char -/
def k23 : Class := { plain "char" none with kind := .primitive 'C', accessFlags := 0x411 }
/-- [C -/
def k24 : Class := { plain "[C" (some 0) with kind := .array 23 .char, interfaces := #[20, 5], accessFlags := 1041 }

/-- the primitive int -/
def k25 : Class := { plain "int" none with kind := .primitive 'I', accessFlags := 0x411 }
/-- [I -/
def k26 : Class := { plain "[I" (some 0) with kind := .array 25 .int, interfaces := #[20, 5], accessFlags := 1041 }

def heap : Heap := #[{ cls := 2, slots := #[.ref 4], vm := .statics 2 },
  { cls := 10, slots := #[.long 0, .int 1, .null, .int 0, .null, .int 0, .int 0], vm := .statics 10 },
  { cls := 15, slots := #[.ref 7, .long 0, .long 0, .ref 6, .ref 5, .long 0], vm := .statics 15 },
  { cls := 18, slots := #[.null, .null, .null], vm := .statics 18 },
  { cls := 2, slots := #[.null], vm := .none },
  { cls := 15, slots := #[.long 31556889864403199, .int 999999999], vm := .none },
  { cls := 15, slots := #[.long (-31557014167219200), .int 0], vm := .none },
  { cls := 15, slots := #[.long 0, .int 0], vm := .none }]
def classes : Array Class := #[k0, k1, k2, k3, k4, k5, k6, k7, k8, k9, k10, k11, k12, k13, k14, k15, k16, k17, k18, k19, k20, k21, k22, k23, k24, k25, k26]
def interned : List (Array UInt16 × Addr) := []
def slotsUsed : Nat := 24
def theMethod : MethodId := ⟨1, 2⟩
def args0 : Array Value := #[.int 7, .int 66, .int 7, .int 9]
def aboutOver (below : List Frame) : State where
  vm := { classes := classes, interned := interned.toArray }
  heap := heap
  slotsUsed := slotsUsed
  threads := #[{ frames := .invoking theMethod args0 :: below }]
def below0 : List Frame := [.native { method := ⟨0, 0⟩, args := #[] }]
def about1 : State := aboutOver below0
def p0 : Program := .bare "" "" ""
def e0 : Env := launch0.env 0 0 0
theorem w_frames : about1.frames = Frame.invoking theMethod args0 :: below0 := rfl
set_option maxRecDepth 65536 in
theorem w_args : argsFit about1.vm theMethod args0 = true := by decide +kernel
set_option maxRecDepth 65536 in
theorem w_heap : heapFits about1 = true := by decide +kernel
set_option maxRecDepth 65536 in
theorem w_runnable : about1.curStatus? = some .runnable := by decide +kernel
set_option maxRecDepth 65536 in
theorem w_alone : about1.alone = true := by decide +kernel
set_option maxRecDepth 65536 in
theorem w_named : about1.methodNamed? x = some theMethod := by decide +kernel
set_option maxRecDepth 65536 in
theorem w_hears : about1.hears theMethod below0 = true := by decide +kernel
set_option maxRecDepth 65536 in
theorem w_ripe : about1.ripe theMethod args0 below0 = true := by decide +kernel
theorem w_running : about1.status = .running := rfl
set_option maxRecDepth 65536 in
theorem w_room : about1.hasRoom e0.platform room_1 = true :=
  launch0.hasRoom_least _ room_1 (by decide +kernel) (by decide +kernel) (by decide +kernel) (by decide +kernel) (by decide +kernel) (by decide +kernel)
theorem allAtoms_all (ts : List Jvm.Cond) (a : Array Jvm.Value) (st : Jvm.State) : (allAtoms ts).before a st = ts.all (fun c => c.before a st) := by
  induction ts with
  | nil => rfl
  | cons c t ih =>
    show (Jvm.Cond.and c (allAtoms t)).before a st = _
    rw [Jvm.Cond.before_and, ih, List.all_cons]
def words1 : List Jvm.Cond := Jvm.Cond.code x code maxLocals ret :: tables_1
/-- a 'code' word, met by the world's own term for the bytes: nothing is compared byte by byte -/
theorem code_word {y : MethodName} {bytes : ByteArray} {mx : Nat} {rt : Option FieldType} {a : Array Value} {s : State} {m : MethodId} {meth : Method} {c : Code} (h1 : s.methodNamed? y = some m) (h2 : s.vm.method? m = some meth) (h3 : meth.code = some c) (h4 : c.code = bytes)
    (h5 : (c.maxLocals == mx && c.exceptionTable.isEmpty && decide (c.maxStack ≤ mostOperands) && decide (meth.sig.returnType = rt) && !meth.locks && decide (parseMethodDescriptor y.desc = some meth.sig)) = true) : (Jvm.Cond.code y bytes mx rt).before a s = true := by
  simp only [Bool.and_eq_true, beq_iff_eq, Bool.not_eq_true', decide_eq_true_eq] at h5
  obtain ⟨⟨⟨⟨⟨g1, g2⟩, g3⟩, g4⟩, g5⟩, g6⟩ := h5
  simp [Cond.before, Cond.holds, Cond.value, h1, h2, h3, h4, g1, g2, g3, g4, g5, g6]
def isCode : Jvm.Cond → Bool
  | .code _ _ _ _ => true
  | _ => false
theorem all_split {L : List Jvm.Cond} {P : Jvm.Cond → Bool} (h1 : L.all (fun c => isCode c || P c) = true) (h2 : ∀ c ∈ L.filter isCode, P c = true) : L.all P = true := by
  refine List.all_eq_true.mpr fun c hc => ?_
  have h := List.all_eq_true.mp h1 c hc
  rcases Bool.eq_false_or_eq_true (isCode c) with hi | hi
  · exact h2 c (List.mem_filter.mpr ⟨hc, hi⟩)
  · simpa [hi] using h
set_option maxRecDepth 65536 in
theorem w_c0 : (Jvm.Cond.code x code maxLocals ret).before args0 about1 = true := code_word (m := ⟨1, 2⟩) (meth := k1m2) (c := k1c2) (by decide +kernel) rfl rfl rfl (by decide +kernel)
set_option maxRecDepth 65536 in
theorem w_c1 : (Jvm.Cond.code ({ cls := "java/util/Optional", name := "empty", desc := "()Ljava/util/Optional;" } : Jvm.MethodName) jdk_32_method_1_code (1 : Nat) (Option.some (Jvm.ClassFile.FieldType.object "java/util/Optional"))).before args0 about1 = true := code_word (m := ⟨2, 0⟩) (meth := k2m0) (c := k2c0) (by decide +kernel) rfl rfl rfl (by decide +kernel)
set_option maxRecDepth 65536 in
theorem w_c2 : (Jvm.Cond.code ({ cls := "com/example/chartwarden/chartwarden/trail/Selection", name := "<init>", desc := "(Ljava/util/Optional;Ljava/util/Optional;Ljava/util/Optional;)V" } : Jvm.MethodName) prog_38_method_1_code (4 : Nat) (Option.none : Option Jvm.ClassFile.FieldType)).before args0 about1 = true := code_word (m := ⟨4, 0⟩) (meth := k4m0) (c := k4c0) (by decide +kernel) rfl rfl rfl (by decide +kernel)
set_option maxRecDepth 65536 in
theorem w_c3 : (Jvm.Cond.code ({ cls := "java/lang/Record", name := "<init>", desc := "()V" } : Jvm.MethodName) jdk_30_method_1_code (1 : Nat) (Option.none : Option Jvm.ClassFile.FieldType)).before args0 about1 = true := code_word (m := ⟨3, 0⟩) (meth := k3m0) (c := k3c0) (by decide +kernel) rfl rfl rfl (by decide +kernel)
set_option maxRecDepth 65536 in
theorem w_c4 : (Jvm.Cond.code ({ cls := "java/lang/Object", name := "<init>", desc := "()V" } : Jvm.MethodName) object_method_1_code (1 : Nat) (Option.none : Option Jvm.ClassFile.FieldType)).before args0 about1 = true := code_word (m := ⟨0, 0⟩) (meth := k0m0) (c := k0c0) (by decide +kernel) rfl rfl rfl (by decide +kernel)
set_option maxRecDepth 65536 in
theorem w_c5 : (Jvm.Cond.code ({ cls := "java/util/Objects", name := "requireNonNull", desc := "(Ljava/lang/Object;Ljava/lang/String;)Ljava/lang/Object;" } : Jvm.MethodName) jdk_31_method_11_code (2 : Nat) (Option.some (Jvm.ClassFile.FieldType.object "java/lang/Object"))).before args0 about1 = true := code_word (m := ⟨11, 2⟩) (meth := k11m2) (c := k11c2) (by decide +kernel) rfl rfl rfl (by decide +kernel)
set_option maxRecDepth 65536 in
theorem w_c6 : (Jvm.Cond.code ({ cls := "com/example/chartwarden/chartwarden/trail/Selection", name := "timed", desc := "()Z" } : Jvm.MethodName) prog_38_method_2_code (1 : Nat) (Option.some Jvm.ClassFile.FieldType.boolean)).before args0 about1 = true := code_word (m := ⟨4, 1⟩) (meth := k4m1) (c := k4c1) (by decide +kernel) rfl rfl rfl (by decide +kernel)
set_option maxRecDepth 65536 in
theorem w_c7 : (Jvm.Cond.code ({ cls := "java/util/Optional", name := "isPresent", desc := "()Z" } : Jvm.MethodName) jdk_32_method_6_code (1 : Nat) (Option.some Jvm.ClassFile.FieldType.boolean)).before args0 about1 = true := code_word (m := ⟨2, 3⟩) (meth := k2m3) (c := k2c3) (by decide +kernel) rfl rfl rfl (by decide +kernel)
set_option maxRecDepth 65536 in
theorem w_c8 : (Jvm.Cond.code ({ cls := "com/example/chartwarden/chartwarden/trail/SelectionTimedPinLaw", name := "pick", desc := "(I)Ljava/time/Instant;" } : Jvm.MethodName) method_2_code (2 : Nat) (Option.some (Jvm.ClassFile.FieldType.object "java/time/Instant"))).before args0 about1 = true := code_word (m := ⟨1, 1⟩) (meth := k1m1) (c := k1c1) (by decide +kernel) rfl rfl rfl (by decide +kernel)
set_option maxRecDepth 65536 in
theorem w_c9 : (Jvm.Cond.code ({ cls := "java/util/Optional", name := "of", desc := "(Ljava/lang/Object;)Ljava/util/Optional;" } : Jvm.MethodName) jdk_32_method_3_code (1 : Nat) (Option.some (Jvm.ClassFile.FieldType.object "java/util/Optional"))).before args0 about1 = true := code_word (m := ⟨2, 2⟩) (meth := k2m2) (c := k2c2) (by decide +kernel) rfl rfl rfl (by decide +kernel)
set_option maxRecDepth 65536 in
theorem w_c10 : (Jvm.Cond.code ({ cls := "java/util/Objects", name := "requireNonNull", desc := "(Ljava/lang/Object;)Ljava/lang/Object;" } : Jvm.MethodName) jdk_31_method_10_code (1 : Nat) (Option.some (Jvm.ClassFile.FieldType.object "java/lang/Object"))).before args0 about1 = true := code_word (m := ⟨11, 1⟩) (meth := k11m1) (c := k11c1) (by decide +kernel) rfl rfl rfl (by decide +kernel)
set_option maxRecDepth 65536 in
theorem w_c11 : (Jvm.Cond.code ({ cls := "java/util/Optional", name := "<init>", desc := "(Ljava/lang/Object;)V" } : Jvm.MethodName) jdk_32_method_2_code (2 : Nat) (Option.none : Option Jvm.ClassFile.FieldType)).before args0 about1 = true := code_word (m := ⟨2, 1⟩) (meth := k2m1) (c := k2c1) (by decide +kernel) rfl rfl rfl (by decide +kernel)
set_option maxRecDepth 65536 in
theorem w_c12 : (Jvm.Cond.code ({ cls := "java/lang/String", name := "<init>", desc := "([C)V" } : Jvm.MethodName) jdk_42_method_3_code (2 : Nat) (Option.none : Option Jvm.ClassFile.FieldType)).before args0 about1 = true := code_word (m := ⟨10, 1⟩) (meth := k10m1) (c := k10c1) (by decide +kernel) rfl rfl rfl (by decide +kernel)
set_option maxRecDepth 65536 in
theorem w_c13 : (Jvm.Cond.code ({ cls := "java/lang/String", name := "<init>", desc := "([CIILjava/lang/Void;)V" } : Jvm.MethodName) jdk_42_method_149_code (6 : Nat) (Option.none : Option Jvm.ClassFile.FieldType)).before args0 about1 = true := code_word (m := ⟨10, 2⟩) (meth := k10m2) (c := k10c2) (by decide +kernel) rfl rfl rfl (by decide +kernel)
set_option maxRecDepth 65536 in
theorem w_c14 : (Jvm.Cond.code ({ cls := "java/lang/StringUTF16", name := "compress", desc := "([CII)[B" } : Jvm.MethodName) jdk_52_method_16_code (6 : Nat) (Option.some (Jvm.ClassFile.FieldType.array Jvm.ClassFile.FieldType.byte))).before args0 about1 = true := code_word (m := ⟨16, 2⟩) (meth := k16m2) (c := k16c2) (by decide +kernel) rfl rfl rfl (by decide +kernel)
set_option maxRecDepth 65536 in
theorem w_c15 : (Jvm.Cond.code ({ cls := "java/lang/StringUTF16", name := "compress", desc := "([CI[BII)I" } : Jvm.MethodName) jdk_52_method_21_code (7 : Nat) (Option.some Jvm.ClassFile.FieldType.int)).before args0 about1 = true := code_word (m := ⟨16, 3⟩) (meth := k16m3) (c := k16c3) (by decide +kernel) rfl rfl rfl (by decide +kernel)
set_option maxRecDepth 65536 in
theorem w_c16 : (Jvm.Cond.code ({ cls := "java/lang/StringUTF16", name := "coderFromArrayLen", desc := "([BI)B" } : Jvm.MethodName) jdk_52_method_15_code (2 : Nat) (Option.some Jvm.ClassFile.FieldType.byte)).before args0 about1 = true := code_word (m := ⟨16, 1⟩) (meth := k16m1) (c := k16c1) (by decide +kernel) rfl rfl rfl (by decide +kernel)
set_option maxRecDepth 65536 in
theorem w_c17 : (Jvm.Cond.code ({ cls := "java/time/Instant", name := "ofEpochSecond", desc := "(J)Ljava/time/Instant;" } : Jvm.MethodName) jdk_2320_method_3_code (2 : Nat) (Option.some (Jvm.ClassFile.FieldType.object "java/time/Instant"))).before args0 about1 = true := code_word (m := ⟨15, 0⟩) (meth := k15m0) (c := k15c0) (by decide +kernel) rfl rfl rfl (by decide +kernel)
set_option maxRecDepth 65536 in
theorem w_c18 : (Jvm.Cond.code ({ cls := "java/time/Instant", name := "create", desc := "(JI)Ljava/time/Instant;" } : Jvm.MethodName) jdk_2320_method_8_code (3 : Nat) (Option.some (Jvm.ClassFile.FieldType.object "java/time/Instant"))).before args0 about1 = true := code_word (m := ⟨15, 1⟩) (meth := k15m1) (c := k15c1) (by decide +kernel) rfl rfl rfl (by decide +kernel)
set_option maxRecDepth 65536 in
theorem w_c19 : (Jvm.Cond.code ({ cls := "java/time/Instant", name := "<init>", desc := "(JI)V" } : Jvm.MethodName) jdk_2320_method_9_code (4 : Nat) (Option.none : Option Jvm.ClassFile.FieldType)).before args0 about1 = true := code_word (m := ⟨15, 2⟩) (meth := k15m2) (c := k15c2) (by decide +kernel) rfl rfl rfl (by decide +kernel)
def codes1 : List Jvm.Cond := [Jvm.Cond.code x code maxLocals ret, Jvm.Cond.code ({ cls := "java/util/Optional", name := "empty", desc := "()Ljava/util/Optional;" } : Jvm.MethodName) jdk_32_method_1_code (1 : Nat) (Option.some (Jvm.ClassFile.FieldType.object "java/util/Optional")), Jvm.Cond.code ({ cls := "com/example/chartwarden/chartwarden/trail/Selection", name := "<init>", desc := "(Ljava/util/Optional;Ljava/util/Optional;Ljava/util/Optional;)V" } : Jvm.MethodName) prog_38_method_1_code (4 : Nat) (Option.none : Option Jvm.ClassFile.FieldType), Jvm.Cond.code ({ cls := "java/lang/Record", name := "<init>", desc := "()V" } : Jvm.MethodName) jdk_30_method_1_code (1 : Nat) (Option.none : Option Jvm.ClassFile.FieldType), Jvm.Cond.code ({ cls := "java/lang/Object", name := "<init>", desc := "()V" } : Jvm.MethodName) object_method_1_code (1 : Nat) (Option.none : Option Jvm.ClassFile.FieldType), Jvm.Cond.code ({ cls := "java/util/Objects", name := "requireNonNull", desc := "(Ljava/lang/Object;Ljava/lang/String;)Ljava/lang/Object;" } : Jvm.MethodName) jdk_31_method_11_code (2 : Nat) (Option.some (Jvm.ClassFile.FieldType.object "java/lang/Object")), Jvm.Cond.code ({ cls := "com/example/chartwarden/chartwarden/trail/Selection", name := "timed", desc := "()Z" } : Jvm.MethodName) prog_38_method_2_code (1 : Nat) (Option.some Jvm.ClassFile.FieldType.boolean), Jvm.Cond.code ({ cls := "java/util/Optional", name := "isPresent", desc := "()Z" } : Jvm.MethodName) jdk_32_method_6_code (1 : Nat) (Option.some Jvm.ClassFile.FieldType.boolean), Jvm.Cond.code ({ cls := "com/example/chartwarden/chartwarden/trail/SelectionTimedPinLaw", name := "pick", desc := "(I)Ljava/time/Instant;" } : Jvm.MethodName) method_2_code (2 : Nat) (Option.some (Jvm.ClassFile.FieldType.object "java/time/Instant")), Jvm.Cond.code ({ cls := "java/util/Optional", name := "of", desc := "(Ljava/lang/Object;)Ljava/util/Optional;" } : Jvm.MethodName) jdk_32_method_3_code (1 : Nat) (Option.some (Jvm.ClassFile.FieldType.object "java/util/Optional")), Jvm.Cond.code ({ cls := "java/util/Objects", name := "requireNonNull", desc := "(Ljava/lang/Object;)Ljava/lang/Object;" } : Jvm.MethodName) jdk_31_method_10_code (1 : Nat) (Option.some (Jvm.ClassFile.FieldType.object "java/lang/Object")), Jvm.Cond.code ({ cls := "java/util/Optional", name := "<init>", desc := "(Ljava/lang/Object;)V" } : Jvm.MethodName) jdk_32_method_2_code (2 : Nat) (Option.none : Option Jvm.ClassFile.FieldType), Jvm.Cond.code ({ cls := "java/lang/String", name := "<init>", desc := "([C)V" } : Jvm.MethodName) jdk_42_method_3_code (2 : Nat) (Option.none : Option Jvm.ClassFile.FieldType), Jvm.Cond.code ({ cls := "java/lang/String", name := "<init>", desc := "([CIILjava/lang/Void;)V" } : Jvm.MethodName) jdk_42_method_149_code (6 : Nat) (Option.none : Option Jvm.ClassFile.FieldType), Jvm.Cond.code ({ cls := "java/lang/StringUTF16", name := "compress", desc := "([CII)[B" } : Jvm.MethodName) jdk_52_method_16_code (6 : Nat) (Option.some (Jvm.ClassFile.FieldType.array Jvm.ClassFile.FieldType.byte)), Jvm.Cond.code ({ cls := "java/lang/StringUTF16", name := "compress", desc := "([CI[BII)I" } : Jvm.MethodName) jdk_52_method_21_code (7 : Nat) (Option.some Jvm.ClassFile.FieldType.int), Jvm.Cond.code ({ cls := "java/lang/StringUTF16", name := "coderFromArrayLen", desc := "([BI)B" } : Jvm.MethodName) jdk_52_method_15_code (2 : Nat) (Option.some Jvm.ClassFile.FieldType.byte), Jvm.Cond.code ({ cls := "java/time/Instant", name := "ofEpochSecond", desc := "(J)Ljava/time/Instant;" } : Jvm.MethodName) jdk_2320_method_3_code (2 : Nat) (Option.some (Jvm.ClassFile.FieldType.object "java/time/Instant")), Jvm.Cond.code ({ cls := "java/time/Instant", name := "create", desc := "(JI)Ljava/time/Instant;" } : Jvm.MethodName) jdk_2320_method_8_code (3 : Nat) (Option.some (Jvm.ClassFile.FieldType.object "java/time/Instant")), Jvm.Cond.code ({ cls := "java/time/Instant", name := "<init>", desc := "(JI)V" } : Jvm.MethodName) jdk_2320_method_9_code (4 : Nat) (Option.none : Option Jvm.ClassFile.FieldType)]
set_option maxRecDepth 65536 in
theorem codes_eq : words1.filter isCode = codes1 := rfl
theorem w_codes : ∀ c ∈ words1.filter isCode, c.before args0 about1 = true := by
  rw [codes_eq]
  intro c hc
  simp only [codes1, List.mem_cons, List.not_mem_nil, or_false] at hc
  rcases hc with rfl | rfl | rfl | rfl | rfl | rfl | rfl | rfl | rfl | rfl | rfl | rfl | rfl | rfl | rfl | rfl | rfl | rfl | rfl | rfl
  · exact w_c0
  · exact w_c1
  · exact w_c2
  · exact w_c3
  · exact w_c4
  · exact w_c5
  · exact w_c6
  · exact w_c7
  · exact w_c8
  · exact w_c9
  · exact w_c10
  · exact w_c11
  · exact w_c12
  · exact w_c13
  · exact w_c14
  · exact w_c15
  · exact w_c16
  · exact w_c17
  · exact w_c18
  · exact w_c19
set_option maxRecDepth 65536 in
theorem w_t1 : (words1.take 24).all (fun c => isCode c || c.before args0 about1) = true := by decide +kernel
set_option maxRecDepth 65536 in
theorem w_t2 : ((words1.drop 24).take 24).all (fun c => isCode c || c.before args0 about1) = true := by decide +kernel
set_option maxRecDepth 65536 in
theorem w_t3 : (((words1.drop 24).drop 24).take 24).all (fun c => isCode c || c.before args0 about1) = true := by decide +kernel
set_option maxRecDepth 65536 in
theorem w_t4 : ((((words1.drop 24).drop 24).drop 24).take 24).all (fun c => isCode c || c.before args0 about1) = true := by decide +kernel
set_option maxRecDepth 65536 in
theorem w_t5 : ((((words1.drop 24).drop 24).drop 24).drop 24).all (fun c => isCode c || c.before args0 about1) = true := by decide +kernel
theorem w_tables : (allAtoms (Jvm.Cond.code x code maxLocals ret :: tables_1)).before args0 about1 = true := by
  rw [allAtoms_all]
  show words1.all (fun c => c.before args0 about1) = true
  refine all_split ?_ w_codes
  rw [← List.take_append_drop 24 words1, List.all_append, w_t1, ← List.take_append_drop 24 (words1.drop 24), List.all_append, w_t2, ← List.take_append_drop 24 ((words1.drop 24).drop 24), List.all_append, w_t3, ← List.take_append_drop 24 (((words1.drop 24).drop 24).drop 24), List.all_append, w_t4, w_t5]
  rfl
set_option maxRecDepth 65536 in
theorem w_rest : rest_1_c.before args0 about1 = true := by decide +kernel
set_option maxRecDepth 65536 in
theorem w_case : (Jvm.Cond.and given_1 narrow_1).before args0 about1 = true := by decide +kernel
theorem w_applies : (headSpec (Jvm.Cond.code x code maxLocals ret :: tables_1) room_1).applies x e0.platform about1 = true :=
  (Spec.applies_iff w_frames).mpr ⟨w_running, w_runnable, w_alone, w_named, w_hears, w_ripe, w_room, w_tables⟩
theorem atStart : AtStart classFile x code maxLocals ret World_1 tables_1 room_1 Calls_1 rest_1 Pre_1 launch0 p0 e0 about1 theMethod args0 below0 :=
  ⟨lists_1, trivial, launch0.admits_env _ _ _, launch0.least_env, fairChoices_fair.cas, fairChoices_fair.clock, w_frames, w_args, w_heap, w_applies, trivial, w_rest, w_case⟩
end start1
theorem witness_1 : WitnessClaimed_1 := ⟨start1.p0, start1.e0, start1.about1, start1.theMethod, start1.args0, start1.below0, start1.atStart⟩
end Jvm.Pilot.@@N@@
