import JvmDerived
import JvmDerived.Pilot.@@N@@Statement
import JvmDerived.Pilot.@@N@@Code
set_option linter.unusedVariables false
set_option linter.unusedSimpArgs false
namespace Jvm.RoadKit
open Sem ClassFile Op Lib Jvm.Stand Jvm.Free Jvm.LawKit
section New
variable {p : Program} {l : Launch} {e : Env} {R : Room} {s : State} {m : MethodId} {args : Array Value} {below : List Frame} {meth : Method} {c : Code} {T : State} {locs : List Loc} {cells slots : Nat}
theorem retI (X : Stand p l e R s m args below meth c T locs cells slots) (hx : p.tables.exec = Jvm.exec) {pc : Nat} {Ls : Array Slot} {z : Int32} {rest : List Value} (hret : meth.sig.returnType = some .int) (hd : decode c.code pc = .ok (.ireturn, 1)) {fs : List Frame}
    (hl : ∀ (f : JFrame) (acts : List Action), f.method = m → f.locked = none → f.entered = [] → (doReturn e (T.setTop f) acts (some (.int z))).1 = T.setFrames fs) : Steps p.tables e below (T.setTop (mkF m pc Ls (.int z :: rest))) (T.setFrames fs) := by
  have hm' : T.vm.method? m = some meth := X.method'
  have hn : narrow .int (.int z) = .int z := rfl
  show Steps p.tables e below (T.setTop { method := m, pc := pc, locals := Ls, stack := _ :: rest, locked := none }) _
  jvm_step X.here [X.here.top, hx, hd, hm', hret, hn]
  first | (intro acts; rw [hl _ acts rfl rfl rfl]) | rw [hl _ _ rfl rfl rfl]
  exact Steps.refl _
theorem retL (X : Stand p l e R s m args below meth c T locs cells slots) (hx : p.tables.exec = Jvm.exec) {pc : Nat} {Ls : Array Slot} {z : Int64} {rest : List Value} (hret : meth.sig.returnType = some .long) (hd : decode c.code pc = .ok (.lreturn, 1)) {fs : List Frame}
    (hl : ∀ (f : JFrame) (acts : List Action), f.method = m → f.locked = none → f.entered = [] → (doReturn e (T.setTop f) acts (some (.long z))).1 = T.setFrames fs) : Steps p.tables e below (T.setTop (mkF m pc Ls (.long z :: rest))) (T.setFrames fs) := by
  have hm' : T.vm.method? m = some meth := X.method'
  have hn : narrow .long (.long z) = .long z := rfl
  show Steps p.tables e below (T.setTop { method := m, pc := pc, locals := Ls, stack := _ :: rest, locked := none }) _
  jvm_step X.here [X.here.top, hx, hd, hm', hret, hn]
  first | (intro acts; rw [hl _ acts rfl rfl rfl]) | rw [hl _ _ rfl rfl rfl]
  exact Steps.refl _
theorem retR (X : Stand p l e R s m args below meth c T locs cells slots) (hx : p.tables.exec = Jvm.exec) {pc : Nat} {Ls : Array Slot} {w : Value} {t : FieldType} {rest : List Value} (hret : meth.sig.returnType = some t) (hn : narrow t w = w) (ht : t.isReference = true) (hw : w.isRef = true) (hd : decode c.code pc = .ok (.areturn, 1)) {fs : List Frame}
    (hl : ∀ (f : JFrame) (acts : List Action), f.method = m → f.locked = none → f.entered = [] → (doReturn e (T.setTop f) acts (some w)).1 = T.setFrames fs) : Steps p.tables e below (T.setTop (mkF m pc Ls (w :: rest))) (T.setFrames fs) := by
  have hm' : T.vm.method? m = some meth := X.method'
  show Steps p.tables e below (T.setTop { method := m, pc := pc, locals := Ls, stack := _ :: rest, locked := none }) _
  jvm_step X.here [X.here.top, hx, hd, hm', hret, hn, hw]
  try (refine ⟨ht, ?_⟩)
  first | (intro acts; rw [hl _ acts rfl rfl rfl]) | rw [hl _ _ rfl rfl rfl]
  exact Steps.refl _
end New
end Jvm.RoadKit
namespace Jvm.Pilot.@@N@@
open Jvm Jvm.ClassFile Sem Op Lib Jvm.Free Jvm.Stand Jvm.LawKit Jvm.RoadKit Bundle Jvm.Pilot.@@N@@.Jvm.D
/-- what a walk of one body knows of its method, and how it ends -/
def Ctx (p : Program) (s : State) (m : MethodId) (meth : Method) (c : Code) (Z : State) (own : String) (bs : ByteArray) (ml : Nat) (ret : Option FieldType) (nm : String) (R : Room) (F : Outcome → State → List Loc → Prop) (B : Nat) : Prop :=
  p.tables.exec = Jvm.exec ∧ Z.Warmed39 s.vm ∧ s.vm.findClass own = some m.cls ∧ c.code = bs ∧ c.maxLocals = ml ∧ meth.sig.returnType = ret ∧ meth.name = nm ∧ meth.locks = false ∧
    ∀ (t : State) (v : Option Value) (L : List Loc) (k n : Nat), s.WarmedH t.vm → s.sameButNew ({ t with vm := s.vm } : State) L k n → B ≤ t.heap.size → k ≤ R.cells → n ≤ R.slots → F (.returned v) t L
/-- from the frame g, in any state that stands so with the heap h, the body runs to its end and leaves Q -/
def Go (p : Program) (l : Launch) (e : Env) (R : Room) (s : State) (m : MethodId) (args : Array Value) (below : List Frame) (meth : Method) (c : Code) (n0 : Nat) (Q : Option Value → Vm → Heap → Prop) (F : Outcome → State → List Loc → Prop) (B : Nat) (h : Heap) (k n : Nat) (g : JFrame) : Prop :=
  ∀ (T : State) (locs : List Loc), Stand p l e R s m args below meth c T locs k n → T.heap = h → Fr n0 locs → B ≤ h.size →
    ∃ s₂ o, Steps p.tables e below (T.setTop g) s₂ ∧ s₂.status = .running ∧ Ended s₂ below o ∧ ∃ v L, o = .returned v ∧ (Q v s₂.vm s₂.heap ∧ Fr n0 L) ∧ F o s₂ L
/-- who pays a call: what it asks and what it leaves -/
def Pays (l : Launch) (R : Room) (p : Program) (e : Env) (below : List Frame) (s : State) (args : Array Value) (y : MethodName) (len W : Nat) (as' : Array Value) (h : Heap) (kc nc : Nat) (Qc : Option Value → Heap → List Loc → Prop) : Prop :=
  Back l R p e below s args y len W (fun A a => a = as' ∧ A.U.heap = h ∧ A.cells + kc ≤ R.cells ∧ A.slots + nc ≤ R.slots)
    (fun A _ v B => ∃ L, Qc v B.U.heap L ∧ B.locs = A.locs ++ L ∧ B.cells = A.cells + kc ∧ B.slots = A.slots + nc)
/-- the same of a callee that may load String constants -/
def PaysW (l : Launch) (R : Room) (p : Program) (e : Env) (below : List Frame) (s : State) (vm0 : Vm) (args : Array Value) (y : MethodName) (len W : Nat) (as' : Array Value) (h : Heap) (kc nc : Nat) (Z : State) (EL : List (String × Nat)) (Qc : Option Value → Heap → List Loc → Prop) : Prop :=
  BackS l R p e below (s.setVm vm0) args y len W (fun A a => a = as' ∧ A.U.heap = h ∧ A.cells + kc ≤ R.cells ∧ A.slots + nc ≤ R.slots)
    (fun A _ v B => ∃ L, Qc v B.U.heap L ∧ B.locs = A.locs ++ L ∧ B.cells = A.cells + kc ∧ B.slots = A.slots + nc ∧ CHr Z EL vm0 h B.U.vm B.U.heap)
/-- a method's contract: at the heap h0, with these arguments, it returns and leaves Q; nothing below n0 is written -/
def Met (l : Launch) (Z : State) (ws : List Jvm.Cond) (y : MethodName) (bs : ByteArray) (ml : Nat) (ret : Option FieldType) (rm : Room) (as' : Array Value) (h0 : Heap) (n0 : Nat) (Q : Option Value → Heap → Prop) : Prop :=
  MetFree l y (head1 (Jvm.Cond.code y bs ml ret :: ws) rm) (fun a U => a = as' ∧ Z.Warmed39 U.vm ∧ U.heap = h0) (fun _ _ _ _ _ => True) (fun _ U o U' => ∃ v L, o = .returned v ∧ ((Q v U'.heap ∧ Fr n0 L) ∧ h0.size ≤ U'.heap.size) ∧ FrameEnd U o U' L rm.cells rm.slots)
/-- the same, where a stack trace is filled in beneath it -/
def MetK (l : Launch) (Z : State) (ws : List Jvm.Cond) (y : MethodName) (bs : ByteArray) (ml : Nat) (ret : Option FieldType) (rm : Room) (as' : Array Value) (h0 : Heap) (n0 : Nat) (Q : Option Value → Heap → Prop) : Prop :=
  MetFree l y (head1 (Jvm.Cond.code y bs ml ret :: ws) rm) (fun a U => a = as' ∧ Z.Warmed39 U.vm ∧ U.heap = h0) (fun _ _ bl s _ => s.vm.MethodsKnown ∧ s.vm.FramesKnown bl) (fun _ U o U' => ∃ v L, o = .returned v ∧ ((Q v U'.heap ∧ Fr n0 L) ∧ h0.size ≤ U'.heap.size) ∧ FrameEnd U o U' L rm.cells rm.slots)
/-- the same, where String constants may be loaded; EL: the constants that are read -/
def MetW (l : Launch) (Z : State) (ws : List Jvm.Cond) (EL : List (String × Nat)) (y : MethodName) (bs : ByteArray) (ml : Nat) (ret : Option FieldType) (rm : Room) (as' : Array Value) (h0 : Heap) (n0 : Nat) (Q : Option Value → Heap → Prop) : Prop :=
  MetFree l y (head1 (Jvm.Cond.code y bs ml ret :: ws) rm) (fun a U => a = as' ∧ Z.Warmed39 U.vm ∧ U.heap = h0 ∧ CHv Z EL U.vm h0) (fun _ _ _ _ _ => True) (fun _ U o U' => ∃ v L, o = .returned v ∧ ((Q v U'.heap ∧ Fr n0 L) ∧ h0.size ≤ U'.heap.size) ∧ CHr Z EL U.vm U.heap U'.vm U'.heap ∧ ReturnedEndW U o U' L rm.cells rm.slots)
/-- both -/
def MetWK (l : Launch) (Z : State) (ws : List Jvm.Cond) (EL : List (String × Nat)) (y : MethodName) (bs : ByteArray) (ml : Nat) (ret : Option FieldType) (rm : Room) (as' : Array Value) (h0 : Heap) (n0 : Nat) (Q : Option Value → Heap → Prop) : Prop :=
  MetFree l y (head1 (Jvm.Cond.code y bs ml ret :: ws) rm) (fun a U => a = as' ∧ Z.Warmed39 U.vm ∧ U.heap = h0 ∧ CHv Z EL U.vm h0) (fun _ _ bl s _ => s.vm.MethodsKnown ∧ s.vm.FramesKnown bl) (fun _ U o U' => ∃ v L, o = .returned v ∧ ((Q v U'.heap ∧ Fr n0 L) ∧ h0.size ≤ U'.heap.size) ∧ CHr Z EL U.vm U.heap U'.vm U'.heap ∧ ReturnedEndW U o U' L rm.cells rm.slots)
section GoKit
variable {p : Program} {l : Launch} {e : Env} {R : Room} {s : State} {m : MethodId} {args : Array Value} {below : List Frame} {meth : Method} {c : Code} {n0 : Nat} {Q : Option Value → Vm → Heap → Prop} {F : Outcome → State → List Loc → Prop} {B : Nat} {h : Heap} {k n : Nat}
variable {Z : State} {own : String} {bs : ByteArray} {ml : Nat} {ret : Option FieldType} {nm : String} {a0 : Array Value}
variable {pc pc' : Nat} {Ls Ls' : Array Slot} {st rest : List Value}
theorem Ctx.cx (K : Ctx p s m meth c Z own bs ml ret nm R F B) : p.tables.exec = Jvm.exec := K.1
theorem Ctx.cz (K : Ctx p s m meth c Z own bs ml ret nm R F B) : Z.Warmed39 s.vm := K.2.1
theorem Ctx.co (K : Ctx p s m meth c Z own bs ml ret nm R F B) : s.vm.findClass own = some m.cls := K.2.2.1
theorem Ctx.cb (K : Ctx p s m meth c Z own bs ml ret nm R F B) : c.code = bs := K.2.2.2.1
theorem Ctx.cl (K : Ctx p s m meth c Z own bs ml ret nm R F B) : c.maxLocals = ml := K.2.2.2.2.1
theorem Ctx.cr (K : Ctx p s m meth c Z own bs ml ret nm R F B) : meth.sig.returnType = ret := K.2.2.2.2.2.1
theorem Ctx.cn (K : Ctx p s m meth c Z own bs ml ret nm R F B) : meth.name = nm := K.2.2.2.2.2.2.1
theorem Ctx.ck (K : Ctx p s m meth c Z own bs ml ret nm R F B) : meth.locks = false := K.2.2.2.2.2.2.2.1
theorem Ctx.ce (K : Ctx p s m meth c Z own bs ml ret nm R F B) : ∀ (t : State) (v : Option Value) (L : List Loc) (k n : Nat), s.WarmedH t.vm → s.sameButNew ({ t with vm := s.vm } : State) L k n → B ≤ t.heap.size → k ≤ R.cells → n ≤ R.slots → F (.returned v) t L := K.2.2.2.2.2.2.2.2
/-- a step that leaves heap and counts alone -/
theorem Go.by {g g' : JFrame} (H : Go p l e R s m args below meth c n0 Q F B h k n g')
    (q : ∀ (T : State) (locs : List Loc), Stand p l e R s m args below meth c T locs k n → T.heap = h → ∀ t, Steps p.tables e below (T.setTop g') t → Steps p.tables e below (T.setTop g) t) : Go p l e R s m args below meth c n0 Q F B h k n g :=
  fun T locs X eT N hB => by
    obtain ⟨s₂, o, a, b⟩ := H T locs X eT N hB
    exact ⟨s₂, o, q T locs X eT _ a, b⟩
theorem Go.iload (K : Ctx p s m meth c Z own bs ml ret nm R F B) {j : Nat} {v : Int32} (hd : decode bs pc = .ok (.iload j, 2)) (hl : Ls[j]? = some (.val (.int v))) (hp : pc + 2 = pc') (H : Go p l e R s m args below meth c n0 Q F B h k n (mkF m pc' Ls (.int v :: st))) : Go p l e R s m args below meth c n0 Q F B h k n (mkF m pc Ls st) := by
  subst hp
  exact H.by fun T _ X _ t q => XS.iload X.here K.cx rfl (hb K.cb hd) hl q
theorem Go.iloadN (K : Ctx p s m meth c Z own bs ml ret nm R F B) {j : Fin 4} {v : Int32} (hd : decode bs pc = .ok (.iload_n j, 1)) (hl : Ls[j.val]? = some (.val (.int v))) (hp : pc + 1 = pc') (H : Go p l e R s m args below meth c n0 Q F B h k n (mkF m pc' Ls (.int v :: st))) : Go p l e R s m args below meth c n0 Q F B h k n (mkF m pc Ls st) := by
  subst hp
  exact H.by fun T _ X _ t q => XS.iloadN X.here K.cx rfl (hb K.cb hd) hl q
theorem Go.lload (K : Ctx p s m meth c Z own bs ml ret nm R F B) {j : Nat} {v : Int64} (hd : decode bs pc = .ok (.lload j, 2)) (hl : Ls[j]? = some (.val (.long v))) (hp : pc + 2 = pc') (H : Go p l e R s m args below meth c n0 Q F B h k n (mkF m pc' Ls (.long v :: st))) : Go p l e R s m args below meth c n0 Q F B h k n (mkF m pc Ls st) := by
  subst hp
  exact H.by fun T _ X _ t q => XS.lload X.here K.cx rfl (hb K.cb hd) hl q
theorem Go.lloadN (K : Ctx p s m meth c Z own bs ml ret nm R F B) {j : Fin 4} {v : Int64} (hd : decode bs pc = .ok (.lload_n j, 1)) (hl : Ls[j.val]? = some (.val (.long v))) (hp : pc + 1 = pc') (H : Go p l e R s m args below meth c n0 Q F B h k n (mkF m pc' Ls (.long v :: st))) : Go p l e R s m args below meth c n0 Q F B h k n (mkF m pc Ls st) := by
  subst hp
  exact H.by fun T _ X _ t q => XS.lloadN X.here K.cx rfl (hb K.cb hd) hl q
theorem Go.aload (K : Ctx p s m meth c Z own bs ml ret nm R F B) {j : Nat} {v : Value} (hd : decode bs pc = .ok (.aload j, 2)) (hl : Ls[j]? = some (.val v)) (hv : v.isRef = true) (hp : pc + 2 = pc') (H : Go p l e R s m args below meth c n0 Q F B h k n (mkF m pc' Ls (v :: st))) : Go p l e R s m args below meth c n0 Q F B h k n (mkF m pc Ls st) := by
  subst hp
  exact H.by fun T _ X _ t q => XS.aload X.here K.cx rfl (hb K.cb hd) hl hv q
theorem Go.aloadN (K : Ctx p s m meth c Z own bs ml ret nm R F B) {j : Fin 4} {v : Value} (hd : decode bs pc = .ok (.aload_n j, 1)) (hl : Ls[j.val]? = some (.val v)) (hv : v.isRef = true) (hp : pc + 1 = pc') (H : Go p l e R s m args below meth c n0 Q F B h k n (mkF m pc' Ls (v :: st))) : Go p l e R s m args below meth c n0 Q F B h k n (mkF m pc Ls st) := by
  subst hp
  exact H.by fun T _ X _ t q => XS.aloadN X.here K.cx rfl (hb K.cb hd) hl hv q
theorem Go.istore (K : Ctx p s m meth c Z own bs ml ret nm R F B) {j : Nat} {v : Int32} (hd : decode bs pc = .ok (.istore j, 2)) (hl : storeLocals Ls j (.int v) = some Ls') (hp : pc + 2 = pc') (H : Go p l e R s m args below meth c n0 Q F B h k n (mkF m pc' Ls' st)) : Go p l e R s m args below meth c n0 Q F B h k n (mkF m pc Ls (.int v :: st)) := by
  subst hp
  exact H.by fun T _ X _ t q => XS.istore X.here K.cx rfl (hb K.cb hd) rfl hl q
theorem Go.istoreN (K : Ctx p s m meth c Z own bs ml ret nm R F B) {j : Fin 4} {v : Int32} (hd : decode bs pc = .ok (.istore_n j, 1)) (hl : storeLocals Ls j.val (.int v) = some Ls') (hp : pc + 1 = pc') (H : Go p l e R s m args below meth c n0 Q F B h k n (mkF m pc' Ls' st)) : Go p l e R s m args below meth c n0 Q F B h k n (mkF m pc Ls (.int v :: st)) := by
  subst hp
  exact H.by fun T _ X _ t q => XS.istoreN X.here K.cx rfl (hb K.cb hd) rfl hl q
theorem Go.astore (K : Ctx p s m meth c Z own bs ml ret nm R F B) {j : Nat} {v : Value} (hd : decode bs pc = .ok (.astore j, 2)) (hv : v.isRef = true) (hl : storeLocals Ls j v = some Ls') (hp : pc + 2 = pc') (H : Go p l e R s m args below meth c n0 Q F B h k n (mkF m pc' Ls' st)) : Go p l e R s m args below meth c n0 Q F B h k n (mkF m pc Ls (v :: st)) := by
  subst hp
  exact H.by fun T _ X _ t q => XS.astore X.here K.cx rfl (hb K.cb hd) rfl hv hl q
theorem Go.astoreN (K : Ctx p s m meth c Z own bs ml ret nm R F B) {j : Fin 4} {v : Value} (hd : decode bs pc = .ok (.astore_n j, 1)) (hv : v.isRef = true) (hl : storeLocals Ls j.val v = some Ls') (hp : pc + 1 = pc') (H : Go p l e R s m args below meth c n0 Q F B h k n (mkF m pc' Ls' st)) : Go p l e R s m args below meth c n0 Q F B h k n (mkF m pc Ls (v :: st)) := by
  subst hp
  exact H.by fun T _ X _ t q => XS.astoreN X.here K.cx rfl (hb K.cb hd) rfl hv hl q
theorem Go.iconst (K : Ctx p s m meth c Z own bs ml ret nm R F B) {i : Int} {v : Int32} (hd : decode bs pc = .ok (.iconst i, 1)) (hv : Int32.ofInt i = v) (hp : pc + 1 = pc') (H : Go p l e R s m args below meth c n0 Q F B h k n (mkF m pc' Ls (.int v :: st))) : Go p l e R s m args below meth c n0 Q F B h k n (mkF m pc Ls st) := by
  subst hp hv
  exact H.by fun T _ X _ t q => XS.iconst X.here K.cx rfl (hb K.cb hd) q
theorem Go.bipush (K : Ctx p s m meth c Z own bs ml ret nm R F B) {i : Int} {v : Int32} (hd : decode bs pc = .ok (.bipush i, 2)) (hv : (Int8.ofInt i).toInt32 = v) (hp : pc + 2 = pc') (H : Go p l e R s m args below meth c n0 Q F B h k n (mkF m pc' Ls (.int v :: st))) : Go p l e R s m args below meth c n0 Q F B h k n (mkF m pc Ls st) := by
  subst hp hv
  exact H.by fun T _ X _ t q => XS.bipush X.here K.cx rfl (hb K.cb hd) q
theorem Go.sipush (K : Ctx p s m meth c Z own bs ml ret nm R F B) {i : Int} {v : Int32} (hd : decode bs pc = .ok (.sipush i, 3)) (hv : (Int16.ofInt i).toInt32 = v) (hp : pc + 3 = pc') (H : Go p l e R s m args below meth c n0 Q F B h k n (mkF m pc' Ls (.int v :: st))) : Go p l e R s m args below meth c n0 Q F B h k n (mkF m pc Ls st) := by
  subst hp hv
  exact H.by fun T _ X _ t q => XS.sipush X.here K.cx rfl (hb K.cb hd) q
theorem Go.aconstNull (K : Ctx p s m meth c Z own bs ml ret nm R F B) (hd : decode bs pc = .ok (.aconst_null, 1)) (hp : pc + 1 = pc') (H : Go p l e R s m args below meth c n0 Q F B h k n (mkF m pc' Ls (.null :: st))) : Go p l e R s m args below meth c n0 Q F B h k n (mkF m pc Ls st) := by
  subst hp
  exact H.by fun T _ X _ t q => XS.aconstNull X.here K.cx rfl (hb K.cb hd) q
theorem Go.lconst (K : Ctx p s m meth c Z own bs ml ret nm R F B) {j : Fin 2} {v : Int64} (hd : decode bs pc = .ok (.lconst j, 1)) (hv : Int64.ofNat j = v) (hp : pc + 1 = pc') (H : Go p l e R s m args below meth c n0 Q F B h k n (mkF m pc' Ls (.long v :: st))) : Go p l e R s m args below meth c n0 Q F B h k n (mkF m pc Ls st) := by
  subst hp hv
  exact H.by fun T _ X _ t q => XS.lconst X.here K.cx rfl (hb K.cb hd) q
theorem Go.ldcInt (K : Ctx p s m meth c Z own bs ml ret nm R F B) {j : Nat} {v : Int32} (w : (Jvm.Cond.constant own j v).before args s = true) (hd : decode bs pc = .ok (.ldc j, 2)) (hp : pc + 2 = pc') (H : Go p l e R s m args below meth c n0 Q F B h k n (mkF m pc' Ls (.int v :: st))) : Go p l e R s m args below meth c n0 Q F B h k n (mkF m pc Ls st) := by
  subst hp
  exact H.by fun T _ X _ t q => X.ldcInt K.cx K.co w (g := mkF m pc Ls st) rfl (hb K.cb hd) t q
theorem Go.ldcLong (K : Ctx p s m meth c Z own bs ml ret nm R F B) {j : Nat} {v : Int64} (w : (Jvm.Cond.constantLong own j v).before args s = true) (hd : decode bs pc = .ok (.ldc2_w j, 3)) (hp : pc + 3 = pc') (H : Go p l e R s m args below meth c n0 Q F B h k n (mkF m pc' Ls (.long v :: st))) : Go p l e R s m args below meth c n0 Q F B h k n (mkF m pc Ls st) := by
  subst hp
  exact H.by fun T _ X _ t q => X.ldc2Long K.cx K.co w (g := mkF m pc Ls st) rfl (hb K.cb hd) t q
theorem Go.ldcR (K : Ctx p s m meth c Z own bs ml ret nm R F B) {j : Nat} {a : Addr} {text : String} (w : (Jvm.Cond.stringRef own j text).before a0 Z = true) (L : Lit Z own j a) (hd : decode bs pc = .ok (.ldc j, 2)) (hp : pc + 2 = pc') (H : Go p l e R s m args below meth c n0 Q F B h k n (mkF m pc' Ls (.ref a :: st))) : Go p l e R s m args below meth c n0 Q F B h k n (mkF m pc Ls st) := by
  subst hp
  exact H.by fun T _ X _ t q => Jvm.RoadKit.ldcR X K.cx K.cz K.co w L (g := mkF m pc Ls st) rfl (hb K.cb hd) t q
theorem Go.iadd (K : Ctx p s m meth c Z own bs ml ret nm R F B) {x y : Int32} (hd : decode bs pc = .ok (.iadd, 1)) (hp : pc + 1 = pc') (H : Go p l e R s m args below meth c n0 Q F B h k n (mkF m pc' Ls (.int (x + y) :: st))) : Go p l e R s m args below meth c n0 Q F B h k n (mkF m pc Ls (.int y :: .int x :: st)) := by
  subst hp
  exact H.by fun T _ X _ t q => XS.iadd X.here K.cx rfl (hb K.cb hd) rfl q
theorem Go.isub (K : Ctx p s m meth c Z own bs ml ret nm R F B) {x y : Int32} (hd : decode bs pc = .ok (.isub, 1)) (hp : pc + 1 = pc') (H : Go p l e R s m args below meth c n0 Q F B h k n (mkF m pc' Ls (.int (x - y) :: st))) : Go p l e R s m args below meth c n0 Q F B h k n (mkF m pc Ls (.int y :: .int x :: st)) := by
  subst hp
  exact H.by fun T _ X _ t q => XS.isub X.here K.cx rfl (hb K.cb hd) rfl q
theorem Go.imul (K : Ctx p s m meth c Z own bs ml ret nm R F B) {x y : Int32} (hd : decode bs pc = .ok (.imul, 1)) (hp : pc + 1 = pc') (H : Go p l e R s m args below meth c n0 Q F B h k n (mkF m pc' Ls (.int (x * y) :: st))) : Go p l e R s m args below meth c n0 Q F B h k n (mkF m pc Ls (.int y :: .int x :: st)) := by
  subst hp
  exact H.by fun T _ X _ t q => XS.imul X.here K.cx rfl (hb K.cb hd) rfl q
theorem Go.iand (K : Ctx p s m meth c Z own bs ml ret nm R F B) {x y : Int32} (hd : decode bs pc = .ok (.iand, 1)) (hp : pc + 1 = pc') (H : Go p l e R s m args below meth c n0 Q F B h k n (mkF m pc' Ls (.int (x &&& y) :: st))) : Go p l e R s m args below meth c n0 Q F B h k n (mkF m pc Ls (.int y :: .int x :: st)) := by
  subst hp
  exact H.by fun T _ X _ t q => XS.iand X.here K.cx rfl (hb K.cb hd) rfl q
theorem Go.ior (K : Ctx p s m meth c Z own bs ml ret nm R F B) {x y : Int32} (hd : decode bs pc = .ok (.ior, 1)) (hp : pc + 1 = pc') (H : Go p l e R s m args below meth c n0 Q F B h k n (mkF m pc' Ls (.int (x ||| y) :: st))) : Go p l e R s m args below meth c n0 Q F B h k n (mkF m pc Ls (.int y :: .int x :: st)) := by
  subst hp
  exact H.by fun T _ X _ t q => XS.ior X.here K.cx rfl (hb K.cb hd) rfl q
theorem Go.ixor (K : Ctx p s m meth c Z own bs ml ret nm R F B) {x y : Int32} (hd : decode bs pc = .ok (.ixor, 1)) (hp : pc + 1 = pc') (H : Go p l e R s m args below meth c n0 Q F B h k n (mkF m pc' Ls (.int (x ^^^ y) :: st))) : Go p l e R s m args below meth c n0 Q F B h k n (mkF m pc Ls (.int y :: .int x :: st)) := by
  subst hp
  exact H.by fun T _ X _ t q => XS.ixor X.here K.cx rfl (hb K.cb hd) rfl q
theorem Go.ishl (K : Ctx p s m meth c Z own bs ml ret nm R F B) {x y : Int32} (hd : decode bs pc = .ok (.ishl, 1)) (hp : pc + 1 = pc') (H : Go p l e R s m args below meth c n0 Q F B h k n (mkF m pc' Ls (.int (x <<< (y &&& 31)) :: st))) : Go p l e R s m args below meth c n0 Q F B h k n (mkF m pc Ls (.int y :: .int x :: st)) := by
  subst hp
  exact H.by fun T _ X _ t q => XS.ishl X.here K.cx rfl (hb K.cb hd) rfl q
theorem Go.ishr (K : Ctx p s m meth c Z own bs ml ret nm R F B) {x y : Int32} (hd : decode bs pc = .ok (.ishr, 1)) (hp : pc + 1 = pc') (H : Go p l e R s m args below meth c n0 Q F B h k n (mkF m pc' Ls (.int (x >>> (y &&& 31)) :: st))) : Go p l e R s m args below meth c n0 Q F B h k n (mkF m pc Ls (.int y :: .int x :: st)) := by
  subst hp
  exact H.by fun T _ X _ t q => XS.ishr X.here K.cx rfl (hb K.cb hd) rfl q
theorem Go.iushr (K : Ctx p s m meth c Z own bs ml ret nm R F B) {x y : Int32} (hd : decode bs pc = .ok (.iushr, 1)) (hp : pc + 1 = pc') (H : Go p l e R s m args below meth c n0 Q F B h k n (mkF m pc' Ls (.int ((x.toUInt32 >>> (y &&& 31).toUInt32).toInt32) :: st))) : Go p l e R s m args below meth c n0 Q F B h k n (mkF m pc Ls (.int y :: .int x :: st)) := by
  subst hp
  exact H.by fun T _ X _ t q => XS.iushr X.here K.cx rfl (hb K.cb hd) rfl q
theorem Go.idiv (K : Ctx p s m meth c Z own bs ml ret nm R F B) {x y : Int32} (hd : decode bs pc = .ok (.idiv, 1)) (hy : y ≠ 0) (hp : pc + 1 = pc') (H : Go p l e R s m args below meth c n0 Q F B h k n (mkF m pc' Ls (.int (x / y) :: st))) : Go p l e R s m args below meth c n0 Q F B h k n (mkF m pc Ls (.int y :: .int x :: st)) := by
  subst hp
  exact H.by fun T _ X _ t q => XS.idiv X.here K.cx rfl (hb K.cb hd) rfl hy q
theorem Go.irem (K : Ctx p s m meth c Z own bs ml ret nm R F B) {x y : Int32} (hd : decode bs pc = .ok (.irem, 1)) (hy : y ≠ 0) (hp : pc + 1 = pc') (H : Go p l e R s m args below meth c n0 Q F B h k n (mkF m pc' Ls (.int (x % y) :: st))) : Go p l e R s m args below meth c n0 Q F B h k n (mkF m pc Ls (.int y :: .int x :: st)) := by
  subst hp
  exact H.by fun T _ X _ t q => iremM X K.cx rfl (hb K.cb hd) rfl hy q
theorem Go.ladd (K : Ctx p s m meth c Z own bs ml ret nm R F B) {x y : Int64} (hd : decode bs pc = .ok (.ladd, 1)) (hp : pc + 1 = pc') (H : Go p l e R s m args below meth c n0 Q F B h k n (mkF m pc' Ls (.long (x + y) :: st))) : Go p l e R s m args below meth c n0 Q F B h k n (mkF m pc Ls (.long y :: .long x :: st)) := by
  subst hp
  exact H.by fun T _ X _ t q => XS.ladd X.here K.cx rfl (hb K.cb hd) rfl q
theorem Go.lsub (K : Ctx p s m meth c Z own bs ml ret nm R F B) {x y : Int64} (hd : decode bs pc = .ok (.lsub, 1)) (hp : pc + 1 = pc') (H : Go p l e R s m args below meth c n0 Q F B h k n (mkF m pc' Ls (.long (x - y) :: st))) : Go p l e R s m args below meth c n0 Q F B h k n (mkF m pc Ls (.long y :: .long x :: st)) := by
  subst hp
  exact H.by fun T _ X _ t q => XS.lsub X.here K.cx rfl (hb K.cb hd) rfl q
theorem Go.land (K : Ctx p s m meth c Z own bs ml ret nm R F B) {x y : Int64} (hd : decode bs pc = .ok (.land, 1)) (hp : pc + 1 = pc') (H : Go p l e R s m args below meth c n0 Q F B h k n (mkF m pc' Ls (.long (x &&& y) :: st))) : Go p l e R s m args below meth c n0 Q F B h k n (mkF m pc Ls (.long y :: .long x :: st)) := by
  subst hp
  exact H.by fun T _ X _ t q => XS.land X.here K.cx rfl (hb K.cb hd) rfl q
theorem Go.lor (K : Ctx p s m meth c Z own bs ml ret nm R F B) {x y : Int64} (hd : decode bs pc = .ok (.lor, 1)) (hp : pc + 1 = pc') (H : Go p l e R s m args below meth c n0 Q F B h k n (mkF m pc' Ls (.long (x ||| y) :: st))) : Go p l e R s m args below meth c n0 Q F B h k n (mkF m pc Ls (.long y :: .long x :: st)) := by
  subst hp
  exact H.by fun T _ X _ t q => XS.lor X.here K.cx rfl (hb K.cb hd) rfl q
theorem Go.lcmp (K : Ctx p s m meth c Z own bs ml ret nm R F B) {x y : Int64} (hd : decode bs pc = .ok (.lcmp, 1)) (hp : pc + 1 = pc') (H : Go p l e R s m args below meth c n0 Q F B h k n (mkF m pc' Ls (.int (lcmpW x y) :: st))) : Go p l e R s m args below meth c n0 Q F B h k n (mkF m pc Ls (.long y :: .long x :: st)) := by
  subst hp
  exact H.by fun T _ X _ t q => XS.lcmp X.here K.cx rfl (hb K.cb hd) rfl q
theorem Go.i2c (K : Ctx p s m meth c Z own bs ml ret nm R F B) {x : Int32} (hd : decode bs pc = .ok (.i2c, 1)) (hp : pc + 1 = pc') (H : Go p l e R s m args below meth c n0 Q F B h k n (mkF m pc' Ls (.int (x.toUInt32.toUInt16.toUInt32.toInt32) :: st))) : Go p l e R s m args below meth c n0 Q F B h k n (mkF m pc Ls (.int x :: st)) := by
  subst hp
  exact H.by fun T _ X _ t q => XS.i2c X.here K.cx rfl (hb K.cb hd) rfl q
theorem Go.i2b (K : Ctx p s m meth c Z own bs ml ret nm R F B) {x : Int32} (hd : decode bs pc = .ok (.i2b, 1)) (hp : pc + 1 = pc') (H : Go p l e R s m args below meth c n0 Q F B h k n (mkF m pc' Ls (.int (x.toInt8.toInt32) :: st))) : Go p l e R s m args below meth c n0 Q F B h k n (mkF m pc Ls (.int x :: st)) := by
  subst hp
  exact H.by fun T _ X _ t q => XS.i2b X.here K.cx rfl (hb K.cb hd) rfl q
theorem Go.i2l (K : Ctx p s m meth c Z own bs ml ret nm R F B) {x : Int32} (hd : decode bs pc = .ok (.i2l, 1)) (hp : pc + 1 = pc') (H : Go p l e R s m args below meth c n0 Q F B h k n (mkF m pc' Ls (.long (x.toInt64) :: st))) : Go p l e R s m args below meth c n0 Q F B h k n (mkF m pc Ls (.int x :: st)) := by
  subst hp
  exact H.by fun T _ X _ t q => XS.i2l X.here K.cx rfl (hb K.cb hd) rfl q
theorem Go.ineg (K : Ctx p s m meth c Z own bs ml ret nm R F B) {x : Int32} (hd : decode bs pc = .ok (.ineg, 1)) (hp : pc + 1 = pc') (H : Go p l e R s m args below meth c n0 Q F B h k n (mkF m pc' Ls (.int (-x) :: st))) : Go p l e R s m args below meth c n0 Q F B h k n (mkF m pc Ls (.int x :: st)) := by
  subst hp
  exact H.by fun T _ X _ t q => XS.ineg X.here K.cx rfl (hb K.cb hd) rfl q
theorem Go.dup (K : Ctx p s m meth c Z own bs ml ret nm R F B) {v : Value} (hd : decode bs pc = .ok (.dup, 1)) (hc : v.category = 1) (hp : pc + 1 = pc') (H : Go p l e R s m args below meth c n0 Q F B h k n (mkF m pc' Ls (v :: v :: st))) : Go p l e R s m args below meth c n0 Q F B h k n (mkF m pc Ls (v :: st)) := by
  subst hp
  exact H.by fun T _ X _ t q => XS.dup X.here K.cx rfl (hb K.cb hd) rfl hc q
theorem Go.pop (K : Ctx p s m meth c Z own bs ml ret nm R F B) {v : Value} (hd : decode bs pc = .ok (.pop, 1)) (hc : v.category = 1) (hp : pc + 1 = pc') (H : Go p l e R s m args below meth c n0 Q F B h k n (mkF m pc' Ls st)) : Go p l e R s m args below meth c n0 Q F B h k n (mkF m pc Ls (v :: st)) := by
  subst hp
  exact H.by fun T _ X _ t q => XS.pop X.here K.cx rfl (hb K.cb hd) rfl hc q
theorem Go.iinc (K : Ctx p s m meth c Z own bs ml ret nm R F B) {j : Nat} {cst : Int} {x : Int32} (hd : decode bs pc = .ok (.iinc j cst, 3)) (hl : Ls[j]? = some (.val (.int x))) (hl' : storeLocals Ls j (.int (x + Int32.ofInt cst)) = some Ls') (hp : pc + 3 = pc') (H : Go p l e R s m args below meth c n0 Q F B h k n (mkF m pc' Ls' st)) : Go p l e R s m args below meth c n0 Q F B h k n (mkF m pc Ls st) := by
  subst hp
  exact H.by fun T _ X _ t q => XS.iinc X.here K.cx rfl (hb K.cb hd) hl hl' q
theorem Go.goto (K : Ctx p s m meth c Z own bs ml ret nm R F B) {o : Int} (hd : decode bs pc = .ok (.goto o, 3)) (ho : 0 ≤ (pc : Int) + o) (hp : ((pc : Int) + o).toNat = pc') (H : Go p l e R s m args below meth c n0 Q F B h k n (mkF m pc' Ls st)) : Go p l e R s m args below meth c n0 Q F B h k n (mkF m pc Ls st) :=
  H.by fun T _ X _ t q => XS.goto X.here K.cx rfl rfl (hb K.cb hd) ho hp q
/-- a comparison as a proposition -/
def CmpP : ClassFile.Cond → Int32 → Int32 → Prop
  | .eq, x, y => x = y
  | .ne, x, y => ¬ x = y
  | .lt, x, y => x < y
  | .ge, x, y => ¬ x < y
  | .gt, x, y => y < x
  | .le, x, y => ¬ y < x
theorem cmp_holds (cd : ClassFile.Cond) (x y : Int32) : (if_icmp.holds cd x y = true → CmpP cd x y) ∧ (if_icmp.holds cd x y = false → ¬ CmpP cd x y) := by
  cases cd <;> simp only [CmpP]
  · by_cases h : x = y
    · exact ⟨fun _ => h, fun q => (by rw [(teq h).1] at q; cases q)⟩
    · exact ⟨fun q => (by rw [(feq h).1] at q; cases q), fun _ => h⟩
  · by_cases h : x = y
    · exact ⟨fun q => (by rw [(teq h).2] at q; cases q), fun _ q => q h⟩
    · exact ⟨fun _ => h, fun q => (by rw [(feq h).2] at q; cases q)⟩
  · by_cases h : x < y
    · exact ⟨fun _ => h, fun q => (by rw [(tlt h).1] at q; cases q)⟩
    · exact ⟨fun q => (by rw [(flt h).1] at q; cases q), fun _ => h⟩
  · by_cases h : x < y
    · exact ⟨fun q => (by rw [(tlt h).2.1] at q; cases q), fun _ q => q h⟩
    · exact ⟨fun _ => h, fun q => (by rw [(flt h).2.1] at q; cases q)⟩
  · by_cases h : y < x
    · exact ⟨fun _ => h, fun q => (by rw [(tlt h).2.2.1] at q; cases q)⟩
    · exact ⟨fun q => (by rw [(flt h).2.2.1] at q; cases q), fun _ => h⟩
  · by_cases h : y < x
    · exact ⟨fun q => (by rw [(tlt h).2.2.2] at q; cases q), fun _ q => q h⟩
    · exact ⟨fun _ => h, fun q => (by rw [(flt h).2.2.2] at q; cases q)⟩
theorem Go.icmp (K : Ctx p s m meth c Z own bs ml ret nm R F B) {cd : ClassFile.Cond} {x y : Int32} {o : Int} {pcT pcF : Nat} (hd : decode bs pc = .ok (.if_icmp cd o, 3)) (ho : 0 ≤ (pc : Int) + o) (hT : ((pc : Int) + o).toNat = pcT) (hF : pc + 3 = pcF)
    (HT : CmpP cd x y → Go p l e R s m args below meth c n0 Q F B h k n (mkF m pcT Ls st)) (HF : ¬ CmpP cd x y → Go p l e R s m args below meth c n0 Q F B h k n (mkF m pcF Ls st)) : Go p l e R s m args below meth c n0 Q F B h k n (mkF m pc Ls (.int y :: .int x :: st)) := by
  subst hF
  cases q : if_icmp.holds cd x y with
  | true => exact (HT ((cmp_holds cd x y).1 q)).by fun T _ X _ t r => XS.icmpYes X.here K.cx rfl rfl (hb K.cb hd) rfl q ho hT r
  | false => exact (HF ((cmp_holds cd x y).2 q)).by fun T _ X _ t r => XS.icmpNo X.here K.cx rfl (hb K.cb hd) rfl q r
theorem Go.ifc (K : Ctx p s m meth c Z own bs ml ret nm R F B) {cd : ClassFile.Cond} {x : Int32} {o : Int} {pcT pcF : Nat} (hd : decode bs pc = .ok (.ifCond cd o, 3)) (ho : 0 ≤ (pc : Int) + o) (hT : ((pc : Int) + o).toNat = pcT) (hF : pc + 3 = pcF)
    (HT : CmpP cd x 0 → Go p l e R s m args below meth c n0 Q F B h k n (mkF m pcT Ls st)) (HF : ¬ CmpP cd x 0 → Go p l e R s m args below meth c n0 Q F B h k n (mkF m pcF Ls st)) : Go p l e R s m args below meth c n0 Q F B h k n (mkF m pc Ls (.int x :: st)) := by
  subst hF
  cases q : if_icmp.holds cd x 0 with
  | true => exact (HT ((cmp_holds cd x 0).1 q)).by fun T _ X _ t r => XS.ifYes X.here K.cx rfl rfl (hb K.cb hd) rfl ((if0 _ _).trans q) ho hT r
  | false => exact (HF ((cmp_holds cd x 0).2 q)).by fun T _ X _ t r => XS.ifNo X.here K.cx rfl (hb K.cb hd) rfl ((if0 _ _).trans q) r
theorem Go.ifnullN (K : Ctx p s m meth c Z own bs ml ret nm R F B) {o : Int} (hd : decode bs pc = .ok (.ifnull o, 3)) (ho : 0 ≤ (pc : Int) + o) (hT : ((pc : Int) + o).toNat = pc') (H : Go p l e R s m args below meth c n0 Q F B h k n (mkF m pc' Ls st)) : Go p l e R s m args below meth c n0 Q F B h k n (mkF m pc Ls (.null :: st)) :=
  H.by fun T _ X _ t r => XS.ifnullYes X.here K.cx rfl rfl (hb K.cb hd) rfl ho hT r
theorem Go.ifnullR (K : Ctx p s m meth c Z own bs ml ret nm R F B) {o : Int} {a : Addr} (hd : decode bs pc = .ok (.ifnull o, 3)) (hp : pc + 3 = pc') (H : Go p l e R s m args below meth c n0 Q F B h k n (mkF m pc' Ls st)) : Go p l e R s m args below meth c n0 Q F B h k n (mkF m pc Ls (.ref a :: st)) := by
  subst hp
  exact H.by fun T _ X _ t r => XS.ifnullNo X.here K.cx rfl (hb K.cb hd) rfl r
theorem Go.ifnonnullR (K : Ctx p s m meth c Z own bs ml ret nm R F B) {o : Int} {a : Addr} (hd : decode bs pc = .ok (.ifnonnull o, 3)) (ho : 0 ≤ (pc : Int) + o) (hT : ((pc : Int) + o).toNat = pc') (H : Go p l e R s m args below meth c n0 Q F B h k n (mkF m pc' Ls st)) : Go p l e R s m args below meth c n0 Q F B h k n (mkF m pc Ls (.ref a :: st)) :=
  H.by fun T _ X _ t r => XS.ifnonnullYes X.here K.cx rfl rfl (hb K.cb hd) rfl ho hT r
theorem Go.ifnonnullN (K : Ctx p s m meth c Z own bs ml ret nm R F B) {o : Int} (hd : decode bs pc = .ok (.ifnonnull o, 3)) (hp : pc + 3 = pc') (H : Go p l e R s m args below meth c n0 Q F B h k n (mkF m pc' Ls st)) : Go p l e R s m args below meth c n0 Q F B h k n (mkF m pc Ls (.null :: st)) := by
  subst hp
  exact H.by fun T _ X _ t r => XS.ifnonnullNo X.here K.cx rfl (hb K.cb hd) rfl r
/-- if_acmp whose answer is known -/
theorem Go.acmp (K : Ctx p s m meth c Z own bs ml ret nm R F B) {cd : ACond} {x y : Value} {o : Int} {same : Bool} (hd : decode bs pc = .ok (.if_acmp cd o, 3)) (h1 : x.isRef = true) (h2 : y.isRef = true) (hq : decide (x = y) = same) (ho : 0 ≤ (pc : Int) + o) (hp : pc' = if acV cd same = true then ((pc : Int) + o).toNat else pc + 3)
    (H : Go p l e R s m args below meth c n0 Q F B h k n (mkF m pc' Ls st)) : Go p l e R s m args below meth c n0 Q F B h k n (mkF m pc Ls (y :: x :: st)) :=
  H.by fun T _ X _ t r => Jvm.RoadKit.acmp (g := mkF m pc Ls (y :: x :: st)) X K.cx rfl h1 h2 rfl (hb K.cb hd) rfl hq ho hp r
theorem Go.cast {g g' : JFrame} (q : g = g') (H : Go p l e R s m args below meth c n0 Q F B h k n g') : Go p l e R s m args below meth c n0 Q F B h k n g := q ▸ H
/-! the heap -/
theorem Go.getF (K : Ctx p s m meth c Z own bs ml ret nm R F B) {R0 O f d host : String} {j : Nat} {a : Addr} {v : Value} (w : (Jvm.Cond.fieldLink own j R0 f d).before a0 Z = true ∨ (Jvm.Cond.fieldLinkNest own j R0 f d host).before a0 Z = true) (via : Via Z R0 O f d) (Fa : Fld Z h a O f d v) (hd : decode bs pc = .ok (.getfield j, 3)) (hp : pc + 3 = pc')
    (H : Go p l e R s m args below meth c n0 Q F B h k n (mkF m pc' Ls (v :: st))) : Go p l e R s m args below meth c n0 Q F B h k n (mkF m pc Ls (.ref a :: st)) := by
  subst hp
  intro T locs X eT N hB
  obtain ⟨T', X', e', q⟩ := Jvm.RoadKit.getF X K.cx K.cz K.co w via eT Fa (g := mkF m pc Ls (.ref a :: st)) rfl rfl (hb K.cb hd)
  obtain ⟨s₂, o, r1, r2⟩ := H T' locs X' e' N hB
  exact ⟨s₂, o, q _ r1, r2⟩
theorem Go.getS (K : Ctx p s m meth c Z own bs ml ret nm R F B) {R0 O f d host : String} {j : Nat} {v : Value} (w : (Jvm.Cond.fieldLink own j R0 f d).before a0 Z = true ∨ (Jvm.Cond.fieldLinkNest own j R0 f d host).before a0 Z = true) (via : Via Z R0 O f d) (Fa : Sta Z h O f d v) (hd : decode bs pc = .ok (.getstatic j, 3)) (hp : pc + 3 = pc')
    (H : Go p l e R s m args below meth c n0 Q F B h k n (mkF m pc' Ls (v :: st))) : Go p l e R s m args below meth c n0 Q F B h k n (mkF m pc Ls st) := by
  subst hp
  intro T locs X eT N hB
  obtain ⟨T', X', e', q⟩ := Jvm.RoadKit.getS2 X K.cx K.cz K.co w via eT Fa (g := mkF m pc Ls st) rfl (hb K.cb hd)
  obtain ⟨s₂, o, r1, r2⟩ := H T' locs X' e' N hB
  exact ⟨s₂, o, q _ r1, r2⟩
theorem Go.putF (K : Ctx p s m meth c Z own bs ml ret nm R F B) {R0 O f d host C : String} {j kk : Nat} {ty : FieldType} {a : Addr} {v old : Value} (w : (Jvm.Cond.fieldLink own j R0 f d).before a0 Z = true ∨ (Jvm.Cond.fieldLinkNest own j R0 f d host).before a0 Z = true) (via : Via Z R0 O f d) (Fa : Fld Z h a O f d old) (E : Exa Z h a C)
    (L : (Jvm.Cond.lays C O f d).before a0 Z = true ∨ ((Jvm.Cond.laysFinal C O f d).before a0 Z = true ∧ own = O ∧ nm = "<init>")) (wi : (Jvm.Cond.instantiable C kk).before a0 Z = true) (hty : parseFieldDescriptor d = some ty) (hn : narrow ty v = v) (hf : fits ty v = true) (ha : n0 ≤ a) (hd : decode bs pc = .ok (.putfield j, 3)) (hp : pc + 3 = pc')
    (H : ∀ h', Wr h h' a (Jvm.RoadKit.slotOf Z O f d) v → Fld Z h' a O f d v → Go p l e R s m args below meth c n0 Q F B h' k n (mkF m pc' Ls st)) : Go p l e R s m args below meth c n0 Q F B h k n (mkF m pc Ls (v :: .ref a :: st)) := by
  subst hp
  intro T locs X eT N hB
  obtain ⟨T', h', X', e', W, q⟩ := Jvm.RoadKit.putF X K.cx K.cz K.co w via eT Fa E (L.imp id fun r => ⟨r.1, r.2.1, K.cn.trans r.2.2⟩) wi hty hn hf (g := mkF m pc Ls (v :: .ref a :: st)) rfl rfl (hb K.cb hd)
  obtain ⟨s₂, o, r1, r2⟩ := H h' W (Fa.same W) T' _ X' e' (Fr.snoc X' N ha) (Nat.le_trans hB (Keep.of_wr W).1)
  exact ⟨s₂, o, q _ r1, r2⟩
theorem Go.putFN (K : Ctx p s m meth c Z own bs ml ret nm R F B) {R0 O f d C : String} {j kk : Nat} {ty : FieldType} {a : Addr} {v v' old : Value} (w : (Jvm.Cond.fieldLink own j R0 f d).before a0 Z = true) (via : Via Z R0 O f d) (Fa : Fld Z h a O f d old) (E : Exa Z h a C)
    (L : (Jvm.Cond.lays C O f d).before a0 Z = true ∨ ((Jvm.Cond.laysFinal C O f d).before a0 Z = true ∧ own = O ∧ nm = "<init>")) (wi : (Jvm.Cond.instantiable C kk).before a0 Z = true) (hty : parseFieldDescriptor d = some ty) (hn : narrow ty v = v') (hf : fits ty v' = true) (ha : n0 ≤ a) (hd : decode bs pc = .ok (.putfield j, 3)) (hp : pc + 3 = pc')
    (H : ∀ h', Wr h h' a (Jvm.RoadKit.slotOf Z O f d) v' → Fld Z h' a O f d v' → Go p l e R s m args below meth c n0 Q F B h' k n (mkF m pc' Ls st)) : Go p l e R s m args below meth c n0 Q F B h k n (mkF m pc Ls (v :: .ref a :: st)) := by
  subst hp
  intro T locs X eT N hB
  obtain ⟨T', h', X', e', W, q⟩ := Jvm.RoadKit.putFN X K.cx K.cz K.co w via eT Fa E (L.imp id fun r => ⟨r.1, r.2.1, K.cn.trans r.2.2⟩) wi hty hn hf (g := mkF m pc Ls (v :: .ref a :: st)) rfl rfl (hb K.cb hd)
  obtain ⟨s₂, o, r1, r2⟩ := H h' W (Fa.same W) T' _ X' e' (Fr.snoc X' N ha) (Nat.le_trans hB (Keep.of_wr W).1)
  exact ⟨s₂, o, q _ r1, r2⟩
theorem Go.newO (K : Ctx p s m meth c Z own bs ml ret nm R F B) {C : String} {j i : Nat} (w : (Jvm.Cond.classLink own j C).before a0 Z = true) (wi : (Jvm.Cond.instantiable C i).before a0 Z = true) (wz : (Jvm.Cond.initialized C).before a0 Z = true) (hc : k + 1 ≤ R.cells) (hl : n + i ≤ R.slots) (hd : decode bs pc = .ok (.new j, 3)) (hp : pc + 3 = pc')
    (H : ∀ h' a, a = h.size → Ext h h' → Exa Z h' a C → (∀ {O f d : String} {ty : FieldType}, Laid Z a0 C O f d → parseFieldDescriptor d = some ty → Fld Z h' a O f d (defaultValue ty)) → Go p l e R s m args below meth c n0 Q F B h' (k + 1) (n + i) (mkF m pc' Ls (.ref a :: st))) : Go p l e R s m args below meth c n0 Q F B h k n (mkF m pc Ls st) := by
  subst hp
  intro T locs X eT N hB
  obtain ⟨T', h', X', e', E, A, D, -, q⟩ := Jvm.RoadKit.newO X K.cx K.cz K.co w wi wz eT (g := mkF m pc Ls st) rfl (hb K.cb hd) hc hl
  obtain ⟨s₂, o, r1, r2⟩ := H h' h.size rfl E A D T' locs X' e' N (Nat.le_trans hB E.1)
  exact ⟨s₂, o, q _ r1, r2⟩
theorem Go.newP (K : Ctx p s m meth c Z own bs ml ret nm R F B) {aty : ArrayType} {z : Int32} (w : (Jvm.Cond.arrayClass (newarray.typeOf aty)).before a0 Z = true) (hz : ¬ z < 0) (cap : Nat) (hcap : z.toNatClampNeg ≤ cap) (hb8 : cap * 8 ≤ 536870912) (hc : k + 1 ≤ R.cells) (hl : n + cap ≤ R.slots) (hd : decode bs pc = .ok (.newarray aty, 2)) (hp : pc + 2 = pc')
    (H : ∀ h' a kA, a = h.size → Ext h h' → Arv Z h' a kA (newarray.typeOf aty) z [] (defaultValue (newarray.typeOf aty)) → Go p l e R s m args below meth c n0 Q F B h' (k + 1) (n + cap) (mkF m pc' Ls (.ref a :: st))) : Go p l e R s m args below meth c n0 Q F B h k n (mkF m pc Ls (.int z :: st)) := by
  subst hp
  intro T locs X eT N hB
  obtain ⟨T', h', kA, X', e', E, A, q⟩ := Jvm.RoadKit.newP X K.cx K.cz w eT (g := mkF m pc Ls (.int z :: st)) rfl (hb K.cb hd) rfl hz hcap hb8 hc hl
  obtain ⟨s₂, o, r1, r2⟩ := H h' h.size kA rfl E (Arv.new A hz) T' locs X' e' N (Nat.le_trans hB E.1)
  exact ⟨s₂, o, q _ r1, r2⟩
theorem Go.newR (K : Ctx p s m meth c Z own bs ml ret nm R F B) {C : String} {j : Nat} {z : Int32} (w : (Jvm.Cond.classLink own j C).before a0 Z = true) (w2 : (Jvm.Cond.arrayOver (.object C)).before a0 Z = true) (hz : ¬ z < 0) (cap : Nat) (hcap : z.toNatClampNeg ≤ cap) (hb8 : cap * 8 ≤ 536870912) (hc : k + 1 ≤ R.cells) (hl : n + cap ≤ R.slots) (hd : decode bs pc = .ok (.anewarray j, 3)) (hp : pc + 3 = pc')
    (H : ∀ h' a kA, a = h.size → Ext h h' → Arv Z h' a kA (.object C) z [] .null → Ovr Z kA C → Go p l e R s m args below meth c n0 Q F B h' (k + 1) (n + cap) (mkF m pc' Ls (.ref a :: st))) : Go p l e R s m args below meth c n0 Q F B h k n (mkF m pc Ls (.int z :: st)) := by
  subst hp
  intro T locs X eT N hB
  obtain ⟨T', h', kA, X', e', E, A, O, q⟩ := Jvm.RoadKit.newR X K.cx K.cz K.co w w2 eT (g := mkF m pc Ls (.int z :: st)) rfl (hb K.cb hd) rfl hz hcap hb8 hc hl
  obtain ⟨s₂, o, r1, r2⟩ := H h' h.size kA rfl E (Arv.new A hz) O T' locs X' e' N (Nat.le_trans hB E.1)
  exact ⟨s₂, o, q _ r1, r2⟩
/-- castore at the known place i of an array whose first places are said -/
theorem Go.castore (K : Ctx p s m meth c Z own bs ml ret nm R F B) {a : Addr} {kA : ClassId} {z j x : Int32} {vs : List Value} {dv : Value} (V : Arv Z h a kA .char z vs dv) (i : Nat) (hj : j.toNatClampNeg = i) (hi : i < vs.length) (hin : ¬ j < 0 ∧ j < z) (ha : n0 ≤ a) (hd : decode bs pc = .ok (.castore, 1)) (hp : pc + 1 = pc')
    (H : ∀ h', Keep h h' [a] → Arv Z h' a kA .char z (vs.set i (.int (nar .char x))) dv → Go p l e R s m args below meth c n0 Q F B h' k n (mkF m pc' Ls st)) : Go p l e R s m args below meth c n0 Q F B h k n (mkF m pc Ls (.int x :: .int j :: .ref a :: st)) := by
  subst hp
  intro T locs X eT N hB
  obtain ⟨cl, A, q1, S, q3, Hs, G⟩ := V
  obtain ⟨T', h', X', e', W, q⟩ := stC X K.cx K.cz eT A (j := j) (inb_of S hin) (g := mkF m pc Ls (.int x :: .int j :: .ref a :: st)) rfl rfl (hb K.cb hd)
  obtain ⟨s₂, o, r1, r2⟩ := H h' (Keep.of_wr W) (Arv.set A q1 S q3 Hs G (fits_nar_char _) W i hj hi) T' _ X' e' (Fr.snoc X' N ha) (Nat.le_trans hB (Keep.of_wr W).1)
  exact ⟨s₂, o, q _ r1, r2⟩
theorem Go.iastore (K : Ctx p s m meth c Z own bs ml ret nm R F B) {a : Addr} {kA : ClassId} {z j x : Int32} {vs : List Value} {dv : Value} (V : Arv Z h a kA .int z vs dv) (i : Nat) (hj : j.toNatClampNeg = i) (hi : i < vs.length) (hin : ¬ j < 0 ∧ j < z) (ha : n0 ≤ a) (hd : decode bs pc = .ok (.iastore, 1)) (hp : pc + 1 = pc')
    (H : ∀ h', Keep h h' [a] → Arv Z h' a kA .int z (vs.set i (.int x)) dv → Go p l e R s m args below meth c n0 Q F B h' k n (mkF m pc' Ls st)) : Go p l e R s m args below meth c n0 Q F B h k n (mkF m pc Ls (.int x :: .int j :: .ref a :: st)) := by
  subst hp
  intro T locs X eT N hB
  obtain ⟨cl, A, q1, S, q3, Hs, G⟩ := V
  obtain ⟨T', h', X', e', W, q⟩ := stI X K.cx K.cz eT A (j := j) (inb_of S hin) (g := mkF m pc Ls (.int x :: .int j :: .ref a :: st)) rfl rfl (hb K.cb hd)
  obtain ⟨s₂, o, r1, r2⟩ := H h' (Keep.of_wr W) (Arv.set A q1 S q3 Hs G rfl W i hj hi) T' _ X' e' (Fr.snoc X' N ha) (Nat.le_trans hB (Keep.of_wr W).1)
  exact ⟨s₂, o, q _ r1, r2⟩
theorem Go.bastore (K : Ctx p s m meth c Z own bs ml ret nm R F B) {a : Addr} {kA : ClassId} {z j x : Int32} {vs : List Value} {dv : Value} (V : Arv Z h a kA .byte z vs dv) (i : Nat) (hj : j.toNatClampNeg = i) (hi : i < vs.length) (hin : ¬ j < 0 ∧ j < z) (ha : n0 ≤ a) (hd : decode bs pc = .ok (.bastore, 1)) (hp : pc + 1 = pc')
    (H : ∀ h', Keep h h' [a] → Arv Z h' a kA .byte z (vs.set i (.int (nar .byte x))) dv → Go p l e R s m args below meth c n0 Q F B h' k n (mkF m pc' Ls st)) : Go p l e R s m args below meth c n0 Q F B h k n (mkF m pc Ls (.int x :: .int j :: .ref a :: st)) := by
  subst hp
  intro T locs X eT N hB
  obtain ⟨cl, A, q1, S, q3, Hs, G⟩ := V
  obtain ⟨T', h', X', e', W, q⟩ := stB X K.cx K.cz eT A (j := j) (inb_of S hin) (g := mkF m pc Ls (.int x :: .int j :: .ref a :: st)) rfl rfl (hb K.cb hd)
  obtain ⟨s₂, o, r1, r2⟩ := H h' (Keep.of_wr W) (Arv.set A q1 S q3 Hs G (fits_nar_byte _) W i hj hi) T' _ X' e' (Fr.snoc X' N ha) (Nat.le_trans hB (Keep.of_wr W).1)
  exact ⟨s₂, o, q _ r1, r2⟩
theorem Go.bzstore (K : Ctx p s m meth c Z own bs ml ret nm R F B) {a : Addr} {kA : ClassId} {z j x : Int32} {vs : List Value} {dv : Value} (V : Arv Z h a kA .boolean z vs dv) (i : Nat) (hj : j.toNatClampNeg = i) (hi : i < vs.length) (hin : ¬ j < 0 ∧ j < z) (ha : n0 ≤ a) (hd : decode bs pc = .ok (.bastore, 1)) (hp : pc + 1 = pc')
    (H : ∀ h', Keep h h' [a] → Arv Z h' a kA .boolean z (vs.set i (.int (nar .boolean x))) dv → Go p l e R s m args below meth c n0 Q F B h' k n (mkF m pc' Ls st)) : Go p l e R s m args below meth c n0 Q F B h k n (mkF m pc Ls (.int x :: .int j :: .ref a :: st)) := by
  subst hp
  intro T locs X eT N hB
  obtain ⟨cl, A, q1, S, q3, Hs, G⟩ := V
  obtain ⟨T', h', X', e', W, q⟩ := stZ X K.cx K.cz eT A (j := j) (inb_of S hin) (g := mkF m pc Ls (.int x :: .int j :: .ref a :: st)) rfl rfl (hb K.cb hd)
  obtain ⟨s₂, o, r1, r2⟩ := H h' (Keep.of_wr W) (Arv.set A q1 S q3 Hs G (fits_nar_bool _) W i hj hi) T' _ X' e' (Fr.snoc X' N ha) (Nat.le_trans hB (Keep.of_wr W).1)
  exact ⟨s₂, o, q _ r1, r2⟩
theorem Go.aastore (K : Ctx p s m meth c Z own bs ml ret nm R F B) {a : Addr} {kA : ClassId} {C : String} {z j : Int32} {v : Value} {vs : List Value} {dv : Value} (V : Arv Z h a kA (.object C) z vs dv) (S0 : v = .null ∨ ∃ y, v = .ref y ∧ Ovr Z kA C ∧ Ins Z h y C true) (i : Nat) (hj : j.toNatClampNeg = i) (hi : i < vs.length) (hin : ¬ j < 0 ∧ j < z) (ha : n0 ≤ a) (hd : decode bs pc = .ok (.aastore, 1)) (hp : pc + 1 = pc')
    (H : ∀ h', Keep h h' [a] → Arv Z h' a kA (.object C) z (vs.set i v) dv → Go p l e R s m args below meth c n0 Q F B h' k n (mkF m pc' Ls st)) : Go p l e R s m args below meth c n0 Q F B h k n (mkF m pc Ls (v :: .int j :: .ref a :: st)) := by
  subst hp
  intro T locs X eT N hB
  obtain ⟨cl, A, q1, S, q3, Hs, G⟩ := V
  have Fs : Sto Z h a v := by
    rcases S0 with rfl | ⟨y, rfl, O, I⟩
    · exact Or.inl rfl
    · exact Sto.ofV A q1 O I
  have hf : fits (.object C) v = true := by
    rcases S0 with rfl | ⟨y, rfl, O, I⟩ <;> rfl
  obtain ⟨T', h', X', e', W, q⟩ := stR X K.cx K.cz eT A (j := j) (inb_of S hin) rfl Fs (g := mkF m pc Ls (v :: .int j :: .ref a :: st)) rfl rfl (hb K.cb hd)
  obtain ⟨s₂, o, r1, r2⟩ := H h' (Keep.of_wr W) (Arv.set A q1 S q3 Hs G hf W i hj hi) T' _ X' e' (Fr.snoc X' N ha) (Nat.le_trans hB (Keep.of_wr W).1)
  exact ⟨s₂, o, q _ r1, r2⟩
theorem Go.arraylength (K : Ctx p s m meth c Z own bs ml ret nm R F B) {a : Addr} {kA : ClassId} {ty : FieldType} {z : Int32} {vs : List Value} {dv : Value} (V : Arv Z h a kA ty z vs dv) (hd : decode bs pc = .ok (.arraylength, 1)) (hp : pc + 1 = pc')
    (H : Go p l e R s m args below meth c n0 Q F B h k n (mkF m pc' Ls (.int z :: st))) : Go p l e R s m args below meth c n0 Q F B h k n (mkF m pc Ls (.ref a :: st)) := by
  subst hp
  obtain ⟨cl, A, q1, S, q3, Hs, G⟩ := V
  refine H.by fun T _ X eT t q => X.arraylength K.cx (by rw [eT]; exact A.1) (State.isArrayOf_alike K.cz.alike A.2.1) (g := mkF m pc Ls (.ref a :: st)) rfl rfl (hb K.cb hd) t ?_
  rw [len_of S q3]
  exact q
theorem Go.caload (K : Ctx p s m meth c Z own bs ml ret nm R F B) {a : Addr} {kA : ClassId} {z j : Int32} {vs : List Value} {dv v : Value} (V : Arv Z h a kA .char z vs dv) (hin : ¬ j < 0 ∧ j < z) (hv : vs.getD j.toNatClampNeg dv = v) (hd : decode bs pc = .ok (.caload, 1)) (hp : pc + 1 = pc')
    (H : Go p l e R s m args below meth c n0 Q F B h k n (mkF m pc' Ls (v :: st))) : Go p l e R s m args below meth c n0 Q F B h k n (mkF m pc Ls (.int j :: .ref a :: st)) := by
  subst hp
  obtain ⟨cl, A, q1, S, q3, Hs, G⟩ := V
  exact H.by fun T _ X eT t q => X.caload K.cx (by rw [eT]; exact A.1) (State.isArrayOf_alike K.cz.alike A.2.1) A.2.2 (inb_of S hin) (Hs.at (inb_of S hin) hv) (g := mkF m pc Ls (.int j :: .ref a :: st)) rfl rfl (hb K.cb hd) t q
theorem Go.iaload (K : Ctx p s m meth c Z own bs ml ret nm R F B) {a : Addr} {kA : ClassId} {z j : Int32} {vs : List Value} {dv v : Value} (V : Arv Z h a kA .int z vs dv) (hin : ¬ j < 0 ∧ j < z) (hv : vs.getD j.toNatClampNeg dv = v) (hd : decode bs pc = .ok (.iaload, 1)) (hp : pc + 1 = pc')
    (H : Go p l e R s m args below meth c n0 Q F B h k n (mkF m pc' Ls (v :: st))) : Go p l e R s m args below meth c n0 Q F B h k n (mkF m pc Ls (.int j :: .ref a :: st)) := by
  subst hp
  obtain ⟨cl, A, q1, S, q3, Hs, G⟩ := V
  exact H.by fun T _ X eT t q => X.iaload K.cx (by rw [eT]; exact A.1) (State.isArrayOf_alike K.cz.alike A.2.1) A.2.2 (inb_of S hin) (Hs.at (inb_of S hin) hv) (g := mkF m pc Ls (.int j :: .ref a :: st)) rfl rfl (hb K.cb hd) t q
theorem Go.baload (K : Ctx p s m meth c Z own bs ml ret nm R F B) {a : Addr} {kA : ClassId} {z j : Int32} {vs : List Value} {dv v : Value} (V : Arv Z h a kA .byte z vs dv) (hin : ¬ j < 0 ∧ j < z) (hv : vs.getD j.toNatClampNeg dv = v) (hd : decode bs pc = .ok (.baload, 1)) (hp : pc + 1 = pc')
    (H : Go p l e R s m args below meth c n0 Q F B h k n (mkF m pc' Ls (v :: st))) : Go p l e R s m args below meth c n0 Q F B h k n (mkF m pc Ls (.int j :: .ref a :: st)) := by
  subst hp
  obtain ⟨cl, A, q1, S, q3, Hs, G⟩ := V
  exact H.by fun T _ X eT t q => X.baloadBytes K.cx (by rw [eT]; exact A.1) (State.isArrayOf_alike K.cz.alike A.2.1) A.2.2 (inb_of S hin) (Hs.at (inb_of S hin) hv) (g := mkF m pc Ls (.int j :: .ref a :: st)) rfl rfl (hb K.cb hd) t q
theorem Go.aaload (K : Ctx p s m meth c Z own bs ml ret nm R F B) {a : Addr} {kA : ClassId} {C : String} {z j : Int32} {vs : List Value} {dv v : Value} (V : Arv Z h a kA (.object C) z vs dv) (hin : ¬ j < 0 ∧ j < z) (hv : vs.getD j.toNatClampNeg dv = v) (hd : decode bs pc = .ok (.aaload, 1)) (hp : pc + 1 = pc')
    (H : Go p l e R s m args below meth c n0 Q F B h k n (mkF m pc' Ls (v :: st))) : Go p l e R s m args below meth c n0 Q F B h k n (mkF m pc Ls (.int j :: .ref a :: st)) := by
  subst hp
  obtain ⟨cl, A, q1, S, q3, Hs, G⟩ := V
  exact H.by fun T _ X eT t q => X.aaload K.cx (by rw [eT]; exact A.1) (State.isArrayOf_alike K.cz.alike A.2.1) rfl A.2.2 (inb_of S hin) (Hs.at (inb_of S hin) hv) (g := mkF m pc Ls (.int j :: .ref a :: st)) rfl rfl (hb K.cb hd) t q
theorem Go.castY (K : Ctx p s m meth c Z own bs ml ret nm R F B) {C : String} {j : Nat} {a : Addr} (w : (Jvm.Cond.classLink own j C).before a0 Z = true) (Fa : Ins Z h a C true) (hd : decode bs pc = .ok (.checkcast j, 3)) (hp : pc + 3 = pc')
    (H : Go p l e R s m args below meth c n0 Q F B h k n (mkF m pc' Ls (.ref a :: st))) : Go p l e R s m args below meth c n0 Q F B h k n (mkF m pc Ls (.ref a :: st)) := by
  subst hp
  intro T locs X eT N hB
  obtain ⟨T', X', e', q⟩ := Jvm.RoadKit.castY X K.cx K.cz K.co w eT Fa (g := mkF m pc Ls (.ref a :: st)) rfl rfl (hb K.cb hd)
  obtain ⟨s₂, o, r1, r2⟩ := H T' locs X' e' N hB
  exact ⟨s₂, o, q _ r1, r2⟩
theorem Go.instY (K : Ctx p s m meth c Z own bs ml ret nm R F B) {C : String} {j : Nat} {a : Addr} (w : (Jvm.Cond.classLink own j C).before a0 Z = true) (Fa : Ins Z h a C true) (hd : decode bs pc = .ok (.instanceof j, 3)) (hp : pc + 3 = pc')
    (H : Go p l e R s m args below meth c n0 Q F B h k n (mkF m pc' Ls (.int 1 :: st))) : Go p l e R s m args below meth c n0 Q F B h k n (mkF m pc Ls (.ref a :: st)) := by
  subst hp
  intro T locs X eT N hB
  obtain ⟨T', X', e', q⟩ := Jvm.RoadKit.instY X K.cx K.cz K.co w eT Fa (g := mkF m pc Ls (.ref a :: st)) rfl rfl (hb K.cb hd)
  obtain ⟨s₂, o, r1, r2⟩ := H T' locs X' e' N hB
  exact ⟨s₂, o, q _ r1, r2⟩
theorem Go.initO (K : Ctx p s m meth c Z own bs ml ret nm R F B) {j : Nat} {a : Addr} (w1 : (Jvm.Cond.methodLink own j Lib.objectInit).before a0 Z = true) (w2 : (Jvm.Cond.instanceMethod Lib.objectInit).before a0 Z = true) (w3 : (Jvm.Cond.code Lib.objectInit ⟨#[0xb1]⟩ 1 none).before a0 Z = true) (hml : Ls.size = ml) (hf : 1 ≤ R.frames) (W : Nat) (hW : (st.map fun v => v.category).sum ≤ W) (hl : W + 12 ≤ R.locals) (hd : decode bs pc = .ok (.invokespecial j, 3)) (hp : pc + 3 = pc')
    (H : Go p l e R s m args below meth c n0 Q F B h k n (mkF m pc' Ls st)) : Go p l e R s m args below meth c n0 Q F B h k n (mkF m pc Ls (.ref a :: st)) := by
  subst hp
  intro T locs X eT N hB
  obtain ⟨T', X', e', q⟩ := Jvm.RoadKit.initO X K.cx K.cz K.co w1 w2 w3 eT (g := mkF m pc Ls (.ref a :: st)) rfl (hml.trans K.cl.symm) rfl (hb K.cb hd) hf (W := W) (by show 2 * 0 + _ ≤ _; omega) hl
  obtain ⟨s₂, o, r1, r2⟩ := H T' locs X' e' N hB
  exact ⟨s₂, o, q _ r1, r2⟩
/-! calls -/
theorem Go.callS (K : Ctx p s m meth c Z own bs ml ret nm R F B) {j : Nat} {y : MethodName} {bytes : ByteArray} {maxL : Nat} {rt : Option FieldType} {W kc nc : Nat} {Qc : Option Value → Heap → List Loc → Prop} {argsL : List Value}
    (w1 : (Jvm.Cond.methodLink own j y).before args s = true) (w2 : (Jvm.Cond.static y).before args s = true) (w3 : (Jvm.Cond.initialized y.cls).before args s = true) (w4 : (Jvm.Cond.code y bytes maxL rt).before args s = true) (hy : y.cls ≠ "java/lang/invoke/MethodHandle" ∧ y.cls ≠ "java/lang/invoke/VarHandle")
    (hK : Pays l R p e below s args y 3 W argsL.toArray h kc nc Qc) (hml : Ls.size = ml) (hlen : ∀ sig, parseMethodDescriptor y.desc = some sig → argsL.length = sig.parameters.length) (hst : st = argsL.reverse ++ rest) (hW : (rest.map fun v => v.category).sum ≤ W) (hc : k + kc ≤ R.cells) (hs : n + nc ≤ R.slots) (hfr : ∀ v h' L, Qc v h' L → Fr n0 L) (hgr : ∀ v h' L, Qc v h' L → h.size ≤ h'.size) (hd : decode bs pc = .ok (.invokestatic j, 3)) (hp : pc + 3 = pc')
    (H : ∀ v h' L, Qc v h' L → Go p l e R s m args below meth c n0 Q F B h' (k + kc) (n + nc) (mkF m pc' Ls (v.toList ++ rest))) : Go p l e R s m args below meth c n0 Q F B h k n (mkF m pc Ls st) := by
  subst hp hst
  intro T locs X eT N hB
  obtain ⟨v, vm₁, ⟨T', L', k', n'⟩, -, X', ⟨L, hq, l1, y1, z1⟩, q⟩ := Jvm.LawKit.callS X K.cx (y := y) (bytes := bytes) (maxL := maxL) (ret := rt) K.co w1 w2 w3 w4 hy hK (g := mkF m pc Ls (argsL.reverse ++ rest)) rfl (hml.trans K.cl.symm) (argsL := argsL) (rest := rest) hlen rfl (by show 2 * 0 + _ ≤ _; omega) (hb K.cb hd) (fun _ _ => ⟨rfl, eT, hc, hs⟩)
  dsimp only [Pt.U, Pt.locs, Pt.cells, Pt.slots] at X' l1 y1 z1 q hq
  subst l1 y1 z1
  obtain ⟨s₂, o, r1, r2⟩ := H v _ L hq T' _ X' rfl (N.app (hfr _ _ _ hq)) (Nat.le_trans hB (hgr _ _ _ hq))
  exact ⟨s₂, o, q _ r1, r2⟩
theorem Go.callC (K : Ctx p s m meth c Z own bs ml ret nm R F B) {j : Nat} {y : MethodName} {bytes : ByteArray} {maxL : Nat} {W kc nc : Nat} {a : Addr} {Qc : Option Value → Heap → List Loc → Prop} {argsL : List Value} (hy1 : y.name = "<init>")
    (w1 : (Jvm.Cond.methodLink own j y).before args s = true) (w2 : (Jvm.Cond.instanceMethod y).before args s = true) (w4 : (Jvm.Cond.code y bytes maxL none).before args s = true) (hy : y.cls ≠ "java/lang/invoke/MethodHandle" ∧ y.cls ≠ "java/lang/invoke/VarHandle")
    (hK : Pays l R p e below s args y 3 W (.ref a :: argsL).toArray h kc nc Qc) (hml : Ls.size = ml) (hlen : ∀ sig, parseMethodDescriptor y.desc = some sig → argsL.length = sig.parameters.length) (hst : st = argsL.reverse ++ .ref a :: rest) (hW : (rest.map fun v => v.category).sum ≤ W) (hc : k + kc ≤ R.cells) (hs : n + nc ≤ R.slots) (hfr : ∀ v h' L, Qc v h' L → Fr n0 L) (hgr : ∀ v h' L, Qc v h' L → h.size ≤ h'.size) (hd : decode bs pc = .ok (.invokespecial j, 3)) (hp : pc + 3 = pc')
    (H : ∀ v h' L, Qc v h' L → Go p l e R s m args below meth c n0 Q F B h' (k + kc) (n + nc) (mkF m pc' Ls (v.toList ++ rest))) : Go p l e R s m args below meth c n0 Q F B h k n (mkF m pc Ls st) := by
  subst hp hst
  intro T locs X eT N hB
  obtain ⟨v, vm₁, ⟨T', L', k', n'⟩, -, X', ⟨L, hq, l1, y1, z1⟩, q⟩ := X.specialBack K.cx (y := y) (bytes := bytes) (maxL := maxL) hy1 K.co w1 w2 w4 hy hK (g := mkF m pc Ls (argsL.reverse ++ .ref a :: rest)) rfl (hml.trans K.cl.symm) (Steps.refl _) (a := a) (argsL := argsL) (rest := rest) hlen rfl (by show 2 * 0 + _ ≤ _; omega) (hb K.cb hd) (fun _ _ => ⟨rfl, eT, hc, hs⟩)
  dsimp only [Pt.U, Pt.locs, Pt.cells, Pt.slots] at X' l1 y1 z1 q hq
  subst l1 y1 z1
  obtain ⟨s₂, o, r1, r2⟩ := H v _ L hq T' _ X' rfl (N.app (hfr _ _ _ hq)) (Nat.le_trans hB (hgr _ _ _ hq))
  exact ⟨s₂, o, q.trans r1, r2⟩
theorem Go.callV (K : Ctx p s m meth c Z own bs ml ret nm R F B) {j : Nat} {C : String} {y z : MethodName} {W kc nc : Nat} {a : Addr} {Qc : Option Value → Heap → List Loc → Prop} {argsL : List Value}
    (w1 : (Jvm.Cond.methodLink own j y).before args s = true) (w2 : (Jvm.Cond.declares y).before args s = true) (hnf : NotFace s y) (w3 : (Jvm.Cond.selects C y z).before args s = true) (w4 : (Jvm.Cond.instanceMethod z).before args s = true) (hy : y.cls ≠ "java/lang/invoke/MethodHandle" ∧ y.cls ≠ "java/lang/invoke/VarHandle") (E : Exa Z h a C)
    (hK : Pays l R p e below s args z 3 W (.ref a :: argsL).toArray h kc nc Qc) (hml : Ls.size = ml) (hlen : ∀ sig, parseMethodDescriptor y.desc = some sig → argsL.length = sig.parameters.length) (hst : st = argsL.reverse ++ .ref a :: rest) (hW : (rest.map fun v => v.category).sum ≤ W) (hc : k + kc ≤ R.cells) (hs : n + nc ≤ R.slots) (hfr : ∀ v h' L, Qc v h' L → Fr n0 L) (hgr : ∀ v h' L, Qc v h' L → h.size ≤ h'.size) (hd : decode bs pc = .ok (.invokevirtual j, 3)) (hp : pc + 3 = pc')
    (H : ∀ v h' L, Qc v h' L → Go p l e R s m args below meth c n0 Q F B h' (k + kc) (n + nc) (mkF m pc' Ls (v.toList ++ rest))) : Go p l e R s m args below meth c n0 Q F B h k n (mkF m pc Ls st) := by
  subst hp hst
  intro T locs X eT N hB
  obtain ⟨cq, kq, qa, qb, qc⟩ := isOf K.cz eT E
  obtain ⟨v, vm₁, ⟨T', L', k', n'⟩, -, X', ⟨L, hq, l1, y1, z1⟩, q⟩ := X.virtualBack K.cx (y := y) (z := z) K.co w1 w2 hnf w3 w4 hy hK qa qc (g := mkF m pc Ls (argsL.reverse ++ .ref a :: rest)) rfl (hml.trans K.cl.symm) (Steps.refl _) (argsL := argsL) (rest := rest) hlen rfl (by show 2 * 0 + _ ≤ _; omega) (hb K.cb hd) (fun _ _ => ⟨rfl, eT, hc, hs⟩)
  dsimp only [Pt.U, Pt.locs, Pt.cells, Pt.slots] at X' l1 y1 z1 q hq
  subst l1 y1 z1
  obtain ⟨s₂, o, r1, r2⟩ := H v _ L hq T' _ X' rfl (N.app (hfr _ _ _ hq)) (Nat.le_trans hB (hgr _ _ _ hq))
  exact ⟨s₂, o, q.trans r1, r2⟩
theorem nar_ref {C : String} {v : Value} (h : v.isRef = true) : narrow (.object C) v = v := by cases v <;> first | rfl | simp [Value.isRef] at h
theorem fit_ref {C : String} {v : Value} (h : v.isRef = true) : fits (.object C) v = true := by cases v <;> first | rfl | simp [Value.isRef] at h
/-! the ends -/
theorem Go.retN {t : FieldType} (K : Ctx p s m meth c Z own bs ml (some t) nm R F B) {x : Int32} (ht : t = .boolean ∨ t = .byte ∨ t = .char ∨ t = .short) (hk : k ≤ R.cells) (hn : n ≤ R.slots) (hd : decode bs pc = .ok (.ireturn, 1)) (q : ∀ (T : State) (locs : List Loc), Stand p l e R s m args below meth c T locs k n → T.heap = h → Q (some (.int (nar t x))) T.vm h) : Go p l e R s m args below meth c n0 Q F B h k n (mkF m pc Ls (.int x :: st)) := by
  intro T locs X eT N hB
  obtain ⟨fs, hr, hrun, hended, hW, hsame⟩ := X.leave (v := some (.int (nar t x))) (fun h => by rw [K.cr] at h; cases h) K.ck
  exact ⟨_, _, Jvm.RoadKit.retN X K.cx K.cr ht (hb K.cb hd) hr, hrun, hended, _, _, rfl, ⟨(show Q _ T.vm T.heap by rw [eT]; exact q T locs X eT), N⟩, K.ce _ _ _ _ _ hW hsame (by show B ≤ T.heap.size; rw [eT]; exact hB) hk hn⟩
theorem Go.retI (K : Ctx p s m meth c Z own bs ml (some .int) nm R F B) {x : Int32} (hk : k ≤ R.cells) (hn : n ≤ R.slots) (hd : decode bs pc = .ok (.ireturn, 1)) (q : ∀ (T : State) (locs : List Loc), Stand p l e R s m args below meth c T locs k n → T.heap = h → Q (some (.int x)) T.vm h) : Go p l e R s m args below meth c n0 Q F B h k n (mkF m pc Ls (.int x :: st)) := by
  intro T locs X eT N hB
  obtain ⟨fs, hr, hrun, hended, hW, hsame⟩ := X.leave (v := some (.int x)) (fun h => by rw [K.cr] at h; cases h) K.ck
  exact ⟨_, _, Jvm.RoadKit.retI X K.cx K.cr (hb K.cb hd) hr, hrun, hended, _, _, rfl, ⟨(show Q _ T.vm T.heap by rw [eT]; exact q T locs X eT), N⟩, K.ce _ _ _ _ _ hW hsame (by show B ≤ T.heap.size; rw [eT]; exact hB) hk hn⟩
theorem Go.retA {t : FieldType} (K : Ctx p s m meth c Z own bs ml (some t) nm R F B) {v : Value} (hnn : narrow t v = v) (ht : t.isReference = true) (hv : v.isRef = true) (hk : k ≤ R.cells) (hn : n ≤ R.slots) (hd : decode bs pc = .ok (.areturn, 1)) (q : ∀ (T : State) (locs : List Loc), Stand p l e R s m args below meth c T locs k n → T.heap = h → Q (some v) T.vm h) : Go p l e R s m args below meth c n0 Q F B h k n (mkF m pc Ls (v :: st)) := by
  intro T locs X eT N hB
  obtain ⟨fs, hr, hrun, hended, hW, hsame⟩ := X.leave (v := some v) (fun h => by rw [K.cr] at h; cases h) K.ck
  exact ⟨_, _, Jvm.RoadKit.retR X K.cx K.cr hnn ht hv (hb K.cb hd) hr, hrun, hended, _, _, rfl, ⟨(show Q _ T.vm T.heap by rw [eT]; exact q T locs X eT), N⟩, K.ce _ _ _ _ _ hW hsame (by show B ≤ T.heap.size; rw [eT]; exact hB) hk hn⟩
theorem Go.retJ (K : Ctx p s m meth c Z own bs ml (some .long) nm R F B) {x : Int64} (hk : k ≤ R.cells) (hn : n ≤ R.slots) (hd : decode bs pc = .ok (.lreturn, 1)) (q : ∀ (T : State) (locs : List Loc), Stand p l e R s m args below meth c T locs k n → T.heap = h → Q (some (.long x)) T.vm h) : Go p l e R s m args below meth c n0 Q F B h k n (mkF m pc Ls (.long x :: st)) := by
  intro T locs X eT N hB
  obtain ⟨fs, hr, hrun, hended, hW, hsame⟩ := X.leave (v := some (.long x)) (fun h => by rw [K.cr] at h; cases h) K.ck
  exact ⟨_, _, Jvm.RoadKit.retL X K.cx K.cr (hb K.cb hd) hr, hrun, hended, _, _, rfl, ⟨(show Q _ T.vm T.heap by rw [eT]; exact q T locs X eT), N⟩, K.ce _ _ _ _ _ hW hsame (by show B ≤ T.heap.size; rw [eT]; exact hB) hk hn⟩
theorem Go.retV (K : Ctx p s m meth c Z own bs ml none nm R F B) (hk : k ≤ R.cells) (hn : n ≤ R.slots) (hd : decode bs pc = .ok (.return_, 1)) (q : ∀ (T : State) (locs : List Loc), Stand p l e R s m args below meth c T locs k n → T.heap = h → Q none T.vm h) : Go p l e R s m args below meth c n0 Q F B h k n (mkF m pc Ls []) := by
  intro T locs X eT N hB
  obtain ⟨fs, hr, hrun, hended, hW, hsame⟩ := X.leave (v := none) (fun _ => rfl) K.ck
  exact ⟨_, _, X.returnOut K.cx K.cr (hb K.cb hd) hr, hrun, hended, _, _, rfl, ⟨(show Q _ T.vm T.heap by rw [eT]; exact q T locs X eT), N⟩, K.ce _ _ _ _ _ hW hsame (by show B ≤ T.heap.size; rw [eT]; exact hB) hk hn⟩
/-- a contract out of a walk -/
theorem Met.of {ws : List Jvm.Cond} {y : MethodName} {rm : Room} {as' : Array Value} {h0 : Heap} {Qm : Option Value → Heap → Prop} (hpl : plainFor y = true)
    (H : ∀ (p : Program) (e : Env) (s : State) (m : MethodId) (below : List Frame) (meth : Method) (c : Code) (F : Outcome → State → List Loc → Prop), Ctx p s m meth c Z y.cls bs ml ret y.name rm F 0 → Go p l e rm s m as' below meth c n0 (fun v _ h => Qm v h) F 0 h0 0 0 (entryFrame m as' ml)) : Met l Z ws y bs ml ret rm as' h0 n0 Qm := by
  refine MetFree.of_bodySF hpl hisR ?_
  intro p e s m args below meth c s₁ Bd hml0 hP hK
  obtain ⟨rfl, hZ, hh⟩ := hP
  have X0 : Stand p l e rm s m args below meth c s₁ [] 0 0 := Stand.of_body Bd
  have e0 : s₁.heap = h0 := by rw [← hh, Bd.state]; rfl
  obtain ⟨s₂, o, r1, r2, r3, v, L, rfl, ⟨q1, q2⟩, q3⟩ := H p e s m below meth c (fun o t L => FrameEnd s o t L rm.cells rm.slots) ⟨Bd.exec, hZ, findClass_of_methodNamed Bd.named, Bd.bytes, hml0, Bd.returns, (name_of_methodNamed Bd.named Bd.method).1, Bd.notSynchronized, fun t v L k n hW hs _ hk hn => ⟨⟨v, rfl⟩, hW, hs.mono hk hn⟩⟩ s₁ [] X0 e0 (Fr.nil n0) (Nat.zero_le _)
  exact ⟨s₂, _, r1, r2, r3, v, L, rfl, ⟨⟨q1, q2⟩, by have := q3.2.2.2.1; rw [← hh]; exact this⟩, q3⟩
theorem MetK.of {ws : List Jvm.Cond} {y : MethodName} {rm : Room} {as' : Array Value} {h0 : Heap} {Qm : Option Value → Heap → Prop} (hpl : plainFor y = true)
    (H : ∀ (p : Program) (e : Env) (s : State) (m : MethodId) (below : List Frame) (meth : Method) (c : Code) (F : Outcome → State → List Loc → Prop), s.heap = h0 → s.vm.MethodsKnown → s.vm.FramesKnown below → Ctx p s m meth c Z y.cls bs ml ret y.name rm F 0 → Go p l e rm s m as' below meth c n0 (fun v _ h => Qm v h) F 0 h0 0 0 (entryFrame m as' ml)) : MetK l Z ws y bs ml ret rm as' h0 n0 Qm := by
  refine MetFree.of_bodySF hpl hisR ?_
  intro p e s m args below meth c s₁ Bd hml0 hP hK
  obtain ⟨rfl, hZ, hh⟩ := hP
  have X0 : Stand p l e rm s m args below meth c s₁ [] 0 0 := Stand.of_body Bd
  have e0 : s₁.heap = h0 := by rw [← hh, Bd.state]; rfl
  obtain ⟨s₂, o, r1, r2, r3, v, L, rfl, ⟨q1, q2⟩, q3⟩ := H p e s m below meth c (fun o t L => FrameEnd s o t L rm.cells rm.slots) hh hK.1 hK.2 ⟨Bd.exec, hZ, findClass_of_methodNamed Bd.named, Bd.bytes, hml0, Bd.returns, (name_of_methodNamed Bd.named Bd.method).1, Bd.notSynchronized, fun t v L k n hW hs _ hk hn => ⟨⟨v, rfl⟩, hW, hs.mono hk hn⟩⟩ s₁ [] X0 e0 (Fr.nil n0) (Nat.zero_le _)
  exact ⟨s₂, _, r1, r2, r3, v, L, rfl, ⟨⟨q1, q2⟩, by have := q3.2.2.2.1; rw [← hh]; exact this⟩, q3⟩
theorem Met.pays {y : MethodName} {rm : Room} {as' : Array Value} {h0 : Heap} {len W : Nat} {Qm : Option Value → Heap → Prop} (M : Met l Z [] y bs ml ret rm as' h0 n0 Qm) (hZ : Z.Warmed39 s.vm) (wc : (Jvm.Cond.code y bs ml ret).before a0 Z = true) (wz : (Jvm.Cond.initialized y.cls).before a0 Z = true) (hf : rm.frames + 1 ≤ R.frames) (hl : W + (ml + 11) + rm.locals ≤ R.locals) :
    Pays l R p e below s args y len W as' h0 rm.cells rm.slots (fun v h L => (Qm v h ∧ Fr n0 L) ∧ h0.size ≤ h.size) :=
  backOf (Q := fun v h L => (Qm v h ∧ Fr n0 L) ∧ h0.size ≤ h.size) M hZ wc wz hf hl
theorem MetK.pays {y : MethodName} {rm : Room} {as' : Array Value} {h0 : Heap} {len W : Nat} {Qm : Option Value → Heap → Prop} (M : MetK l Z [] y bs ml ret rm as' h0 n0 Qm) (hZ : Z.Warmed39 s.vm) (wc : (Jvm.Cond.code y bs ml ret).before a0 Z = true) (wz : (Jvm.Cond.initialized y.cls).before a0 Z = true) (hf : rm.frames + 1 ≤ R.frames) (hl : W + (ml + 11) + rm.locals ≤ R.locals) (hTK : s.vm.MethodsKnown) (hBelow : s.vm.FramesKnown below) :
    Pays l R p e below s args y len W as' h0 rm.cells rm.slots (fun v h L => (Qm v h ∧ Fr n0 L) ∧ h0.size ≤ h.size) :=
  backOfKL (Q := fun v h L => (Qm v h ∧ Fr n0 L) ∧ h0.size ≤ h.size) M hZ wc wz hf hl hTK hBelow
theorem frOf {n0 N : Nat} {Q : Option Value → Heap → Prop} : ∀ (v : Option Value) (h' : Heap) (L : List Loc), ((Q v h' ∧ Fr n0 L) ∧ N ≤ h'.size) → Fr n0 L := fun _ _ _ q => q.1.2
theorem grOf {n0 N : Nat} {Q : Option Value → Heap → Prop} : ∀ (v : Option Value) (h' : Heap) (L : List Loc), ((Q v h' ∧ Fr n0 L) ∧ N ≤ h'.size) → N ≤ h'.size := fun _ _ _ q => q.2
/-! String constants, and callees that load them -/
section Wide
variable {vm0 : Vm} {EL : List (String × Nat)}
abbrev FW (s : State) (R : Room) : Outcome → State → List Loc → Prop := fun o t L => ReturnedEndW s o t L R.cells R.slots
theorem Ctx.wide {B1 : Nat} {vm1 : Vm} (hS : s.Since vm1 B1) (hx : p.tables.exec = Jvm.exec) (hZ : Z.Warmed39 vm1) (ho : vm1.findClass own = some m.cls) (hby : c.code = bs) (hml : c.maxLocals = ml) (hr : meth.sig.returnType = ret) (hn : meth.name = nm) (hk : meth.locks = false) : Ctx p (s.setVm vm1) m meth c Z own bs ml ret nm R (FW s R) B1 :=
  ⟨hx, hZ, ho, hby, hml, hr, hn, hk, fun t v L k n hW hs hB h1 h2 => by
    obtain ⟨a, b, c'⟩ := hS.ended (U := t) hW hB hs
    exact ⟨⟨v, rfl⟩, a, b, c'.mono h1 h2⟩⟩
/-- ldc of a String constant of which nothing is asked -/
theorem Go.ldcO (K : Ctx p (s.setVm vm0) m meth c Z own bs ml ret nm R (FW s R) B) (hS : s.Since vm0 B) {text : String} {j i : Nat} (w : (Jvm.Cond.stringLink own j text).before a0 Z = true) (wS : ∀ a ∈ Bundle.stringAtoms, a.before a0 Z = true) (hEL : EW Z a0 EL) (HC : CHv Z EL vm0 h) (hi : 4 * text.toList.length ≤ i) (hbig : i ≤ 536870912) (hc : k + 2 ≤ R.cells) (hl : n + (i + 4) ≤ R.slots) (hd : decode bs pc = .ok (.ldc j, 2)) (hp : pc + 2 = pc')
    (H : ∀ a vm1 h' B1, Ext h h' → CHr Z EL vm0 h vm1 h' → s.Since vm1 B1 → Ctx p (s.setVm vm1) m meth c Z own bs ml ret nm R (FW s R) B1 → Go p l e R (s.setVm vm1) m args below meth c n0 Q (FW s R) B1 h' (k + 2) (n + (i + 4)) (mkF m pc' Ls (.ref a :: st))) : Go p l e R (s.setVm vm0) m args below meth c n0 Q (FW s R) B h k n (mkF m pc Ls st) := by
  subst hp
  intro T locs X eT N hB
  obtain ⟨a, T', h', k1, X', e', E, hS', hk', hZ', ho', hr', -, q⟩ := ldcOH X K.cx K.cz K.co w wS eT hS hB hEL HC (g := mkF m pc Ls st) rfl (hb K.cb hd) hi hbig hc hl
  obtain ⟨s₂, o, r1, r2⟩ := H a T'.vm h' k1 E hr' hS' (Ctx.wide hS' K.cx hZ' ho' K.cb K.cl K.cr K.cn K.ck) T' locs X' e' N hk'
  exact ⟨s₂, o, q _ r1, r2⟩
/-- ldc of a String constant that is read -/
theorem Go.ldcV (K : Ctx p (s.setVm vm0) m meth c Z own bs ml ret nm R (FW s R) B) (hS : s.Since vm0 B) {text : String} {j i : Nat} (w : (Jvm.Cond.stringLink own j text).before a0 Z = true) (wS : ∀ a ∈ Bundle.stringAtoms, a.before a0 Z = true) (hEL : EW Z a0 EL) (hmem : (own, j) ∈ EL) (HC : CHv Z EL vm0 h)
    {vs : List Value} {z : Int32} (ht : (∀ c ∈ text.toList, c.toNat < 256) ∧ text.toList.map (fun c => Value.int (Jvm.Lit.byteI c.toNat.toUInt16)) = vs) (hz : ¬ z < 0) (hlz : z.toNatClampNeg = vs.length)
    (hi : 4 * text.toList.length ≤ i) (hbig : i ≤ 536870912) (hc : k + 2 ≤ R.cells) (hl : n + (i + 4) ≤ R.slots) (hd : decode bs pc = .ok (.ldc j, 2)) (hp : pc + 2 = pc')
    (H : ∀ a b kb vm1 h' B1, Ext h h' → CHr Z EL vm0 h vm1 h' → s.Since vm1 B1 → Exa Z h' a "java/lang/String" → Fld Z h' a "java/lang/String" "coder" "B" (.int 0) → Fld Z h' a "java/lang/String" "value" "[B" (.ref b) → Arv Z h' b kb .byte z vs (.int 0) → (∀ x, Safe Z EL vm1 h' x → x ≠ a ∧ x ≠ b) → Ctx p (s.setVm vm1) m meth c Z own bs ml ret nm R (FW s R) B1 →
      Go p l e R (s.setVm vm1) m args below meth c n0 Q (FW s R) B1 h' (k + 2) (n + (i + 4)) (mkF m pc' Ls (.ref a :: st))) : Go p l e R (s.setVm vm0) m args below meth c n0 Q (FW s R) B h k n (mkF m pc Ls st) := by
  subst hp
  intro T locs X eT N hB
  obtain ⟨a, T', h', k1, b, kb, X', e', E, hS', hk', hZ', ho', x1, x2, x3, x4, -, -, hr', -, hsf, q⟩ := ldcCH X K.cx K.cz K.co w wS eT hS hB hEL hmem HC ht hz hlz (g := mkF m pc Ls st) rfl (hb K.cb hd) hi hbig hc hl
  obtain ⟨s₂, o, r1, r2⟩ := H a b kb T'.vm h' k1 E hr' hS' x1 x2 x3 x4 hsf (Ctx.wide hS' K.cx hZ' ho' K.cb K.cl K.cr K.cn K.ck) T' locs X' e' N hk'
  exact ⟨s₂, o, q _ r1, r2⟩
theorem Go.callSW (K : Ctx p (s.setVm vm0) m meth c Z own bs ml ret nm R (FW s R) B) (hS : s.Since vm0 B) {j : Nat} {y : MethodName} {bytes : ByteArray} {maxL : Nat} {rt : Option FieldType} {W kc nc : Nat} {Qc : Option Value → Heap → List Loc → Prop} {argsL : List Value}
    (w1 : (Jvm.Cond.methodLink own j y).before args (s.setVm vm0) = true) (w2 : (Jvm.Cond.static y).before args (s.setVm vm0) = true) (w3 : (Jvm.Cond.initialized y.cls).before args (s.setVm vm0) = true) (w4 : (Jvm.Cond.code y bytes maxL rt).before args (s.setVm vm0) = true) (hy : y.cls ≠ "java/lang/invoke/MethodHandle" ∧ y.cls ≠ "java/lang/invoke/VarHandle")
    (hK : PaysW l R p e below s vm0 args y 3 W argsL.toArray h kc nc Z EL Qc) (hml : Ls.size = ml) (hlen : ∀ sig, parseMethodDescriptor y.desc = some sig → argsL.length = sig.parameters.length) (hst : st = argsL.reverse ++ rest) (hW : (rest.map fun v => v.category).sum ≤ W) (hc : k + kc ≤ R.cells) (hs : n + nc ≤ R.slots) (hfr : ∀ v h' L, Qc v h' L → Fr n0 L) (hd : decode bs pc = .ok (.invokestatic j, 3)) (hp : pc + 3 = pc')
    (H : ∀ v h' L vm1 B1, Qc v h' L → CHr Z EL vm0 h vm1 h' → s.Since vm1 B1 → Ctx p (s.setVm vm1) m meth c Z own bs ml ret nm R (FW s R) B1 → Go p l e R (s.setVm vm1) m args below meth c n0 Q (FW s R) B1 h' (k + kc) (n + nc) (mkF m pc' Ls (v.toList ++ rest))) : Go p l e R (s.setVm vm0) m args below meth c n0 Q (FW s R) B h k n (mkF m pc Ls st) := by
  subst hp hst
  intro T locs X eT N hB
  obtain ⟨v, vm₁, ⟨T', L', k', n'⟩, -, X', hs2, hg, ⟨L, hq, l1, y1, z1, hr⟩, q⟩ := callSS X K.cx (y := y) (bytes := bytes) (maxL := maxL) (ret := rt) K.co w1 w2 w3 w4 hy hK (g := mkF m pc Ls (argsL.reverse ++ rest)) rfl (hml.trans K.cl.symm) (argsL := argsL) (rest := rest) hlen rfl (by show 2 * 0 + _ ≤ _; omega) (hb K.cb hd) (fun _ _ => ⟨rfl, eT, hc, hs⟩)
  dsimp only [Pt.U, Pt.locs, Pt.cells, Pt.slots] at X' l1 y1 z1 q hq hr hs2 hg
  subst l1 y1 z1
  obtain ⟨X2, hS2, hZ2, ho2⟩ := rebS hS (Nat.le_trans hB (Nat.le_of_eq (congrArg Array.size eT.symm))) X' hs2 hg K.cz K.co
  obtain ⟨s₂, o, r1, r2⟩ := H v _ L _ _ hq hr hS2 (Ctx.wide hS2 K.cx hZ2 ho2 K.cb K.cl K.cr K.cn K.ck) T' _ X2 rfl (N.app (hfr _ _ _ hq)) (Nat.le_refl _)
  exact ⟨s₂, o, q.trans r1, r2⟩
theorem Go.callCW (K : Ctx p (s.setVm vm0) m meth c Z own bs ml ret nm R (FW s R) B) (hS : s.Since vm0 B) {j : Nat} {y : MethodName} {bytes : ByteArray} {maxL : Nat} {W kc nc : Nat} {a : Addr} {Qc : Option Value → Heap → List Loc → Prop} {argsL : List Value} (hy1 : y.name = "<init>")
    (w1 : (Jvm.Cond.methodLink own j y).before args (s.setVm vm0) = true) (w2 : (Jvm.Cond.instanceMethod y).before args (s.setVm vm0) = true) (w4 : (Jvm.Cond.code y bytes maxL none).before args (s.setVm vm0) = true) (hy : y.cls ≠ "java/lang/invoke/MethodHandle" ∧ y.cls ≠ "java/lang/invoke/VarHandle")
    (hK : PaysW l R p e below s vm0 args y 3 W (.ref a :: argsL).toArray h kc nc Z EL Qc) (hml : Ls.size = ml) (hlen : ∀ sig, parseMethodDescriptor y.desc = some sig → argsL.length = sig.parameters.length) (hst : st = argsL.reverse ++ .ref a :: rest) (hW : (rest.map fun v => v.category).sum ≤ W) (hc : k + kc ≤ R.cells) (hs : n + nc ≤ R.slots) (hfr : ∀ v h' L, Qc v h' L → Fr n0 L) (hd : decode bs pc = .ok (.invokespecial j, 3)) (hp : pc + 3 = pc')
    (H : ∀ v h' L vm1 B1, Qc v h' L → CHr Z EL vm0 h vm1 h' → s.Since vm1 B1 → Ctx p (s.setVm vm1) m meth c Z own bs ml ret nm R (FW s R) B1 → Go p l e R (s.setVm vm1) m args below meth c n0 Q (FW s R) B1 h' (k + kc) (n + nc) (mkF m pc' Ls (v.toList ++ rest))) : Go p l e R (s.setVm vm0) m args below meth c n0 Q (FW s R) B h k n (mkF m pc Ls st) := by
  subst hp hst
  intro T locs X eT N hB
  obtain ⟨v, vm₁, ⟨T', L', k', n'⟩, -, X', hs2, hg, ⟨L, hq, l1, y1, z1, hr⟩, q⟩ := X.specialBackS K.cx (y := y) (bytes := bytes) (maxL := maxL) hy1 K.co w1 w2 w4 hy hK (g := mkF m pc Ls (argsL.reverse ++ .ref a :: rest)) rfl (hml.trans K.cl.symm) (Steps.refl _) (a := a) (argsL := argsL) (rest := rest) hlen rfl (by show 2 * 0 + _ ≤ _; omega) (hb K.cb hd) (fun _ _ => ⟨rfl, eT, hc, hs⟩)
  dsimp only [Pt.U, Pt.locs, Pt.cells, Pt.slots] at X' l1 y1 z1 q hq hr hs2 hg
  subst l1 y1 z1
  obtain ⟨X2, hS2, hZ2, ho2⟩ := rebS hS (Nat.le_trans hB (Nat.le_of_eq (congrArg Array.size eT.symm))) X' hs2 hg K.cz K.co
  obtain ⟨s₂, o, r1, r2⟩ := H v _ L _ _ hq hr hS2 (Ctx.wide hS2 K.cx hZ2 ho2 K.cb K.cl K.cr K.cn K.ck) T' _ X2 rfl (N.app (hfr _ _ _ hq)) (Nat.le_refl _)
  exact ⟨s₂, o, q.trans r1, r2⟩
theorem Go.callVW (K : Ctx p (s.setVm vm0) m meth c Z own bs ml ret nm R (FW s R) B) (hS : s.Since vm0 B) {j : Nat} {C : String} {y z : MethodName} {W kc nc : Nat} {a : Addr} {Qc : Option Value → Heap → List Loc → Prop} {argsL : List Value}
    (w1 : (Jvm.Cond.methodLink own j y).before args (s.setVm vm0) = true) (w2 : (Jvm.Cond.declares y).before args (s.setVm vm0) = true) (hnf : NotFace (s.setVm vm0) y) (w3 : (Jvm.Cond.selects C y z).before args (s.setVm vm0) = true) (w4 : (Jvm.Cond.instanceMethod z).before args (s.setVm vm0) = true) (hy : y.cls ≠ "java/lang/invoke/MethodHandle" ∧ y.cls ≠ "java/lang/invoke/VarHandle") (E : Exa Z h a C)
    (hK : PaysW l R p e below s vm0 args z 3 W (.ref a :: argsL).toArray h kc nc Z EL Qc) (hml : Ls.size = ml) (hlen : ∀ sig, parseMethodDescriptor y.desc = some sig → argsL.length = sig.parameters.length) (hst : st = argsL.reverse ++ .ref a :: rest) (hW : (rest.map fun v => v.category).sum ≤ W) (hc : k + kc ≤ R.cells) (hs : n + nc ≤ R.slots) (hfr : ∀ v h' L, Qc v h' L → Fr n0 L) (hd : decode bs pc = .ok (.invokevirtual j, 3)) (hp : pc + 3 = pc')
    (H : ∀ v h' L vm1 B1, Qc v h' L → CHr Z EL vm0 h vm1 h' → s.Since vm1 B1 → Ctx p (s.setVm vm1) m meth c Z own bs ml ret nm R (FW s R) B1 → Go p l e R (s.setVm vm1) m args below meth c n0 Q (FW s R) B1 h' (k + kc) (n + nc) (mkF m pc' Ls (v.toList ++ rest))) : Go p l e R (s.setVm vm0) m args below meth c n0 Q (FW s R) B h k n (mkF m pc Ls st) := by
  subst hp hst
  intro T locs X eT N hB
  obtain ⟨cq, kq, qa, qb, qc⟩ := isOf K.cz eT E
  obtain ⟨v, vm₁, ⟨T', L', k', n'⟩, -, X', hs2, hg, ⟨L, hq, l1, y1, z1, hr⟩, q⟩ := X.virtualBackS K.cx (y := y) (z := z) K.co w1 w2 hnf w3 w4 hy hK qa qc (g := mkF m pc Ls (argsL.reverse ++ .ref a :: rest)) rfl (hml.trans K.cl.symm) (Steps.refl _) (argsL := argsL) (rest := rest) hlen rfl (by show 2 * 0 + _ ≤ _; omega) (hb K.cb hd) (fun _ _ => ⟨rfl, eT, hc, hs⟩)
  dsimp only [Pt.U, Pt.locs, Pt.cells, Pt.slots] at X' l1 y1 z1 q hq hr hs2 hg
  subst l1 y1 z1
  obtain ⟨X2, hS2, hZ2, ho2⟩ := rebS hS (Nat.le_trans hB (Nat.le_of_eq (congrArg Array.size eT.symm))) X' hs2 hg K.cz K.co
  obtain ⟨s₂, o, r1, r2⟩ := H v _ L _ _ hq hr hS2 (Ctx.wide hS2 K.cx hZ2 ho2 K.cb K.cl K.cr K.cn K.ck) T' _ X2 rfl (N.app (hfr _ _ _ hq)) (Nat.le_refl _)
  exact ⟨s₂, o, q.trans r1, r2⟩
theorem MetW.of {ws : List Jvm.Cond} {y : MethodName} {rm : Room} {as' : Array Value} {h0 : Heap} {Qm : Option Value → Heap → Prop} (hpl : plainFor y = true)
    (H : ∀ (p : Program) (e : Env) (s : State) (m : MethodId) (below : List Frame) (meth : Method) (c : Code) (vm0 : Vm) (B : Nat), s.Since vm0 B → CHv Z EL vm0 h0 → Ctx p (s.setVm vm0) m meth c Z y.cls bs ml ret y.name rm (FW s rm) B → Go p l e rm (s.setVm vm0) m as' below meth c n0 (fun v vm h => Qm v h ∧ CHr Z EL vm0 h0 vm h) (FW s rm) B h0 0 0 (entryFrame m as' ml)) : MetW l Z ws EL y bs ml ret rm as' h0 n0 Qm := by
  refine MetFree.of_bodySF hpl hisR ?_
  intro p e s m args below meth c s₁ Bd hml0 hP hK
  obtain ⟨rfl, hZ, hh, hC⟩ := hP
  have X0 : Stand p l e rm (s.setVm s.vm) m args below meth c s₁ [] 0 0 := Stand.of_body Bd
  have e0 : s₁.heap = h0 := by rw [← hh, Bd.state]; rfl
  have hS : s.Since s.vm 0 := (State.WarmedH.refl s).since 0
  obtain ⟨s₂, o, r1, r2, r3, v, L, rfl, ⟨⟨q1, q1'⟩, q2⟩, q3⟩ := H p e s m below meth c s.vm 0 hS hC (Ctx.wide hS Bd.exec hZ (findClass_of_methodNamed Bd.named) Bd.bytes hml0 Bd.returns (name_of_methodNamed Bd.named Bd.method).1 Bd.notSynchronized) s₁ [] X0 e0 (Fr.nil n0) (Nat.zero_le _)
  exact ⟨s₂, _, r1, r2, r3, v, L, rfl, ⟨⟨q1, q2⟩, q1'.2.1⟩, by rw [hh]; exact q1', q3⟩
theorem MetWK.of {ws : List Jvm.Cond} {y : MethodName} {rm : Room} {as' : Array Value} {h0 : Heap} {Qm : Option Value → Heap → Prop} (hpl : plainFor y = true)
    (H : ∀ (p : Program) (e : Env) (s : State) (m : MethodId) (below : List Frame) (meth : Method) (c : Code) (vm0 : Vm) (B : Nat), s.heap = h0 → vm0.MethodsKnown → vm0.FramesKnown below → s.Since vm0 B → CHv Z EL vm0 h0 → Ctx p (s.setVm vm0) m meth c Z y.cls bs ml ret y.name rm (FW s rm) B → Go p l e rm (s.setVm vm0) m as' below meth c n0 (fun v vm h => Qm v h ∧ CHr Z EL vm0 h0 vm h) (FW s rm) B h0 0 0 (entryFrame m as' ml)) : MetWK l Z ws EL y bs ml ret rm as' h0 n0 Qm := by
  refine MetFree.of_bodySF hpl hisR ?_
  intro p e s m args below meth c s₁ Bd hml0 hP hK
  obtain ⟨rfl, hZ, hh, hC⟩ := hP
  have X0 : Stand p l e rm (s.setVm s.vm) m args below meth c s₁ [] 0 0 := Stand.of_body Bd
  have e0 : s₁.heap = h0 := by rw [← hh, Bd.state]; rfl
  have hS : s.Since s.vm 0 := (State.WarmedH.refl s).since 0
  obtain ⟨s₂, o, r1, r2, r3, v, L, rfl, ⟨⟨q1, q1'⟩, q2⟩, q3⟩ := H p e s m below meth c s.vm 0 hh hK.1 hK.2 hS hC (Ctx.wide hS Bd.exec hZ (findClass_of_methodNamed Bd.named) Bd.bytes hml0 Bd.returns (name_of_methodNamed Bd.named Bd.method).1 Bd.notSynchronized) s₁ [] X0 e0 (Fr.nil n0) (Nat.zero_le _)
  exact ⟨s₂, _, r1, r2, r3, v, L, rfl, ⟨⟨q1, q2⟩, q1'.2.1⟩, by rw [hh]; exact q1', q3⟩
theorem MetW.pays {y : MethodName} {rm : Room} {as' : Array Value} {h0 : Heap} {len W : Nat} {Qm : Option Value → Heap → Prop} (M : MetW l Z [] EL y bs ml ret rm as' h0 n0 Qm) (hZ : Z.Warmed39 vm0) (wc : (Jvm.Cond.code y bs ml ret).before a0 Z = true) (wz : (Jvm.Cond.initialized y.cls).before a0 Z = true) (hf : rm.frames + 1 ≤ R.frames) (hl : W + (ml + 11) + rm.locals ≤ R.locals) (hEL : EW Z a0 EL) (HC : CHv Z EL vm0 h0) :
    PaysW l R p e below s vm0 args y len W as' h0 rm.cells rm.slots Z EL (fun v h L => (Qm v h ∧ Fr n0 L) ∧ h0.size ≤ h.size) :=
  backOfSH (Q := fun v h L => (Qm v h ∧ Fr n0 L) ∧ h0.size ≤ h.size) M hZ wc wz hf hl hEL HC
theorem MetWK.pays {y : MethodName} {rm : Room} {as' : Array Value} {h0 : Heap} {len W : Nat} {Qm : Option Value → Heap → Prop} (M : MetWK l Z [] EL y bs ml ret rm as' h0 n0 Qm) (hZ : Z.Warmed39 vm0) (wc : (Jvm.Cond.code y bs ml ret).before a0 Z = true) (wz : (Jvm.Cond.initialized y.cls).before a0 Z = true) (hf : rm.frames + 1 ≤ R.frames) (hl : W + (ml + 11) + rm.locals ≤ R.locals) (hEL : EW Z a0 EL) (HC : CHv Z EL vm0 h0) (hTK : vm0.MethodsKnown) (hBelow : vm0.FramesKnown below) :
    PaysW l R p e below s vm0 args y len W as' h0 rm.cells rm.slots Z EL (fun v h L => (Qm v h ∧ Fr n0 L) ∧ h0.size ≤ h.size) :=
  backOfSKH (Q := fun v h L => (Qm v h ∧ Fr n0 L) ∧ h0.size ≤ h.size) M hZ wc wz hf hl hEL HC hTK hBelow
/-- what a wide walk says at its return -/
theorem own_end {Z : State} {EL : List (String × Nat)} {vmS vm0 : Vm} {hS h : Heap} {P : Prop} (hEL : EW Z a0 EL) (hZ : Z.Warmed39 vm0) (CR : CHr Z EL vmS hS vm0 h) (q : P) : ∀ (T : State) (locs : List Loc), Stand p l e R (s.setVm vm0) m args below meth c T locs k n → T.heap = h → P ∧ CHr Z EL vmS hS T.vm h :=
  fun T locs X eT => ⟨q, CR.trans (CHv.at X hZ hEL CR.1)⟩
end Wide
theorem own_ne {a b : Nat} {h : Heap} (h1 : a < h.size) (h2 : h.size ≤ b) : a ≠ b := Nat.ne_of_lt (Nat.lt_of_lt_of_le h1 h2)
end GoKit
end Jvm.Pilot.@@N@@
/- laws to paste: Road.backV, pair_says (cut by pick.py; bodies as the Statement names them) -/
namespace Jvm.Pilot.@@N@@
namespace StrChars
open Jvm Sem ClassFile Op Lib Jvm.Stand Jvm.Free.XT Jvm.Free.ALB Jvm.Free.JM Jvm.Free
open Jvm.Lib.Cold (StaticIs)
/-- a char array whose places are chars -/
def Ch (a : Addr) (A : Cell) (U : State) : Prop := Arr .char a A U ∧ Typed .char A
theorem Ch.mv {a : Addr} {A : Cell} {U U' : State} (h : Ch a A U) (hal : U.vm.Alike U'.vm) (hh : U'.heap = U.heap) : Ch a A U' := ⟨h.1.mv hal hh, h.2⟩
theorem Ch.keep {a : Addr} {A : Cell} {U U' : State} (h : Ch a A U) (hal : U.vm.Alike U'.vm) (hk : U'.heap[a]? = some A) : Ch a A U' := ⟨h.1.keep hal hk, h.2⟩
/-- what place i of a char[]'s cell holds -/
def cv (A : Cell) (i : Nat) : Int32 := match A.slots[i]? with | some (.int x) => x | _ => 0
theorem Ch.get {a : Addr} {A : Cell} {U : State} (h : Ch a A U) {i : Nat} (hi : i < A.slots.size) : A.slots[i]? = some (.int (cv A i)) := by
  have e := Array.getElem?_eq_getElem hi
  have f := h.2 i _ e
  unfold cv; rw [e]
  generalize A.slots[i] = v at f
  cases v <;> simp [fits] at f ⊢
/-- the byte that i2b leaves of a char -/
def lo8 (x : Int32) : Int32 := x.toInt8.toInt32
theorem fits_lo8 (y : Int32) : fits .byte (.int (lo8 y)) = true := by
  have h1 := y.toInt8.le_toInt
  have h2 := y.toInt8.toInt_lt
  simp only [lo8, fits, Bool.and_eq_true, decide_eq_true_eq, Int32.le_iff_toInt_le, Int8.toInt_toInt32, show (-128 : Int32).toInt = -128 from by decide, show (127 : Int32).toInt = 127 from by decide]
  omega
/-- A' is A but that each place j of lo .. hi - 1 holds f j -/
def Laid (A A' : Cell) (lo hi : Nat) (f : Nat → Value) : Prop := A'.cls = A.cls ∧ A'.vm = A.vm ∧ A'.slots.size = A.slots.size ∧ ∀ i, A'.slots[i]? = if lo ≤ i ∧ i < hi then some (f i) else A.slots[i]?
theorem Laid.zero (A : Cell) (lo : Nat) (f : Nat → Value) : Laid A A lo (lo + 0) f := ⟨rfl, rfl, rfl, fun i => by rw [if_neg (by omega)]⟩
theorem Laid.step {A Ak : Cell} {lo k : Nat} {f : Nat → Value} {v : Value} (h : Laid A Ak lo k f) (hlo : lo ≤ k) (hk : k < Ak.slots.size) (hv : v = f k) : Laid A (Ak.setSlot k v) lo (k + 1) f := by
  refine ⟨h.1, h.2.1, by simpa [Cell.setSlot] using h.2.2.1, fun i => ?_⟩
  by_cases e : k = i
  · subst e; rw [Cell.slots_setSlot_self v hk, if_pos (by omega), hv]
  · rw [Cell.slots_setSlot_ne v e, h.2.2.2 i]
    by_cases q : lo ≤ i ∧ i < k
    · rw [if_pos q, if_pos (by omega)]
    · rw [if_neg q, if_neg (by omega)]
def U16 : String := "java/lang/StringUTF16"
namespace Cmp5
def yN : MethodName := ⟨"java/lang/StringUTF16", "compress", "([CI[BII)I"⟩
abbrev yB : ByteArray := jdk_52_method_21_code
theorem d0 : decode yB 0 = .ok (.iconst 0, 1) := by decide +kernel
theorem d1 : decode yB 1 = .ok (.istore 5, 2) := by decide +kernel
theorem d3 : decode yB 3 = .ok (.iload 5, 2) := by decide +kernel
theorem d5 : decode yB 5 = .ok (.iload 4, 2) := by decide +kernel
theorem d7 : decode yB 7 = .ok (.if_icmp (.ge) 37, 3) := by decide +kernel
theorem d10 : decode yB 10 = .ok (.aload_n 0, 1) := by decide +kernel
theorem d11 : decode yB 11 = .ok (.iload_n 1, 1) := by decide +kernel
theorem d12 : decode yB 12 = .ok (.caload, 1) := by decide +kernel
theorem d13 : decode yB 13 = .ok (.istore 6, 2) := by decide +kernel
theorem d15 : decode yB 15 = .ok (.iload 6, 2) := by decide +kernel
theorem d17 : decode yB 17 = .ok (.sipush 255, 3) := by decide +kernel
theorem d20 : decode yB 20 = .ok (.if_icmp (.le) 6, 3) := by decide +kernel
theorem d26 : decode yB 26 = .ok (.aload_n 2, 1) := by decide +kernel
theorem d27 : decode yB 27 = .ok (.iload_n 3, 1) := by decide +kernel
theorem d28 : decode yB 28 = .ok (.iload 6, 2) := by decide +kernel
theorem d30 : decode yB 30 = .ok (.i2b, 1) := by decide +kernel
theorem d31 : decode yB 31 = .ok (.bastore, 1) := by decide +kernel
theorem d32 : decode yB 32 = .ok (.iinc 1 1, 3) := by decide +kernel
theorem d35 : decode yB 35 = .ok (.iinc 3 1, 3) := by decide +kernel
theorem d38 : decode yB 38 = .ok (.iinc 5 1, 3) := by decide +kernel
theorem d41 : decode yB 41 = .ok (.goto (-38), 3) := by decide +kernel
theorem d44 : decode yB 44 = .ok (.iload 4, 2) := by decide +kernel
theorem d46 : decode yB 46 = .ok (.ireturn, 1) := by decide +kernel
def site : List Cond := []
def tab : Cond := tabOf yN yB 7 (some .int) site
def P (b : Addr) (A : Cell) (d : Addr) (B : Cell) (o q len : Nat) (args : Array Value) (s : State) : Prop := args = #[.ref b, .int (Int32.ofNat o), .ref d, .int (Int32.ofNat q), .int (Int32.ofNat len)] ∧ Ch b A s ∧ Arr .byte d B s ∧ b ≠ d ∧ o + len ≤ A.slots.size ∧ q + len ≤ B.slots.size ∧ ∀ i, i < len → ¬ 255 < cv A (o + i)
def E (b : Addr) (A : Cell) (d : Addr) (B : Cell) (o q len : Nat) (r : Option Value) (s u : State) : Prop := r = some (.int (Int32.ofNat len)) ∧ ∃ B', Put d B' s u ∧ Laid B B' q (q + len) (fun j => Value.int (lo8 (cv A (o + (j - q)))))
/-- no char of the range above 255: len; the places written hold each char's low byte -/
theorem law (l : Launch) (b : Addr) (A : Cell) (d : Addr) (B : Cell) (o q len : Nat) : Law l yN 5 5 0 0 yB 7 (some .int) site (P b A d B o q len) (E b A d B o q len) (copyLocs d q len) 0 0 := by
  refine Law.of_walk (plainFor_of_name (by decide +kernel)) (by decide +kernel) (by decide +kernel) (by decide) (fun _ _ h => by rw [h.1]; rfl) (fun _ U U' hal hh h => ⟨h.1, h.2.1.mv hal hh, h.2.2.1.mv hal hh, h.2.2.2⟩) (fun r U U' V V' h1 hal h2 h => ⟨h.1, h.2.elim fun B' q => ⟨B', q.1.mv h1 h2, q.2⟩⟩) ?_
  intro p e s m args below meth c s₁ X0 hexec hbytes hml hret hlk hnm hown hh0 W hP
  obtain ⟨rfl, hA, hB, hne, l1, l2, hp⟩ := hP
  have c1 : Steps p.tables e below (s₁.setTop (entryFrame m #[.ref b, .int (Int32.ofNat o), .ref d, .int (Int32.ofNat q), .int (Int32.ofNat len)] 7)) (s₁.setTop (mkF m 0 #[.val (.ref b), .val (.int (Int32.ofNat o)), .val (.ref d), .val (.int (Int32.ofNat q)), .val (.int (Int32.ofNat len)), .unset, .unset] [])) := entry rfl
  have hA0 := hA.1.mv X0.warmed.alike hh0
  have hB0 := hB.mv X0.warmed.alike hh0
  have a31 := hA.1.2.2.2
  have c2 : Steps p.tables e below (s₁.setTop (entryFrame m #[.ref b, .int (Int32.ofNat o), .ref d, .int (Int32.ofNat q), .int (Int32.ofNat len)] 7)) (s₁.setTop (mkF m 3 #[.val (.ref b), .val (.int (Int32.ofNat o)), .val (.ref d), .val (.int (Int32.ofNat q)), .val (.int (Int32.ofNat len)), .val (.int 0), .unset] [])) := c1.trans (by
    refine iconstV X0.here hexec rfl 0 (hb hbytes d0) (by decide) ?_
    refine XS.istore X0.here hexec rfl (hb hbytes d1) rfl rfl ?_
    exact Steps.refl _)
  have loop : ∀ (r i : Nat), i + r = len → ∀ (z : Slot), (z = .unset ∨ ∃ w, z = .val w ∧ w.category = 1) → ∀ (Tl : State) (Bk : Cell), Stand p l e { frames := 0, locals := 0, cells := 0, slots := 0 } s m #[.ref b, .int (Int32.ofNat o), .ref d, .int (Int32.ofNat q), .int (Int32.ofNat len)] below meth c Tl ([] ++ copyLocs d q i) 0 0 → Put d Bk s₁ Tl → Laid B Bk q (q + i) (fun j => Value.int (lo8 (cv A (o + (j - q))))) →
      Steps p.tables e below (s₁.setTop (entryFrame m #[.ref b, .int (Int32.ofNat o), .ref d, .int (Int32.ofNat q), .int (Int32.ofNat len)] 7)) (Tl.setTop (mkF m 3 #[.val (.ref b), .val (.int (Int32.ofNat (o + i))), .val (.ref d), .val (.int (Int32.ofNat (q + i))), .val (.int (Int32.ofNat len)), .val (.int (Int32.ofNat i)), z] [])) → ∃ (T' : State) (B' : Cell) (z' : Slot), Stand p l e { frames := 0, locals := 0, cells := 0, slots := 0 } s m #[.ref b, .int (Int32.ofNat o), .ref d, .int (Int32.ofNat q), .int (Int32.ofNat len)] below meth c T' ([] ++ copyLocs d q len) 0 0 ∧ Put d B' s₁ T' ∧ Laid B B' q (q + len) (fun j => Value.int (lo8 (cv A (o + (j - q))))) ∧
      Steps p.tables e below (s₁.setTop (entryFrame m #[.ref b, .int (Int32.ofNat o), .ref d, .int (Int32.ofNat q), .int (Int32.ofNat len)] 7)) (T'.setTop (mkF m 3 #[.val (.ref b), .val (.int (Int32.ofNat (o + len))), .val (.ref d), .val (.int (Int32.ofNat (q + len))), .val (.int (Int32.ofNat len)), .val (.int (Int32.ofNat len)), z'] [])) := by
    intro r
    induction r with
    | zero =>
      intro i hi z hz Tl Bk Xl pl fl cl
      have hil : i = len := by omega
      rw [hil] at Xl fl cl
      exact ⟨Tl, Bk, z, Xl, pl, fl, cl⟩
    | succ r ih =>
      intro i hi z hz Tl Bk Xl pl fl cl
      have all := X0.warmed.alike.symm.trans Xl.warmed.alike
      have hAl := hA0.keep all (pl.other hne hA0.1)
      have hBk := hB0.like all pl.1 fl.1 fl.2.1 fl.2.2.1
      have hlt : q + i < Bk.slots.size := by rw [fl.2.2.1]; omega
      have c3 : Steps p.tables e below (s₁.setTop (entryFrame m #[.ref b, .int (Int32.ofNat o), .ref d, .int (Int32.ofNat q), .int (Int32.ofNat len)] 7)) (Tl.setTop (mkF m 12 #[.val (.ref b), .val (.int (Int32.ofNat (o + i))), .val (.ref d), .val (.int (Int32.ofNat (q + i))), .val (.int (Int32.ofNat len)), .val (.int (Int32.ofNat i)), z] [.int (Int32.ofNat (o + i)), .ref b])) := cl.trans (by
        refine XS.iload Xl.here hexec rfl (hb hbytes d3) rfl ?_
        refine XS.iload Xl.here hexec rfl (hb hbytes d5) rfl ?_
        refine XS.icmpNo Xl.here hexec rfl (hb hbytes d7) rfl (ii_ge_f (lt32 (by omega) (by omega))) ?_
        refine XS.aloadN Xl.here hexec rfl (hb hbytes d10) rfl rfl ?_
        refine XS.iloadN Xl.here hexec rfl (hb hbytes d11) rfl ?_
        exact Steps.refl _)
      have c4 : Steps p.tables e below (s₁.setTop (entryFrame m #[.ref b, .int (Int32.ofNat o), .ref d, .int (Int32.ofNat q), .int (Int32.ofNat len)] 7)) (Tl.setTop (mkF m 13 #[.val (.ref b), .val (.int (Int32.ofNat (o + i))), .val (.ref d), .val (.int (Int32.ofNat (q + i))), .val (.int (Int32.ofNat len)), .val (.int (Int32.ofNat i)), z] [.int (cv A (o + i))])) := c3.trans (by
        refine Xl.aget hexec hAl rfl (hA.get (i := o + i) (by omega)) rfl rfl (hb hbytes d12) ?_
        exact Steps.refl _)
      have c5 : Steps p.tables e below (s₁.setTop (entryFrame m #[.ref b, .int (Int32.ofNat o), .ref d, .int (Int32.ofNat q), .int (Int32.ofNat len)] 7)) (Tl.setTop (mkF m 15 #[.val (.ref b), .val (.int (Int32.ofNat (o + i))), .val (.ref d), .val (.int (Int32.ofNat (q + i))), .val (.int (Int32.ofNat len)), .val (.int (Int32.ofNat i)), .val (.int (cv A (o + i)))] [])) := c4.trans (by
        refine XS.istoreS Xl.here hexec rfl (hb hbytes d13) rfl rfl hz ?_
        exact Steps.refl _)
      have c6 : Steps p.tables e below (s₁.setTop (entryFrame m #[.ref b, .int (Int32.ofNat o), .ref d, .int (Int32.ofNat q), .int (Int32.ofNat len)] 7)) (Tl.setTop (mkF m 31 #[.val (.ref b), .val (.int (Int32.ofNat (o + i))), .val (.ref d), .val (.int (Int32.ofNat (q + i))), .val (.int (Int32.ofNat len)), .val (.int (Int32.ofNat i)), .val (.int (cv A (o + i)))] [.int (lo8 (cv A (o + i))), .int (Int32.ofNat (q + i)), .ref d])) := c5.trans (by
        refine XS.iload Xl.here hexec rfl (hb hbytes d15) rfl ?_
        refine sipushV Xl.here hexec rfl 255 (hb hbytes d17) (by decide) ?_
        refine XS.icmpYes Xl.here hexec rfl (pc0 := 20) rfl (hb hbytes d20) rfl (ii_le_t (hp i (by omega))) (by decide) rfl ?_
        refine XS.aloadN Xl.here hexec rfl (hb hbytes d26) rfl rfl ?_
        refine XS.iloadN Xl.here hexec rfl (hb hbytes d27) rfl ?_
        refine XS.iload Xl.here hexec rfl (hb hbytes d28) rfl ?_
        refine i2b Xl.here hexec rfl (hb hbytes d30) rfl ?_
        exact Steps.refl _)
      obtain ⟨T7, X7, p7, st7⟩ := Xl.aput hexec hBk rfl hlt rfl (fits_lo8 (cv A (o + i))) (g := (mkF m 31 #[.val (.ref b), .val (.int (Int32.ofNat (o + i))), .val (.ref d), .val (.int (Int32.ofNat (q + i))), .val (.int (Int32.ofNat len)), .val (.int (Int32.ofNat i)), .val (.int (cv A (o + i)))] [.int (lo8 (cv A (o + i))), .int (Int32.ofNat (q + i)), .ref d])) rfl (rest := []) rfl (hb hbytes d31)
      have c8 : Steps p.tables e below (s₁.setTop (entryFrame m #[.ref b, .int (Int32.ofNat o), .ref d, .int (Int32.ofNat q), .int (Int32.ofNat len)] 7)) (T7.setTop (mkF m 32 #[.val (.ref b), .val (.int (Int32.ofNat (o + i))), .val (.ref d), .val (.int (Int32.ofNat (q + i))), .val (.int (Int32.ofNat len)), .val (.int (Int32.ofNat i)), .val (.int (cv A (o + i)))] [])) := c6.trans (st7 _ (Steps.refl _))
      have c9 : Steps p.tables e below (s₁.setTop (entryFrame m #[.ref b, .int (Int32.ofNat o), .ref d, .int (Int32.ofNat q), .int (Int32.ofNat len)] 7)) (T7.setTop (mkF m 3 #[.val (.ref b), .val (.int (Int32.ofNat (o + i) + 1)), .val (.ref d), .val (.int (Int32.ofNat (q + i) + 1)), .val (.int (Int32.ofNat len)), .val (.int (Int32.ofNat i + 1)), .val (.int (cv A (o + i)))] [])) := c8.trans (by
        refine iincV X7.here hexec rfl 1 (hb hbytes d32) (by decide) rfl rfl ?_
        refine iincV X7.here hexec rfl 1 (hb hbytes d35) (by decide) rfl rfl ?_
        refine iincV X7.here hexec rfl 1 (hb hbytes d38) (by decide) rfl rfl ?_
        refine XS.goto X7.here hexec rfl (pc0 := 41) rfl (hb hbytes d41) (by decide) rfl ?_
        exact Steps.refl _)
      have c10 : Steps p.tables e below (s₁.setTop (entryFrame m #[.ref b, .int (Int32.ofNat o), .ref d, .int (Int32.ofNat q), .int (Int32.ofNat len)] 7)) (T7.setTop (mkF m 3 #[.val (.ref b), .val (.int (Int32.ofNat (o + (i + 1)))), .val (.ref d), .val (.int (Int32.ofNat (q + (i + 1)))), .val (.int (Int32.ofNat len)), .val (.int (Int32.ofNat (i + 1))), .val (.int (cv A (o + i)))] [])) := by
        have := c9
        rw [succ32, succ32, succ32] at this
        exact this
      exact ih (i + 1) (by omega) _ (Or.inr ⟨_, rfl, rfl⟩) T7 _ (by rw [copyLocs_step, ← List.append_assoc]; exact X7) (pl.trans p7) (fl.step (by omega) hlt (by simp)) c10
  obtain ⟨T9, B9, z9, X9, p9, f9, g9⟩ := loop len 0 (by omega) .unset (Or.inl rfl) s₁ B (by simpa [copyLocs] using X0) ⟨hB0.1, fun _ _ => rfl, rfl⟩ (Laid.zero _ _ _) c2
  have c11 : Steps p.tables e below (s₁.setTop (entryFrame m #[.ref b, .int (Int32.ofNat o), .ref d, .int (Int32.ofNat q), .int (Int32.ofNat len)] 7)) (T9.setTop (mkF m 46 #[.val (.ref b), .val (.int (Int32.ofNat (o + len))), .val (.ref d), .val (.int (Int32.ofNat (q + len))), .val (.int (Int32.ofNat len)), .val (.int (Int32.ofNat len)), z9] [.int (Int32.ofNat len)])) := g9.trans (by
    refine XS.iload X9.here hexec rfl (hb hbytes d3) rfl ?_
    refine XS.iload X9.here hexec rfl (hb hbytes d5) rfl ?_
    refine XS.icmpYes X9.here hexec rfl (pc0 := 7) rfl (hb hbytes d7) rfl (ii_ge_t (nlt32 (by omega) (Nat.le_refl _))) (by decide) rfl ?_
    refine XS.iload X9.here hexec rfl (hb hbytes d44) rfl ?_
    exact Steps.refl _)
  exact ⟨T9, some (.int (Int32.ofNat len)), _, _, _, X9, by simp, rfl, rfl, (fun h => by cases h), ⟨rfl, B9, p9.from hh0, f9⟩, fun fs hl => c11.trans (X9.ireturnOut hexec hret rfl (Or.inl rfl) (hb hbytes d46) hl)⟩
end Cmp5
namespace Cmp3
def yN : MethodName := ⟨"java/lang/StringUTF16", "compress", "([CII)[B"⟩
abbrev yB : ByteArray := jdk_52_method_16_code
theorem d0 : decode yB 0 = .ok (.iload_n 2, 1) := by decide +kernel
theorem d1 : decode yB 1 = .ok (.newarray .byte, 2) := by decide +kernel
theorem d3 : decode yB 3 = .ok (.astore_n 3, 1) := by decide +kernel
theorem d4 : decode yB 4 = .ok (.aload_n 0, 1) := by decide +kernel
theorem d5 : decode yB 5 = .ok (.iload_n 1, 1) := by decide +kernel
theorem d6 : decode yB 6 = .ok (.aload_n 3, 1) := by decide +kernel
theorem d7 : decode yB 7 = .ok (.iconst 0, 1) := by decide +kernel
theorem d8 : decode yB 8 = .ok (.iload_n 2, 1) := by decide +kernel
theorem d9 : decode yB 9 = .ok (.invokestatic 115, 3) := by decide +kernel
theorem d12 : decode yB 12 = .ok (.istore 4, 2) := by decide +kernel
theorem d14 : decode yB 14 = .ok (.iload 4, 2) := by decide +kernel
theorem d16 : decode yB 16 = .ok (.iload_n 2, 1) := by decide +kernel
theorem d17 : decode yB 17 = .ok (.if_icmp (.eq) 40, 3) := by decide +kernel
theorem d57 : decode yB 57 = .ok (.aload_n 3, 1) := by decide +kernel
theorem d58 : decode yB 58 = .ok (.areturn, 1) := by decide +kernel
def site : List Cond := [.arrayClass .byte, Cmp5.tab] ++ staticW U16 115 Cmp5.yN
def tab : Cond := tabOf yN yB 6 (some (.array .byte)) site
def P (b : Addr) (A : Cell) (o len : Nat) (args : Array Value) (s : State) : Prop := args = #[.ref b, .int (Int32.ofNat o), .int (Int32.ofNat len)] ∧ Ch b A s ∧ o + len ≤ A.slots.size ∧ len ≤ 536870912 ∧ ∀ i, i < len → ¬ 255 < cv A (o + i)
def E (b : Addr) (A : Cell) (o len : Nat) (r : Option Value) (s u : State) : Prop := NewArr .byte "[B" len (fun j => .int (lo8 (cv A (o + j)))) r s u ∧ u.heap.size = s.heap.size + 1
/-- no char of the range above 255: a new byte[] of their low bytes -/
theorem law (l : Launch) (b : Addr) (A : Cell) (o len : Nat) : Law l yN 3 3 1 18 yB 6 (some (.array .byte)) site (P b A o len) (E b A o len) [] 1 len := by
  refine Law.of_walk (plainFor_of_name (by decide +kernel)) (by decide +kernel) (by decide +kernel) (by decide) (fun _ _ h => by rw [h.1]; rfl) (fun _ U U' hal hh h => ⟨h.1, h.2.1.mv hal hh, h.2.2⟩) (fun r U U' V V' h1 hal h2 h => ⟨NewArr.mv r U U' V V' h1 hal h2 h.1, by rw [h1, h2]; exact h.2⟩) ?_
  intro p e s m args below meth c s₁ X0 hexec hbytes hml hret hlk hnm hown hh0 W hP
  obtain ⟨rfl, hA, l1, l2, hp⟩ := hP
  have a31 := hA.1.2.2.2
  have c1 : Steps p.tables e below (s₁.setTop (entryFrame m #[.ref b, .int (Int32.ofNat o), .int (Int32.ofNat len)] 6)) (s₁.setTop (mkF m 0 #[.val (.ref b), .val (.int (Int32.ofNat o)), .val (.int (Int32.ofNat len)), .unset, .unset, .unset] [])) := entry rfl
  have c2 : Steps p.tables e below (s₁.setTop (entryFrame m #[.ref b, .int (Int32.ofNat o), .int (Int32.ofNat len)] 6)) (s₁.setTop (mkF m 1 #[.val (.ref b), .val (.int (Int32.ofNat o)), .val (.int (Int32.ofNat len)), .unset, .unset, .unset] [.int (Int32.ofNat len)])) := c1.trans (by
    refine XS.iloadN X0.here hexec rfl (hb hbytes d0) rfl ?_
    exact Steps.refl _)
  obtain ⟨T3, B3, X3, ba3, bs3, bv3, bh3, bf3, st3⟩ := X0.anew hexec (atype := .byte) (wk W (.arrayClass .byte)) rfl (by show len * 1 ≤ _; omega) (by omega) (g := (mkF m 1 #[.val (.ref b), .val (.int (Int32.ofNat o)), .val (.int (Int32.ofNat len)), .unset, .unset, .unset] [.int (Int32.ofNat len)])) rfl (hb hbytes d1) (rest := []) rfl (Nat.le_refl _) (by show 0 + len ≤ len; omega)
  rw [hh0] at ba3 st3
  have kp3 : XT.Kept s T3 := (XT.Kept.of_eq hh0).push bh3
  have hA3 := hA.keep X3.warmed.alike (kp3 _ _ hA.1.1)
  have hne : b ≠ s.heap.size := hA.1.ne
  have c4 : Steps p.tables e below (s₁.setTop (entryFrame m #[.ref b, .int (Int32.ofNat o), .int (Int32.ofNat len)] 6)) (T3.setTop (mkF m 3 #[.val (.ref b), .val (.int (Int32.ofNat o)), .val (.int (Int32.ofNat len)), .unset, .unset, .unset] [.ref s.heap.size])) := c2.trans (st3 _ (Steps.refl _))
  have c5 : Steps p.tables e below (s₁.setTop (entryFrame m #[.ref b, .int (Int32.ofNat o), .int (Int32.ofNat len)] 6)) (T3.setTop (mkF m 9 #[.val (.ref b), .val (.int (Int32.ofNat o)), .val (.int (Int32.ofNat len)), .val (.ref s.heap.size), .unset, .unset] [.int (Int32.ofNat len), .int 0, .ref s.heap.size, .int (Int32.ofNat o), .ref b])) := c4.trans (by
    refine XS.astoreN X3.here hexec rfl (hb hbytes d3) rfl rfl rfl ?_
    refine XS.aloadN X3.here hexec rfl (hb hbytes d4) rfl rfl ?_
    refine XS.iloadN X3.here hexec rfl (hb hbytes d5) rfl ?_
    refine XS.aloadN X3.here hexec rfl (hb hbytes d6) rfl rfl ?_
    refine iconstV X3.here hexec rfl 0 (hb hbytes d7) (by decide) ?_
    refine XS.iloadN X3.here hexec rfl (hb hbytes d8) rfl ?_
    exact Steps.refl _)
  obtain ⟨v6, T6, X6, E6, g6⟩ := X3.callS hexec (Cmp5.law l b A s.heap.size B3 o 0 len) hown (wks W (staticW U16 115 Cmp5.yN)) (wk W Cmp5.tab) (W := 0) (Nat.le_of_ble_eq_true rfl) (Nat.le_of_ble_eq_true rfl) (Nat.le_refl _) (by show 0 + len + 0 ≤ len; omega) (g := (mkF m 9 #[.val (.ref b), .val (.int (Int32.ofNat o)), .val (.int (Int32.ofNat len)), .val (.ref s.heap.size), .unset, .unset] [.int (Int32.ofNat len), .int (Int32.ofNat 0), .ref s.heap.size, .int (Int32.ofNat o), .ref b])) rfl (by rw [hml]; rfl) c5 (argsL := [.ref b, .int (Int32.ofNat o), .ref s.heap.size, .int (Int32.ofNat 0), .int (Int32.ofNat len)]) (rest := []) rfl rfl (by show 2 * 0 + 0 ≤ _; decide) (hb hbytes d9) (⟨rfl, hA3, ba3, hne, l1, by rw [bs3]; simp, hp⟩)
  obtain ⟨rfl, B6, p6, f6⟩ := E6
  have c7 : Steps p.tables e below (s₁.setTop (entryFrame m #[.ref b, .int (Int32.ofNat o), .int (Int32.ofNat len)] 6)) (T6.setTop (mkF m 12 #[.val (.ref b), .val (.int (Int32.ofNat o)), .val (.int (Int32.ofNat len)), .val (.ref s.heap.size), .unset, .unset] [.int (Int32.ofNat len)])) := g6
  have c8 : Steps p.tables e below (s₁.setTop (entryFrame m #[.ref b, .int (Int32.ofNat o), .int (Int32.ofNat len)] 6)) (T6.setTop (mkF m 58 #[.val (.ref b), .val (.int (Int32.ofNat o)), .val (.int (Int32.ofNat len)), .val (.ref s.heap.size), .val (.int (Int32.ofNat len)), .unset] [.ref s.heap.size])) := c7.trans (by
    refine XS.istore X6.here hexec rfl (hb hbytes d12) rfl rfl ?_
    refine XS.iload X6.here hexec rfl (hb hbytes d14) rfl ?_
    refine XS.iloadN X6.here hexec rfl (hb hbytes d16) rfl ?_
    refine XS.icmpYes X6.here hexec rfl (pc0 := 17) rfl (hb hbytes d17) rfl (ii_eq_t rfl) (by decide) rfl ?_
    refine XS.aloadN X6.here hexec rfl (hb hbytes d57) rfl rfl ?_
    exact Steps.refl _)
  have X8 := X6.wide (L' := []) (cells' := 1) (slots' := len) (fun x hx hlt => by
    simp only [List.nil_append, copyLocs, List.mem_map, List.mem_range] at hx
    obtain ⟨i, -, rfl⟩ := hx
    exact absurd hlt (Nat.lt_irrefl _)) (Nat.le_refl _) (by omega)
  exact ⟨T6, some (.ref s.heap.size), _, _, _, X8, rfl, rfl, rfl, (fun h => by cases h), ⟨⟨rfl, B6, ba3.like (X3.warmed.alike.symm.trans X6.warmed.alike) p6.1 f6.1 f6.2.1 f6.2.2.1, f6.2.1.trans bv3, by rw [X6.warmed.alike.findClass, f6.1]; exact bf3, by rw [f6.2.2.1, bs3]; simp, fun j hj => by rw [f6.2.2.2 j, if_pos (by omega)]; rfl, kp3.put p6 (Nat.le_refl _)⟩, by rw [p6.2.2, bh3, hh0]; simp⟩, fun fs hl => c8.trans (X8.areturnOut hexec rfl hret rfl (hb hbytes d58) hl)⟩
end Cmp3
namespace CodL
def yN : MethodName := ⟨"java/lang/StringUTF16", "coderFromArrayLen", "([BI)B"⟩
abbrev yB : ByteArray := jdk_52_method_15_code
theorem d0 : decode yB 0 = .ok (.iload_n 1, 1) := by decide +kernel
theorem d1 : decode yB 1 = .ok (.aload_n 0, 1) := by decide +kernel
theorem d2 : decode yB 2 = .ok (.arraylength, 1) := by decide +kernel
theorem d3 : decode yB 3 = .ok (.isub, 1) := by decide +kernel
theorem d4 : decode yB 4 = .ok (.bipush 31, 2) := by decide +kernel
theorem d6 : decode yB 6 = .ok (.iushr, 1) := by decide +kernel
theorem d7 : decode yB 7 = .ok (.i2b, 1) := by decide +kernel
theorem d8 : decode yB 8 = .ok (.ireturn, 1) := by decide +kernel
def site : List Cond := []
def tab : Cond := tabOf yN yB 2 (some .byte) site
def P (d : Addr) (B : Cell) (args : Array Value) (s : State) : Prop := args = #[.ref d, .int (Int32.ofNat B.slots.size)] ∧ Arr .byte d B s
def E (r : Option Value) (s u : State) : Prop := XT.PureE (some (.int 0)) r s u
/-- an array as long as the number of chars: LATIN1 -/
theorem law (l : Launch) (d : Addr) (B : Cell) : Law l yN 2 2 0 0 yB 2 (some .byte) site (P d B) E [] 0 0 := by
  refine Law.of_walk (plainFor_of_name (by decide +kernel)) (by decide +kernel) (by decide +kernel) (by decide) (fun _ _ h => by rw [h.1]; rfl) (fun _ U U' hal hh h => ⟨h.1, h.2.mv hal hh⟩) (fun r U U' V V' h1 hal h2 h => XT.PureE.mv r U U' V V' h1 hal h2 h) ?_
  intro p e s m args below meth c s₁ X0 hexec hbytes hml hret hlk hnm hown hh0 W hP
  obtain ⟨rfl, hB⟩ := hP
  have hB0 := hB.mv X0.warmed.alike hh0
  have c1 : Steps p.tables e below (s₁.setTop (entryFrame m #[.ref d, .int (Int32.ofNat B.slots.size)] 2)) (s₁.setTop (mkF m 0 #[.val (.ref d), .val (.int (Int32.ofNat B.slots.size))] [])) := entry rfl
  have c2 : Steps p.tables e below (s₁.setTop (entryFrame m #[.ref d, .int (Int32.ofNat B.slots.size)] 2)) (s₁.setTop (mkF m 2 #[.val (.ref d), .val (.int (Int32.ofNat B.slots.size))] [.ref d, .int (Int32.ofNat B.slots.size)])) := c1.trans (by
    refine XS.iloadN X0.here hexec rfl (hb hbytes d0) rfl ?_
    refine XS.aloadN X0.here hexec rfl (hb hbytes d1) rfl rfl ?_
    exact Steps.refl _)
  have c3 : Steps p.tables e below (s₁.setTop (entryFrame m #[.ref d, .int (Int32.ofNat B.slots.size)] 2)) (s₁.setTop (mkF m 8 #[.val (.ref d), .val (.int (Int32.ofNat B.slots.size))] [.int (lo8 (ushr (Int32.ofNat B.slots.size - Int32.ofNat B.slots.size) 31))])) := c2.trans (by
    refine X0.alen hexec hB0 rfl rfl (hb hbytes d2) ?_
    refine XS.isub X0.here hexec rfl (hb hbytes d3) rfl ?_
    refine bipushV X0.here hexec rfl 31 (hb hbytes d4) (by decide) ?_
    refine iushr X0.here hexec rfl (hb hbytes d6) rfl ?_
    refine i2b X0.here hexec rfl (hb hbytes d7) rfl ?_
    exact Steps.refl _)
  have e0 : lo8 (ushr (Int32.ofNat B.slots.size - Int32.ofNat B.slots.size) 31) = 0 := by rw [Int32.sub_self]; decide
  rw [e0] at c3
  exact ⟨s₁, some (.int 0), _, _, _, X0, rfl, rfl, rfl, (fun h => by cases h), ⟨rfl, hh0⟩, fun fs hl => c3.trans (X0.ireturnOut hexec hret rfl (Or.inr (Or.inr (Or.inl rfl))) (hb hbytes d8) hl)⟩
end CodL
/-- the String at a is Latin-1 over a new byte[] (the heap's one new cell): the low bytes of the len chars of A from o on; every cell but a is kept -/
def Got (a : Addr) (D : Cell) (fV fC : Field) (A : Cell) (o len : Nat) (r : Option Value) (s u : State) : Prop := r = none ∧ ∃ D' V : Cell, Blank "java/lang/String" a D' u ∧ Same D D' [fV.slot, fC.slot] ∧ D'.slots[fV.slot]? = some (.ref s.heap.size) ∧ D'.slots[fC.slot]? = some (.int 0) ∧ Arr .byte s.heap.size V u ∧ V.vm = .none ∧ u.vm.findClass "[B" = some V.cls ∧ V.slots.size = len ∧ (∀ j, j < len → V.slots[j]? = some (.int (lo8 (cv A (o + j))))) ∧ (∀ (y : Addr) (c : Cell), y ≠ a → s.heap[y]? = some c → u.heap[y]? = some c) ∧ u.heap.size = s.heap.size + 1
theorem Got.mv {a : Addr} {D A : Cell} {fV fC : Field} {o len : Nat} : ∀ r (U U' V V' : State), U'.heap = U.heap → V.vm.Alike V'.vm → V'.heap = V.heap → Got a D fV fC A o len r U V → Got a D fV fC A o len r U' V' :=
  fun r U U' V V' h1 hal h2 ⟨e0, D', X, a1, a2, a3, a4, a5, a6, a7, a8, a9, a10, a11⟩ => ⟨e0, D', X, a1.mv hal h2, a2, by rw [h1]; exact a3, a4, by rw [h1]; exact a5.mv hal h2, a6, by rw [hal.findClass]; exact a7, a8, a9, by rw [h1, h2]; exact a10, by rw [h1, h2]; exact a11⟩
namespace New4
def yN : MethodName := ⟨"java/lang/String", "<init>", "([CIILjava/lang/Void;)V"⟩
abbrev yB : ByteArray := jdk_42_method_149_code
theorem d0 : decode yB 0 = .ok (.aload_n 0, 1) := by decide +kernel
theorem d1 : decode yB 1 = .ok (.invokespecial 1, 3) := by decide +kernel
theorem d4 : decode yB 4 = .ok (.iload_n 3, 1) := by decide +kernel
theorem d5 : decode yB 5 = .ok (.ifCond (.ne) 22, 3) := by decide +kernel
theorem d27 : decode yB 27 = .ok (.getstatic 38, 3) := by decide +kernel
theorem d30 : decode yB 30 = .ok (.ifCond (.eq) 28, 3) := by decide +kernel
theorem d33 : decode yB 33 = .ok (.aload_n 1, 1) := by decide +kernel
theorem d34 : decode yB 34 = .ok (.iload_n 2, 1) := by decide +kernel
theorem d35 : decode yB 35 = .ok (.iload_n 3, 1) := by decide +kernel
theorem d36 : decode yB 36 = .ok (.invokestatic 177, 3) := by decide +kernel
theorem d39 : decode yB 39 = .ok (.astore 5, 2) := by decide +kernel
theorem d41 : decode yB 41 = .ok (.aload_n 0, 1) := by decide +kernel
theorem d42 : decode yB 42 = .ok (.aload 5, 2) := by decide +kernel
theorem d44 : decode yB 44 = .ok (.iload_n 3, 1) := by decide +kernel
theorem d45 : decode yB 45 = .ok (.invokestatic 47, 3) := by decide +kernel
theorem d48 : decode yB 48 = .ok (.putfield 15, 3) := by decide +kernel
theorem d51 : decode yB 51 = .ok (.aload_n 0, 1) := by decide +kernel
theorem d52 : decode yB 52 = .ok (.aload 5, 2) := by decide +kernel
theorem d54 : decode yB 54 = .ok (.putfield 9, 3) := by decide +kernel
theorem d57 : decode yB 57 = .ok (.return_, 1) := by decide +kernel
def site : List Cond := [.fieldLink "java/lang/String" 38 "java/lang/String" "COMPACT_STRINGS" "Z", Cmp3.tab, CodL.tab, .laysFinal "java/lang/String" "java/lang/String" "value" "[B", .fieldLink "java/lang/String" 9 "java/lang/String" "value" "[B", .laysFinal "java/lang/String" "java/lang/String" "coder" "B", .fieldLink "java/lang/String" 15 "java/lang/String" "coder" "B"] ++ objW "java/lang/String" 1 ++ staticW "java/lang/String" 177 Cmp3.yN ++ staticW "java/lang/String" 47 CodL.yN
def tab : Cond := tabOf yN yB 6 none site
def P (a : Addr) (D : Cell) (fV fC : Field) (b : Addr) (A : Cell) (z : Int32) (o len : Nat) (args : Array Value) (s : State) : Prop := args = #[.ref a, .ref b, .int (Int32.ofNat o), .int (Int32.ofNat len), .null] ∧ Blank "java/lang/String" a D s ∧ Found "java/lang/String" "value" "[B" fV s ∧ Found "java/lang/String" "coder" "B" fC s ∧ Ch b A s ∧ StaticIs s "java/lang/String" "COMPACT_STRINGS" "Z" (.int z) ∧ ¬ z = 0 ∧ 0 < len ∧ o + len ≤ A.slots.size ∧ len ≤ 536870912 ∧ ∀ i, i < len → ¬ 255 < cv A (o + i)
def E (a : Addr) (D : Cell) (fV fC : Field) (A : Cell) (o len : Nat) (r : Option Value) (s u : State) : Prop := Got a D fV fC A o len r s u
/-- len > 0, no char of the range above 255: a Latin-1 String of their low bytes -/
theorem law (l : Launch) (a : Addr) (D : Cell) (fV fC : Field) (b : Addr) (A : Cell) (z : Int32) (o len : Nat) : Law l yN 5 4 2 35 yB 6 none site (P a D fV fC b A z o len) (E a D fV fC A o len) [⟨a, fC.slot⟩, ⟨a, fV.slot⟩] 1 len := by
  refine Law.of_walk (plainFor_of_name (by decide +kernel)) (by decide +kernel) (by decide +kernel) (by decide) (fun _ _ h => by rw [h.1]; rfl) (fun _ U U' hal hh h => ⟨h.1, h.2.1.mv hal hh, h.2.2.1.al hal, h.2.2.2.1.al hal, h.2.2.2.2.1.mv hal hh, h.2.2.2.2.2.1.there hal hh, h.2.2.2.2.2.2⟩) (fun r U U' V V' h1 hal h2 h => Got.mv r U U' V V' h1 hal h2 h) ?_
  intro p e s m args below meth c s₁ X0 hexec hbytes hml hret hlk hnm hown hh0 W hP
  obtain ⟨rfl, hB, f1, f2, hA, s1, hz, l0, l1, l2, hp⟩ := hP
  have a31 := hA.1.2.2.2
  have c1 : Steps p.tables e below (s₁.setTop (entryFrame m #[.ref a, .ref b, .int (Int32.ofNat o), .int (Int32.ofNat len), .null] 6)) (s₁.setTop (mkF m 0 #[.val (.ref a), .val (.ref b), .val (.int (Int32.ofNat o)), .val (.int (Int32.ofNat len)), .val .null, .unset] [])) := entry rfl
  have c2 : Steps p.tables e below (s₁.setTop (entryFrame m #[.ref a, .ref b, .int (Int32.ofNat o), .int (Int32.ofNat len), .null] 6)) (s₁.setTop (mkF m 1 #[.val (.ref a), .val (.ref b), .val (.int (Int32.ofNat o)), .val (.int (Int32.ofNat len)), .val .null, .unset] [.ref a])) := c1.trans (by
    refine XS.aloadN X0.here hexec rfl (hb hbytes d0) rfl rfl ?_
    exact Steps.refl _)
  obtain ⟨T3, X3, q3, st3⟩ := X0.oinit hexec hown (wks W (objW "java/lang/String" 1)) (g := (mkF m 1 #[.val (.ref a), .val (.ref b), .val (.int (Int32.ofNat o)), .val (.int (Int32.ofNat len)), .val .null, .unset] [.ref a])) rfl (by rw [hml]; rfl) (rest := []) rfl (hb hbytes d1) (W := 0) (by show 2 * 0 + 0 ≤ _; decide) (Nat.le_of_ble_eq_true rfl) (Nat.le_of_ble_eq_true rfl)
  have hh3 := q3.trans hh0
  have c4 : Steps p.tables e below (s₁.setTop (entryFrame m #[.ref a, .ref b, .int (Int32.ofNat o), .int (Int32.ofNat len), .null] 6)) (T3.setTop (mkF m 27 #[.val (.ref a), .val (.ref b), .val (.int (Int32.ofNat o)), .val (.int (Int32.ofNat len)), .val .null, .unset] [])) := (c2.trans (st3 _ (Steps.refl _))).trans (by
    refine XS.iloadN X3.here hexec rfl (hb hbytes d4) rfl ?_
    refine XS.ifYes X3.here hexec rfl (pc0 := 5) rfl (hb hbytes d5) rfl (i0_ne_t (nz32 (by omega) l0)) (by decide) rfl ?_
    exact Steps.refl _)
  obtain ⟨T5, X5, q5, st5⟩ := X3.sget hexec hown (wk W (.fieldLink "java/lang/String" 38 "java/lang/String" "COMPACT_STRINGS" "Z")) s1 (fun _ _ h => by rw [hh3]; exact h) (g := (mkF m 27 #[.val (.ref a), .val (.ref b), .val (.int (Int32.ofNat o)), .val (.int (Int32.ofNat len)), .val .null, .unset] [])) rfl (hb hbytes d27)
  have hh5 := q5.trans hh3
  have c6 : Steps p.tables e below (s₁.setTop (entryFrame m #[.ref a, .ref b, .int (Int32.ofNat o), .int (Int32.ofNat len), .null] 6)) (T5.setTop (mkF m 30 #[.val (.ref a), .val (.ref b), .val (.int (Int32.ofNat o)), .val (.int (Int32.ofNat len)), .val .null, .unset] [.int z])) := c4.trans (st5 _ (Steps.refl _))
  have c7 : Steps p.tables e below (s₁.setTop (entryFrame m #[.ref a, .ref b, .int (Int32.ofNat o), .int (Int32.ofNat len), .null] 6)) (T5.setTop (mkF m 36 #[.val (.ref a), .val (.ref b), .val (.int (Int32.ofNat o)), .val (.int (Int32.ofNat len)), .val .null, .unset] [.int (Int32.ofNat len), .int (Int32.ofNat o), .ref b])) := c6.trans (by
    refine XS.ifNo X5.here hexec rfl (hb hbytes d30) rfl (i0_eq_f hz) ?_
    refine XS.aloadN X5.here hexec rfl (hb hbytes d33) rfl rfl ?_
    refine XS.iloadN X5.here hexec rfl (hb hbytes d34) rfl ?_
    refine XS.iloadN X5.here hexec rfl (hb hbytes d35) rfl ?_
    exact Steps.refl _)
  obtain ⟨v8, T8, X8, E8, g8⟩ := X5.callS hexec (Cmp3.law l b A o len) hown (wks W (staticW "java/lang/String" 177 Cmp3.yN)) (wk W Cmp3.tab) (W := 0) (Nat.le_of_ble_eq_true rfl) (Nat.le_of_ble_eq_true rfl) (Nat.le_refl _) (by show 0 + len ≤ len; omega) (g := (mkF m 36 #[.val (.ref a), .val (.ref b), .val (.int (Int32.ofNat o)), .val (.int (Int32.ofNat len)), .val .null, .unset] [.int (Int32.ofNat len), .int (Int32.ofNat o), .ref b])) rfl (by rw [hml]; rfl) c7 (argsL := [.ref b, .int (Int32.ofNat o), .int (Int32.ofNat len)]) (rest := []) rfl rfl (by show 2 * 0 + 0 ≤ _; decide) (hb hbytes d36) (⟨rfl, hA.mv X5.warmed.alike hh5, l1, l2, hp⟩)
  obtain ⟨e8, z8⟩ := E8
  obtain ⟨rfl, N, n1, n2, n3, n4, n5, n6⟩ := NewArr.mv _ T5 s _ _ hh5.symm (Vm.Alike.refl _) rfl e8
  rw [hh5] at z8
  have hB1 := hB.keep X8.warmed.alike (n6 _ _ hB.1)
  have hne : s.heap.size ≠ a := (Nat.ne_of_lt (Array.getElem?_eq_some_iff.mp hB.1).1).symm
  have c9 : Steps p.tables e below (s₁.setTop (entryFrame m #[.ref a, .ref b, .int (Int32.ofNat o), .int (Int32.ofNat len), .null] 6)) (T8.setTop (mkF m 39 #[.val (.ref a), .val (.ref b), .val (.int (Int32.ofNat o)), .val (.int (Int32.ofNat len)), .val .null, .unset] [.ref s.heap.size])) := g8
  have c10 : Steps p.tables e below (s₁.setTop (entryFrame m #[.ref a, .ref b, .int (Int32.ofNat o), .int (Int32.ofNat len), .null] 6)) (T8.setTop (mkF m 45 #[.val (.ref a), .val (.ref b), .val (.int (Int32.ofNat o)), .val (.int (Int32.ofNat len)), .val .null, .val (.ref s.heap.size)] [.int (Int32.ofNat N.slots.size), .ref s.heap.size, .ref a])) := by
    have hc : Steps p.tables e below (s₁.setTop (entryFrame m #[.ref a, .ref b, .int (Int32.ofNat o), .int (Int32.ofNat len), .null] 6)) (T8.setTop (mkF m 45 #[.val (.ref a), .val (.ref b), .val (.int (Int32.ofNat o)), .val (.int (Int32.ofNat len)), .val .null, .val (.ref s.heap.size)] [.int (Int32.ofNat len), .ref s.heap.size, .ref a])) := c9.trans (by
      refine XS.astore X8.here hexec rfl (hb hbytes d39) rfl rfl rfl ?_
      refine XS.aloadN X8.here hexec rfl (hb hbytes d41) rfl rfl ?_
      refine XS.aload X8.here hexec rfl (hb hbytes d42) rfl rfl ?_
      refine XS.iloadN X8.here hexec rfl (hb hbytes d44) rfl ?_
      exact Steps.refl _)
    rw [n4]; exact hc
  obtain ⟨v11, T11, X11, E11, g11⟩ := X8.callS hexec (CodL.law l s.heap.size N) hown (wks W (staticW "java/lang/String" 47 CodL.yN)) (wk W CodL.tab) (W := 1) (Nat.le_of_ble_eq_true rfl) (Nat.le_of_ble_eq_true rfl) (Nat.le_refl _) (by show 0 + len + 0 ≤ len; omega) (g := (mkF m 45 #[.val (.ref a), .val (.ref b), .val (.int (Int32.ofNat o)), .val (.int (Int32.ofNat len)), .val .null, .val (.ref s.heap.size)] [.int (Int32.ofNat N.slots.size), .ref s.heap.size, .ref a])) rfl (by rw [hml]; rfl) c10 (argsL := [.ref s.heap.size, .int (Int32.ofNat N.slots.size)]) (rest := [.ref a]) rfl rfl (by show 2 * 0 + (1 + 0) ≤ _; decide) (hb hbytes d45) (⟨rfl, n1⟩)
  obtain ⟨rfl, q11⟩ := E11
  have hB11 := hB1.mv (X8.warmed.alike.symm.trans X11.warmed.alike) q11
  have c12 : Steps p.tables e below (s₁.setTop (entryFrame m #[.ref a, .ref b, .int (Int32.ofNat o), .int (Int32.ofNat len), .null] 6)) (T11.setTop (mkF m 48 #[.val (.ref a), .val (.ref b), .val (.int (Int32.ofNat o)), .val (.int (Int32.ofNat len)), .val .null, .val (.ref s.heap.size)] [.int 0, .ref a])) := g11
  obtain ⟨T13, X13, p13, bl13, sl13, st13⟩ := X11.finit hexec hown (wk W (.fieldLink "java/lang/String" 15 "java/lang/String" "coder" "B")) (Or.inr ⟨_, (wk W (.laysFinal "java/lang/String" "java/lang/String" "coder" "B"))⟩) (Or.inl ⟨rfl, hnm⟩) f2 (Or.inl rfl) hB11 (t := .byte) (by decide +kernel) rfl (g := (mkF m 48 #[.val (.ref a), .val (.ref b), .val (.int (Int32.ofNat o)), .val (.int (Int32.ofNat len)), .val .null, .val (.ref s.heap.size)] [.int 0, .ref a])) rfl (rest := []) rfl (hb hbytes d48)
  have c14 : Steps p.tables e below (s₁.setTop (entryFrame m #[.ref a, .ref b, .int (Int32.ofNat o), .int (Int32.ofNat len), .null] 6)) (T13.setTop (mkF m 54 #[.val (.ref a), .val (.ref b), .val (.int (Int32.ofNat o)), .val (.int (Int32.ofNat len)), .val .null, .val (.ref s.heap.size)] [.ref s.heap.size, .ref a])) := (c12.trans (st13 _ (Steps.refl _))).trans (by
    refine XS.aloadN X13.here hexec rfl (hb hbytes d51) rfl rfl ?_
    refine XS.aload X13.here hexec rfl (hb hbytes d52) rfl rfl ?_
    exact Steps.refl _)
  obtain ⟨T15, X15, p15, bl15, sl15, st15⟩ := X13.finit hexec hown (wk W (.fieldLink "java/lang/String" 9 "java/lang/String" "value" "[B")) (Or.inr ⟨_, (wk W (.laysFinal "java/lang/String" "java/lang/String" "value" "[B"))⟩) (Or.inl ⟨rfl, hnm⟩) f1 (Or.inl rfl) bl13 (t := (.array .byte)) (by decide +kernel) rfl (g := (mkF m 54 #[.val (.ref a), .val (.ref b), .val (.int (Int32.ofNat o)), .val (.int (Int32.ofNat len)), .val .null, .val (.ref s.heap.size)] [.ref s.heap.size, .ref a])) rfl (rest := []) rfl (hb hbytes d54)
  have c16 : Steps p.tables e below (s₁.setTop (entryFrame m #[.ref a, .ref b, .int (Int32.ofNat o), .int (Int32.ofNat len), .null] 6)) (T15.setTop (mkF m 57 #[.val (.ref a), .val (.ref b), .val (.int (Int32.ofNat o)), .val (.int (Int32.ofNat len)), .val .null, .val (.ref s.heap.size)] [])) := c14.trans (st15 _ (Steps.refl _))
  have ap := apart (Or.inr ⟨_, (wk W (.laysFinal "java/lang/String" "java/lang/String" "value" "[B"))⟩) (Or.inr ⟨_, (wk W (.laysFinal "java/lang/String" "java/lang/String" "coder" "B"))⟩) f1 f2 (t₁ := .array .byte) (t₂ := .byte) (by decide +kernel) (by decide +kernel) (by decide)
  have al := X8.warmed.alike.symm.trans X15.warmed.alike
  have n7 : T11.heap[s.heap.size]? = some N := by rw [q11]; exact n1.1
  exact ⟨T15, none, _, _, _, X15, by simp, rfl, by omega, (fun _ => rfl), ⟨rfl, _, N, bl15, ((Same.refl D _).set _ (by simp)).set _ (by simp), sl15, (Cell.slots_setSlot_ne _ ap).trans sl13, n1.keep al (p15.other hne (p13.other hne n7)), n2, by rw [al.findClass]; exact n3, n4, n5, fun y c h1 h2 => p15.other h1 (p13.other h1 (by rw [q11]; exact n6 y c h2)), by rw [p15.2.2, p13.2.2, q11]; exact z8⟩, fun fs hl => c16.trans (X15.returnOut hexec hret (hb hbytes d57) hl)⟩
end New4
namespace New1
def yN : MethodName := ⟨"java/lang/String", "<init>", "([C)V"⟩
abbrev yB : ByteArray := jdk_42_method_3_code
theorem d0 : decode yB 0 = .ok (.aload_n 0, 1) := by decide +kernel
theorem d1 : decode yB 1 = .ok (.aload_n 1, 1) := by decide +kernel
theorem d2 : decode yB 2 = .ok (.iconst 0, 1) := by decide +kernel
theorem d3 : decode yB 3 = .ok (.aload_n 1, 1) := by decide +kernel
theorem d4 : decode yB 4 = .ok (.arraylength, 1) := by decide +kernel
theorem d5 : decode yB 5 = .ok (.aconst_null, 1) := by decide +kernel
theorem d6 : decode yB 6 = .ok (.invokespecial 27, 3) := by decide +kernel
theorem d9 : decode yB 9 = .ok (.return_, 1) := by decide +kernel
def site : List Cond := [New4.tab] ++ initW "java/lang/String" 27 New4.yN
def tab : Cond := tabOf yN yB 2 none site
def P (a : Addr) (D : Cell) (fV fC : Field) (b : Addr) (A : Cell) (z : Int32) (args : Array Value) (s : State) : Prop := args = #[.ref a, .ref b] ∧ Blank "java/lang/String" a D s ∧ Found "java/lang/String" "value" "[B" fV s ∧ Found "java/lang/String" "coder" "B" fC s ∧ Ch b A s ∧ StaticIs s "java/lang/String" "COMPACT_STRINGS" "Z" (.int z) ∧ ¬ z = 0 ∧ 0 < A.slots.size ∧ A.slots.size ≤ 536870912 ∧ ∀ i, i < A.slots.size → ¬ 255 < cv A i
def E (a : Addr) (D : Cell) (fV fC : Field) (A : Cell) (r : Option Value) (s u : State) : Prop := Got a D fV fC A 0 A.slots.size r s u
/-- new String(chars), not empty, no char above 255: a Latin-1 String of their low bytes -/
theorem law (l : Launch) (a : Addr) (D : Cell) (fV fC : Field) (b : Addr) (A : Cell) (z : Int32) : Law l yN 2 1 3 52 yB 2 none site (P a D fV fC b A z) (E a D fV fC A) [⟨a, fC.slot⟩, ⟨a, fV.slot⟩] 1 A.slots.size := by
  refine Law.of_walk (plainFor_of_name (by decide +kernel)) (by decide +kernel) (by decide +kernel) (by decide) (fun _ _ h => by rw [h.1]; rfl) (fun _ U U' hal hh h => ⟨h.1, h.2.1.mv hal hh, h.2.2.1.al hal, h.2.2.2.1.al hal, h.2.2.2.2.1.mv hal hh, h.2.2.2.2.2.1.there hal hh, h.2.2.2.2.2.2⟩) (fun r U U' V V' h1 hal h2 h => Got.mv r U U' V V' h1 hal h2 h) ?_
  intro p e s m args below meth c s₁ X0 hexec hbytes hml hret hlk hnm hown hh0 W hP
  obtain ⟨rfl, hB, f1, f2, hA, s1, hz, l0, l2, hp⟩ := hP
  have c1 : Steps p.tables e below (s₁.setTop (entryFrame m #[.ref a, .ref b] 2)) (s₁.setTop (mkF m 0 #[.val (.ref a), .val (.ref b)] [])) := entry rfl
  have c2 : Steps p.tables e below (s₁.setTop (entryFrame m #[.ref a, .ref b] 2)) (s₁.setTop (mkF m 6 #[.val (.ref a), .val (.ref b)] [.null, .int (Int32.ofNat A.slots.size), .int 0, .ref b, .ref a])) := c1.trans (by
    refine XS.aloadN X0.here hexec rfl (hb hbytes d0) rfl rfl ?_
    refine XS.aloadN X0.here hexec rfl (hb hbytes d1) rfl rfl ?_
    refine iconstV X0.here hexec rfl 0 (hb hbytes d2) (by decide) ?_
    refine XS.aloadN X0.here hexec rfl (hb hbytes d3) rfl rfl ?_
    refine X0.alen hexec (hA.1.mv X0.warmed.alike hh0) rfl rfl (hb hbytes d4) ?_
    refine XS.aconstNull X0.here hexec rfl (hb hbytes d5) ?_
    exact Steps.refl _)
  obtain ⟨v3, T3, X3, E3, g3⟩ := X0.callN hexec (New4.law l a D fV fC b A z 0 A.slots.size) rfl hown (wks W (initW "java/lang/String" 27 New4.yN)) (W New4.tab (by simp only [site, List.mem_cons, List.mem_append, true_or, or_true])) (W := 0) (Nat.le_of_ble_eq_true rfl) (Nat.le_of_ble_eq_true rfl) (Nat.le_refl _) (by show 0 + A.slots.size ≤ A.slots.size; omega) (g := (mkF m 6 #[.val (.ref a), .val (.ref b)] [.null, .int (Int32.ofNat A.slots.size), .int (Int32.ofNat 0), .ref b, .ref a])) rfl (by rw [hml]; rfl) c2 (argsL := [.ref b, .int (Int32.ofNat 0), .int (Int32.ofNat A.slots.size), .null]) (rest := []) rfl rfl (by show 2 * 0 + 0 ≤ _; decide) (hb hbytes d6) (⟨rfl, hB.mv X0.warmed.alike hh0, f1.al X0.warmed.alike, f2.al X0.warmed.alike, hA.mv X0.warmed.alike hh0, s1.there X0.warmed.alike hh0, hz, l0, by omega, l2, fun i hi => by rw [Nat.zero_add]; exact hp i hi⟩)
  have e0 := Got.mv _ s₁ s _ _ hh0.symm (Vm.Alike.refl _) rfl E3
  obtain rfl := e0.1
  have c4 : Steps p.tables e below (s₁.setTop (entryFrame m #[.ref a, .ref b] 2)) (T3.setTop (mkF m 9 #[.val (.ref a), .val (.ref b)] [])) := g3
  exact ⟨T3, none, _, _, _, X3, by simp, rfl, by omega, (fun _ => rfl), e0, fun fs hl => c4.trans (X3.returnOut hexec hret (hb hbytes d9) hl)⟩
theorem pays {l : Launch} {R : Room} {p : Program} {e : Env} {below : List Frame} {s : State} {sargs : Array Value} {len W : Nat} (a : Addr) (D : Cell) (fV fC : Field) (b : Addr) (A : Cell) (z : Int32) (htab : tab.before sargs s = true) (hfr : 4 ≤ R.frames) (hlo : W + 65 ≤ R.locals) :
    Back l R p e below s sargs yN len W (fun A₁ a₁ => A₁.cells + 1 ≤ R.cells ∧ A₁.slots + A.slots.size ≤ R.slots ∧ P a D fV fC b A z a₁ A₁.U) (fun A₁ _ v₁ B₁ => E a D fV fC A v₁ A₁.U B₁.U ∧ B₁.locs = A₁.locs ++ [⟨a, fC.slot⟩, ⟨a, fV.slot⟩] ∧ B₁.cells = A₁.cells + 1 ∧ B₁.slots = A₁.slots + A.slots.size) :=
  (law l a D fV fC b A z).pays htab hfr (by omega)
end New1
end StrChars
namespace StrChars.Road
open Jvm Sem ClassFile Op Lib Jvm.Stand Jvm.Free Jvm.Free.XT
open Jvm.Lib.Cold (StaticIs)
abbrev ST : String := "java/lang/String"
/-- every table word that New1's law asks, flat -/
abbrev words : List Jvm.Cond := [.code New1.yN New1.yB 2 none, .initialized ST, .methodLink ST 27 New4.yN, .instanceMethod New4.yN,
  .code New4.yN New4.yB 6 none, .fieldLink ST 38 ST "COMPACT_STRINGS" "Z", .laysFinal ST ST "value" "[B", .fieldLink ST 9 ST "value" "[B", .laysFinal ST ST "coder" "B", .fieldLink ST 15 ST "coder" "B",
  .methodLink ST 1 Lib.objectInit, .instanceMethod Lib.objectInit, .code Lib.objectInit ⟨#[0xb1]⟩ 1 none, .methodLink ST 177 Cmp3.yN, .static Cmp3.yN, .methodLink ST 47 CodL.yN, .static CodL.yN,
  .code Cmp3.yN Cmp3.yB 6 (some (.array .byte)), .initialized U16, .arrayClass .byte, .methodLink U16 115 Cmp5.yN, .static Cmp5.yN, .code Cmp5.yN Cmp5.yB 7 (some .int), .code CodL.yN CodL.yB 2 (some .byte)]
theorem tab_of {a : Array Value} {s : State} (h : ∀ w ∈ words, w.before a s = true) : New1.tab.before a s = true := by
  have h5 : Cmp5.tab.before a s = true := unparts (wk h (.code Cmp5.yN Cmp5.yB 7 (some .int))) (wks h (.initialized Cmp5.yN.cls :: Cmp5.site))
  have hc : CodL.tab.before a s = true := unparts (wk h (.code CodL.yN CodL.yB 2 (some .byte))) (wks h (.initialized CodL.yN.cls :: CodL.site))
  have q5 : ∀ w ∈ Cmp5.tab :: words, w.before a s = true := fun w hw => (List.mem_cons.mp hw).elim (fun e => e ▸ h5) (h w)
  have h3 : Cmp3.tab.before a s = true := unparts (wk q5 (.code Cmp3.yN Cmp3.yB 6 (some (.array .byte)))) (wks q5 (.initialized Cmp3.yN.cls :: Cmp3.site))
  have q3 : ∀ w ∈ Cmp3.tab :: CodL.tab :: words, w.before a s = true := fun w hw => (List.mem_cons.mp hw).elim (fun e => e ▸ h3) fun hw => (List.mem_cons.mp hw).elim (fun e => e ▸ hc) (h w)
  have h4 : New4.tab.before a s = true := unparts (wk q3 (.code New4.yN New4.yB 6 none)) (wks q3 (.initialized New4.yN.cls :: New4.site))
  have q4 : ∀ w ∈ New4.tab :: words, w.before a s = true := fun w hw => (List.mem_cons.mp hw).elim (fun e => e ▸ h4) (h w)
  exact unparts (wk q4 (.code New1.yN New1.yB 2 none)) (wks q4 (.initialized New1.yN.cls :: New1.site))
/-- the words ride from the start Z to the walk's own state -/
theorem moved {Z s : State} {a0 args : Array Value} (hZ : Z.Warmed39 s.vm) (hw : ∀ d ∈ words, d.before a0 Z = true) : ∀ d ∈ words, d.before args s = true := fun d hd => by
  have q := hw d hd
  have t : ∀ d ∈ words, d = .arrayClass .byte ∨ (d.onTables && d.keepsFace) = true := by decide +kernel
  rcases t d hd with rfl | t
  · exact RoadKit.mvA hZ q
  · exact RoadKit.mv hZ q t
/-- WHAT COMES BACK, over the tables of the start Z: h the heap at the call, h' behind it -/
def Q (Z : State) (x : Addr) (A : Cell) (h : Heap) (v : Option Value) (h' : Heap) (L : List Loc) : Prop := v = none ∧ (∀ y ∈ L, y.base = x) ∧ RoadKit.Keep h h' [x] ∧ h'.size = h.size + 1 ∧ RoadKit.Exa Z h' x ST ∧ RoadKit.Fld Z h' x ST "value" "[B" (.ref h.size) ∧ RoadKit.Fld Z h' x ST "coder" "B" (.int 0) ∧
  (∃ V : Cell, RoadKit.Arr Z h' h.size V .byte ∧ V.vm = .none ∧ Z.vm.findClass "[B" = some V.cls ∧ V.slots.size = A.slots.size ∧ ∀ j, j < A.slots.size → V.slots[j]? = some (.int (lo8 (cv A j)))) ∧
  ∀ (O n d : String) (w : Value), RoadKit.Fld Z h x O n d w → RoadKit.slotOf Z O n d ≠ RoadKit.slotOf Z ST "value" "[B" → RoadKit.slotOf Z O n d ≠ RoadKit.slotOf Z ST "coder" "B" → RoadKit.Fld Z h' x O n d w
/-- **new String(chars) AT A CALL, IN THE ROAD'S FORM**: for specialBack behind newO: x the fresh String, b the char[] with the cell A -/
theorem back {p : Program} {l : Launch} {e : Env} {R : Room} {s : State} {args : Array Value} {below : List Frame} {len W : Nat} {Z : State} {a0 : Array Value} {h : Heap} (hZ : Z.Warmed39 s.vm) (hw : ∀ d ∈ words, d.before a0 Z = true) {kI : Nat} (wi : (Jvm.Cond.instantiable ST kI).before a0 Z = true)
    {x b : Addr} {A : Cell} {z : Int32} {v0 c0 : Value} (E : RoadKit.Exa Z h x ST) (V : RoadKit.Fld Z h x ST "value" "[B" v0) (C : RoadKit.Fld Z h x ST "coder" "B" c0) (K : RoadKit.Arr Z h b A .char) (hty : Typed .char A) (S : RoadKit.Sta Z h ST "COMPACT_STRINGS" "Z" (.int z)) (hz : ¬ z = 0)
    (l0 : 0 < A.slots.size) (l2 : A.slots.size ≤ 536870912) (hp : ∀ i, i < A.slots.size → ¬ 255 < cv A i) (hfr : 4 ≤ R.frames) (hlo : W + 65 ≤ R.locals) :
    Back l R p e below s args New1.yN len W (fun P a => a = #[.ref x, .ref b] ∧ P.U.heap = h ∧ P.cells + 1 ≤ R.cells ∧ P.slots + A.slots.size ≤ R.slots)
      (fun P _ v B => ∃ L, Q Z x A h v B.U.heap L ∧ B.locs = P.locs ++ L ∧ B.cells = P.cells + 1 ∧ B.slots = P.slots + A.slots.size) := by
  intro m meth c P g ig mk a X hg hsize hdg hW hn hp'
  obtain ⟨rfl, rfl, r1, r2⟩ := hp'
  have al : Z.vm.Alike P.U.vm := hZ.alike.trans X.warmed.alike
  obtain ⟨D, cfV, kV, iV, fV, hD, gV, stV, knV, obV, asV, slV⟩ := id V
  obtain ⟨D', cfC, kC, iC, fC, hD', gC, stC, -, -, asC, slC⟩ := id C
  cases hD.symm.trans hD'
  obtain ⟨D2, kD, e1, e2, e3, e4, e5⟩ := id E
  cases hD.symm.trans e1
  obtain ⟨c2, k2, i1, i2, i3, -⟩ := Cond.instantiable_spec wi
  cases e2.symm.trans i1
  cases e3.symm.trans i2
  obtain ⟨kU, u1, u2⟩ := al.2.2 _ _ e3
  have hB : Blank ST x D P.U := ⟨hD, ⟨knV, fun q hq => by rw [hq] at obV; cases obV⟩, by rw [al.findClass]; exact e2, kU, u1, by rw [u2]; exact i3, by rw [u2]; exact e5 i3⟩
  have F1 : Found ST "value" "[B" fV P.U := ⟨SBG.found_only al ⟨cfV, kV, iV, gV⟩, stV⟩
  have F2 : Found ST "coder" "B" fC P.U := ⟨SBG.found_only al ⟨cfC, kC, iC, gC⟩, stC⟩
  have hA : Ch b A P.U := ⟨⟨K.1, State.isArrayOf_alike al K.2.1, K.2.2, by omega⟩, hty⟩
  have hS : StaticIs P.U ST "COMPACT_STRINGS" "Z" (.int z) := by
    obtain ⟨cfS, iS, kS, fS, st, cS, t1, t2, t3, t4, t5, t6, t7⟩ := S
    exact StaticIs.there (s := { Z with heap := P.U.heap }) ⟨cfS, iS, kS, fS, st, cS, t1, t2, t3, t4, t5, (fun q => by rw [q] at t6; cases t6), t7⟩ al rfl
  obtain ⟨v, B, X', ⟨⟨hv, E', V', q1, q2, q3, q4, q5, q6, q7, q8, q9, q10, q11⟩, hl, hc, hs⟩, st⟩ := New1.pays x D fV fC b A z (tab_of (moved hZ hw)) hfr hlo m meth c P g ig mk _ X hg hsize hdg hW hn ⟨r1, r2, rfl, hB, F1, F2, hA, hS, hz, l0, l2, hp⟩
  have al' : Z.vm.Alike B.U.vm := hZ.alike.trans X'.warmed.alike
  have hsz : E'.slots.size = D.slots.size := by
    obtain ⟨-, -, -, kB, w1, w2, w3⟩ := q1
    obtain ⟨kB', y1, y2⟩ := al'.2.2 _ _ e3
    rw [q2.2.1] at w1
    cases w1.symm.trans y1
    rw [w3, e5 i3, y2]
  refine ⟨v, B, X', ⟨_, ⟨hv, ?_, ⟨by omega, fun y cy hy hn' => q10 y cy (by simpa using hn') hy, fun y cy hy => ?_⟩, q11, ⟨E', _, q1.1, by rw [q2.2.1]; exact e2, by rw [q2.2.1]; exact e3, by rw [q2.1]; exact obV, fun _ => by rw [hsz]; exact e5 i3⟩,
    ⟨E', cfV, kV, iV, fV, q1.1, gV, stV, by rw [q2.1]; exact knV, by rw [q2.1]; exact obV, by rw [q2.2.1]; exact asV, q3⟩, ⟨E', cfC, kC, iC, fC, q1.1, gC, stC, by rw [q2.1]; exact knV, by rw [q2.1]; exact obV, by rw [q2.2.1]; exact asC, q4⟩,
    ⟨V', ⟨q5.1, State.isArrayOf_alike al'.symm q5.2.1, q5.2.2.1⟩, q6, by rw [← al'.findClass]; exact q7, q8, fun j hj => by have := q9 j hj; rwa [Nat.zero_add] at this⟩, fun O n d w F n1 n2 => ?_⟩, hl, hc, hs⟩, st⟩
  · intro y hy
    simp only [List.mem_cons, List.not_mem_nil, or_false] at hy
    rcases hy with rfl | rfl <;> rfl
  · by_cases q : y = x
    · subst q
      cases hD.symm.trans hy
      exact ⟨E', q1.1, q2.2.1, q2.1, hsz⟩
    · exact ⟨cy, q10 y cy q hy, rfl, rfl, rfl⟩
  · obtain ⟨D3, cf, k, i, f, g1, g2, g3, g4, g5, g6, g7⟩ := F
    cases hD.symm.trans g1
    simp only [RoadKit.slotOf, g2, gV, gC, Option.map_some, Option.getD_some] at n1 n2
    exact ⟨E', cf, k, i, f, q1.1, g2, g3, by rw [q2.1]; exact g4, by rw [q2.1]; exact g5, by rw [q2.2.1]; exact g6, by rw [q2.2.2 f.slot (by simp [n1, n2])]; exact g7⟩
end StrChars.Road
namespace StrChars.Road
open Jvm Sem ClassFile Op Lib Jvm.Stand Jvm.Free Jvm.Free.XT
/-- WHAT COMES BACK, the byte[] as a list of values -/
def QA (Z : State) (x : Addr) (zn : Int32) (cs : List Int32) (h : Heap) (v : Option Value) (h' : Heap) (L : List Loc) : Prop := v = none ∧ (∀ y ∈ L, y.base = x) ∧ RoadKit.Keep h h' [x] ∧ h'.size = h.size + 1 ∧ RoadKit.Exa Z h' x ST ∧ RoadKit.Fld Z h' x ST "value" "[B" (.ref h.size) ∧ RoadKit.Fld Z h' x ST "coder" "B" (.int 0) ∧
  (∃ kb, Z.vm.findClass "[B" = some kb ∧ RoadKit.Arv Z h' h.size kb .byte zn (cs.map fun c => .int (lo8 c)) (.int 0)) ∧
  ∀ (O n d : String) (w : Value), RoadKit.Fld Z h x O n d w → RoadKit.slotOf Z O n d ≠ RoadKit.slotOf Z ST "value" "[B" → RoadKit.slotOf Z O n d ≠ RoadKit.slotOf Z ST "coder" "B" → RoadKit.Fld Z h' x O n d w
/-- **new String(chars) AT A CALL, THE ARRAYS AS LISTS**: the char[] at b holds cs, not empty, no char above 255 -/
theorem backArv {p : Program} {l : Launch} {e : Env} {R : Room} {s : State} {args : Array Value} {below : List Frame} {len W : Nat} {Z : State} {a0 : Array Value} {h : Heap} (hZ : Z.Warmed39 s.vm) (hw : ∀ d ∈ words, d.before a0 Z = true) {kI : Nat} (wi : (Jvm.Cond.instantiable ST kI).before a0 Z = true)
    {x b : Addr} {k : ClassId} {zn z : Int32} {cs : List Int32} {dv v0 c0 : Value} (E : RoadKit.Exa Z h x ST) (V : RoadKit.Fld Z h x ST "value" "[B" v0) (C : RoadKit.Fld Z h x ST "coder" "B" c0) (K : RoadKit.Arv Z h b k .char zn (cs.map Value.int) dv) (S : RoadKit.Sta Z h ST "COMPACT_STRINGS" "Z" (.int z)) (hz : ¬ z = 0)
    (hlen : zn.toNatClampNeg = cs.length) (h0 : 0 < cs.length) (hbig : cs.length ≤ 536870912) (hall : ∀ c ∈ cs, ¬ 255 < c) (hfr : 4 ≤ R.frames) (hlo : W + 65 ≤ R.locals) :
    Back l R p e below s args New1.yN len W (fun P a => a = #[.ref x, .ref b] ∧ P.U.heap = h ∧ P.cells + 1 ≤ R.cells ∧ P.slots + cs.length ≤ R.slots)
      (fun P _ v B => ∃ L, QA Z x zn cs h v B.U.heap L ∧ B.locs = P.locs ++ L ∧ B.cells = P.cells + 1 ∧ B.slots = P.slots + cs.length) := by
  obtain ⟨A, K1, K2, K3, K4, K5, K6⟩ := K
  have e : A.slots.size = cs.length := K3.trans hlen
  have hat : ∀ (i : Nat) (hi : i < cs.length), A.slots[i]? = some (.int cs[i]) := fun i hi => by rw [K5 i (by omega)]; simp [List.getD_eq_getElem?_getD, hi]
  have hcv : ∀ (i : Nat) (hi : i < cs.length), cv A i = cs[i] := fun i hi => by unfold cv; rw [hat i hi]
  have hty : Typed .char A := fun i v hv => by
    have hi : i < A.slots.size := (Array.getElem?_eq_some_iff.mp hv).1
    have q := K5 i hi
    rw [hv] at q
    rw [Option.some.inj q]
    exact K6 i hi
  refine Back.mono (back hZ hw wi E V C K1 hty S hz (by omega) (by omega) (fun i hi => by rw [hcv i (by omega)]; exact hall _ (List.getElem_mem _)) hfr hlo) (fun P a hp => ⟨hp.1, hp.2.1, hp.2.2.1, by rw [e]; exact hp.2.2.2⟩) (fun P a v B hp hq => ?_)
  obtain ⟨L, ⟨q1, q2, q3, q4, q5, q6, q7, ⟨V', v1, v2, v3, v4, v5⟩, q9⟩, hl, hc, hs⟩ := hq
  refine ⟨L, ⟨q1, q2, q3, q4, q5, q6, q7, ⟨V'.cls, v3, V', v1, rfl, by rw [v4, e, hlen], K4, fun i hi => ?_, fun i hi => ?_⟩, q9⟩, hl, hc, by rw [hs, e]⟩
  · have hi' : i < cs.length := by omega
    rw [v5 i (by omega), hcv i hi']; simp [List.getD_eq_getElem?_getD, hi']
  · have hi' : i < cs.length := by omega
    simp only [List.getD_eq_getElem?_getD, List.getElem?_map, List.getElem?_eq_getElem hi', Option.map_some, Option.getD_some]
    exact fits_lo8 _
end StrChars.Road
namespace StrChars.Road
open Jvm Sem ClassFile Op Lib Jvm.Stand Jvm.Free Jvm.Free.XT
/-- WHAT COMES BACK, in the writer's own shape -/
def QV (Z : State) (x : Addr) (N : Int32) (bs : List Int32) (h : Heap) (n0 : Nat) (v : Option Value) (h' : Heap) (L : List Loc) : Prop := v = none ∧ RoadKit.Fr n0 L ∧ RoadKit.Keep h h' [x] ∧ RoadKit.Exa Z h' x ST ∧ RoadKit.Fld Z h' x ST "coder" "B" (.int 0) ∧
  ∃ (t : Addr) (kb : ClassId), n0 ≤ t ∧ h.size ≤ t ∧ ¬ t = x ∧ RoadKit.Fld Z h' x ST "value" "[B" (.ref t) ∧ RoadKit.Arv Z h' t kb .byte N (bs.map Value.int) (.int 0)
/-- **new String(chars) AT A CALL, FOR THE WRITER**: a char[] of n known ints, each 0 to 255 -/
theorem backV {p : Program} {l : Launch} {e : Env} {R : Room} {s : State} {args : Array Value} {below : List Frame} {len W : Nat} {Z : State} {a0 : Array Value} {h : Heap} (hZ : Z.Warmed39 s.vm) (hw : ∀ d ∈ words, d.before a0 Z = true) {kI : Nat} (wi : (Jvm.Cond.instantiable ST kI).before a0 Z = true)
    {x b : Addr} {kC : ClassId} {cs bs : List Int32} {d v0 c0 : Value} {z N : Int32} {n n0 : Nat} (hx0 : n0 ≤ x) (hh0 : n0 ≤ h.size) (E : RoadKit.Exa Z h x ST) (V : RoadKit.Fld Z h x ST "value" "[B" v0) (C : RoadKit.Fld Z h x ST "coder" "B" c0) (K : RoadKit.Arv Z h b kC .char N (cs.map Value.int) d) (S : RoadKit.Sta Z h ST "COMPACT_STRINGS" "Z" (.int z)) (hz : ¬ z = 0)
    (hn : cs.length = n) (hN : N = Int32.ofNat n) (l0 : 0 < n) (l2 : n ≤ 4000) (hp : ∀ c ∈ cs, ¬ c < 0 ∧ ¬ (255 : Int32) < c) (hb : bs = cs.map (fun c => c.toInt8.toInt32)) (hfr : 4 ≤ R.frames) (hlo : W + 65 ≤ R.locals) :
    Back l R p e below s args (⟨"java/lang/String", "<init>", "([C)V"⟩ : MethodName) len W (fun P a => a = #[.ref x, .ref b] ∧ P.U.heap = h ∧ P.cells + 1 ≤ R.cells ∧ P.slots + n ≤ R.slots)
      (fun P _ v B => ∃ L, QV Z x N bs h n0 v B.U.heap L ∧ B.locs = P.locs ++ L ∧ B.cells = P.cells + 1 ∧ B.slots = P.slots + n) := by
  subst hn hN hb
  refine Back.mono (backArv hZ hw wi E V C K S hz (n32 (by omega)) l0 (by omega) (fun c hc => (hp c hc).2) hfr hlo) (fun P a hp => hp) (fun P a v B hp hq => ?_)
  obtain ⟨L, ⟨q1, q2, q3, q4, q5, q6, q7, ⟨kb, v1, v2⟩, q9⟩, hl, hc, hs⟩ := hq
  exact ⟨L, ⟨q1, fun y hy => by rw [q2 y hy]; exact hx0, q3, q5, q7, h.size, kb, hh0, Nat.le_refl _, Nat.ne_of_gt E.lt, q6, by rw [List.map_map]; exact v2⟩, hl, hc, hs⟩
end StrChars.Road
namespace StrChars
open Jvm Sem ClassFile Op Lib Jvm.Stand Jvm.Free.XT Jvm.Free.ALB Jvm.Free.JM Jvm.Free
open Jvm.Lib.Cold (StaticIs)
def hi8 (x : Int32) : Int32 := lo8 (x >>> ((8 : Int32) &&& 31))
/-- what StringUTF16.getChar makes of two bytes -/
def pairCh (u v : Int32) : Int32 := (((u &&& 255) <<< ((0 : Int32) &&& 31)) ||| ((v &&& 255) <<< ((8 : Int32) &&& 31))).toUInt32.toUInt16.toUInt32.toInt32
theorem lo8_and (x : Int32) : (lo8 x &&& 255).toBitVec.toNat = x.toBitVec.toNat % 256 := by
  have h : (lo8 x).toBitVec = (x.toBitVec.signExtend 8).signExtend 32 := by rw [lo8, Int8.toBitVec_toInt32, Int32.toBitVec_toInt8]
  rw [Int32.toBitVec_and, BitVec.toNat_and, h]
  have e : ((x.toBitVec.signExtend 8).signExtend 32).toNat % 256 = x.toBitVec.toNat % 256 := by
    rw [BitVec.toNat_signExtend]
    have hlt := x.toBitVec.isLt
    simp only [BitVec.toNat_setWidth, BitVec.toNat_signExtend]
    split <;> split <;> omega
  rw [← e]
  exact Nat.and_two_pow_sub_one_eq_mod _ 8
theorem pair_says {c : Int32} (h0 : ¬ c < 0) (h1 : ¬ 65535 < c) : pairCh (lo8 c) (hi8 c) = c := by
  rw [Int32.lt_iff_toInt_lt] at h0 h1
  have e0 : (0 : Int32).toInt = 0 := rfl
  have e1 : (65535 : Int32).toInt = 65535 := rfl
  have hc : c.toInt = c.toBitVec.toNat := by
    have := c.toBitVec.isLt
    have e : c.toInt = c.toBitVec.toInt := rfl
    rw [e] at h0 h1
    rw [e]
    rw [BitVec.toInt_eq_toNat_cond] at h0 h1 ⊢
    split at h0 <;> split <;> omega
  have hn : c.toBitVec.toNat < 65536 := by omega
  have a1 := lo8_and c
  have a2 : (hi8 c &&& 255).toBitVec.toNat = c.toBitVec.toNat / 256 := by
    rw [hi8, lo8_and]
    have e : ((8 : Int32) &&& 31) = 8 := by decide
    rw [e, Int32.toBitVec_shiftRight]
    have e2 : ((8 : Int32).toBitVec.smod 32) = 8#32 := by decide
    rw [e2, BitVec.sshiftRight_eq', BitVec.toNat_sshiftRight_of_msb_false (by rw [BitVec.msb_eq_false_iff_two_mul_lt]; omega)]
    show c.toBitVec.toNat >>> 8 % 256 = _
    rw [Nat.shiftRight_eq_div_pow]
    omega
  unfold pairCh
  apply Int32.toBitVec_inj.mp
  apply BitVec.eq_of_toNat_eq
  have f0 : ((0 : Int32) &&& 31) = 0 := by decide
  have f8 : ((8 : Int32) &&& 31) = 8 := by decide
  rw [f0, f8]
  have g : (((lo8 c &&& 255) <<< (0 : Int32)) ||| ((hi8 c &&& 255) <<< (8 : Int32))).toBitVec.toNat = c.toBitVec.toNat := by
    rw [Int32.toBitVec_or, Int32.toBitVec_shiftLeft, Int32.toBitVec_shiftLeft]
    have s0 : ((0 : Int32).toBitVec.smod 32) = 0#32 := by decide
    have s8 : ((8 : Int32).toBitVec.smod 32) = 8#32 := by decide
    rw [s0, s8, BitVec.toNat_or]
    simp only [BitVec.shiftLeft_eq', BitVec.toNat_shiftLeft, a1, a2]
    show (c.toBitVec.toNat % 256) <<< 0 % 2 ^ 32 ||| (c.toBitVec.toNat / 256) <<< 8 % 2 ^ 32 = _
    rw [Nat.shiftLeft_zero, Nat.mod_eq_of_lt (show c.toBitVec.toNat % 256 < 2 ^ 32 by omega), Nat.mod_eq_of_lt (show (c.toBitVec.toNat / 256) <<< 8 < 2 ^ 32 by rw [Nat.shiftLeft_eq]; omega), Nat.or_comm, ← Nat.shiftLeft_add_eq_or_of_lt (by omega), Nat.shiftLeft_eq]
    omega
  show BitVec.toNat (((((lo8 c &&& 255) <<< (0 : Int32)) ||| ((hi8 c &&& 255) <<< (8 : Int32))).toBitVec.setWidth 16).setWidth 32) = _
  rw [BitVec.toNat_setWidth, BitVec.toNat_setWidth, g]
  omega
end StrChars
end Jvm.Pilot.@@N@@
namespace Jvm.Pilot.@@N@@
open Jvm Jvm.ClassFile Sem Op Lib Jvm.Free Jvm.Stand Jvm.LawKit Jvm.RoadKit Bundle Jvm.Pilot.@@N@@.Jvm.D
theorem paysNew {p : Program} {l : Launch} {e : Env} {R : Room} {s : State} {args : Array Value} {below : List Frame} {len W : Nat} {Z : State} {a0 : Array Value} {h : Heap} (hZ : Z.Warmed39 s.vm) (hw : ∀ d ∈ StrChars.Road.words, d.before a0 Z = true) {kI : Nat} (wi : (Jvm.Cond.instantiable StrChars.Road.ST kI).before a0 Z = true) {x b : Addr} {kC : ClassId} {cs bs : List Int32} {d v0 c0 : Value} {z N : Int32} {n n0 : Nat} (hx0 : n0 ≤ x) (hh0 : n0 ≤ h.size) (E : RoadKit.Exa Z h x StrChars.Road.ST) (F : RoadKit.Fld Z h x StrChars.Road.ST "value" "[B" v0) (C : RoadKit.Fld Z h x StrChars.Road.ST "coder" "B" c0) (A : RoadKit.Arv Z h b kC .char N (cs.map Value.int) d) (S : RoadKit.Sta Z h StrChars.Road.ST "COMPACT_STRINGS" "Z" (.int z)) (hz : ¬ z = 0) (hn : cs.length = n) (hN : N = Int32.ofNat n) (l0 : 0 < n) (l2 : n ≤ 4000) (hp : ∀ c ∈ cs, ¬ c < 0 ∧ ¬ (255 : Int32) < c) (hb : bs = cs.map (fun c => c.toInt8.toInt32)) (hfr : 4 ≤ R.frames) (hlo : W + 65 ≤ R.locals) : Pays l R p e below s args (⟨"java/lang/String", "<init>", "([C)V"⟩ : MethodName) len W #[.ref x, .ref b] h 1 n (StrChars.Road.QV Z x N bs h n0) :=
  StrChars.Road.backV hZ hw wi hx0 hh0 E F C A S hz hn hN l0 l2 hp hb hfr hlo
end Jvm.Pilot.@@N@@
namespace Jvm.Pilot.@@N@@
open Jvm Jvm.ClassFile Sem Op Lib Jvm.Free Jvm.Stand Jvm.LawKit Jvm.RoadKit Bundle Jvm.Pilot.@@N@@.Jvm.D
theorem own_small {x : Int32} {n : Nat} (h0 : 0 ≤ x.toInt) (h1 : x.toInt < n) : ∃ i : Fin n, x = Int32.ofNat i.val := by
  obtain ⟨k, hk⟩ : ∃ k : Nat, x.toInt = k := ⟨x.toInt.toNat, by omega⟩
  have := x.toInt_lt
  exact ⟨⟨k, by omega⟩, Int32.toInt_inj.mp (show x.toInt = (Int32.ofNat k).toInt by rw [hk, Int32.toInt_ofNat_small (by omega)])⟩
theorem own_and3 (x : Int32) : (x &&& 3) = 0 ∨ (x &&& 3) = 1 ∨ (x &&& 3) = 2 ∨ (x &&& 3) = 3 := by
  have q := c_and x 3 (by decide)
  have e3 : (3 : Int32).toInt = 3 := by decide
  obtain ⟨i, hi⟩ := own_small (n := 4) q.1 (by omega)
  have t : ∀ i : Fin 4, Int32.ofNat i.val = 0 ∨ Int32.ofNat i.val = 1 ∨ Int32.ofNat i.val = 2 ∨ Int32.ofNat i.val = 3 := by decide +kernel
  rw [hi]
  exact t i
theorem own_ofN {i n : Nat} (hn : n ≤ 4000) (hi : i ≤ n) : Int32.ofNat i < Int32.ofNat n ↔ i < n := by
  rw [Int32.lt_iff_toInt_lt, Int32.toInt_ofNat_small (by omega), Int32.toInt_ofNat_small (by omega)]
  omega
theorem own_nn {i : Nat} (hi : i ≤ 4000) : ¬ Int32.ofNat i < 0 := by
  rw [Int32.lt_iff_toInt_lt, Int32.toInt_ofNat_small (by omega)]
  show ¬ (i : Int) < 0
  omega
theorem own_in {i n : Nat} (hn : n ≤ 4000) (hi : i < n) : ¬ Int32.ofNat i < 0 ∧ Int32.ofNat i < Int32.ofNat n := ⟨own_nn (by omega), (own_ofN hn (by omega)).mpr hi⟩
theorem own_cl {i : Nat} (hi : i ≤ 4000) : (Int32.ofNat i).toNatClampNeg = i := by
  rw [Int32.toNatClampNeg, Int32.toInt_ofNat_small (by omega)]
  rfl
theorem own_inc {i : Nat} : Int32.ofNat i + Int32.ofInt 1 = Int32.ofNat (i + 1) := by
  rw [Int32.ofNat_add]; rfl
theorem own_at {cs : List Int32} {i : Nat} {dv : Value} (h4 : cs.length ≤ 4000) (hi : i < cs.length) : (cs.map Value.int).getD (Int32.ofNat i).toNatClampNeg dv = .int (cs.getD i 0) := by
  rw [own_cl (by omega)]
  simp [List.getD_eq_getElem?_getD, hi]
theorem own_inj {i n : Nat} (hn : n ≤ 4000) (hi : i ≤ 4000) (h : Int32.ofNat i = Int32.ofNat n) : i = n := by
  have := congrArg Int32.toInt h
  rw [Int32.toInt_ofNat_small (by omega), Int32.toInt_ofNat_small (by omega)] at this
  omega
theorem own_st6 {a d : Addr} {x1 x3 x4 x5 x : Int32} {s6 : Slot} (h : s6 = .unset ∨ ∃ c : Int32, s6 = .val (.int c)) : storeLocals #[.val (.ref a), .val (.int x1), .val (.ref d), .val (.int x3), .val (.int x4), .val (.int x5), s6] 6 (.int x) = some #[.val (.ref a), .val (.int x1), .val (.ref d), .val (.int x3), .val (.int x4), .val (.int x5), .val (.int x)] := by
  rcases h with rfl | ⟨c, rfl⟩ <;> rfl
theorem d_jdk_52_method_21_3 : decode jdk_52_method_21_code 3 = .ok (.iload 5, 2) := by decide +kernel
theorem d_jdk_52_method_21_5 : decode jdk_52_method_21_code 5 = .ok (.iload 4, 2) := by decide +kernel
theorem d_jdk_52_method_21_7 : decode jdk_52_method_21_code 7 = .ok (.if_icmp .ge 37, 3) := by decide +kernel
theorem d_jdk_52_method_21_44 : decode jdk_52_method_21_code 44 = .ok (.iload 4, 2) := by decide +kernel
theorem d_jdk_52_method_21_46 : decode jdk_52_method_21_code 46 = .ok (.ireturn, 1) := by decide +kernel
theorem d_jdk_52_method_21_10 : decode jdk_52_method_21_code 10 = .ok (.aload_n 0, 1) := by decide +kernel
theorem d_jdk_52_method_21_11 : decode jdk_52_method_21_code 11 = .ok (.iload_n 1, 1) := by decide +kernel
theorem d_jdk_52_method_21_12 : decode jdk_52_method_21_code 12 = .ok (.caload, 1) := by decide +kernel
theorem d_jdk_52_method_21_13 : decode jdk_52_method_21_code 13 = .ok (.istore 6, 2) := by decide +kernel
theorem d_jdk_52_method_21_15 : decode jdk_52_method_21_code 15 = .ok (.iload 6, 2) := by decide +kernel
theorem d_jdk_52_method_21_17 : decode jdk_52_method_21_code 17 = .ok (.sipush 255, 3) := by decide +kernel
theorem d_jdk_52_method_21_20 : decode jdk_52_method_21_code 20 = .ok (.if_icmp .le 6, 3) := by decide +kernel
theorem d_jdk_52_method_21_23 : decode jdk_52_method_21_code 23 = .ok (.iload 5, 2) := by decide +kernel
theorem d_jdk_52_method_21_25 : decode jdk_52_method_21_code 25 = .ok (.ireturn, 1) := by decide +kernel
theorem d_jdk_52_method_21_26 : decode jdk_52_method_21_code 26 = .ok (.aload_n 2, 1) := by decide +kernel
theorem d_jdk_52_method_21_27 : decode jdk_52_method_21_code 27 = .ok (.iload_n 3, 1) := by decide +kernel
theorem d_jdk_52_method_21_28 : decode jdk_52_method_21_code 28 = .ok (.iload 6, 2) := by decide +kernel
theorem d_jdk_52_method_21_30 : decode jdk_52_method_21_code 30 = .ok (.i2b, 1) := by decide +kernel
theorem d_jdk_52_method_21_31 : decode jdk_52_method_21_code 31 = .ok (.bastore, 1) := by decide +kernel
theorem d_jdk_52_method_21_32 : decode jdk_52_method_21_code 32 = .ok (.iinc 1 1, 3) := by decide +kernel
theorem d_jdk_52_method_21_35 : decode jdk_52_method_21_code 35 = .ok (.iinc 3 1, 3) := by decide +kernel
theorem d_jdk_52_method_21_38 : decode jdk_52_method_21_code 38 = .ok (.iinc 5 1, 3) := by decide +kernel
theorem d_jdk_52_method_21_41 : decode jdk_52_method_21_code 41 = .ok (.goto (-38), 3) := by decide +kernel
set_option maxRecDepth 65536 in
set_option maxHeartbeats 40000000 in
theorem loop_c21 (l : Launch) (Z : State) (a0 : Array Value) (hw : ∀ d ∈ tables_1, d.before a0 Z = true) (h0 : Heap) (n0 : Nat) (Z0 : n0 ≤ h0.size) (a d : Addr) (ka kd : ClassId) (cs : List Int32) (dc : Value) (h4 : cs.length ≤ 4) (hne : a ≠ d) (g_d : n0 ≤ d)
    {p : Program} {e : Env} {R : Room} {s : State} {m : MethodId} {args : Array Value} {below : List Frame} {meth : Method} {c : Code} {F : Outcome → State → List Loc → Prop} (K : Ctx p s m meth c Z "java/lang/StringUTF16" jdk_52_method_21_code 7 (some .int) "compress" R F 0) :
    ∀ (r : Nat) (i : Nat), i + r = cs.length → ∀ (h : Heap) (vs : List Value), vs.length = cs.length → Keep h0 h [d] → Arv Z h a ka .char (Int32.ofNat cs.length) (cs.map Value.int) dc → Arv Z h d kd .byte (Int32.ofNat cs.length) vs (.int 0) → ∀ (s6 : Slot), (s6 = .unset ∨ ∃ c : Int32, s6 = .val (.int c)) → (∀ j, j < i → ¬ 255 < cs.getD j 0) →
    Go p l e R s m args below meth c n0 (fun v _ h => (fun v h => ∃ r : Nat, r ≤ cs.length ∧ v = some (.int (Int32.ofNat r)) ∧ Keep h0 h [d] ∧ (r < cs.length → 255 < cs.getD r 0) ∧ (r = cs.length → ∀ j, j < cs.length → ¬ 255 < cs.getD j 0)) v h) F 0 h 0 0 (mkF m 3 #[.val (.ref a), .val (.int (Int32.ofNat i)), .val (.ref d), .val (.int (Int32.ofNat i)), .val (.int (Int32.ofNat cs.length)), .val (.int (Int32.ofNat i)), s6] []) := by
  intro r
  induction r using Nat.strongRecOn with
  | ind r ih0 =>
  intro i hr h vs hvs kc Va Vd s6 hs6 hlow
  have ih := fun r' (q : r' < r) => ih0 r' q
  refine Go.iload K d_jdk_52_method_21_3 rfl (pc' := 5) rfl ?_
  refine Go.iload K d_jdk_52_method_21_5 rfl (pc' := 7) rfl ?_
  refine Go.icmp K d_jdk_52_method_21_7 (by decide) (pcT := 44) (pcF := 10) (by decide) rfl (fun h7 => ?_) (fun h7 => ?_)
  · replace h7 : ¬ (Int32.ofNat i) < (Int32.ofNat cs.length) := h7
    have hi : i = cs.length := by have := mt (own_ofN (by omega) (by omega : i ≤ cs.length)).mpr h7; omega
    refine Go.iload K d_jdk_52_method_21_44 rfl (pc' := 46) rfl ?_
    exact Go.retI K (Nat.zero_le _) (Nat.zero_le _) d_jdk_52_method_21_46 (fun _ _ _ _ => ⟨cs.length, Nat.le_refl _, rfl, kc, fun q => absurd q (Nat.lt_irrefl _), fun _ j hj => hlow j (by omega)⟩)
  · replace h7 : ¬ (¬ (Int32.ofNat i) < (Int32.ofNat cs.length)) := h7
    have hi : i < cs.length := (own_ofN (by omega) (by omega)).mp (Decidable.not_not.mp h7)
    refine Go.aloadN K d_jdk_52_method_21_10 rfl rfl (pc' := 11) rfl ?_
    refine Go.iloadN K d_jdk_52_method_21_11 rfl (pc' := 12) rfl ?_
    refine Go.caload K (v := (.int (cs.getD i 0))) Va (own_in (by omega) hi) (own_at (by omega) hi) d_jdk_52_method_21_12 (pc' := 13) rfl ?_
    refine Go.istore K d_jdk_52_method_21_13 (Ls' := #[.val (.ref a), .val (.int (Int32.ofNat i)), .val (.ref d), .val (.int (Int32.ofNat i)), .val (.int (Int32.ofNat cs.length)), .val (.int (Int32.ofNat i)), .val (.int (cs.getD i 0))]) (own_st6 hs6) (pc' := 15) rfl ?_
    refine Go.iload K d_jdk_52_method_21_15 rfl (pc' := 17) rfl ?_
    refine Go.sipush K (v := 255) d_jdk_52_method_21_17 rfl (pc' := 20) rfl ?_
    refine Go.icmp K d_jdk_52_method_21_20 (by decide) (pcT := 26) (pcF := 23) (by decide) rfl (fun h20 => ?_) (fun h20 => ?_)
    · replace h20 : ¬ (255 : Int32) < (cs.getD i 0) := h20
      refine Go.aloadN K d_jdk_52_method_21_26 rfl rfl (pc' := 27) rfl ?_
      refine Go.iloadN K d_jdk_52_method_21_27 rfl (pc' := 28) rfl ?_
      refine Go.iload K d_jdk_52_method_21_28 rfl (pc' := 30) rfl ?_
      refine Go.i2b K d_jdk_52_method_21_30 (pc' := 31) rfl ?_
      refine Go.bastore K Vd i (own_cl (by omega)) (by omega) (own_in (by omega) hi) g_d d_jdk_52_method_21_31 (pc' := 32) rfl ?_
      intro h1 K2 Vd2
      have f3 := Va.keep K2 (ninS hne nin0)
      have kc4 := kc.trans K2 (allS (Or.inl (List.mem_of_getElem? (i := 0) rfl)) all0)
      refine Go.iinc K d_jdk_52_method_21_32 rfl (Ls' := #[.val (.ref a), .val (.int (Int32.ofNat (i + 1))), .val (.ref d), .val (.int (Int32.ofNat i)), .val (.int (Int32.ofNat cs.length)), .val (.int (Int32.ofNat i)), .val (.int (cs.getD i 0))]) (by rw [own_inc]; rfl) (pc' := 35) rfl ?_
      refine Go.iinc K d_jdk_52_method_21_35 rfl (Ls' := #[.val (.ref a), .val (.int (Int32.ofNat (i + 1))), .val (.ref d), .val (.int (Int32.ofNat (i + 1))), .val (.int (Int32.ofNat cs.length)), .val (.int (Int32.ofNat i)), .val (.int (cs.getD i 0))]) (by rw [own_inc]; rfl) (pc' := 38) rfl ?_
      refine Go.iinc K d_jdk_52_method_21_38 rfl (Ls' := #[.val (.ref a), .val (.int (Int32.ofNat (i + 1))), .val (.ref d), .val (.int (Int32.ofNat (i + 1))), .val (.int (Int32.ofNat cs.length)), .val (.int (Int32.ofNat (i + 1))), .val (.int (cs.getD i 0))]) (by rw [own_inc]; rfl) (pc' := 41) rfl ?_
      refine Go.goto K d_jdk_52_method_21_41 (pc' := 3) (by decide) (by decide) ?_
      exact ih (cs.length - (i + 1)) (by omega) (i + 1) (by omega) _ _ (by rw [List.length_set]; exact hvs) kc4 f3 Vd2 _ (Or.inr ⟨_, rfl⟩) (fun j hj => by
        rcases Nat.lt_succ_iff_lt_or_eq.mp hj with q | rfl
        · exact hlow j q
        · exact h20)
    · replace h20 : ¬ (¬ (255 : Int32) < (cs.getD i 0)) := h20
      refine Go.iload K d_jdk_52_method_21_23 rfl (pc' := 25) rfl ?_
      exact Go.retI K (Nat.zero_le _) (Nat.zero_le _) d_jdk_52_method_21_25 (fun _ _ _ _ => ⟨i, by omega, rfl, kc, fun _ => Decidable.not_not.mp h20, fun q => absurd q (by omega)⟩)
theorem ef_c21 (m : MethodId) (a d : Addr) (x : Int32) : entryFrame m #[.ref a, .int 0, .ref d, .int 0, .int x] 7 = mkF m 0 #[.val (.ref a), .val (.int (0 : Int32)), .val (.ref d), .val (.int (0 : Int32)), .val (.int x), .unset, .unset] [] := by first | (simp [entryFrame, mkF, argsToLocals, Value.category]; done) | rfl
theorem d_jdk_52_method_21_0 : decode jdk_52_method_21_code 0 = .ok (.iconst 0, 1) := by decide +kernel
theorem d_jdk_52_method_21_1 : decode jdk_52_method_21_code 1 = .ok (.istore 5, 2) := by decide +kernel
theorem pn_java_lang_StringUTF16 : plainName "java/lang/StringUTF16" = true := by first | (simp [plainName, overriddenIn]; done) | decide +kernel
set_option maxRecDepth 65536 in
set_option maxHeartbeats 40000000 in
theorem m_c21 (l : Launch) (Z : State) (a0 : Array Value) (hw : ∀ d ∈ tables_1, d.before a0 Z = true) (h0 : Heap) (n0 : Nat) (Z0 : n0 ≤ h0.size) (a : Addr) (ka : ClassId) (cs : List Int32) (dc : Value) (V_a : Arv Z h0 a ka .char (Int32.ofNat cs.length) (cs.map Value.int) dc) (h4 : cs.length ≤ 4) (d : Addr) (kd : ClassId) (vs : List Value) (hvs : vs.length = cs.length) (V_d : Arv Z h0 d kd .byte (Int32.ofNat cs.length) vs (.int 0)) (hne : a ≠ d) (g_d : n0 ≤ d) :
    Met l Z [] (⟨"java/lang/StringUTF16", "compress", "([CI[BII)I"⟩ : MethodName) jdk_52_method_21_code 7 (some .int) ({ frames := 0, cells := 0, slots := 0, locals := 0 } : Room) #[(.ref a), (.int (0 : Int32)), (.ref d), (.int (0 : Int32)), (.int (Int32.ofNat cs.length))] h0 n0 (fun v h => ∃ r : Nat, r ≤ cs.length ∧ v = some (.int (Int32.ofNat r)) ∧ Keep h0 h [d] ∧ (r < cs.length → 255 < cs.getD r 0) ∧ (r = cs.length → ∀ j, j < cs.length → ¬ 255 < cs.getD j 0)) := by
  refine Met.of (plainFor_of_name pn_java_lang_StringUTF16) ?_
  intro p e s m below meth c F K
  refine Go.cast (ef_c21 m a d _) ?_
  refine Go.iconst K (v := 0) d_jdk_52_method_21_0 rfl (pc' := 1) rfl ?_
  refine Go.istore K d_jdk_52_method_21_1 (Ls' := #[.val (.ref a), .val (.int (0 : Int32)), .val (.ref d), .val (.int (0 : Int32)), .val (.int (Int32.ofNat cs.length)), .val (.int (0 : Int32)), .unset]) rfl (pc' := 3) rfl ?_
  exact loop_c21 l Z a0 hw h0 n0 Z0 a d ka kd cs dc h4 hne g_d K cs.length 0 (by omega) h0 vs hvs (Keep.refl _ _) V_a V_d _ (Or.inl rfl) (fun j hj => absurd hj (by omega))
theorem own_safeS {Z : State} {EL : List (String × Nat)} {vm : Vm} {h : Heap} {x : Addr} (hal : Z.vm.Alike vm) (E : Exa Z h x "java/lang/String") (V : Fld Z h x "java/lang/String" "value" "[B" .null) : Safe Z EL vm h x := fun B => by
  obtain ⟨cell, cf, kk, i, f, e1, e2, -, -, -, -, e7⟩ := V
  obtain ⟨p, -, u, a, -, q, -, W, hy⟩ := B
  obtain ⟨cS, ⟨L, g1, g2⟩, -, hB, -⟩ := W
  rcases hy with rfl | rfl
  · cases (show h[q.sa]? = some q.sC from L.1).symm.trans e1
    obtain ⟨c', k', i', hf, -⟩ := L.2.2.2.1
    obtain ⟨k2, hi, -⟩ := State.fieldFound?_setVm (s := Z) hal e2
    have hf' : (Z.setVm vm).fieldFound? "java/lang/String" "value" "[B" = some (c', k', i', q.fSV) := hf
    rw [hi] at hf'
    cases hf'
    have := L.2.2.2.2.2.2.2.1
    rw [this] at e7
    cases e7
  · obtain ⟨cell2, k2, r1, r2, -⟩ := E
    cases r1.symm.trans e1
    cases (show h[q.sd]? = some q.SA from L.2.2.2.2.2.2.2.2.2.1).symm.trans e1
    have hB' : vm.findClass "[B" = some q.SA.cls := hB
    rw [hal.findClass] at hB'
    obtain ⟨k3, s1, s2⟩ := Vm.findClass_spec hB'
    obtain ⟨k4, s3, s4⟩ := Vm.findClass_spec r2
    cases s1.symm.trans s3
    have := s2.symm.trans s4
    exact absurd this (by decide)
theorem own_shl1 {n : Nat} (hn : n ≤ 8) : Int32.ofNat n <<< ((1 : Int32) &&& 31) = Int32.ofNat (2 * n) := by
  have t : ∀ i : Fin 9, Int32.ofNat i.val <<< ((1 : Int32) &&& 31) = Int32.ofNat (2 * i.val) := by decide +kernel
  exact t ⟨n, by omega⟩
theorem own_lt_big {n : Nat} (hn : n ≤ 8) : Int32.ofNat n < 1073741823 := by
  have t : ∀ i : Fin 9, Int32.ofNat i.val < 1073741823 := by decide +kernel
  exact t ⟨n, by omega⟩
theorem own_coder {n : Nat} (h0 : 0 < n) (hn : n ≤ 8) : nar .byte (((Int32.ofNat n - Int32.ofNat (2 * n)).toUInt32 >>> ((31 : Int32) &&& 31).toUInt32).toInt32).toInt8.toInt32 = 1 := by
  have t : ∀ i : Fin 9, 0 < i.val → nar .byte (((Int32.ofNat i.val - Int32.ofNat (2 * i.val)).toUInt32 >>> ((31 : Int32) &&& 31).toUInt32).toInt32).toInt8.toInt32 = 1 := by decide +kernel
  exact t ⟨n, by omega⟩ h0
theorem own_narb (x : Int32) : nar .byte (StrChars.lo8 x) = StrChars.lo8 x := by
  have q := Jvm.Free.XT.narrow_b x
  simpa [narrow, nar, StrChars.lo8] using q
theorem own_narc {c : Int32} (h0 : ¬ c < 0) (h1 : ¬ 65535 < c) : nar .char c = c := by
  have q : nar .char (StrChars.pairCh (StrChars.lo8 c) (StrChars.hi8 c)) = StrChars.pairCh (StrChars.lo8 c) (StrChars.hi8 c) := by simp only [nar, StrChars.pairCh, UInt32.toUInt32_toInt32, UInt16.toUInt16_toUInt32]
  rwa [StrChars.pair_says h0 h1] at q
theorem own_shr0 (c : Int32) : (c >>> ((0 : Int32) &&& 31)) = c := by
  have e : ((0 : Int32) &&& 31) = 0 := by decide
  rw [e]
  apply Int32.toBitVec_inj.mp
  simp
theorem own_nz {n : Nat} (h0 : 0 < n) (hn : n ≤ 4000) : ¬ Int32.ofNat n = 0 := fun q => by
  have := own_inj (i := n) (n := 0) (by omega) hn q
  omega
theorem ef_nl (m : MethodId) (x : Int32) : entryFrame m #[.int x] 1 = mkF m 0 #[.val (.int x)] [] := by first | (simp [entryFrame, mkF, argsToLocals, Value.category]; done) | rfl
theorem d_jdk_52_method_3_0 : decode jdk_52_method_3_code 0 = .ok (.iload_n 0, 1) := by decide +kernel
theorem d_jdk_52_method_3_1 : decode jdk_52_method_3_code 1 = .ok (.ifCond .ge 11, 3) := by decide +kernel
theorem d_jdk_52_method_3_12 : decode jdk_52_method_3_code 12 = .ok (.iload_n 0, 1) := by decide +kernel
theorem d_jdk_52_method_3_13 : decode jdk_52_method_3_code 13 = .ok (.ldc 20, 2) := by decide +kernel
theorem d_jdk_52_method_3_15 : decode jdk_52_method_3_code 15 = .ok (.if_icmp .lt 40, 3) := by decide +kernel
theorem d_jdk_52_method_3_55 : decode jdk_52_method_3_code 55 = .ok (.iload_n 0, 1) := by decide +kernel
theorem d_jdk_52_method_3_56 : decode jdk_52_method_3_code 56 = .ok (.iconst 1, 1) := by decide +kernel
theorem d_jdk_52_method_3_57 : decode jdk_52_method_3_code 57 = .ok (.ishl, 1) := by decide +kernel
theorem d_jdk_52_method_3_58 : decode jdk_52_method_3_code 58 = .ok (.ireturn, 1) := by decide +kernel
set_option maxRecDepth 65536 in
set_option maxHeartbeats 40000000 in
theorem m_nl (l : Launch) (Z : State) (a0 : Array Value) (hw : ∀ d ∈ tables_1, d.before a0 Z = true) (h0 : Heap) (n0 : Nat) (Z0 : n0 ≤ h0.size) (n : Nat) (hn : n ≤ 4) :
    Met l Z [] (⟨"java/lang/StringUTF16", "newBytesLength", "(I)I"⟩ : MethodName) jdk_52_method_3_code 1 (some .int) ({ frames := 0, cells := 0, slots := 0, locals := 0 } : Room) #[(.int (Int32.ofNat n))] h0 n0 (fun v h => v = some (.int (Int32.ofNat (2 * n))) ∧ h0 = h) := by
  refine Met.of (plainFor_of_name pn_java_lang_StringUTF16) ?_
  intro p e s m below meth c F K
  refine Go.cast (ef_nl m _) ?_
  refine Go.iloadN K d_jdk_52_method_3_0 rfl (pc' := 1) rfl ?_
  refine Go.ifc K d_jdk_52_method_3_1 (by decide) (pcT := 12) (pcF := 4) (by decide) rfl (fun h1 => ?_) (fun h1 => ?_)
  · replace h1 : ¬ (Int32.ofNat n) < 0 := h1
    refine Go.iloadN K d_jdk_52_method_3_12 rfl (pc' := 13) rfl ?_
    refine Go.ldcInt K (mvT K.cz (hw _ (List.mem_of_getElem? (i := 66) rfl))) d_jdk_52_method_3_13 (pc' := 15) rfl ?_
    refine Go.icmp K d_jdk_52_method_3_15 (by decide) (pcT := 55) (pcF := 18) (by decide) rfl (fun h15 => ?_) (fun h15 => ?_)
    · replace h15 : (Int32.ofNat n) < (1073741823 : Int32) := h15
      refine Go.iloadN K d_jdk_52_method_3_55 rfl (pc' := 56) rfl ?_
      refine Go.iconst K (v := 1) d_jdk_52_method_3_56 rfl (pc' := 57) rfl ?_
      refine Go.ishl K d_jdk_52_method_3_57 (pc' := 58) rfl ?_
      rw [own_shl1 (by omega)]
      exact Go.retI K (by decide) (by decide) d_jdk_52_method_3_58 (fun _ _ _ _ => ⟨rfl, rfl⟩)
    · replace h15 : ¬ ((Int32.ofNat n) < (1073741823 : Int32)) := h15
      exact absurd (own_lt_big (by omega)) h15
  · replace h1 : ¬ (¬ (Int32.ofNat n) < 0) := h1
    exact absurd (own_nn (by omega)) h1
theorem d_jdk_52_method_2_0 : decode jdk_52_method_2_code 0 = .ok (.iload_n 0, 1) := by decide +kernel
theorem d_jdk_52_method_2_1 : decode jdk_52_method_2_code 1 = .ok (.invokestatic 11, 3) := by decide +kernel
theorem pd__28I_29I : parseMethodDescriptor "(I)I" = some ⟨[.int], some .int⟩ := by decide +kernel
theorem d_jdk_52_method_2_4 : decode jdk_52_method_2_code 4 = .ok (.newarray .byte, 2) := by decide +kernel
theorem d_jdk_52_method_2_6 : decode jdk_52_method_2_code 6 = .ok (.areturn, 1) := by decide +kernel
set_option maxRecDepth 65536 in
set_option maxHeartbeats 40000000 in
theorem m_nf (l : Launch) (Z : State) (a0 : Array Value) (hw : ∀ d ∈ tables_1, d.before a0 Z = true) (h0 : Heap) (n0 : Nat) (Z0 : n0 ≤ h0.size) (n : Nat) (hn : n ≤ 4) :
    Met l Z [] (⟨"java/lang/StringUTF16", "newBytesFor", "(I)[B"⟩ : MethodName) jdk_52_method_2_code 1 (some (.array .byte)) ({ frames := 1, cells := 1, slots := 8, locals := 20 } : Room) #[(.int (Int32.ofNat n))] h0 n0 (fun v h => ∃ (t : Addr) (kt : ClassId), v = some (.ref t) ∧ h0.size ≤ t ∧ Keep h0 h [] ∧ Arv Z h t kt .byte (Int32.ofNat (2 * n)) [] (.int 0)) := by
  refine Met.of (plainFor_of_name pn_java_lang_StringUTF16) ?_
  intro p e s m below meth c F K
  refine Go.cast (ef_nl m _) ?_
  have kc0 := Keep.refl h0 []
  refine Go.iloadN K d_jdk_52_method_2_0 rfl (pc' := 1) rfl ?_
  refine Go.callS K (y := (⟨"java/lang/StringUTF16", "newBytesLength", "(I)I"⟩ : MethodName)) (W := 0) (kc := 0) (nc := 0) (mvT K.cz (hw _ (List.mem_of_getElem? (i := 63) rfl))) (mvT K.cz (hw _ (List.mem_of_getElem? (i := 64) rfl))) (mvT K.cz (hw _ (List.mem_of_getElem? (i := 17) rfl))) (mvT K.cz (hw _ (List.mem_of_getElem? (i := 65) rfl))) (by decide) ((m_nl l Z a0 hw h0 n0 Z0 n hn).pays (W := 0) K.cz (hw _ (List.mem_of_getElem? (i := 65) rfl)) (hw _ (List.mem_of_getElem? (i := 17) rfl)) (by decide) (by decide)) rfl (argsL := [(.int (Int32.ofNat n))]) (rest := []) (lenOf pd__28I_29I rfl) rfl (Nat.le_of_ble_eq_true rfl) (by decide) (by decide) frOf grOf d_jdk_52_method_2_1 (pc' := 4) rfl ?_
  rintro v7 h5 Lc6 ⟨⟨⟨rfl, eh⟩, -⟩, -⟩
  obtain rfl := eh
  show Go p l e _ _ m _ below meth c _ _ _ _ h0 _ _ (mkF m 4 #[.val (.int (Int32.ofNat n))] [(.int (Int32.ofNat (2 * n)))])
  refine Go.newP K (hw _ (List.mem_of_getElem? (i := 19) rfl)) (own_nn (by omega)) 8 (by rw [own_cl (by omega)]; omega) (by decide) (by decide) (by decide) d_jdk_52_method_2_4 (pc' := 6) rfl ?_
  intro h8 t kA_t eq10 E9 V_t
  have sz_t := Nat.le_trans kc0.1 (Nat.le_of_eq eq10.symm)
  have g_t : n0 ≤ t := Nat.le_trans Z0 (Nat.le_of_eq eq10.symm)
  have z11 := Nat.le_trans Z0 E9.1
  have kc12 := kc0.ext E9
  have V13 : Arv Z h8 t kA_t .byte (Int32.ofNat (2 * n)) [] (.int (0 : Int32)) := V_t.pad (pad_rep [] (.int (0 : Int32)) 0)
  exact Go.retA K rfl rfl rfl (by decide) (by decide) d_jdk_52_method_2_6 (fun _ _ _ _ => ⟨t, kA_t, rfl, sz_t, kc12, V_t⟩)
theorem ef_pc (m : MethodId) (t : Addr) (x y : Int32) : entryFrame m #[.ref t, .int x, .int y] 3 = mkF m 0 #[.val (.ref t), .val (.int x), .val (.int y)] [] := by first | (simp [entryFrame, mkF, argsToLocals, Value.category]; done) | rfl
theorem d_jdk_52_method_4_0 : decode jdk_52_method_4_code 0 = .ok (.getstatic 44, 3) := by decide +kernel
theorem d_jdk_52_method_4_3 : decode jdk_52_method_4_code 3 = .ok (.ifCond .ne 25, 3) := by decide +kernel
theorem d_jdk_52_method_4_28 : decode jdk_52_method_4_code 28 = .ok (.iload_n 1, 1) := by decide +kernel
theorem d_jdk_52_method_4_29 : decode jdk_52_method_4_code 29 = .ok (.iconst 1, 1) := by decide +kernel
theorem d_jdk_52_method_4_30 : decode jdk_52_method_4_code 30 = .ok (.ishl, 1) := by decide +kernel
theorem d_jdk_52_method_4_31 : decode jdk_52_method_4_code 31 = .ok (.istore_n 1, 1) := by decide +kernel
theorem d_jdk_52_method_4_32 : decode jdk_52_method_4_code 32 = .ok (.aload_n 0, 1) := by decide +kernel
theorem d_jdk_52_method_4_33 : decode jdk_52_method_4_code 33 = .ok (.iload_n 1, 1) := by decide +kernel
theorem d_jdk_52_method_4_34 : decode jdk_52_method_4_code 34 = .ok (.iinc 1 1, 3) := by decide +kernel
theorem d_jdk_52_method_4_37 : decode jdk_52_method_4_code 37 = .ok (.iload_n 2, 1) := by decide +kernel
theorem d_jdk_52_method_4_38 : decode jdk_52_method_4_code 38 = .ok (.getstatic 59, 3) := by decide +kernel
theorem d_jdk_52_method_4_41 : decode jdk_52_method_4_code 41 = .ok (.ishr, 1) := by decide +kernel
theorem d_jdk_52_method_4_42 : decode jdk_52_method_4_code 42 = .ok (.i2b, 1) := by decide +kernel
theorem d_jdk_52_method_4_43 : decode jdk_52_method_4_code 43 = .ok (.bastore, 1) := by decide +kernel
theorem d_jdk_52_method_4_44 : decode jdk_52_method_4_code 44 = .ok (.aload_n 0, 1) := by decide +kernel
theorem d_jdk_52_method_4_45 : decode jdk_52_method_4_code 45 = .ok (.iload_n 1, 1) := by decide +kernel
theorem d_jdk_52_method_4_46 : decode jdk_52_method_4_code 46 = .ok (.iload_n 2, 1) := by decide +kernel
theorem d_jdk_52_method_4_47 : decode jdk_52_method_4_code 47 = .ok (.getstatic 63, 3) := by decide +kernel
theorem d_jdk_52_method_4_50 : decode jdk_52_method_4_code 50 = .ok (.ishr, 1) := by decide +kernel
theorem d_jdk_52_method_4_51 : decode jdk_52_method_4_code 51 = .ok (.i2b, 1) := by decide +kernel
theorem d_jdk_52_method_4_52 : decode jdk_52_method_4_code 52 = .ok (.bastore, 1) := by decide +kernel
theorem d_jdk_52_method_4_53 : decode jdk_52_method_4_code 53 = .ok (.return_, 1) := by decide +kernel
set_option maxRecDepth 65536 in
set_option maxHeartbeats 40000000 in
theorem m_pc (l : Launch) (Z : State) (a0 : Array Value) (hw : ∀ d ∈ tables_1, d.before a0 Z = true) (h0 : Heap) (n0 : Nat) (Z0 : n0 ≤ h0.size) (t : Addr) (kt : ClassId) (i n : Nat) (ch : Int32) (hn : n ≤ 4) (hi : i < n) (vs : List Value) (hvs : vs.length = 2 * n) (V_t : Arv Z h0 t kt .byte (Int32.ofNat (2 * n)) vs (.int 0)) (g_t : n0 ≤ t) (S_ad : Sta Z Z.heap "java/lang/StringUTF16" "$assertionsDisabled" "Z" (.int (1 : Int32))) (S_hi : Sta Z Z.heap "java/lang/StringUTF16" "HI_BYTE_SHIFT" "I" (.int (0 : Int32))) (S_lo : Sta Z Z.heap "java/lang/StringUTF16" "LO_BYTE_SHIFT" "I" (.int (8 : Int32))) (od : Old Z n0 h0) :
    Met l Z [] (⟨"java/lang/StringUTF16", "putChar", "([BII)V"⟩ : MethodName) jdk_52_method_4_code 3 none ({ frames := 0, cells := 0, slots := 0, locals := 0 } : Room) #[(.ref t), (.int (Int32.ofNat i)), (.int ch)] h0 n0 (fun v h => v = none ∧ Keep h0 h [t] ∧ Arv Z h t kt .byte (Int32.ofNat (2 * n)) ((vs.set (2 * i) (.int (StrChars.lo8 ch))).set (2 * i + 1) (.int (StrChars.hi8 ch))) (.int 0)) := by
  refine Met.of (plainFor_of_name pn_java_lang_StringUTF16) ?_
  intro p e s m below meth c F K
  refine Go.cast (ef_pc m t _ _) ?_
  have kc0 := Keep.refl h0 [t]
  refine Go.getS K (host := "") (Or.inl (hw _ (List.mem_of_getElem? (i := 70) rfl))) Via.refl (S_ad.ext od.2) d_jdk_52_method_4_0 (pc' := 3) rfl ?_
  refine Go.ifc K d_jdk_52_method_4_3 (by decide) (pcT := 28) (pcF := 6) (by decide) rfl (fun h3 => ?_) (fun h3 => ?_)
  · replace h3 : ¬ (1 : Int32) = 0 := h3
    refine Go.iloadN K d_jdk_52_method_4_28 rfl (pc' := 29) rfl ?_
    refine Go.iconst K (v := 1) d_jdk_52_method_4_29 rfl (pc' := 30) rfl ?_
    refine Go.ishl K d_jdk_52_method_4_30 (pc' := 31) rfl ?_
    rw [own_shl1 (by omega)]
    refine Go.istoreN K d_jdk_52_method_4_31 (Ls' := #[.val (.ref t), .val (.int (Int32.ofNat (2 * i))), .val (.int ch)]) rfl (pc' := 32) rfl ?_
    refine Go.aloadN K d_jdk_52_method_4_32 rfl rfl (pc' := 33) rfl ?_
    refine Go.iloadN K d_jdk_52_method_4_33 rfl (pc' := 34) rfl ?_
    refine Go.iinc K d_jdk_52_method_4_34 rfl (Ls' := #[.val (.ref t), .val (.int (Int32.ofNat (2 * i + 1))), .val (.int ch)]) (by rw [own_inc]; rfl) (pc' := 37) rfl ?_
    refine Go.iloadN K d_jdk_52_method_4_37 rfl (pc' := 38) rfl ?_
    refine Go.getS K (host := "") (Or.inl (hw _ (List.mem_of_getElem? (i := 71) rfl))) Via.refl (S_hi.ext od.2) d_jdk_52_method_4_38 (pc' := 41) rfl ?_
    refine Go.ishr K d_jdk_52_method_4_41 (pc' := 42) rfl ?_
    refine Go.i2b K d_jdk_52_method_4_42 (pc' := 43) rfl ?_
    rw [own_shr0 ch]
    refine Go.bastore K V_t (2 * i) (own_cl (by omega)) (by omega) (own_in (by omega) (by omega)) g_t d_jdk_52_method_4_43 (pc' := 44) rfl ?_
    intro h14 K15 V1
    have od17 := od.keep K15 (allS g_t all0)
    have z18 := Nat.le_trans Z0 K15.1
    have kc19 := kc0.trans K15 (allS (Or.inl (List.mem_of_getElem? (i := 0) rfl)) all0)
    refine Go.aloadN K d_jdk_52_method_4_44 rfl rfl (pc' := 45) rfl ?_
    refine Go.iloadN K d_jdk_52_method_4_45 rfl (pc' := 46) rfl ?_
    refine Go.iloadN K d_jdk_52_method_4_46 rfl (pc' := 47) rfl ?_
    refine Go.getS K (host := "") (Or.inl (hw _ (List.mem_of_getElem? (i := 72) rfl))) Via.refl (S_lo.ext od17.2) d_jdk_52_method_4_47 (pc' := 50) rfl ?_
    refine Go.ishr K d_jdk_52_method_4_50 (pc' := 51) rfl ?_
    refine Go.i2b K d_jdk_52_method_4_51 (pc' := 52) rfl ?_
    refine Go.bastore K V1 (2 * i + 1) (own_cl (by omega)) (by rw [List.length_set]; omega) (own_in (by omega) (by omega)) g_t d_jdk_52_method_4_52 (pc' := 53) rfl ?_
    intro h20 K21 V2
    have od23 := od17.keep K21 (allS g_t all0)
    have z24 := Nat.le_trans z18 K21.1
    have kc25 := kc19.trans K21 (allS (Or.inl (List.mem_of_getElem? (i := 0) rfl)) all0)
    have e1 : nar .byte (ch.toInt8.toInt32) = (StrChars.lo8 ch) := own_narb ch
    have e2 : nar .byte (ch >>> ((8 : Int32) &&& 31)).toInt8.toInt32 = (StrChars.hi8 ch) := own_narb _
    rw [e1, e2] at V2
    exact Go.retV K (by decide) (by decide) d_jdk_52_method_4_53 (fun _ _ _ _ => ⟨rfl, kc25, V2⟩)
  · replace h3 : ¬ (¬ (1 : Int32) = 0) := h3
    exact absurd (by decide) h3
theorem ef_gc (m : MethodId) (t : Addr) (x : Int32) : entryFrame m #[.ref t, .int x] 2 = mkF m 0 #[.val (.ref t), .val (.int x)] [] := by first | (simp [entryFrame, mkF, argsToLocals, Value.category]; done) | rfl
theorem d_jdk_52_method_5_0 : decode jdk_52_method_5_code 0 = .ok (.getstatic 44, 3) := by decide +kernel
theorem d_jdk_52_method_5_3 : decode jdk_52_method_5_code 3 = .ok (.ifCond .ne 25, 3) := by decide +kernel
theorem d_jdk_52_method_5_28 : decode jdk_52_method_5_code 28 = .ok (.iload_n 1, 1) := by decide +kernel
theorem d_jdk_52_method_5_29 : decode jdk_52_method_5_code 29 = .ok (.iconst 1, 1) := by decide +kernel
theorem d_jdk_52_method_5_30 : decode jdk_52_method_5_code 30 = .ok (.ishl, 1) := by decide +kernel
theorem d_jdk_52_method_5_31 : decode jdk_52_method_5_code 31 = .ok (.istore_n 1, 1) := by decide +kernel
theorem d_jdk_52_method_5_32 : decode jdk_52_method_5_code 32 = .ok (.aload_n 0, 1) := by decide +kernel
theorem d_jdk_52_method_5_33 : decode jdk_52_method_5_code 33 = .ok (.iload_n 1, 1) := by decide +kernel
theorem d_jdk_52_method_5_34 : decode jdk_52_method_5_code 34 = .ok (.iinc 1 1, 3) := by decide +kernel
theorem d_jdk_52_method_5_37 : decode jdk_52_method_5_code 37 = .ok (.baload, 1) := by decide +kernel
theorem d_jdk_52_method_5_38 : decode jdk_52_method_5_code 38 = .ok (.sipush 255, 3) := by decide +kernel
theorem d_jdk_52_method_5_41 : decode jdk_52_method_5_code 41 = .ok (.iand, 1) := by decide +kernel
theorem d_jdk_52_method_5_42 : decode jdk_52_method_5_code 42 = .ok (.getstatic 59, 3) := by decide +kernel
theorem d_jdk_52_method_5_45 : decode jdk_52_method_5_code 45 = .ok (.ishl, 1) := by decide +kernel
theorem d_jdk_52_method_5_46 : decode jdk_52_method_5_code 46 = .ok (.aload_n 0, 1) := by decide +kernel
theorem d_jdk_52_method_5_47 : decode jdk_52_method_5_code 47 = .ok (.iload_n 1, 1) := by decide +kernel
theorem d_jdk_52_method_5_48 : decode jdk_52_method_5_code 48 = .ok (.baload, 1) := by decide +kernel
theorem d_jdk_52_method_5_49 : decode jdk_52_method_5_code 49 = .ok (.sipush 255, 3) := by decide +kernel
theorem d_jdk_52_method_5_52 : decode jdk_52_method_5_code 52 = .ok (.iand, 1) := by decide +kernel
theorem d_jdk_52_method_5_53 : decode jdk_52_method_5_code 53 = .ok (.getstatic 63, 3) := by decide +kernel
theorem d_jdk_52_method_5_56 : decode jdk_52_method_5_code 56 = .ok (.ishl, 1) := by decide +kernel
theorem d_jdk_52_method_5_57 : decode jdk_52_method_5_code 57 = .ok (.ior, 1) := by decide +kernel
theorem d_jdk_52_method_5_58 : decode jdk_52_method_5_code 58 = .ok (.i2c, 1) := by decide +kernel
theorem d_jdk_52_method_5_59 : decode jdk_52_method_5_code 59 = .ok (.ireturn, 1) := by decide +kernel
set_option maxRecDepth 65536 in
set_option maxHeartbeats 40000000 in
theorem m_gc (l : Launch) (Z : State) (a0 : Array Value) (hw : ∀ d ∈ tables_1, d.before a0 Z = true) (h0 : Heap) (n0 : Nat) (Z0 : n0 ≤ h0.size) (t : Addr) (kt : ClassId) (i n : Nat) (ch : Int32) (hn : n ≤ 4) (hi : i < n) (vs : List Value) (V_t : Arv Z h0 t kt .byte (Int32.ofNat (2 * n)) vs (.int 0)) (hlo : vs.getD (2 * i) (.int 0) = .int (StrChars.lo8 ch)) (hhi : vs.getD (2 * i + 1) (.int 0) = .int (StrChars.hi8 ch)) (hc0 : ¬ ch < 0) (hc1 : ¬ 65535 < ch) (S_ad : Sta Z Z.heap "java/lang/StringUTF16" "$assertionsDisabled" "Z" (.int (1 : Int32))) (S_hi : Sta Z Z.heap "java/lang/StringUTF16" "HI_BYTE_SHIFT" "I" (.int (0 : Int32))) (S_lo : Sta Z Z.heap "java/lang/StringUTF16" "LO_BYTE_SHIFT" "I" (.int (8 : Int32))) (od : Old Z n0 h0) :
    Met l Z [] (⟨"java/lang/StringUTF16", "getChar", "([BI)C"⟩ : MethodName) jdk_52_method_5_code 2 (some .char) ({ frames := 0, cells := 0, slots := 0, locals := 0 } : Room) #[(.ref t), (.int (Int32.ofNat i))] h0 n0 (fun v h => v = some (.int ch) ∧ h0 = h) := by
  refine Met.of (plainFor_of_name pn_java_lang_StringUTF16) ?_
  intro p e s m below meth c F K
  refine Go.cast (ef_gc m t _) ?_
  refine Go.getS K (host := "") (Or.inl (hw _ (List.mem_of_getElem? (i := 70) rfl))) Via.refl (S_ad.ext od.2) d_jdk_52_method_5_0 (pc' := 3) rfl ?_
  refine Go.ifc K d_jdk_52_method_5_3 (by decide) (pcT := 28) (pcF := 6) (by decide) rfl (fun h3 => ?_) (fun h3 => ?_)
  · replace h3 : ¬ (1 : Int32) = 0 := h3
    refine Go.iloadN K d_jdk_52_method_5_28 rfl (pc' := 29) rfl ?_
    refine Go.iconst K (v := 1) d_jdk_52_method_5_29 rfl (pc' := 30) rfl ?_
    refine Go.ishl K d_jdk_52_method_5_30 (pc' := 31) rfl ?_
    rw [own_shl1 (by omega)]
    refine Go.istoreN K d_jdk_52_method_5_31 (Ls' := #[.val (.ref t), .val (.int (Int32.ofNat (2 * i)))]) rfl (pc' := 32) rfl ?_
    refine Go.aloadN K d_jdk_52_method_5_32 rfl rfl (pc' := 33) rfl ?_
    refine Go.iloadN K d_jdk_52_method_5_33 rfl (pc' := 34) rfl ?_
    refine Go.iinc K d_jdk_52_method_5_34 rfl (Ls' := #[.val (.ref t), .val (.int (Int32.ofNat (2 * i + 1)))]) (by rw [own_inc]; rfl) (pc' := 37) rfl ?_
    refine Go.baload K (v := (.int (StrChars.lo8 ch))) V_t (own_in (by omega) (by omega)) (by rw [own_cl (by omega)]; exact hlo) d_jdk_52_method_5_37 (pc' := 38) rfl ?_
    refine Go.sipush K (v := 255) d_jdk_52_method_5_38 rfl (pc' := 41) rfl ?_
    refine Go.iand K d_jdk_52_method_5_41 (pc' := 42) rfl ?_
    refine Go.getS K (host := "") (Or.inl (hw _ (List.mem_of_getElem? (i := 71) rfl))) Via.refl (S_hi.ext od.2) d_jdk_52_method_5_42 (pc' := 45) rfl ?_
    refine Go.ishl K d_jdk_52_method_5_45 (pc' := 46) rfl ?_
    refine Go.aloadN K d_jdk_52_method_5_46 rfl rfl (pc' := 47) rfl ?_
    refine Go.iloadN K d_jdk_52_method_5_47 rfl (pc' := 48) rfl ?_
    refine Go.baload K (v := (.int (StrChars.hi8 ch))) V_t (own_in (by omega) (by omega)) (by rw [own_cl (by omega)]; exact hhi) d_jdk_52_method_5_48 (pc' := 49) rfl ?_
    refine Go.sipush K (v := 255) d_jdk_52_method_5_49 rfl (pc' := 52) rfl ?_
    refine Go.iand K d_jdk_52_method_5_52 (pc' := 53) rfl ?_
    refine Go.getS K (host := "") (Or.inl (hw _ (List.mem_of_getElem? (i := 72) rfl))) Via.refl (S_lo.ext od.2) d_jdk_52_method_5_53 (pc' := 56) rfl ?_
    refine Go.ishl K d_jdk_52_method_5_56 (pc' := 57) rfl ?_
    refine Go.ior K d_jdk_52_method_5_57 (pc' := 58) rfl ?_
    refine Go.i2c K d_jdk_52_method_5_58 (pc' := 59) rfl ?_
    have e1 : ((((StrChars.lo8 ch) &&& (255 : Int32)) <<< ((0 : Int32) &&& 31)) ||| (((StrChars.hi8 ch) &&& (255 : Int32)) <<< ((8 : Int32) &&& 31))).toUInt32.toUInt16.toUInt32.toInt32 = ch := StrChars.pair_says hc0 hc1
    rw [e1]
    exact Go.retN K (by simp) (by decide) (by decide) d_jdk_52_method_5_59 (fun _ _ _ _ => ⟨by rw [own_narc hc0 hc1], rfl⟩)
  · replace h3 : ¬ (¬ (1 : Int32) = 0) := h3
    exact absurd (by decide) h3
theorem own_inv {cs : List Int32} {vs : List Value} {i : Nat} (hvs : vs.length = 2 * cs.length) (hi : i < cs.length) (hinv : ∀ j, j < i → vs.getD (2 * j) (.int 0) = .int (StrChars.lo8 (cs.getD j 0)) ∧ vs.getD (2 * j + 1) (.int 0) = .int (StrChars.hi8 (cs.getD j 0))) : ∀ j, j < i + 1 → ((vs.set (2 * i) (.int (StrChars.lo8 (cs.getD i 0)))).set (2 * i + 1) (.int (StrChars.hi8 (cs.getD i 0)))).getD (2 * j) (.int 0) = .int (StrChars.lo8 (cs.getD j 0)) ∧ ((vs.set (2 * i) (.int (StrChars.lo8 (cs.getD i 0)))).set (2 * i + 1) (.int (StrChars.hi8 (cs.getD i 0)))).getD (2 * j + 1) (.int 0) = .int (StrChars.hi8 (cs.getD j 0)) := by
  intro j hj
  simp only [List.getD_eq_getElem?_getD, List.getElem?_set, List.length_set]
  rcases Nat.lt_succ_iff_lt_or_eq.mp hj with q | rfl
  · have := hinv j q
    simp only [List.getD_eq_getElem?_getD] at this
    rw [if_neg (by omega), if_neg (by omega), if_neg (by omega), if_neg (by omega)]
    exact this
  · rw [if_neg (by omega), if_pos rfl, if_pos (by omega), if_pos rfl, if_pos (by omega)]
    exact ⟨rfl, rfl⟩
theorem d_jdk_52_method_14_8 : decode jdk_52_method_14_code 8 = .ok (.iload 4, 2) := by decide +kernel
theorem d_jdk_52_method_14_10 : decode jdk_52_method_14_code 10 = .ok (.iload_n 2, 1) := by decide +kernel
theorem d_jdk_52_method_14_11 : decode jdk_52_method_14_code 11 = .ok (.if_icmp .ge 21, 3) := by decide +kernel
theorem d_jdk_52_method_14_32 : decode jdk_52_method_14_code 32 = .ok (.aload_n 3, 1) := by decide +kernel
theorem d_jdk_52_method_14_33 : decode jdk_52_method_14_code 33 = .ok (.areturn, 1) := by decide +kernel
theorem d_jdk_52_method_14_14 : decode jdk_52_method_14_code 14 = .ok (.aload_n 3, 1) := by decide +kernel
theorem d_jdk_52_method_14_15 : decode jdk_52_method_14_code 15 = .ok (.iload 4, 2) := by decide +kernel
theorem d_jdk_52_method_14_17 : decode jdk_52_method_14_code 17 = .ok (.aload_n 0, 1) := by decide +kernel
theorem d_jdk_52_method_14_18 : decode jdk_52_method_14_code 18 = .ok (.iload_n 1, 1) := by decide +kernel
theorem d_jdk_52_method_14_19 : decode jdk_52_method_14_code 19 = .ok (.caload, 1) := by decide +kernel
theorem d_jdk_52_method_14_20 : decode jdk_52_method_14_code 20 = .ok (.invokestatic 111, 3) := by decide +kernel
theorem pd__28_5bBII_29V : parseMethodDescriptor "([BII)V" = some ⟨[(.array .byte), .int, .int], none⟩ := by decide +kernel
theorem d_jdk_52_method_14_23 : decode jdk_52_method_14_code 23 = .ok (.iinc 1 1, 3) := by decide +kernel
theorem d_jdk_52_method_14_26 : decode jdk_52_method_14_code 26 = .ok (.iinc 4 1, 3) := by decide +kernel
theorem d_jdk_52_method_14_29 : decode jdk_52_method_14_code 29 = .ok (.goto (-21), 3) := by decide +kernel
set_option maxRecDepth 65536 in
set_option maxHeartbeats 40000000 in
theorem loop_tb (l : Launch) (Z : State) (a0 : Array Value) (hw : ∀ d ∈ tables_1, d.before a0 Z = true) (h0 : Heap) (n0 : Nat) (a t : Addr) (ka kt : ClassId) (cs : List Int32) (dc : Value) (h4 : cs.length ≤ 4) (hne : a ≠ t) (g_t : n0 ≤ t) (sz_t : h0.size ≤ t) (S_ad : Sta Z Z.heap "java/lang/StringUTF16" "$assertionsDisabled" "Z" (.int (1 : Int32))) (S_hi : Sta Z Z.heap "java/lang/StringUTF16" "HI_BYTE_SHIFT" "I" (.int (0 : Int32))) (S_lo : Sta Z Z.heap "java/lang/StringUTF16" "LO_BYTE_SHIFT" "I" (.int (8 : Int32)))
    {p : Program} {e : Env} {s : State} {m : MethodId} {args : Array Value} {below : List Frame} {meth : Method} {c : Code} {F : Outcome → State → List Loc → Prop} (K : Ctx p s m meth c Z "java/lang/StringUTF16" jdk_52_method_14_code 5 (some (.array .byte)) "toBytes" ({ frames := 2, cells := 1, slots := 8, locals := 40 } : Room) F 0) :
    ∀ (r : Nat) (i : Nat), i + r = cs.length → ∀ (h : Heap) (vs : List Value), vs.length = 2 * cs.length → n0 ≤ h.size → Old Z n0 h → Keep h0 h [] → Arv Z h a ka .char (Int32.ofNat cs.length) (cs.map Value.int) dc → Arv Z h t kt .byte (Int32.ofNat (2 * cs.length)) vs (.int 0) → (∀ j, j < i → vs.getD (2 * j) (.int 0) = .int (StrChars.lo8 (cs.getD j 0)) ∧ vs.getD (2 * j + 1) (.int 0) = .int (StrChars.hi8 (cs.getD j 0))) →
    Go p l e ({ frames := 2, cells := 1, slots := 8, locals := 40 } : Room) s m args below meth c n0 (fun v _ h => (fun v h => ∃ (t : Addr) (kt : ClassId) (vs : List Value), v = some (.ref t) ∧ h0.size ≤ t ∧ Keep h0 h [] ∧ Arv Z h t kt .byte (Int32.ofNat (2 * cs.length)) vs (.int 0) ∧ ∀ j, j < cs.length → vs.getD (2 * j) (.int 0) = .int (StrChars.lo8 (cs.getD j 0)) ∧ vs.getD (2 * j + 1) (.int 0) = .int (StrChars.hi8 (cs.getD j 0))) v h) F 0 h 1 8 (mkF m 8 #[.val (.ref a), .val (.int (Int32.ofNat i)), .val (.int (Int32.ofNat cs.length)), .val (.ref t), .val (.int (Int32.ofNat i))] []) := by
  intro r
  induction r using Nat.strongRecOn with
  | ind r ih0 =>
  intro i hr h vs hvs zh odh kc Va Vt hinv
  have ih := fun r' (q : r' < r) => ih0 r' q
  refine Go.iload K d_jdk_52_method_14_8 rfl (pc' := 10) rfl ?_
  refine Go.iloadN K d_jdk_52_method_14_10 rfl (pc' := 11) rfl ?_
  refine Go.icmp K d_jdk_52_method_14_11 (by decide) (pcT := 32) (pcF := 14) (by decide) rfl (fun h11 => ?_) (fun h11 => ?_)
  · replace h11 : ¬ (Int32.ofNat i) < (Int32.ofNat cs.length) := h11
    have hi : i = cs.length := by have := mt (own_ofN (by omega) (by omega : i ≤ cs.length)).mpr h11; omega
    subst hi
    refine Go.aloadN K d_jdk_52_method_14_32 rfl rfl (pc' := 33) rfl ?_
    exact Go.retA K rfl rfl rfl (by decide) (by decide) d_jdk_52_method_14_33 (fun _ _ _ _ => ⟨t, kt, vs, rfl, sz_t, kc, Vt, hinv⟩)
  · replace h11 : ¬ (¬ (Int32.ofNat i) < (Int32.ofNat cs.length)) := h11
    have hi : i < cs.length := (own_ofN (by omega) (by omega)).mp (Decidable.not_not.mp h11)
    refine Go.aloadN K d_jdk_52_method_14_14 rfl rfl (pc' := 15) rfl ?_
    refine Go.iload K d_jdk_52_method_14_15 rfl (pc' := 17) rfl ?_
    refine Go.aloadN K d_jdk_52_method_14_17 rfl rfl (pc' := 18) rfl ?_
    refine Go.iloadN K d_jdk_52_method_14_18 rfl (pc' := 19) rfl ?_
    refine Go.caload K (v := (.int (cs.getD i 0))) Va (own_in (by omega) hi) (own_at (by omega) hi) d_jdk_52_method_14_19 (pc' := 20) rfl ?_
    refine Go.callS K (y := (⟨"java/lang/StringUTF16", "putChar", "([BII)V"⟩ : MethodName)) (W := 0) (kc := 0) (nc := 0) (mvT K.cz (hw _ (List.mem_of_getElem? (i := 67) rfl))) (mvT K.cz (hw _ (List.mem_of_getElem? (i := 68) rfl))) (mvT K.cz (hw _ (List.mem_of_getElem? (i := 17) rfl))) (mvT K.cz (hw _ (List.mem_of_getElem? (i := 69) rfl))) (by decide) ((m_pc l Z a0 hw h n0 zh t kt i cs.length (cs.getD i 0) h4 hi vs hvs Vt g_t S_ad S_hi S_lo odh).pays (W := 0) K.cz (hw _ (List.mem_of_getElem? (i := 69) rfl)) (hw _ (List.mem_of_getElem? (i := 17) rfl)) (by decide) (by decide)) rfl (argsL := [(.ref t), (.int (Int32.ofNat i)), (.int (cs.getD i 0))]) (rest := []) (lenOf pd__28_5bBII_29V rfl) rfl (Nat.le_of_ble_eq_true rfl) (by decide) (by decide) frOf grOf d_jdk_52_method_14_20 (pc' := 23) rfl ?_
    rintro v28 h26 Lc27 ⟨⟨⟨rfl, Kq, V2⟩, -⟩, -⟩
    have f29 := Va.keep Kq (ninS hne nin0)
    have od31 := odh.keep Kq (allS g_t all0)
    have z32 := Nat.le_trans zh Kq.1
    have kc33 := kc.trans Kq (allS (Or.inr sz_t) all0)
    show Go p l e _ _ m _ below meth c _ _ _ _ h26 _ _ (mkF m 23 #[.val (.ref a), .val (.int (Int32.ofNat i)), .val (.int (Int32.ofNat cs.length)), .val (.ref t), .val (.int (Int32.ofNat i))] [])
    refine Go.iinc K d_jdk_52_method_14_23 rfl (Ls' := #[.val (.ref a), .val (.int (Int32.ofNat (i + 1))), .val (.int (Int32.ofNat cs.length)), .val (.ref t), .val (.int (Int32.ofNat i))]) (by rw [own_inc]; rfl) (pc' := 26) rfl ?_
    refine Go.iinc K d_jdk_52_method_14_26 rfl (Ls' := #[.val (.ref a), .val (.int (Int32.ofNat (i + 1))), .val (.int (Int32.ofNat cs.length)), .val (.ref t), .val (.int (Int32.ofNat (i + 1)))]) (by rw [own_inc]; rfl) (pc' := 29) rfl ?_
    refine Go.goto K d_jdk_52_method_14_29 (pc' := 8) (by decide) (by decide) ?_
    refine ih (cs.length - (i + 1)) (by omega) (i + 1) (by omega) _ _ (by rw [List.length_set, List.length_set]; exact hvs) z32 od31 kc33 f29 V2 ?_
    exact own_inv hvs hi hinv
theorem ef_tb (m : MethodId) (a : Addr) (x : Int32) : entryFrame m #[.ref a, .int 0, .int x] 5 = mkF m 0 #[.val (.ref a), .val (.int (0 : Int32)), .val (.int x), .unset, .unset] [] := by first | (simp [entryFrame, mkF, argsToLocals, Value.category]; done) | rfl
theorem d_jdk_52_method_14_0 : decode jdk_52_method_14_code 0 = .ok (.iload_n 2, 1) := by decide +kernel
theorem d_jdk_52_method_14_1 : decode jdk_52_method_14_code 1 = .ok (.invokestatic 107, 3) := by decide +kernel
theorem pd__28I_29_5bB : parseMethodDescriptor "(I)[B" = some ⟨[.int], some (.array .byte)⟩ := by decide +kernel
theorem d_jdk_52_method_14_4 : decode jdk_52_method_14_code 4 = .ok (.astore_n 3, 1) := by decide +kernel
theorem d_jdk_52_method_14_5 : decode jdk_52_method_14_code 5 = .ok (.iconst 0, 1) := by decide +kernel
theorem d_jdk_52_method_14_6 : decode jdk_52_method_14_code 6 = .ok (.istore 4, 2) := by decide +kernel
set_option maxRecDepth 65536 in
set_option maxHeartbeats 40000000 in
theorem m_tb (l : Launch) (Z : State) (a0 : Array Value) (hw : ∀ d ∈ tables_1, d.before a0 Z = true) (h0 : Heap) (n0 : Nat) (Z0 : n0 ≤ h0.size) (a : Addr) (ka : ClassId) (cs : List Int32) (dc : Value) (V_a : Arv Z h0 a ka .char (Int32.ofNat cs.length) (cs.map Value.int) dc) (h4 : cs.length ≤ 4) (S_ad : Sta Z Z.heap "java/lang/StringUTF16" "$assertionsDisabled" "Z" (.int (1 : Int32))) (S_hi : Sta Z Z.heap "java/lang/StringUTF16" "HI_BYTE_SHIFT" "I" (.int (0 : Int32))) (S_lo : Sta Z Z.heap "java/lang/StringUTF16" "LO_BYTE_SHIFT" "I" (.int (8 : Int32))) (od : Old Z n0 h0) :
    Met l Z [] (⟨"java/lang/StringUTF16", "toBytes", "([CII)[B"⟩ : MethodName) jdk_52_method_14_code 5 (some (.array .byte)) ({ frames := 2, cells := 1, slots := 8, locals := 40 } : Room) #[(.ref a), (.int (0 : Int32)), (.int (Int32.ofNat cs.length))] h0 n0 (fun v h => ∃ (t : Addr) (kt : ClassId) (vs : List Value), v = some (.ref t) ∧ h0.size ≤ t ∧ Keep h0 h [] ∧ Arv Z h t kt .byte (Int32.ofNat (2 * cs.length)) vs (.int 0) ∧ ∀ j, j < cs.length → vs.getD (2 * j) (.int 0) = .int (StrChars.lo8 (cs.getD j 0)) ∧ vs.getD (2 * j + 1) (.int 0) = .int (StrChars.hi8 (cs.getD j 0))) := by
  refine Met.of (plainFor_of_name pn_java_lang_StringUTF16) ?_
  intro p e s m below meth c F K
  refine Go.cast (ef_tb m a _) ?_
  have kc0 := Keep.refl h0 []
  refine Go.iloadN K d_jdk_52_method_14_0 rfl (pc' := 1) rfl ?_
  refine Go.callS K (y := (⟨"java/lang/StringUTF16", "newBytesFor", "(I)[B"⟩ : MethodName)) (W := 0) (kc := 1) (nc := 8) (mvT K.cz (hw _ (List.mem_of_getElem? (i := 60) rfl))) (mvT K.cz (hw _ (List.mem_of_getElem? (i := 61) rfl))) (mvT K.cz (hw _ (List.mem_of_getElem? (i := 17) rfl))) (mvT K.cz (hw _ (List.mem_of_getElem? (i := 62) rfl))) (by decide) ((m_nf l Z a0 hw h0 n0 Z0 cs.length h4).pays (W := 0) K.cz (hw _ (List.mem_of_getElem? (i := 62) rfl)) (hw _ (List.mem_of_getElem? (i := 17) rfl)) (by decide) (by decide)) rfl (argsL := [(.int (Int32.ofNat cs.length))]) (rest := []) (lenOf pd__28I_29_5bB rfl) rfl (Nat.le_of_ble_eq_true rfl) (by decide) (by decide) frOf grOf d_jdk_52_method_14_1 (pc' := 4) rfl ?_
  rintro v36 h34 Lc35 ⟨⟨⟨t, kt, rfl, hle, Kq, Vt⟩, -⟩, -⟩
  have sz_t := Nat.le_trans kc0.1 hle
  have ne37 : a ≠ t := own_ne V_a.lt hle
  have f38 := V_a.keep Kq nin0
  have od39 := od.keep Kq all0
  have z40 := Nat.le_trans Z0 Kq.1
  have kc41 := kc0.trans Kq all0
  show Go p l e _ _ m _ below meth c _ _ _ _ h34 _ _ (mkF m 4 #[.val (.ref a), .val (.int (0 : Int32)), .val (.int (Int32.ofNat cs.length)), .unset, .unset] [(.ref t)])
  refine Go.astoreN K d_jdk_52_method_14_4 rfl (Ls' := #[.val (.ref a), .val (.int (0 : Int32)), .val (.int (Int32.ofNat cs.length)), .val (.ref t), .unset]) rfl (pc' := 5) rfl ?_
  refine Go.iconst K (v := 0) d_jdk_52_method_14_5 rfl (pc' := 6) rfl ?_
  refine Go.istore K d_jdk_52_method_14_6 (Ls' := #[.val (.ref a), .val (.int (0 : Int32)), .val (.int (Int32.ofNat cs.length)), .val (.ref t), .val (.int (0 : Int32))]) rfl (pc' := 8) rfl ?_
  have Vt2 := Vt.pad (pad_rep [] (.int 0) (2 * cs.length))
  exact loop_tb l Z a0 hw h0 n0 a t ka kt cs dc h4 ne37 (Nat.le_trans Z0 hle) hle S_ad S_hi S_lo K cs.length 0 (by omega) _ _ (by simp) z40 od39 kc41 f38 Vt2 (fun j hj => absurd hj (by omega))
theorem ef_c16 (m : MethodId) (a : Addr) (x : Int32) : entryFrame m #[.ref a, .int 0, .int x] 6 = mkF m 0 #[.val (.ref a), .val (.int (0 : Int32)), .val (.int x), .unset, .unset, .unset] [] := by first | (simp [entryFrame, mkF, argsToLocals, Value.category]; done) | rfl
theorem d_jdk_52_method_16_0 : decode jdk_52_method_16_code 0 = .ok (.iload_n 2, 1) := by decide +kernel
theorem d_jdk_52_method_16_1 : decode jdk_52_method_16_code 1 = .ok (.newarray .byte, 2) := by decide +kernel
theorem d_jdk_52_method_16_3 : decode jdk_52_method_16_code 3 = .ok (.astore_n 3, 1) := by decide +kernel
theorem d_jdk_52_method_16_4 : decode jdk_52_method_16_code 4 = .ok (.aload_n 0, 1) := by decide +kernel
theorem d_jdk_52_method_16_5 : decode jdk_52_method_16_code 5 = .ok (.iload_n 1, 1) := by decide +kernel
theorem d_jdk_52_method_16_6 : decode jdk_52_method_16_code 6 = .ok (.aload_n 3, 1) := by decide +kernel
theorem d_jdk_52_method_16_7 : decode jdk_52_method_16_code 7 = .ok (.iconst 0, 1) := by decide +kernel
theorem d_jdk_52_method_16_8 : decode jdk_52_method_16_code 8 = .ok (.iload_n 2, 1) := by decide +kernel
theorem d_jdk_52_method_16_9 : decode jdk_52_method_16_code 9 = .ok (.invokestatic 115, 3) := by decide +kernel
theorem pd__28_5bCI_5bBII_29I : parseMethodDescriptor "([CI[BII)I" = some ⟨[(.array .char), .int, (.array .byte), .int, .int], some .int⟩ := by decide +kernel
theorem d_jdk_52_method_16_12 : decode jdk_52_method_16_code 12 = .ok (.istore 4, 2) := by decide +kernel
theorem d_jdk_52_method_16_14 : decode jdk_52_method_16_code 14 = .ok (.iload 4, 2) := by decide +kernel
theorem d_jdk_52_method_16_16 : decode jdk_52_method_16_code 16 = .ok (.iload_n 2, 1) := by decide +kernel
theorem d_jdk_52_method_16_17 : decode jdk_52_method_16_code 17 = .ok (.if_icmp .eq 40, 3) := by decide +kernel
theorem d_jdk_52_method_16_20 : decode jdk_52_method_16_code 20 = .ok (.aload_n 0, 1) := by decide +kernel
theorem d_jdk_52_method_16_21 : decode jdk_52_method_16_code 21 = .ok (.iload_n 1, 1) := by decide +kernel
theorem d_jdk_52_method_16_22 : decode jdk_52_method_16_code 22 = .ok (.iload_n 2, 1) := by decide +kernel
theorem d_jdk_52_method_16_23 : decode jdk_52_method_16_code 23 = .ok (.invokestatic 119, 3) := by decide +kernel
theorem pd__28_5bCII_29_5bB : parseMethodDescriptor "([CII)[B" = some ⟨[(.array .char), .int, .int], some (.array .byte)⟩ := by decide +kernel
theorem d_jdk_52_method_16_26 : decode jdk_52_method_16_code 26 = .ok (.astore 5, 2) := by decide +kernel
theorem d_jdk_52_method_16_28 : decode jdk_52_method_16_code 28 = .ok (.aload 5, 2) := by decide +kernel
theorem d_jdk_52_method_16_30 : decode jdk_52_method_16_code 30 = .ok (.iload 4, 2) := by decide +kernel
theorem d_jdk_52_method_16_32 : decode jdk_52_method_16_code 32 = .ok (.invokestatic 71, 3) := by decide +kernel
theorem pd__28_5bBI_29C : parseMethodDescriptor "([BI)C" = some ⟨[(.array .byte), .int], some .char⟩ := by decide +kernel
theorem d_jdk_52_method_16_35 : decode jdk_52_method_16_code 35 = .ok (.sipush 255, 3) := by decide +kernel
theorem d_jdk_52_method_16_38 : decode jdk_52_method_16_code 38 = .ok (.if_icmp .gt 16, 3) := by decide +kernel
theorem d_jdk_52_method_16_54 : decode jdk_52_method_16_code 54 = .ok (.aload 5, 2) := by decide +kernel
theorem d_jdk_52_method_16_56 : decode jdk_52_method_16_code 56 = .ok (.areturn, 1) := by decide +kernel
set_option maxRecDepth 65536 in
set_option maxHeartbeats 40000000 in
theorem m_c16 (l : Launch) (Z : State) (a0 : Array Value) (hw : ∀ d ∈ tables_1, d.before a0 Z = true) (h0 : Heap) (n0 : Nat) (Z0 : n0 ≤ h0.size) (a : Addr) (ka : ClassId) (cs : List Int32) (dc : Value) (V_a : Arv Z h0 a ka .char (Int32.ofNat cs.length) (cs.map Value.int) dc) (h4 : cs.length ≤ 4) (hbig : ∃ j, j < cs.length ∧ 255 < cs.getD j 0) (hbd : ∀ j, j < cs.length → ¬ cs.getD j 0 < 0 ∧ ¬ 65535 < cs.getD j 0) (S_ad : Sta Z Z.heap "java/lang/StringUTF16" "$assertionsDisabled" "Z" (.int (1 : Int32))) (S_hi : Sta Z Z.heap "java/lang/StringUTF16" "HI_BYTE_SHIFT" "I" (.int (0 : Int32))) (S_lo : Sta Z Z.heap "java/lang/StringUTF16" "LO_BYTE_SHIFT" "I" (.int (8 : Int32))) (od : Old Z n0 h0) :
    Met l Z [] (⟨"java/lang/StringUTF16", "compress", "([CII)[B"⟩ : MethodName) jdk_52_method_16_code 6 (some (.array .byte)) ({ frames := 3, cells := 2, slots := 12, locals := 80 } : Room) #[(.ref a), (.int (0 : Int32)), (.int (Int32.ofNat cs.length))] h0 n0 (fun v h => ∃ (t : Addr) (kt : ClassId) (vs : List Value), v = some (.ref t) ∧ h0.size ≤ t ∧ Keep h0 h [] ∧ Arv Z h t kt .byte (Int32.ofNat (2 * cs.length)) vs (.int 0)) := by
  refine Met.of (plainFor_of_name pn_java_lang_StringUTF16) ?_
  intro p e s m below meth c F K
  refine Go.cast (ef_c16 m a _) ?_
  have kc0 := Keep.refl h0 []
  refine Go.iloadN K d_jdk_52_method_16_0 rfl (pc' := 1) rfl ?_
  refine Go.newP K (hw _ (List.mem_of_getElem? (i := 19) rfl)) (own_nn (by omega)) 4 (by rw [own_cl (by omega)]; omega) (by decide) (by decide) (by decide) d_jdk_52_method_16_1 (pc' := 3) rfl ?_
  intro h42 d kA_d eq44 E43 V_d
  have sz_d := Nat.le_trans kc0.1 (Nat.le_of_eq eq44.symm)
  have ne45 : a ≠ d := own_ne V_a.lt (Nat.le_of_eq eq44.symm)
  have g_d : n0 ≤ d := Nat.le_trans Z0 (Nat.le_of_eq eq44.symm)
  have f47 := V_a.ext E43
  have od48 := od.ext E43
  have z49 := Nat.le_trans Z0 E43.1
  have kc50 := kc0.ext E43
  have V51 : Arv Z h42 d kA_d .byte (Int32.ofNat cs.length) [] (.int (0 : Int32)) := V_d.pad (pad_rep [] (.int (0 : Int32)) 0)
  have Vd2 := V_d.pad (pad_rep [] (.int (0 : Int32)) cs.length)
  refine Go.astoreN K d_jdk_52_method_16_3 rfl (Ls' := #[.val (.ref a), .val (.int (0 : Int32)), .val (.int (Int32.ofNat cs.length)), .val (.ref d), .unset, .unset]) rfl (pc' := 4) rfl ?_
  refine Go.aloadN K d_jdk_52_method_16_4 rfl rfl (pc' := 5) rfl ?_
  refine Go.iloadN K d_jdk_52_method_16_5 rfl (pc' := 6) rfl ?_
  refine Go.aloadN K d_jdk_52_method_16_6 rfl rfl (pc' := 7) rfl ?_
  refine Go.iconst K (v := 0) d_jdk_52_method_16_7 rfl (pc' := 8) rfl ?_
  refine Go.iloadN K d_jdk_52_method_16_8 rfl (pc' := 9) rfl ?_
  refine Go.callS K (y := (⟨"java/lang/StringUTF16", "compress", "([CI[BII)I"⟩ : MethodName)) (W := 0) (kc := 0) (nc := 0) (mvT K.cz (hw _ (List.mem_of_getElem? (i := 20) rfl))) (mvT K.cz (hw _ (List.mem_of_getElem? (i := 21) rfl))) (mvT K.cz (hw _ (List.mem_of_getElem? (i := 17) rfl))) (mvT K.cz (hw _ (List.mem_of_getElem? (i := 22) rfl))) (by decide) ((m_c21 l Z a0 hw h42 n0 z49 a ka cs dc f47 h4 d kA_d _ (by simp) Vd2 ne45 g_d).pays (W := 0) K.cz (hw _ (List.mem_of_getElem? (i := 22) rfl)) (hw _ (List.mem_of_getElem? (i := 17) rfl)) (by decide) (by decide)) rfl (argsL := [(.ref a), (.int (0 : Int32)), (.ref d), (.int (0 : Int32)), (.int (Int32.ofNat cs.length))]) (rest := []) (lenOf pd__28_5bCI_5bBII_29I rfl) rfl (Nat.le_of_ble_eq_true rfl) (by decide) (by decide) frOf grOf d_jdk_52_method_16_9 (pc' := 12) rfl ?_
  rintro v54 h52 Lc53 ⟨⟨⟨r, hr, rfl, Kq, hr1, hr2⟩, -⟩, -⟩
  have f55 := f47.keep Kq (ninS ne45 nin0)
  have od57 := od48.keep Kq (allS g_d all0)
  have z58 := Nat.le_trans z49 Kq.1
  have kc59 := kc50.trans Kq (allS (Or.inr sz_d) all0)
  show Go p l e _ _ m _ below meth c _ _ _ _ h52 _ _ (mkF m 12 #[.val (.ref a), .val (.int (0 : Int32)), .val (.int (Int32.ofNat cs.length)), .val (.ref d), .unset, .unset] [(.int (Int32.ofNat r))])
  have hrn : r < cs.length := by
    rcases Nat.lt_or_eq_of_le hr with q | q
    · exact q
    · obtain ⟨j, hj, hjb⟩ := hbig
      exact absurd hjb (hr2 q j hj)
  refine Go.istore K d_jdk_52_method_16_12 (Ls' := #[.val (.ref a), .val (.int (0 : Int32)), .val (.int (Int32.ofNat cs.length)), .val (.ref d), .val (.int (Int32.ofNat r)), .unset]) rfl (pc' := 14) rfl ?_
  refine Go.iload K d_jdk_52_method_16_14 rfl (pc' := 16) rfl ?_
  refine Go.iloadN K d_jdk_52_method_16_16 rfl (pc' := 17) rfl ?_
  refine Go.icmp K d_jdk_52_method_16_17 (by decide) (pcT := 57) (pcF := 20) (by decide) rfl (fun h17 => ?_) (fun h17 => ?_)
  · replace h17 : (Int32.ofNat r) = (Int32.ofNat cs.length) := h17
    exact absurd (own_inj (by omega) (by omega) h17) (Nat.ne_of_lt hrn)
  · replace h17 : ¬ ((Int32.ofNat r) = (Int32.ofNat cs.length)) := h17
    refine Go.aloadN K d_jdk_52_method_16_20 rfl rfl (pc' := 21) rfl ?_
    refine Go.iloadN K d_jdk_52_method_16_21 rfl (pc' := 22) rfl ?_
    refine Go.iloadN K d_jdk_52_method_16_22 rfl (pc' := 23) rfl ?_
    refine Go.callS K (y := (⟨"java/lang/StringUTF16", "toBytes", "([CII)[B"⟩ : MethodName)) (W := 0) (kc := 1) (nc := 8) (mvT K.cz (hw _ (List.mem_of_getElem? (i := 57) rfl))) (mvT K.cz (hw _ (List.mem_of_getElem? (i := 58) rfl))) (mvT K.cz (hw _ (List.mem_of_getElem? (i := 17) rfl))) (mvT K.cz (hw _ (List.mem_of_getElem? (i := 59) rfl))) (by decide) ((m_tb l Z a0 hw h52 n0 z58 a ka cs dc f55 h4 S_ad S_hi S_lo od57).pays (W := 0) K.cz (hw _ (List.mem_of_getElem? (i := 59) rfl)) (hw _ (List.mem_of_getElem? (i := 17) rfl)) (by decide) (by decide)) rfl (argsL := [(.ref a), (.int (0 : Int32)), (.int (Int32.ofNat cs.length))]) (rest := []) (lenOf pd__28_5bCII_29_5bB rfl) rfl (Nat.le_of_ble_eq_true rfl) (by decide) (by decide) frOf grOf d_jdk_52_method_16_23 (pc' := 26) rfl ?_
    rintro v62 h60 Lc61 ⟨⟨⟨t, kt, vs, rfl, hle, Kt, Vt, hinv⟩, -⟩, -⟩
    have sz_t := Nat.le_trans kc59.1 hle
    have ne63 : a ≠ t := own_ne f55.lt hle
    have f64 := f55.keep Kt nin0
    have od65 := od57.keep Kt all0
    have z66 := Nat.le_trans z58 Kt.1
    have kc67 := kc59.trans Kt all0
    show Go p l e _ _ m _ below meth c _ _ _ _ h60 _ _ (mkF m 26 #[.val (.ref a), .val (.int (0 : Int32)), .val (.int (Int32.ofNat cs.length)), .val (.ref d), .val (.int (Int32.ofNat r)), .unset] [(.ref t)])
    refine Go.astore K d_jdk_52_method_16_26 rfl (Ls' := #[.val (.ref a), .val (.int (0 : Int32)), .val (.int (Int32.ofNat cs.length)), .val (.ref d), .val (.int (Int32.ofNat r)), .val (.ref t)]) rfl (pc' := 28) rfl ?_
    refine Go.aload K d_jdk_52_method_16_28 rfl rfl (pc' := 30) rfl ?_
    refine Go.iload K d_jdk_52_method_16_30 rfl (pc' := 32) rfl ?_
    refine Go.callS K (y := (⟨"java/lang/StringUTF16", "getChar", "([BI)C"⟩ : MethodName)) (W := 0) (kc := 0) (nc := 0) (mvT K.cz (hw _ (List.mem_of_getElem? (i := 73) rfl))) (mvT K.cz (hw _ (List.mem_of_getElem? (i := 74) rfl))) (mvT K.cz (hw _ (List.mem_of_getElem? (i := 17) rfl))) (mvT K.cz (hw _ (List.mem_of_getElem? (i := 75) rfl))) (by decide) ((m_gc l Z a0 hw h60 n0 z66 t kt r cs.length (cs.getD r 0) h4 hrn vs Vt (hinv r hrn).1 (hinv r hrn).2 (hbd r hrn).1 (hbd r hrn).2 S_ad S_hi S_lo od65).pays (W := 0) K.cz (hw _ (List.mem_of_getElem? (i := 75) rfl)) (hw _ (List.mem_of_getElem? (i := 17) rfl)) (by decide) (by decide)) rfl (argsL := [(.ref t), (.int (Int32.ofNat r))]) (rest := []) (lenOf pd__28_5bBI_29C rfl) rfl (Nat.le_of_ble_eq_true rfl) (by decide) (by decide) frOf grOf d_jdk_52_method_16_32 (pc' := 35) rfl ?_
    rintro v70 h68 Lc69 ⟨⟨⟨rfl, eh⟩, -⟩, -⟩
    obtain rfl := eh
    show Go p l e _ _ m _ below meth c _ _ _ _ h60 _ _ (mkF m 35 #[.val (.ref a), .val (.int (0 : Int32)), .val (.int (Int32.ofNat cs.length)), .val (.ref d), .val (.int (Int32.ofNat r)), .val (.ref t)] [(.int (cs.getD r 0))])
    refine Go.sipush K (v := 255) d_jdk_52_method_16_35 rfl (pc' := 38) rfl ?_
    refine Go.icmp K d_jdk_52_method_16_38 (by decide) (pcT := 54) (pcF := 41) (by decide) rfl (fun h38 => ?_) (fun h38 => ?_)
    · replace h38 : (255 : Int32) < (cs.getD r 0) := h38
      refine Go.aload K d_jdk_52_method_16_54 rfl rfl (pc' := 56) rfl ?_
      exact Go.retA K rfl rfl rfl (by decide) (by decide) d_jdk_52_method_16_56 (fun _ _ _ _ => ⟨t, kt, vs, rfl, sz_t, kc67, Vt⟩)
    · replace h38 : ¬ ((255 : Int32) < (cs.getD r 0)) := h38
      exact absurd (hr1 hrn) h38
theorem d_jdk_52_method_15_0 : decode jdk_52_method_15_code 0 = .ok (.iload_n 1, 1) := by decide +kernel
theorem d_jdk_52_method_15_1 : decode jdk_52_method_15_code 1 = .ok (.aload_n 0, 1) := by decide +kernel
theorem d_jdk_52_method_15_2 : decode jdk_52_method_15_code 2 = .ok (.arraylength, 1) := by decide +kernel
theorem d_jdk_52_method_15_3 : decode jdk_52_method_15_code 3 = .ok (.isub, 1) := by decide +kernel
theorem d_jdk_52_method_15_4 : decode jdk_52_method_15_code 4 = .ok (.bipush 31, 2) := by decide +kernel
theorem d_jdk_52_method_15_6 : decode jdk_52_method_15_code 6 = .ok (.iushr, 1) := by decide +kernel
theorem d_jdk_52_method_15_7 : decode jdk_52_method_15_code 7 = .ok (.i2b, 1) := by decide +kernel
theorem d_jdk_52_method_15_8 : decode jdk_52_method_15_code 8 = .ok (.ireturn, 1) := by decide +kernel
set_option maxRecDepth 65536 in
set_option maxHeartbeats 40000000 in
theorem m_cf (l : Launch) (Z : State) (a0 : Array Value) (hw : ∀ d ∈ tables_1, d.before a0 Z = true) (h0 : Heap) (n0 : Nat) (Z0 : n0 ≤ h0.size) (t : Addr) (kt : ClassId) (n : Nat) (h0n : 0 < n) (hn : n ≤ 4) (vs : List Value) (V_t : Arv Z h0 t kt .byte (Int32.ofNat (2 * n)) vs (.int 0)) :
    Met l Z [] (⟨"java/lang/StringUTF16", "coderFromArrayLen", "([BI)B"⟩ : MethodName) jdk_52_method_15_code 2 (some .byte) ({ frames := 0, cells := 0, slots := 0, locals := 0 } : Room) #[(.ref t), (.int (Int32.ofNat n))] h0 n0 (fun v h => v = some (.int 1) ∧ h0 = h) := by
  refine Met.of (plainFor_of_name pn_java_lang_StringUTF16) ?_
  intro p e s m below meth c F K
  refine Go.cast (ef_gc m t _) ?_
  refine Go.iloadN K d_jdk_52_method_15_0 rfl (pc' := 1) rfl ?_
  refine Go.aloadN K d_jdk_52_method_15_1 rfl rfl (pc' := 2) rfl ?_
  refine Go.arraylength K V_t d_jdk_52_method_15_2 (pc' := 3) rfl ?_
  refine Go.isub K d_jdk_52_method_15_3 (pc' := 4) rfl ?_
  refine Go.bipush K (v := 31) d_jdk_52_method_15_4 rfl (pc' := 6) rfl ?_
  refine Go.iushr K d_jdk_52_method_15_6 (pc' := 7) rfl ?_
  refine Go.i2b K d_jdk_52_method_15_7 (pc' := 8) rfl ?_
  exact Go.retN K (by simp) (by decide) (by decide) d_jdk_52_method_15_8 (fun _ _ _ _ => ⟨by rw [own_coder h0n (by omega)], rfl⟩)
theorem ef_s4 (m : MethodId) (xs a : Addr) (x : Int32) : entryFrame m #[.ref xs, .ref a, .int 0, .int x, .null] 6 = mkF m 0 #[.val (.ref xs), .val (.ref a), .val (.int (0 : Int32)), .val (.int x), .val .null, .unset] [] := by first | (simp [entryFrame, mkF, argsToLocals, Value.category]; done) | rfl
theorem ef_s1 (m : MethodId) (xs a : Addr) : entryFrame m #[.ref xs, .ref a] 2 = mkF m 0 #[.val (.ref xs), .val (.ref a)] [] := by first | (simp [entryFrame, mkF, argsToLocals, Value.category]; done) | rfl
theorem d_jdk_42_method_149_0 : decode jdk_42_method_149_code 0 = .ok (.aload_n 0, 1) := by decide +kernel
theorem d_jdk_42_method_149_1 : decode jdk_42_method_149_code 1 = .ok (.invokespecial 1, 3) := by decide +kernel
theorem d_jdk_42_method_149_4 : decode jdk_42_method_149_code 4 = .ok (.iload_n 3, 1) := by decide +kernel
theorem d_jdk_42_method_149_5 : decode jdk_42_method_149_code 5 = .ok (.ifCond .ne 22, 3) := by decide +kernel
theorem d_jdk_42_method_149_27 : decode jdk_42_method_149_code 27 = .ok (.getstatic 38, 3) := by decide +kernel
theorem d_jdk_42_method_149_30 : decode jdk_42_method_149_code 30 = .ok (.ifCond .eq 28, 3) := by decide +kernel
theorem d_jdk_42_method_149_33 : decode jdk_42_method_149_code 33 = .ok (.aload_n 1, 1) := by decide +kernel
theorem d_jdk_42_method_149_34 : decode jdk_42_method_149_code 34 = .ok (.iload_n 2, 1) := by decide +kernel
theorem d_jdk_42_method_149_35 : decode jdk_42_method_149_code 35 = .ok (.iload_n 3, 1) := by decide +kernel
theorem d_jdk_42_method_149_36 : decode jdk_42_method_149_code 36 = .ok (.invokestatic 177, 3) := by decide +kernel
theorem d_jdk_42_method_149_39 : decode jdk_42_method_149_code 39 = .ok (.astore 5, 2) := by decide +kernel
theorem d_jdk_42_method_149_41 : decode jdk_42_method_149_code 41 = .ok (.aload_n 0, 1) := by decide +kernel
theorem d_jdk_42_method_149_42 : decode jdk_42_method_149_code 42 = .ok (.aload 5, 2) := by decide +kernel
theorem d_jdk_42_method_149_44 : decode jdk_42_method_149_code 44 = .ok (.iload_n 3, 1) := by decide +kernel
theorem d_jdk_42_method_149_45 : decode jdk_42_method_149_code 45 = .ok (.invokestatic 47, 3) := by decide +kernel
theorem pd__28_5bBI_29B : parseMethodDescriptor "([BI)B" = some ⟨[(.array .byte), .int], some .byte⟩ := by decide +kernel
theorem d_jdk_42_method_149_48 : decode jdk_42_method_149_code 48 = .ok (.putfield 15, 3) := by decide +kernel
theorem d_jdk_42_method_149_51 : decode jdk_42_method_149_code 51 = .ok (.aload_n 0, 1) := by decide +kernel
theorem d_jdk_42_method_149_52 : decode jdk_42_method_149_code 52 = .ok (.aload 5, 2) := by decide +kernel
theorem d_jdk_42_method_149_54 : decode jdk_42_method_149_code 54 = .ok (.putfield 9, 3) := by decide +kernel
theorem d_jdk_42_method_149_57 : decode jdk_42_method_149_code 57 = .ok (.return_, 1) := by decide +kernel
theorem pn_java_lang_String : plainName "java/lang/String" = true := by first | (simp [plainName, overriddenIn]; done) | decide +kernel
set_option maxRecDepth 65536 in
set_option maxHeartbeats 40000000 in
theorem m_s4u (l : Launch) (Z : State) (a0 : Array Value) (hw : ∀ d ∈ tables_1, d.before a0 Z = true) (h0 : Heap) (n0 : Nat) (Z0 : n0 ≤ h0.size) (xs : Addr) (E_xs : Exa Z h0 xs "java/lang/String") (F_v : Fld Z h0 xs "java/lang/String" "value" "[B" .null) (F_c : Fld Z h0 xs "java/lang/String" "coder" "B" (.int (0 : Int32))) (g_xs : n0 ≤ xs) (a : Addr) (ka : ClassId) (cs : List Int32) (dc : Value) (V_a : Arv Z h0 a ka .char (Int32.ofNat cs.length) (cs.map Value.int) dc) (h4 : cs.length ≤ 4) (hbig : ∃ j, j < cs.length ∧ 255 < cs.getD j 0) (hbd : ∀ j, j < cs.length → ¬ cs.getD j 0 < 0 ∧ ¬ 65535 < cs.getD j 0) (h0n : 0 < cs.length) (hne : a ≠ xs) (zc : Int32) (S1 : Sta Z Z.heap "java/lang/String" "COMPACT_STRINGS" "Z" (.int zc)) (P1 : ¬ (zc = (0 : Int32))) (S_ad : Sta Z Z.heap "java/lang/StringUTF16" "$assertionsDisabled" "Z" (.int (1 : Int32))) (S_hi : Sta Z Z.heap "java/lang/StringUTF16" "HI_BYTE_SHIFT" "I" (.int (0 : Int32))) (S_lo : Sta Z Z.heap "java/lang/StringUTF16" "LO_BYTE_SHIFT" "I" (.int (8 : Int32))) (od : Old Z n0 h0) :
    Met l Z [] (⟨"java/lang/String", "<init>", "([CIILjava/lang/Void;)V"⟩ : MethodName) jdk_42_method_149_code 6 none ({ frames := 4, cells := 2, slots := 12, locals := 100 } : Room) #[(.ref xs), (.ref a), (.int (0 : Int32)), (.int (Int32.ofNat cs.length)), .null] h0 n0 (fun v h => v = none ∧ Keep h0 h [xs] ∧ Exa Z h xs "java/lang/String" ∧ Fld Z h xs "java/lang/String" "coder" "B" (.int (1 : Int32)) ∧ ∃ (t : Addr) (kt : ClassId) (vs : List Value), h0.size ≤ t ∧ Fld Z h xs "java/lang/String" "value" "[B" (.ref t) ∧ Arv Z h t kt .byte (Int32.ofNat (2 * cs.length)) vs (.int 0)) := by
  refine Met.of (plainFor_of_name pn_java_lang_String) ?_
  intro p e s m below meth c F K
  refine Go.cast (ef_s4 m xs a _) ?_
  have kc0 := Keep.refl h0 [xs]
  refine Go.aloadN K d_jdk_42_method_149_0 rfl rfl (pc' := 1) rfl ?_
  refine Go.initO K (hw _ (List.mem_of_getElem? (i := 11) rfl)) (hw _ (List.mem_of_getElem? (i := 12) rfl)) (hw _ (List.mem_of_getElem? (i := 13) rfl)) rfl (by decide) 0 (Nat.le_of_ble_eq_true rfl) (by decide) d_jdk_42_method_149_1 (pc' := 4) rfl ?_
  refine Go.iloadN K d_jdk_42_method_149_4 rfl (pc' := 5) rfl ?_
  refine Go.ifc K d_jdk_42_method_149_5 (by decide) (pcT := 27) (pcF := 8) (by decide) rfl (fun h5 => ?_) (fun h5 => ?_)
  · replace h5 : ¬ (Int32.ofNat cs.length) = 0 := h5
    refine Go.getS K (host := "") (Or.inl (hw _ (List.mem_of_getElem? (i := 14) rfl))) Via.refl (S1.ext od.2) d_jdk_42_method_149_27 (pc' := 30) rfl ?_
    refine Go.ifc K d_jdk_42_method_149_30 (by decide) (pcT := 58) (pcF := 33) (by decide) rfl (fun h30 => ?_) (fun h30 => ?_)
    · replace h30 : zc = 0 := h30
      exact absurd h30 P1
    · replace h30 : ¬ (zc = 0) := h30
      refine Go.aloadN K d_jdk_42_method_149_33 rfl rfl (pc' := 34) rfl ?_
      refine Go.iloadN K d_jdk_42_method_149_34 rfl (pc' := 35) rfl ?_
      refine Go.iloadN K d_jdk_42_method_149_35 rfl (pc' := 36) rfl ?_
      refine Go.callS K (y := (⟨"java/lang/StringUTF16", "compress", "([CII)[B"⟩ : MethodName)) (W := 0) (kc := 2) (nc := 12) (mvT K.cz (hw _ (List.mem_of_getElem? (i := 15) rfl))) (mvT K.cz (hw _ (List.mem_of_getElem? (i := 16) rfl))) (mvT K.cz (hw _ (List.mem_of_getElem? (i := 17) rfl))) (mvT K.cz (hw _ (List.mem_of_getElem? (i := 18) rfl))) (by decide) ((m_c16 l Z a0 hw h0 n0 Z0 a ka cs dc V_a h4 hbig hbd S_ad S_hi S_lo od).pays (W := 0) K.cz (hw _ (List.mem_of_getElem? (i := 18) rfl)) (hw _ (List.mem_of_getElem? (i := 17) rfl)) (by decide) (by decide)) rfl (argsL := [(.ref a), (.int (0 : Int32)), (.int (Int32.ofNat cs.length))]) (rest := []) (lenOf pd__28_5bCII_29_5bB rfl) rfl (Nat.le_of_ble_eq_true rfl) (by decide) (by decide) frOf grOf d_jdk_42_method_149_36 (pc' := 39) rfl ?_
      rintro v73 h71 Lc72 ⟨⟨⟨t, kt, vs, rfl, hle, Kq, Vt⟩, -⟩, -⟩
      have sz_t := Nat.le_trans kc0.1 hle
      have ne74 : xs ≠ t := own_ne E_xs.lt hle
      have ne75 : a ≠ t := own_ne V_a.lt hle
      have f76 := E_xs.keep Kq
      have f77 := F_v.keep Kq nin0
      have f78 := F_c.keep Kq nin0
      have f79 := V_a.keep Kq nin0
      have od80 := od.keep Kq all0
      have z81 := Nat.le_trans Z0 Kq.1
      have kc82 := kc0.trans Kq all0
      show Go p l e _ _ m _ below meth c _ _ _ _ h71 _ _ (mkF m 39 #[.val (.ref xs), .val (.ref a), .val (.int (0 : Int32)), .val (.int (Int32.ofNat cs.length)), .val .null, .unset] [(.ref t)])
      refine Go.astore K d_jdk_42_method_149_39 rfl (Ls' := #[.val (.ref xs), .val (.ref a), .val (.int (0 : Int32)), .val (.int (Int32.ofNat cs.length)), .val .null, .val (.ref t)]) rfl (pc' := 41) rfl ?_
      refine Go.aloadN K d_jdk_42_method_149_41 rfl rfl (pc' := 42) rfl ?_
      refine Go.aload K d_jdk_42_method_149_42 rfl rfl (pc' := 44) rfl ?_
      refine Go.iloadN K d_jdk_42_method_149_44 rfl (pc' := 45) rfl ?_
      refine Go.callS K (y := (⟨"java/lang/StringUTF16", "coderFromArrayLen", "([BI)B"⟩ : MethodName)) (W := 1) (kc := 0) (nc := 0) (mvT K.cz (hw _ (List.mem_of_getElem? (i := 23) rfl))) (mvT K.cz (hw _ (List.mem_of_getElem? (i := 24) rfl))) (mvT K.cz (hw _ (List.mem_of_getElem? (i := 17) rfl))) (mvT K.cz (hw _ (List.mem_of_getElem? (i := 25) rfl))) (by decide) ((m_cf l Z a0 hw h71 n0 z81 t kt cs.length h0n h4 vs Vt).pays (W := 1) K.cz (hw _ (List.mem_of_getElem? (i := 25) rfl)) (hw _ (List.mem_of_getElem? (i := 17) rfl)) (by decide) (by decide)) rfl (argsL := [(.ref t), (.int (Int32.ofNat cs.length))]) (rest := [(.ref xs)]) (lenOf pd__28_5bBI_29B rfl) rfl (Nat.le_of_ble_eq_true rfl) (by decide) (by decide) frOf grOf d_jdk_42_method_149_45 (pc' := 48) rfl ?_
      rintro v85 h83 Lc84 ⟨⟨⟨rfl, eh⟩, -⟩, -⟩
      obtain rfl := eh
      show Go p l e _ _ m _ below meth c _ _ _ _ h71 _ _ (mkF m 48 #[.val (.ref xs), .val (.ref a), .val (.int (0 : Int32)), .val (.int (Int32.ofNat cs.length)), .val .null, .val (.ref t)] [(.int (1 : Int32)), (.ref xs)])
      refine Go.putFN K (hw _ (List.mem_of_getElem? (i := 26) rfl)) Via.refl f78 f76 (Or.inr ⟨(hw _ (List.mem_of_getElem? (i := 27) rfl)), rfl, rfl⟩) (hw _ (List.mem_of_getElem? (i := 2) rfl)) (ty := .byte) (v' := (.int (1 : Int32))) (by decide) rfl rfl g_xs d_jdk_42_method_149_48 (pc' := 51) rfl ?_
      intro h86 W87 f88
      have f89 := f77.other W87 (Or.inr (slot_ne (Or.inr (hw _ (List.mem_of_getElem? (i := 29) rfl))) (Or.inr (hw _ (List.mem_of_getElem? (i := 27) rfl))) (by decide) (t := (.array .byte)) (t' := .byte) (by decide) (by decide)))
      have K90 := Keep.of_wr W87
      have f91 := f76.keep K90
      have f94 := f79.keep K90 (ninS hne nin0)
      have f95 := Vt.keep K90 (ninS (Ne.symm ne74) nin0)
      have od96 := od80.keep K90 (allS g_xs all0)
      have z97 := Nat.le_trans z81 K90.1
      have kc98 := kc82.trans K90 (allS (Or.inl (List.mem_of_getElem? (i := 0) rfl)) all0)
      refine Go.aloadN K d_jdk_42_method_149_51 rfl rfl (pc' := 52) rfl ?_
      refine Go.aload K d_jdk_42_method_149_52 rfl rfl (pc' := 54) rfl ?_
      refine Go.putF K (host := "") (Or.inl (hw _ (List.mem_of_getElem? (i := 28) rfl))) Via.refl f89 f91 (Or.inr ⟨(hw _ (List.mem_of_getElem? (i := 29) rfl)), rfl, rfl⟩) (hw _ (List.mem_of_getElem? (i := 2) rfl)) (ty := (.array .byte)) (by decide) rfl rfl g_xs d_jdk_42_method_149_54 (pc' := 57) rfl ?_
      intro h99 W100 f101
      have f102 := f88.other W100 (Or.inr (slot_ne (Or.inr (hw _ (List.mem_of_getElem? (i := 27) rfl))) (Or.inr (hw _ (List.mem_of_getElem? (i := 29) rfl))) (by decide) (t := .byte) (t' := (.array .byte)) (by decide) (by decide)))
      have K103 := Keep.of_wr W100
      have f104 := f91.keep K103
      have f105 := f94.keep K103 (ninS hne nin0)
      have f106 := f95.keep K103 (ninS (Ne.symm ne74) nin0)
      have od109 := od96.keep K103 (allS g_xs all0)
      have z110 := Nat.le_trans z97 K103.1
      have kc111 := kc98.trans K103 (allS (Or.inl (List.mem_of_getElem? (i := 0) rfl)) all0)
      exact Go.retV K (by decide) (by decide) d_jdk_42_method_149_57 (fun _ _ _ _ => ⟨rfl, kc111, f104, f102, t, kt, vs, hle, f101, f106⟩)
  · replace h5 : ¬ (¬ (Int32.ofNat cs.length) = 0) := h5
    exact absurd (Decidable.not_not.mp h5) (own_nz h0n (by omega))
theorem d_jdk_42_method_3_0 : decode jdk_42_method_3_code 0 = .ok (.aload_n 0, 1) := by decide +kernel
theorem d_jdk_42_method_3_1 : decode jdk_42_method_3_code 1 = .ok (.aload_n 1, 1) := by decide +kernel
theorem d_jdk_42_method_3_2 : decode jdk_42_method_3_code 2 = .ok (.iconst 0, 1) := by decide +kernel
theorem d_jdk_42_method_3_3 : decode jdk_42_method_3_code 3 = .ok (.aload_n 1, 1) := by decide +kernel
theorem d_jdk_42_method_3_4 : decode jdk_42_method_3_code 4 = .ok (.arraylength, 1) := by decide +kernel
theorem d_jdk_42_method_3_5 : decode jdk_42_method_3_code 5 = .ok (.aconst_null, 1) := by decide +kernel
theorem d_jdk_42_method_3_6 : decode jdk_42_method_3_code 6 = .ok (.invokespecial 27, 3) := by decide +kernel
theorem pd__28_5bCIILjava_2flang_2fVoid_3b_29V : parseMethodDescriptor "([CIILjava/lang/Void;)V" = some ⟨[(.array .char), .int, .int, (.object "java/lang/Void")], none⟩ := by decide +kernel
theorem d_jdk_42_method_3_9 : decode jdk_42_method_3_code 9 = .ok (.return_, 1) := by decide +kernel
set_option maxRecDepth 65536 in
set_option maxHeartbeats 40000000 in
theorem m_s1u (l : Launch) (Z : State) (a0 : Array Value) (hw : ∀ d ∈ tables_1, d.before a0 Z = true) (h0 : Heap) (n0 : Nat) (Z0 : n0 ≤ h0.size) (xs : Addr) (E_xs : Exa Z h0 xs "java/lang/String") (F_v : Fld Z h0 xs "java/lang/String" "value" "[B" .null) (F_c : Fld Z h0 xs "java/lang/String" "coder" "B" (.int (0 : Int32))) (g_xs : n0 ≤ xs) (a : Addr) (ka : ClassId) (cs : List Int32) (dc : Value) (V_a : Arv Z h0 a ka .char (Int32.ofNat cs.length) (cs.map Value.int) dc) (h4 : cs.length ≤ 4) (hbig : ∃ j, j < cs.length ∧ 255 < cs.getD j 0) (hbd : ∀ j, j < cs.length → ¬ cs.getD j 0 < 0 ∧ ¬ 65535 < cs.getD j 0) (h0n : 0 < cs.length) (hne : a ≠ xs) (zc : Int32) (S1 : Sta Z Z.heap "java/lang/String" "COMPACT_STRINGS" "Z" (.int zc)) (P1 : ¬ (zc = (0 : Int32))) (S_ad : Sta Z Z.heap "java/lang/StringUTF16" "$assertionsDisabled" "Z" (.int (1 : Int32))) (S_hi : Sta Z Z.heap "java/lang/StringUTF16" "HI_BYTE_SHIFT" "I" (.int (0 : Int32))) (S_lo : Sta Z Z.heap "java/lang/StringUTF16" "LO_BYTE_SHIFT" "I" (.int (8 : Int32))) (od : Old Z n0 h0) :
    Met l Z [] (⟨"java/lang/String", "<init>", "([C)V"⟩ : MethodName) jdk_42_method_3_code 2 none ({ frames := 5, cells := 2, slots := 12, locals := 130 } : Room) #[(.ref xs), (.ref a)] h0 n0 (fun v h => v = none ∧ Keep h0 h [xs] ∧ Exa Z h xs "java/lang/String" ∧ Fld Z h xs "java/lang/String" "coder" "B" (.int (1 : Int32)) ∧ ∃ (t : Addr) (kt : ClassId) (vs : List Value), h0.size ≤ t ∧ Fld Z h xs "java/lang/String" "value" "[B" (.ref t) ∧ Arv Z h t kt .byte (Int32.ofNat (2 * cs.length)) vs (.int 0)) := by
  refine Met.of (plainFor_of_name pn_java_lang_String) ?_
  intro p e s m below meth c F K
  refine Go.cast (ef_s1 m xs a) ?_
  refine Go.aloadN K d_jdk_42_method_3_0 rfl rfl (pc' := 1) rfl ?_
  refine Go.aloadN K d_jdk_42_method_3_1 rfl rfl (pc' := 2) rfl ?_
  refine Go.iconst K (v := 0) d_jdk_42_method_3_2 rfl (pc' := 3) rfl ?_
  refine Go.aloadN K d_jdk_42_method_3_3 rfl rfl (pc' := 4) rfl ?_
  refine Go.arraylength K V_a d_jdk_42_method_3_4 (pc' := 5) rfl ?_
  refine Go.aconstNull K d_jdk_42_method_3_5 (pc' := 6) rfl ?_
  refine Go.callC K (y := (⟨"java/lang/String", "<init>", "([CIILjava/lang/Void;)V"⟩ : MethodName)) (W := 0) (kc := 2) (nc := 12) (a := xs) rfl (mvT K.cz (hw _ (List.mem_of_getElem? (i := 7) rfl))) (mvT K.cz (hw _ (List.mem_of_getElem? (i := 8) rfl))) (mvT K.cz (hw _ (List.mem_of_getElem? (i := 10) rfl))) (by decide) ((m_s4u l Z a0 hw h0 n0 Z0 xs E_xs F_v F_c g_xs a ka cs dc V_a h4 hbig hbd h0n hne zc S1 P1 S_ad S_hi S_lo od).pays (W := 0) K.cz (hw _ (List.mem_of_getElem? (i := 10) rfl)) (hw _ (List.mem_of_getElem? (i := 3) rfl)) (by decide) (by decide)) rfl (argsL := [(.ref a), (.int (0 : Int32)), (.int (Int32.ofNat cs.length)), .null]) (rest := []) (lenOf pd__28_5bCIILjava_2flang_2fVoid_3b_29V rfl) rfl (Nat.le_of_ble_eq_true rfl) (by decide) (by decide) frOf grOf d_jdk_42_method_3_6 (pc' := 9) rfl ?_
  rintro v114 h112 Lc113 ⟨⟨⟨rfl, Kq, Eq, Cq, t, kt, vs, hle, Fq, Vq⟩, -⟩, -⟩
  show Go p l e _ _ m _ below meth c _ _ _ _ h112 _ _ (mkF m 9 #[.val (.ref xs), .val (.ref a)] [])
  exact Go.retV K (by decide) (by decide) d_jdk_42_method_3_9 (fun _ _ _ _ => ⟨rfl, Kq, Eq, Cq, t, kt, vs, hle, Fq, Vq⟩)
theorem d_jdk_42_method_149_8 : decode jdk_42_method_149_code 8 = .ok (.aload_n 0, 1) := by decide +kernel
theorem d_jdk_42_method_149_9 : decode jdk_42_method_149_code 9 = .ok (.ldc 7, 2) := by decide +kernel
theorem d_jdk_42_method_149_11 : decode jdk_42_method_149_code 11 = .ok (.getfield 9, 3) := by decide +kernel
theorem d_jdk_42_method_149_14 : decode jdk_42_method_149_code 14 = .ok (.putfield 9, 3) := by decide +kernel
theorem d_jdk_42_method_149_17 : decode jdk_42_method_149_code 17 = .ok (.aload_n 0, 1) := by decide +kernel
theorem d_jdk_42_method_149_18 : decode jdk_42_method_149_code 18 = .ok (.ldc 7, 2) := by decide +kernel
theorem d_jdk_42_method_149_20 : decode jdk_42_method_149_code 20 = .ok (.getfield 15, 3) := by decide +kernel
theorem d_jdk_42_method_149_23 : decode jdk_42_method_149_code 23 = .ok (.putfield 15, 3) := by decide +kernel
theorem d_jdk_42_method_149_26 : decode jdk_42_method_149_code 26 = .ok (.return_, 1) := by decide +kernel
set_option maxRecDepth 65536 in
set_option maxHeartbeats 40000000 in
theorem m_s4e (l : Launch) (Z : State) (a0 : Array Value) (hw : ∀ d ∈ tables_1, d.before a0 Z = true) (h0 : Heap) (n0 : Nat) (Z0 : n0 ≤ h0.size) (wS : ∀ a ∈ Bundle.stringAtoms, a.before a0 Z = true) (hEL : EW Z a0 [("java/lang/String", 7)]) (xs : Addr) (E_xs : Exa Z h0 xs "java/lang/String") (F_v : Fld Z h0 xs "java/lang/String" "value" "[B" .null) (F_c : Fld Z h0 xs "java/lang/String" "coder" "B" (.int (0 : Int32))) (g_xs : n0 ≤ xs) (a : Addr) :
    MetW l Z [] [("java/lang/String", 7)] (⟨"java/lang/String", "<init>", "([CIILjava/lang/Void;)V"⟩ : MethodName) jdk_42_method_149_code 6 none ({ frames := 1, cells := 4, slots := 8, locals := 20 } : Room) #[(.ref xs), (.ref a), (.int (0 : Int32)), (.int (0 : Int32)), .null] h0 n0 (fun v h => v = none ∧ Keep h0 h [xs]) := by
  refine MetW.of (plainFor_of_name pn_java_lang_String) ?_
  intro p e s m below meth c vm0 B hS HC K
  have CR := CHr.refl HC
  refine Go.cast (ef_s4 m xs a _) ?_
  have kc0 := Keep.refl h0 [xs]
  have sf_xs := own_safeS (EL := [("java/lang/String", 7)]) K.cz.alike E_xs F_v
  refine Go.aloadN K d_jdk_42_method_149_0 rfl rfl (pc' := 1) rfl ?_
  refine Go.initO K (hw _ (List.mem_of_getElem? (i := 11) rfl)) (hw _ (List.mem_of_getElem? (i := 12) rfl)) (hw _ (List.mem_of_getElem? (i := 13) rfl)) rfl (by decide) 0 (Nat.le_of_ble_eq_true rfl) (by decide) d_jdk_42_method_149_1 (pc' := 4) rfl ?_
  refine Go.iloadN K d_jdk_42_method_149_4 rfl (pc' := 5) rfl ?_
  refine Go.ifc K d_jdk_42_method_149_5 (by decide) (pcT := 27) (pcF := 8) (by decide) rfl (fun h5 => ?_) (fun h5 => ?_)
  · replace h5 : ¬ (0 : Int32) = 0 := h5
    exact absurd rfl h5
  · replace h5 : ¬ (¬ (0 : Int32) = 0) := h5
    refine Go.aloadN K d_jdk_42_method_149_8 rfl rfl (pc' := 9) rfl ?_
    refine Go.ldcV K hS (i := 0) (vs := []) (z := 0) (hw _ (List.mem_of_getElem? (i := 30) rfl)) wS hEL (by decide) CR.1 (by decide +kernel) (by decide) rfl (by decide) (by decide) (by decide) (by decide) d_jdk_42_method_149_9 (pc' := 11) rfl ?_
    intro ea t_ea kb_ea vm119 h115 B120 E116 hr117 hS E_ea C_ea F_ea A_ea sf118 K
    have f124 := hr117.safe E_xs.lt sf_xs
    have f125 := E_xs.ext E116
    have f126 := F_v.ext E116
    have f127 := F_c.ext E116
    have z128 := Nat.le_trans Z0 E116.1
    have cr129 := CR.trans (hr117)
    have kc130 := kc0.ext E116
    have ne131 := (sf118 _ f124).1
    have ne132 := (sf118 _ f124).2
    refine Go.getF K (host := "") (Or.inl (hw _ (List.mem_of_getElem? (i := 28) rfl))) Via.refl F_ea d_jdk_42_method_149_11 (pc' := 14) rfl ?_
    refine Go.putF K (host := "") (Or.inl (hw _ (List.mem_of_getElem? (i := 28) rfl))) Via.refl f126 f125 (Or.inr ⟨(hw _ (List.mem_of_getElem? (i := 29) rfl)), rfl, rfl⟩) (hw _ (List.mem_of_getElem? (i := 2) rfl)) (ty := (.array .byte)) (by decide) rfl rfl g_xs d_jdk_42_method_149_14 (pc' := 17) rfl ?_
    intro h133 W134 f135
    have f136 := f127.other W134 (Or.inr (slot_ne (Or.inr (hw _ (List.mem_of_getElem? (i := 27) rfl))) (Or.inr (hw _ (List.mem_of_getElem? (i := 29) rfl))) (by decide) (t := .byte) (t' := (.array .byte)) (by decide) (by decide)))
    have K137 := Keep.of_wr W134
    have f138 := Safe.keep K137 (sfS f124 sf0) cr129.1 f124
    have cr139 := cr129.trans (CHr.keep K137 (sfS f124 sf0) cr129.1)
    have f140 := f125.keep K137
    have f143 := E_ea.keep K137
    have f144 := C_ea.keep K137 (ninS (Ne.symm ne131) nin0)
    have f145 := F_ea.keep K137 (ninS (Ne.symm ne131) nin0)
    have f146 := A_ea.keep K137 (ninS (Ne.symm ne132) nin0)
    have z147 := Nat.le_trans z128 K137.1
    have kc148 := kc130.trans K137 (allS (Or.inl (List.mem_of_getElem? (i := 0) rfl)) all0)
    refine Go.aloadN K d_jdk_42_method_149_17 rfl rfl (pc' := 18) rfl ?_
    refine Go.ldcV K hS (i := 0) (vs := []) (z := 0) (hw _ (List.mem_of_getElem? (i := 30) rfl)) wS hEL (by decide) cr139.1 (by decide +kernel) (by decide) rfl (by decide) (by decide) (by decide) (by decide) d_jdk_42_method_149_18 (pc' := 20) rfl ?_
    intro eb t_eb kb_eb vm153 h149 B154 E150 hr151 hS E_eb C_eb F_eb A_eb sf152 K
    have f156 := hr151.safe f140.lt f138
    have f163 := f140.ext E150
    have f164 := f143.ext E150
    have f165 := f144.ext E150
    have f166 := f145.ext E150
    have f167 := f146.ext E150
    have f168 := f136.ext E150
    have f169 := f135.ext E150
    have z170 := Nat.le_trans z147 E150.1
    have cr171 := cr139.trans (hr151)
    have kc172 := kc148.ext E150
    have ne173 := (sf152 _ f156).1
    have ne174 := (sf152 _ f156).2
    refine Go.getF K (host := "") (Or.inl (hw _ (List.mem_of_getElem? (i := 26) rfl))) Via.refl C_eb d_jdk_42_method_149_20 (pc' := 23) rfl ?_
    refine Go.putFN K (hw _ (List.mem_of_getElem? (i := 26) rfl)) Via.refl f168 f163 (Or.inr ⟨(hw _ (List.mem_of_getElem? (i := 27) rfl)), rfl, rfl⟩) (hw _ (List.mem_of_getElem? (i := 2) rfl)) (ty := .byte) (v' := (.int (0 : Int32))) (by decide) rfl rfl g_xs d_jdk_42_method_149_23 (pc' := 26) rfl ?_
    intro h175 W176 f177
    have f178 := f169.other W176 (Or.inr (slot_ne (Or.inr (hw _ (List.mem_of_getElem? (i := 29) rfl))) (Or.inr (hw _ (List.mem_of_getElem? (i := 27) rfl))) (by decide) (t := (.array .byte)) (t' := .byte) (by decide) (by decide)))
    have K179 := Keep.of_wr W176
    have f180 := Safe.keep K179 (sfS f156 sf0) cr171.1 f156
    have cr181 := cr171.trans (CHr.keep K179 (sfS f156 sf0) cr171.1)
    have f182 := f163.keep K179
    have f183 := f164.keep K179
    have f184 := f165.keep K179 (ninS (Ne.symm ne131) nin0)
    have f185 := f166.keep K179 (ninS (Ne.symm ne131) nin0)
    have f186 := f167.keep K179 (ninS (Ne.symm ne132) nin0)
    have f189 := E_eb.keep K179
    have f190 := C_eb.keep K179 (ninS (Ne.symm ne173) nin0)
    have f191 := F_eb.keep K179 (ninS (Ne.symm ne173) nin0)
    have f192 := A_eb.keep K179 (ninS (Ne.symm ne174) nin0)
    have z193 := Nat.le_trans z170 K179.1
    have kc194 := kc172.trans K179 (allS (Or.inl (List.mem_of_getElem? (i := 0) rfl)) all0)
    exact Go.retV K (by decide) (by decide) d_jdk_42_method_149_26 (own_end hEL K.cz cr181 ⟨rfl, kc194⟩)
set_option maxRecDepth 65536 in
set_option maxHeartbeats 40000000 in
theorem m_s1e (l : Launch) (Z : State) (a0 : Array Value) (hw : ∀ d ∈ tables_1, d.before a0 Z = true) (h0 : Heap) (n0 : Nat) (Z0 : n0 ≤ h0.size) (wS : ∀ a ∈ Bundle.stringAtoms, a.before a0 Z = true) (hEL : EW Z a0 [("java/lang/String", 7)]) (xs : Addr) (E_xs : Exa Z h0 xs "java/lang/String") (F_v : Fld Z h0 xs "java/lang/String" "value" "[B" .null) (F_c : Fld Z h0 xs "java/lang/String" "coder" "B" (.int (0 : Int32))) (g_xs : n0 ≤ xs) (a : Addr) (ka : ClassId) (dc : Value) (V_a : Arv Z h0 a ka .char (0 : Int32) [] dc) :
    MetW l Z [] [("java/lang/String", 7)] (⟨"java/lang/String", "<init>", "([C)V"⟩ : MethodName) jdk_42_method_3_code 2 none ({ frames := 2, cells := 4, slots := 8, locals := 40 } : Room) #[(.ref xs), (.ref a)] h0 n0 (fun v h => v = none ∧ Keep h0 h [xs]) := by
  refine MetW.of (plainFor_of_name pn_java_lang_String) ?_
  intro p e s m below meth c vm0 B hS HC K
  have CR := CHr.refl HC
  refine Go.cast (ef_s1 m xs a) ?_
  refine Go.aloadN K d_jdk_42_method_3_0 rfl rfl (pc' := 1) rfl ?_
  refine Go.aloadN K d_jdk_42_method_3_1 rfl rfl (pc' := 2) rfl ?_
  refine Go.iconst K (v := 0) d_jdk_42_method_3_2 rfl (pc' := 3) rfl ?_
  refine Go.aloadN K d_jdk_42_method_3_3 rfl rfl (pc' := 4) rfl ?_
  refine Go.arraylength K V_a d_jdk_42_method_3_4 (pc' := 5) rfl ?_
  refine Go.aconstNull K d_jdk_42_method_3_5 (pc' := 6) rfl ?_
  refine Go.callCW K hS (y := (⟨"java/lang/String", "<init>", "([CIILjava/lang/Void;)V"⟩ : MethodName)) (W := 0) (kc := 4) (nc := 8) (a := xs) rfl (mvT K.cz (hw _ (List.mem_of_getElem? (i := 7) rfl))) (mvT K.cz (hw _ (List.mem_of_getElem? (i := 8) rfl))) (mvT K.cz (hw _ (List.mem_of_getElem? (i := 10) rfl))) (by decide) ((m_s4e l Z a0 hw h0 n0 Z0 wS hEL xs E_xs F_v F_c g_xs a).pays (W := 0) K.cz (hw _ (List.mem_of_getElem? (i := 10) rfl)) (hw _ (List.mem_of_getElem? (i := 3) rfl)) (by decide) (by decide) hEL CR.1) rfl (argsL := [(.ref a), (.int (0 : Int32)), (.int (0 : Int32)), .null]) (rest := []) (lenOf pd__28_5bCIILjava_2flang_2fVoid_3b_29V rfl) rfl (Nat.le_of_ble_eq_true rfl) (by decide) (by decide) frOf d_jdk_42_method_3_6 (pc' := 9) rfl ?_
  rintro v197 h195 Lc196 vm198 B199 ⟨⟨⟨rfl, Kq⟩, -⟩, -⟩ hrh195 hS K
  have CR2 := CR.trans hrh195
  show Go p l e _ _ m _ below meth c _ _ _ _ h195 _ _ (mkF m 9 #[.val (.ref xs), .val (.ref a)] [])
  exact Go.retV K (by decide) (by decide) d_jdk_42_method_3_9 (own_end hEL K.cz CR2 ⟨rfl, Kq⟩)
theorem ef_ie (m : MethodId) (xs : Addr) : entryFrame m #[(.ref xs)] 1 = mkF m 0 #[.val (.ref xs)] [] := by first | (simp [entryFrame, mkF, argsToLocals, Value.category]; done) | rfl
theorem d_jdk_42_method_55_0 : decode jdk_42_method_55_code 0 = .ok (.aload_n 0, 1) := by decide +kernel
theorem d_jdk_42_method_55_1 : decode jdk_42_method_55_code 1 = .ok (.getfield 9, 3) := by decide +kernel
theorem d_jdk_42_method_55_4 : decode jdk_42_method_55_code 4 = .ok (.arraylength, 1) := by decide +kernel
theorem d_jdk_42_method_55_5 : decode jdk_42_method_55_code 5 = .ok (.ifCond .ne 7, 3) := by decide +kernel
theorem d_jdk_42_method_55_12 : decode jdk_42_method_55_code 12 = .ok (.iconst 0, 1) := by decide +kernel
theorem d_jdk_42_method_55_13 : decode jdk_42_method_55_code 13 = .ok (.ireturn, 1) := by decide +kernel
set_option maxRecDepth 65536 in
set_option maxHeartbeats 40000000 in
theorem m_ie (l : Launch) (Z : State) (a0 : Array Value) (hw : ∀ d ∈ tables_1, d.before a0 Z = true) (h0 : Heap) (n0 : Nat) (Z0 : n0 ≤ h0.size) (xs t : Addr) (kt : ClassId) (N2 cd : Int32) (vs : List Value) (E_xs : Exa Z h0 xs "java/lang/String") (F_v : Fld Z h0 xs "java/lang/String" "value" "[B" (.ref t)) (F_c : Fld Z h0 xs "java/lang/String" "coder" "B" (.int cd)) (V_t : Arv Z h0 t kt .byte N2 vs (.int 0)) (hN2 : ¬ N2 = 0) :
    Met l Z [] (⟨"java/lang/String", "isEmpty", "()Z"⟩ : MethodName) jdk_42_method_55_code 1 (some .boolean) ({ frames := 0, cells := 0, slots := 0, locals := 0 } : Room) #[(.ref xs)] h0 n0 (fun v h => v = some (.int 0) ∧ h0 = h) := by
  refine Met.of (plainFor_of_name pn_java_lang_String) ?_
  intro p e s m below meth c F K
  refine Go.cast (ef_ie m xs) ?_
  refine Go.aloadN K d_jdk_42_method_55_0 rfl rfl (pc' := 1) rfl ?_
  refine Go.getF K (host := "") (Or.inl (hw _ (List.mem_of_getElem? (i := 28) rfl))) Via.refl F_v d_jdk_42_method_55_1 (pc' := 4) rfl ?_
  refine Go.arraylength K V_t d_jdk_42_method_55_4 (pc' := 5) rfl ?_
  refine Go.ifc K d_jdk_42_method_55_5 (by decide) (pcT := 12) (pcF := 8) (by decide) rfl (fun h5 => ?_) (fun h5 => ?_)
  · replace h5 : ¬ N2 = 0 := h5
    refine Go.iconst K (v := 0) d_jdk_42_method_55_12 rfl (pc' := 13) rfl ?_
    exact Go.retN K (by simp) (by decide) (by decide) d_jdk_42_method_55_13 (fun _ _ _ _ => ⟨rfl, rfl⟩)
  · replace h5 : ¬ (¬ N2 = 0) := h5
    exact absurd (Decidable.not_not.mp h5) hN2
theorem ef_co (m : MethodId) (xs : Addr) : entryFrame m #[(.ref xs)] 1 = mkF m 0 #[.val (.ref xs)] [] := by first | (simp [entryFrame, mkF, argsToLocals, Value.category]; done) | rfl
theorem d_jdk_42_method_152_0 : decode jdk_42_method_152_code 0 = .ok (.getstatic 38, 3) := by decide +kernel
theorem d_jdk_42_method_152_3 : decode jdk_42_method_152_code 3 = .ok (.ifCond .eq 10, 3) := by decide +kernel
theorem d_jdk_42_method_152_6 : decode jdk_42_method_152_code 6 = .ok (.aload_n 0, 1) := by decide +kernel
theorem d_jdk_42_method_152_7 : decode jdk_42_method_152_code 7 = .ok (.getfield 15, 3) := by decide +kernel
theorem d_jdk_42_method_152_10 : decode jdk_42_method_152_code 10 = .ok (.goto 4, 3) := by decide +kernel
theorem d_jdk_42_method_152_14 : decode jdk_42_method_152_code 14 = .ok (.ireturn, 1) := by decide +kernel
set_option maxRecDepth 65536 in
set_option maxHeartbeats 40000000 in
theorem m_co (l : Launch) (Z : State) (a0 : Array Value) (hw : ∀ d ∈ tables_1, d.before a0 Z = true) (h0 : Heap) (n0 : Nat) (Z0 : n0 ≤ h0.size) (xs t : Addr) (kt : ClassId) (N2 cd : Int32) (vs : List Value) (E_xs : Exa Z h0 xs "java/lang/String") (F_v : Fld Z h0 xs "java/lang/String" "value" "[B" (.ref t)) (F_c : Fld Z h0 xs "java/lang/String" "coder" "B" (.int cd)) (V_t : Arv Z h0 t kt .byte N2 vs (.int 0)) (hcd : nar .byte cd = cd) (od : Old Z n0 h0) (zc : Int32) (S1 : Sta Z Z.heap "java/lang/String" "COMPACT_STRINGS" "Z" (.int zc)) (P1 : ¬ (zc = (0 : Int32))) :
    Met l Z [] (⟨"java/lang/String", "coder", "()B"⟩ : MethodName) jdk_42_method_152_code 1 (some .byte) ({ frames := 0, cells := 0, slots := 0, locals := 0 } : Room) #[(.ref xs)] h0 n0 (fun v h => v = some (.int cd) ∧ h0 = h) := by
  refine Met.of (plainFor_of_name pn_java_lang_String) ?_
  intro p e s m below meth c F K
  refine Go.cast (ef_co m xs) ?_
  refine Go.getS K (host := "") (Or.inl (hw _ (List.mem_of_getElem? (i := 14) rfl))) Via.refl (S1.ext od.2) d_jdk_42_method_152_0 (pc' := 3) rfl ?_
  refine Go.ifc K d_jdk_42_method_152_3 (by decide) (pcT := 13) (pcF := 6) (by decide) rfl (fun h3 => ?_) (fun h3 => ?_)
  · replace h3 : zc = 0 := h3
    exact absurd h3 P1
  · replace h3 : ¬ (zc = 0) := h3
    refine Go.aloadN K d_jdk_42_method_152_6 rfl rfl (pc' := 7) rfl ?_
    refine Go.getF K (host := "") (Or.inl (hw _ (List.mem_of_getElem? (i := 26) rfl))) Via.refl F_c d_jdk_42_method_152_7 (pc' := 10) rfl ?_
    refine Go.goto K d_jdk_42_method_152_10 (pc' := 14) (by decide) (by decide) ?_
    exact Go.retN K (by simp) (by decide) (by decide) d_jdk_42_method_152_14 (fun _ _ _ _ => ⟨by rw [hcd], rfl⟩)
theorem ef_le (m : MethodId) (xs : Addr) : entryFrame m #[(.ref xs)] 1 = mkF m 0 #[.val (.ref xs)] [] := by first | (simp [entryFrame, mkF, argsToLocals, Value.category]; done) | rfl
theorem d_jdk_42_method_54_0 : decode jdk_42_method_54_code 0 = .ok (.aload_n 0, 1) := by decide +kernel
theorem d_jdk_42_method_54_1 : decode jdk_42_method_54_code 1 = .ok (.getfield 9, 3) := by decide +kernel
theorem d_jdk_42_method_54_4 : decode jdk_42_method_54_code 4 = .ok (.arraylength, 1) := by decide +kernel
theorem d_jdk_42_method_54_5 : decode jdk_42_method_54_code 5 = .ok (.aload_n 0, 1) := by decide +kernel
theorem d_jdk_42_method_54_6 : decode jdk_42_method_54_code 6 = .ok (.invokevirtual 335, 3) := by decide +kernel
theorem pd__28_29B : parseMethodDescriptor "()B" = some ⟨[], some .byte⟩ := by decide +kernel
theorem d_jdk_42_method_54_9 : decode jdk_42_method_54_code 9 = .ok (.ishr, 1) := by decide +kernel
theorem d_jdk_42_method_54_10 : decode jdk_42_method_54_code 10 = .ok (.ireturn, 1) := by decide +kernel
set_option maxRecDepth 65536 in
set_option maxHeartbeats 40000000 in
theorem m_le (l : Launch) (Z : State) (a0 : Array Value) (hw : ∀ d ∈ tables_1, d.before a0 Z = true) (h0 : Heap) (n0 : Nat) (Z0 : n0 ≤ h0.size) (xs t : Addr) (kt : ClassId) (N2 cd : Int32) (vs : List Value) (E_xs : Exa Z h0 xs "java/lang/String") (F_v : Fld Z h0 xs "java/lang/String" "value" "[B" (.ref t)) (F_c : Fld Z h0 xs "java/lang/String" "coder" "B" (.int cd)) (V_t : Arv Z h0 t kt .byte N2 vs (.int 0)) (hcd : nar .byte cd = cd) (od : Old Z n0 h0) (zc : Int32) (S1 : Sta Z Z.heap "java/lang/String" "COMPACT_STRINGS" "Z" (.int zc)) (P1 : ¬ (zc = (0 : Int32))) (M : Int32) (hsh : N2 >>> (cd &&& 31) = M) :
    Met l Z [] (⟨"java/lang/String", "length", "()I"⟩ : MethodName) jdk_42_method_54_code 1 (some .int) ({ frames := 1, cells := 0, slots := 0, locals := 20 } : Room) #[(.ref xs)] h0 n0 (fun v h => v = some (.int M) ∧ h0 = h) := by
  refine Met.of (plainFor_of_name pn_java_lang_String) ?_
  intro p e s m below meth c F K
  refine Go.cast (ef_le m xs) ?_
  refine Go.aloadN K d_jdk_42_method_54_0 rfl rfl (pc' := 1) rfl ?_
  refine Go.getF K (host := "") (Or.inl (hw _ (List.mem_of_getElem? (i := 28) rfl))) Via.refl F_v d_jdk_42_method_54_1 (pc' := 4) rfl ?_
  refine Go.arraylength K V_t d_jdk_42_method_54_4 (pc' := 5) rfl ?_
  refine Go.aloadN K d_jdk_42_method_54_5 rfl rfl (pc' := 6) rfl ?_
  refine Go.callV K (y := (⟨"java/lang/String", "coder", "()B"⟩ : MethodName)) (z := (⟨"java/lang/String", "coder", "()B"⟩ : MethodName)) (W := 1) (kc := 0) (nc := 0) (a := xs) (mvT K.cz (hw _ (List.mem_of_getElem? (i := 47) rfl))) (mvT K.cz (hw _ (List.mem_of_getElem? (i := 48) rfl))) (notFace_of_selects (args := #[]) (mvT K.cz (hw _ (List.mem_of_getElem? (i := 50) rfl)))) (mvT K.cz (hw _ (List.mem_of_getElem? (i := 50) rfl))) (mvT K.cz (hw _ (List.mem_of_getElem? (i := 49) rfl))) (by decide) E_xs ((m_co l Z a0 hw h0 n0 Z0 xs t kt N2 cd vs E_xs F_v F_c V_t hcd od zc S1 P1).pays (W := 1) K.cz (hw _ (List.mem_of_getElem? (i := 51) rfl)) (hw _ (List.mem_of_getElem? (i := 3) rfl)) (by decide) (by decide)) rfl (argsL := []) (rest := [(.int N2)]) (lenOf pd__28_29B rfl) rfl (Nat.le_of_ble_eq_true rfl) (by decide) (by decide) frOf grOf d_jdk_42_method_54_6 (pc' := 9) rfl ?_
  rintro v202 h200 Lc201 ⟨⟨⟨rfl, eh⟩, -⟩, -⟩
  obtain rfl := eh
  show Go p l e _ _ m _ below meth c _ _ _ _ h0 _ _ (mkF m 9 #[.val (.ref xs)] [(.int cd), (.int N2)])
  refine Go.ishr K d_jdk_42_method_54_9 (pc' := 10) rfl ?_
  exact Go.retI K (by decide) (by decide) d_jdk_42_method_54_10 (fun _ _ _ _ => ⟨by rw [hsh], rfl⟩)
theorem d_jdk_42_method_66_0 : decode jdk_42_method_66_code 0 = .ok (.aload_n 0, 1) := by decide +kernel
theorem d_jdk_42_method_66_1 : decode jdk_42_method_66_code 1 = .ok (.aload_n 1, 1) := by decide +kernel
theorem d_jdk_42_method_66_2 : decode jdk_42_method_66_code 2 = .ok (.if_acmp .ne 5, 3) := by decide +kernel
theorem d_jdk_42_method_66_5 : decode jdk_42_method_66_code 5 = .ok (.iconst 1, 1) := by decide +kernel
theorem d_jdk_42_method_66_6 : decode jdk_42_method_66_code 6 = .ok (.ireturn, 1) := by decide +kernel
theorem ef_eq (m : MethodId) (xs : Addr) : entryFrame m #[.ref xs, .ref xs] 3 = mkF m 0 #[.val (.ref xs), .val (.ref xs), .unset] [] := by first | (simp [entryFrame, mkF, argsToLocals, Value.category]; done) | rfl
set_option maxRecDepth 65536 in
set_option maxHeartbeats 40000000 in
theorem m_eq (l : Launch) (Z : State) (a0 : Array Value) (hw : ∀ d ∈ tables_1, d.before a0 Z = true) (h0 : Heap) (n0 : Nat) (Z0 : n0 ≤ h0.size) (xs : Addr) :
    Met l Z [] (⟨"java/lang/String", "equals", "(Ljava/lang/Object;)Z"⟩ : MethodName) jdk_42_method_66_code 3 (some .boolean) ({ frames := 0, cells := 0, slots := 0, locals := 0 } : Room) #[(.ref xs), (.ref xs)] h0 n0 (fun v h => v = some (.int 1) ∧ h0 = h) := by
  refine Met.of (plainFor_of_name pn_java_lang_String) ?_
  intro p e s m below meth c F K
  refine Go.cast (ef_eq m xs) ?_
  refine Go.aloadN K d_jdk_42_method_66_0 rfl rfl (pc' := 1) rfl ?_
  refine Go.aloadN K d_jdk_42_method_66_1 rfl rfl (pc' := 2) rfl ?_
  refine Go.acmp K (same := true) d_jdk_42_method_66_2 rfl rfl (decide_eq_true rfl) (by decide) (pc' := 5) (by decide) ?_
  refine Go.iconst K (v := 1) d_jdk_42_method_66_5 rfl (pc' := 6) rfl ?_
  exact Go.retN K (by simp) (by decide) (by decide) d_jdk_42_method_66_6 (fun _ _ _ _ => ⟨rfl, rfl⟩)
theorem ef_nm (m : MethodId) (co : Addr) (xs : Addr) : entryFrame m #[(.ref co), (.ref xs)] 2 = mkF m 0 #[.val (.ref co), .val (.ref xs)] [] := by first | (simp [entryFrame, mkF, argsToLocals, Value.category]; done) | rfl
theorem d_prog_15_method_7_0 : decode prog_15_method_7_code 0 = .ok (.aload_n 1, 1) := by decide +kernel
theorem d_prog_15_method_7_1 : decode prog_15_method_7_code 1 = .ok (.invokevirtual 87, 3) := by decide +kernel
theorem pd__28_29Z : parseMethodDescriptor "()Z" = some ⟨[], some .boolean⟩ := by decide +kernel
theorem d_prog_15_method_7_4 : decode prog_15_method_7_code 4 = .ok (.ifCond .eq 17, 3) := by decide +kernel
theorem d_prog_15_method_7_21 : decode prog_15_method_7_code 21 = .ok (.aload_n 1, 1) := by decide +kernel
theorem d_prog_15_method_7_22 : decode prog_15_method_7_code 22 = .ok (.areturn, 1) := by decide +kernel
theorem pn_com_example_inchworm_inchworm_InputFiles : plainName "com/example/inchworm/inchworm/InputFiles" = true := by first | (simp [plainName, overriddenIn]; done) | decide +kernel
set_option maxRecDepth 65536 in
set_option maxHeartbeats 40000000 in
theorem m_nm (l : Launch) (Z : State) (a0 : Array Value) (hw : ∀ d ∈ tables_1, d.before a0 Z = true) (h0 : Heap) (n0 : Nat) (Z0 : n0 ≤ h0.size) (co : Addr) (xs t : Addr) (kt : ClassId) (N2 cd : Int32) (vs : List Value) (E_xs : Exa Z h0 xs "java/lang/String") (F_v : Fld Z h0 xs "java/lang/String" "value" "[B" (.ref t)) (F_c : Fld Z h0 xs "java/lang/String" "coder" "B" (.int cd)) (V_t : Arv Z h0 t kt .byte N2 vs (.int 0)) (hN2 : ¬ N2 = 0) :
    Met l Z [] (⟨"com/example/inchworm/inchworm/InputFiles", "named", "(Ljava/lang/String;Ljava/lang/String;)Ljava/lang/String;"⟩ : MethodName) prog_15_method_7_code 2 (some (.object "java/lang/String")) ({ frames := 1, cells := 0, slots := 0, locals := 20 } : Room) #[(.ref co), (.ref xs)] h0 n0 (fun v h => v = some (.ref xs) ∧ h0 = h) := by
  refine Met.of (plainFor_of_name pn_com_example_inchworm_inchworm_InputFiles) ?_
  intro p e s m below meth c F K
  refine Go.cast (ef_nm m co xs) ?_
  refine Go.aloadN K d_prog_15_method_7_0 rfl rfl (pc' := 1) rfl ?_
  refine Go.callV K (y := (⟨"java/lang/String", "isEmpty", "()Z"⟩ : MethodName)) (z := (⟨"java/lang/String", "isEmpty", "()Z"⟩ : MethodName)) (W := 0) (kc := 0) (nc := 0) (a := xs) (mvT K.cz (hw _ (List.mem_of_getElem? (i := 37) rfl))) (mvT K.cz (hw _ (List.mem_of_getElem? (i := 38) rfl))) (notFace_of_selects (args := #[]) (mvT K.cz (hw _ (List.mem_of_getElem? (i := 40) rfl)))) (mvT K.cz (hw _ (List.mem_of_getElem? (i := 40) rfl))) (mvT K.cz (hw _ (List.mem_of_getElem? (i := 39) rfl))) (by decide) E_xs ((m_ie l Z a0 hw h0 n0 Z0 xs t kt N2 cd vs E_xs F_v F_c V_t hN2).pays (W := 0) K.cz (hw _ (List.mem_of_getElem? (i := 41) rfl)) (hw _ (List.mem_of_getElem? (i := 3) rfl)) (by decide) (by decide)) rfl (argsL := []) (rest := []) (lenOf pd__28_29Z rfl) rfl (Nat.le_of_ble_eq_true rfl) (by decide) (by decide) frOf grOf d_prog_15_method_7_1 (pc' := 4) rfl ?_
  rintro v205 h203 Lc204 ⟨⟨⟨rfl, eh⟩, -⟩, -⟩
  obtain rfl := eh
  show Go p l e _ _ m _ below meth c _ _ _ _ h0 _ _ (mkF m 4 #[.val (.ref co), .val (.ref xs)] [(.int (0 : Int32))])
  refine Go.ifc K d_prog_15_method_7_4 (by decide) (pcT := 21) (pcF := 7) (by decide) rfl (fun h4 => ?_) (fun h4 => ?_)
  · replace h4 : (0 : Int32) = 0 := h4
    refine Go.aloadN K d_prog_15_method_7_21 rfl rfl (pc' := 22) rfl ?_
    exact Go.retA K rfl rfl rfl (by decide) (by decide) d_prog_15_method_7_22 (fun _ _ _ _ => ⟨rfl, rfl⟩)
  · replace h4 : ¬ ((0 : Int32) = 0) := h4
    exact absurd rfl h4
theorem own_low {cs : List Int32} (hbd : ∀ j, j < cs.length → ¬ cs.getD j 0 < 0 ∧ ¬ 65535 < cs.getD j 0) (hb : ¬ ∃ j, j < cs.length ∧ 255 < cs.getD j 0) : ∀ c ∈ cs, ¬ c < 0 ∧ ¬ (255 : Int32) < c := fun c hc => by
  obtain ⟨j, hj, rfl⟩ := List.mem_iff_getElem.mp hc
  have e : cs.getD j 0 = cs[j] := by simp [List.getD_eq_getElem?_getD, hj]
  refine ⟨by rw [← e]; exact (hbd j hj).1, fun q => hb ⟨j, hj, by rw [e]; exact q⟩⟩
theorem own_shr1 {n : Nat} (hn : n ≤ 4) : Int32.ofNat (2 * n) >>> ((1 : Int32) &&& 31) = Int32.ofNat n := by
  have t : ∀ i : Fin 5, Int32.ofNat (2 * i.val) >>> ((1 : Int32) &&& 31) = Int32.ofNat i.val := by decide +kernel
  exact t ⟨n, by omega⟩
theorem pd__28_5bC_29V : parseMethodDescriptor "([C)V" = some ⟨[(.array .char)], none⟩ := by decide +kernel
theorem pd__28Ljava_2flang_2fString_3bLjava_2flang_2fString_3b_29Ljava_2flang_2fString_3b : parseMethodDescriptor "(Ljava/lang/String;Ljava/lang/String;)Ljava/lang/String;" = some ⟨[(.object "java/lang/String"), (.object "java/lang/String")], some (.object "java/lang/String")⟩ := by decide +kernel
theorem pd__28_29I : parseMethodDescriptor "()I" = some ⟨[], some .int⟩ := by decide +kernel
theorem pd__28Ljava_2flang_2fObject_3b_29Z : parseMethodDescriptor "(Ljava/lang/Object;)Z" = some ⟨[(.object "java/lang/Object")], some .boolean⟩ := by decide +kernel
set_option maxRecDepth 65536 in
set_option maxHeartbeats 40000000 in
theorem segC {p : Program} {l : Launch} {e : Env} {s : State} {m : MethodId} {args : Array Value} {below : List Frame} {meth : Method} {c : Code} {vmS vm0 : Vm} {B : Nat} {Z : State} {a0 : Array Value} (hw : ∀ d ∈ tables_1, d.before a0 Z = true) (wS : ∀ a ∈ Bundle.stringAtoms, a.before a0 Z = true) (hEL : EW Z a0 [("java/lang/String", 7)]) (hws : ∀ d ∈ StrChars.Road.words, d.before a0 Z = true) (K : Ctx p (s.setVm vm0) m meth c Z x.cls code maxLocals ret x.name room_1 (FW s room_1) B) (hS : s.Since vm0 B) (h0 h : Heap) (n0 : Nat) (zh : n0 ≤ h.size) (CR : CHr Z [("java/lang/String", 7)] vmS h0 vm0 h) (odh : Old Z n0 h) (zc : Int32) (S1 : Sta Z Z.heap "java/lang/String" "COMPACT_STRINGS" "Z" (.int zc)) (P1 : ¬ (zc = (0 : Int32))) (S_ad : Sta Z Z.heap "java/lang/StringUTF16" "$assertionsDisabled" "Z" (.int (1 : Int32))) (S_hi : Sta Z Z.heap "java/lang/StringUTF16" "HI_BYTE_SHIFT" "I" (.int (0 : Int32))) (S_lo : Sta Z Z.heap "java/lang/StringUTF16" "LO_BYTE_SHIFT" "I" (.int (8 : Int32))) (b : Addr) (kb : ClassId) (cs : List Int32) (dc : Value) (V_b : Arv Z h b kb .char (Int32.ofNat cs.length) (cs.map Value.int) dc) (h4 : cs.length ≤ 4) (h0n : 0 < cs.length) (hbd : ∀ j, j < cs.length → ¬ cs.getD j 0 < 0 ∧ ¬ 65535 < cs.getD j 0) (g_b : n0 ≤ b) (d : Addr) (kd : ClassId) (ds : List Int32) (dd : Value) (V_d : Arv Z h d kd .char (Int32.ofNat ds.length) (ds.map Value.int) dd) (h3 : ds.length ≤ 3) (hds : ∀ c ∈ ds, ¬ c < 0 ∧ ¬ (255 : Int32) < c) (g_d : n0 ≤ d) (hbd2 : b ≠ d) (p0 p1 p2 p3 : Int32) (k n : Nat) (hk : k ≤ 4) (hn : n ≤ 16) :
    Go p l e room_1 (s.setVm vm0) m args below meth c n0 (fun v vm h => v = some (.int 1) ∧ CHr Z [("java/lang/String", 7)] vmS h0 vm h) (FW s room_1) B h k n (mkF m 127 #[.val (.int p0), .val (.int p1), .val (.int p2), .val (.int p3), .val (.int (Int32.ofNat cs.length)), .val (.ref b), .val (.int (Int32.ofNat ds.length)), .val (.ref d), .unset, .unset, .unset] []) := by
  refine Go.newO K (hw _ (List.mem_of_getElem? (i := 1) rfl)) (hw _ (List.mem_of_getElem? (i := 2) rfl)) (hw _ (List.mem_of_getElem? (i := 3) rfl)) (by show _ ≤ 24; omega) (by show _ ≤ 1152; omega) at_127 (pc' := 130) rfl ?_
  intro h206 sr eq209 E207 E_sr D208
  have ne210 : d ≠ sr := own_ne V_d.lt (Nat.le_of_eq eq209.symm)
  have ne211 : b ≠ sr := own_ne V_b.lt (Nat.le_of_eq eq209.symm)
  have g_sr : n0 ≤ sr := Nat.le_trans zh (Nat.le_of_eq eq209.symm)
  have sf212 := Safe.ext E207 CR.1 (Safe.new (Nat.le_of_eq eq209.symm))
  have f215 := V_b.ext E207
  have f216 := V_d.ext E207
  have od217 := odh.ext E207
  have z218 := Nat.le_trans zh E207.1
  have cr219 := CR.trans (CHr.ext E207 CR.1)
  have f220 : Fld Z h206 sr "java/lang/String" "coder" "B" (.int (0 : Int32)) := D208 (Or.inr (hw _ (List.mem_of_getElem? (i := 27) rfl))) (ty := .byte) (by decide)
  have f221 : Fld Z h206 sr "java/lang/String" "value" "[B" .null := D208 (Or.inr (hw _ (List.mem_of_getElem? (i := 29) rfl))) (ty := (.array .byte)) (by decide)
  refine Go.dup K at_130 rfl (pc' := 131) rfl ?_
  refine Go.aload K at_131 rfl rfl (pc' := 133) rfl ?_
  by_cases hbig : ∃ j, j < cs.length ∧ 255 < cs.getD j 0
  · refine Go.callC K (y := (⟨"java/lang/String", "<init>", "([C)V"⟩ : MethodName)) (W := 1) (kc := 2) (nc := 12) (a := sr) rfl (mvT K.cz (hw _ (List.mem_of_getElem? (i := 4) rfl))) (mvT K.cz (hw _ (List.mem_of_getElem? (i := 5) rfl))) (mvT K.cz (hw _ (List.mem_of_getElem? (i := 6) rfl))) (by decide) ((m_s1u l Z a0 hw h206 n0 z218 sr E_sr f221 f220 g_sr b kb cs dc f215 h4 hbig hbd h0n ne211 zc S1 P1 S_ad S_hi S_lo od217).pays (W := 1) K.cz (hw _ (List.mem_of_getElem? (i := 6) rfl)) (hw _ (List.mem_of_getElem? (i := 3) rfl)) (by decide) (by decide)) rfl (argsL := [(.ref b)]) (rest := [(.ref sr)]) (lenOf pd__28_5bC_29V rfl) rfl (Nat.le_of_ble_eq_true rfl) (by show _ ≤ 24; omega) (by show _ ≤ 1152; omega) frOf grOf at_133 (pc' := 136) rfl ?_
    rintro v224 h222 Lc223 ⟨⟨⟨rfl, Kq, Eq, Cq, t, kt, vs, hle, Fq, Vq⟩, -⟩, -⟩
    have ne225 : d ≠ t := own_ne f216.lt hle
    have ne226 : b ≠ t := own_ne f215.lt hle
    have ne227 : sr ≠ t := own_ne E_sr.lt hle
    have f228 := Safe.keep Kq (sfS sf212 sf0) cr219.1 sf212
    have cr229 := cr219.trans (CHr.keep Kq (sfS sf212 sf0) cr219.1)
    have f230 := f215.keep Kq (ninS ne211 nin0)
    have f231 := f216.keep Kq (ninS ne210 nin0)
    have f232 := E_sr.keep Kq
    have od235 := od217.keep Kq (allS g_sr all0)
    have z236 := Nat.le_trans z218 Kq.1
    show Go p l e _ _ m _ below meth c _ _ _ _ h222 _ _ (mkF m 136 #[.val (.int p0), .val (.int p1), .val (.int p2), .val (.int p3), .val (.int (Int32.ofNat cs.length)), .val (.ref b), .val (.int (Int32.ofNat ds.length)), .val (.ref d), .unset, .unset, .unset] [(.ref sr)])
    refine Go.astore K at_136 rfl (Ls' := #[.val (.int p0), .val (.int p1), .val (.int p2), .val (.int p3), .val (.int (Int32.ofNat cs.length)), .val (.ref b), .val (.int (Int32.ofNat ds.length)), .val (.ref d), .val (.ref sr), .unset, .unset]) rfl (pc' := 138) rfl ?_
    refine Go.newO K (hw _ (List.mem_of_getElem? (i := 1) rfl)) (hw _ (List.mem_of_getElem? (i := 2) rfl)) (hw _ (List.mem_of_getElem? (i := 3) rfl)) (by show _ ≤ 24; omega) (by show _ ≤ 1152; omega) at_138 (pc' := 141) rfl ?_
    intro h237 sc eq240 E238 E_sc D239
    have ne241 : t ≠ sc := own_ne Vq.lt (Nat.le_of_eq eq240.symm)
    have ne242 : d ≠ sc := own_ne f231.lt (Nat.le_of_eq eq240.symm)
    have ne243 : b ≠ sc := own_ne f230.lt (Nat.le_of_eq eq240.symm)
    have ne244 : sr ≠ sc := own_ne Eq.lt (Nat.le_of_eq eq240.symm)
    have g_sc : n0 ≤ sc := Nat.le_trans z236 (Nat.le_of_eq eq240.symm)
    have sf245 := Safe.ext E238 cr229.1 (Safe.new (Nat.le_of_eq eq240.symm))
    have f249 := Safe.ext E238 cr229.1 f228
    have f253 := f230.ext E238
    have f254 := f231.ext E238
    have f255 := Eq.ext E238
    have f256 := Cq.ext E238
    have f257 := Fq.ext E238
    have f258 := Vq.ext E238
    have od259 := od235.ext E238
    have z260 := Nat.le_trans z236 E238.1
    have cr261 := cr229.trans (CHr.ext E238 cr229.1)
    have f262 : Fld Z h237 sc "java/lang/String" "coder" "B" (.int (0 : Int32)) := D239 (Or.inr (hw _ (List.mem_of_getElem? (i := 27) rfl))) (ty := .byte) (by decide)
    have f263 : Fld Z h237 sc "java/lang/String" "value" "[B" .null := D239 (Or.inr (hw _ (List.mem_of_getElem? (i := 29) rfl))) (ty := (.array .byte)) (by decide)
    refine Go.dup K at_141 rfl (pc' := 142) rfl ?_
    refine Go.aload K at_142 rfl rfl (pc' := 144) rfl ?_
    by_cases hemp : ds = []
    · have V_d0 : Arv Z h237 d kd .char (0 : Int32) [] dd := by have q := f254; rw [hemp] at q; exact q
      refine Go.callCW K hS (y := (⟨"java/lang/String", "<init>", "([C)V"⟩ : MethodName)) (W := 1) (kc := 4) (nc := 8) (a := sc) rfl (mvT K.cz (hw _ (List.mem_of_getElem? (i := 4) rfl))) (mvT K.cz (hw _ (List.mem_of_getElem? (i := 5) rfl))) (mvT K.cz (hw _ (List.mem_of_getElem? (i := 6) rfl))) (by decide) ((m_s1e l Z a0 hw h237 n0 z260 wS hEL sc E_sc f263 f262 g_sc d kd dd V_d0).pays (W := 1) K.cz (hw _ (List.mem_of_getElem? (i := 6) rfl)) (hw _ (List.mem_of_getElem? (i := 3) rfl)) (by decide) (by decide) hEL cr261.1) rfl (argsL := [(.ref d)]) (rest := [(.ref sc)]) (lenOf pd__28_5bC_29V rfl) rfl (Nat.le_of_ble_eq_true rfl) (by show _ ≤ 24; omega) (by show _ ≤ 1152; omega) frOf at_144 (pc' := 147) rfl ?_
      rintro v266 h264 Lc265 vm267 B268 ⟨⟨⟨rfl, Kq2⟩, -⟩, -⟩ hrh264 hS K
      have f269 := hrh264.safe f255.lt f249
      have f270 := hrh264.safe E_sc.lt sf245
      have cr271 := cr261.trans (hrh264)
      have f272 := f253.keep Kq2 (ninS ne243 nin0)
      have f273 := f255.keep Kq2
      have f274 := f256.keep Kq2 (ninS ne244 nin0)
      have f275 := f257.keep Kq2 (ninS ne244 nin0)
      have f276 := f258.keep Kq2 (ninS ne241 nin0)
      have f277 := E_sc.keep Kq2
      have od280 := od259.keep Kq2 (allS g_sc all0)
      have z281 := Nat.le_trans z260 Kq2.1
      show Go p l e _ _ m _ below meth c _ _ _ _ h264 _ _ (mkF m 147 #[.val (.int p0), .val (.int p1), .val (.int p2), .val (.int p3), .val (.int (Int32.ofNat cs.length)), .val (.ref b), .val (.int (Int32.ofNat ds.length)), .val (.ref d), .val (.ref sr), .unset, .unset] [(.ref sc)])
      refine Go.astore K at_147 rfl (Ls' := #[.val (.int p0), .val (.int p1), .val (.int p2), .val (.int p3), .val (.int (Int32.ofNat cs.length)), .val (.ref b), .val (.int (Int32.ofNat ds.length)), .val (.ref d), .val (.ref sr), .val (.ref sc), .unset]) rfl (pc' := 149) rfl ?_
      refine Go.aload K at_149 rfl rfl (pc' := 151) rfl ?_
      refine Go.aload K at_151 rfl rfl (pc' := 153) rfl ?_
      refine Go.callS K (y := (⟨"com/example/inchworm/inchworm/InputFiles", "named", "(Ljava/lang/String;Ljava/lang/String;)Ljava/lang/String;"⟩ : MethodName)) (W := 0) (kc := 0) (nc := 0) (mvT K.cz (hw _ (List.mem_of_getElem? (i := 33) rfl))) (mvT K.cz (hw _ (List.mem_of_getElem? (i := 34) rfl))) (mvT K.cz (hw _ (List.mem_of_getElem? (i := 35) rfl))) (mvT K.cz (hw _ (List.mem_of_getElem? (i := 36) rfl))) (by decide) ((m_nm l Z a0 hw h264 n0 z281 sc sr t _ (Int32.ofNat (2 * cs.length)) 1 _ f273 f275 f274 f276 (own_nz (by omega) (by omega))).pays (W := 0) K.cz (hw _ (List.mem_of_getElem? (i := 36) rfl)) (hw _ (List.mem_of_getElem? (i := 35) rfl)) (by decide) (by decide)) rfl (argsL := [(.ref sc), (.ref sr)]) (rest := []) (lenOf pd__28Ljava_2flang_2fString_3bLjava_2flang_2fString_3b_29Ljava_2flang_2fString_3b rfl) rfl (Nat.le_of_ble_eq_true rfl) (by show _ ≤ 24; omega) (by show _ ≤ 1152; omega) frOf grOf at_153 (pc' := 156) rfl ?_
      rintro v284 h282 Lc283 ⟨⟨⟨rfl, eh⟩, -⟩, -⟩
      obtain rfl := eh
      show Go p l e _ _ m _ below meth c _ _ _ _ h264 _ _ (mkF m 156 #[.val (.int p0), .val (.int p1), .val (.int p2), .val (.int p3), .val (.int (Int32.ofNat cs.length)), .val (.ref b), .val (.int (Int32.ofNat ds.length)), .val (.ref d), .val (.ref sr), .val (.ref sc), .unset] [(.ref sr)])
      refine Go.astore K at_156 rfl (Ls' := #[.val (.int p0), .val (.int p1), .val (.int p2), .val (.int p3), .val (.int (Int32.ofNat cs.length)), .val (.ref b), .val (.int (Int32.ofNat ds.length)), .val (.ref d), .val (.ref sr), .val (.ref sc), .val (.ref sr)]) rfl (pc' := 158) rfl ?_
      refine Go.aload K at_158 rfl rfl (pc' := 160) rfl ?_
      refine Go.ifnullR K at_160 (pc' := 163) rfl ?_
      refine Go.aload K at_163 rfl rfl (pc' := 165) rfl ?_
      refine Go.callV K (y := (⟨"java/lang/String", "length", "()I"⟩ : MethodName)) (z := (⟨"java/lang/String", "length", "()I"⟩ : MethodName)) (W := 0) (kc := 0) (nc := 0) (a := sr) (mvT K.cz (hw _ (List.mem_of_getElem? (i := 42) rfl))) (mvT K.cz (hw _ (List.mem_of_getElem? (i := 43) rfl))) (notFace_of_selects (args := #[]) (mvT K.cz (hw _ (List.mem_of_getElem? (i := 45) rfl)))) (mvT K.cz (hw _ (List.mem_of_getElem? (i := 45) rfl))) (mvT K.cz (hw _ (List.mem_of_getElem? (i := 44) rfl))) (by decide) f273 ((m_le l Z a0 hw h264 n0 z281 sr t _ (Int32.ofNat (2 * cs.length)) 1 _ f273 f275 f274 f276 rfl od280 zc S1 P1 (Int32.ofNat cs.length) (own_shr1 h4)).pays (W := 0) K.cz (hw _ (List.mem_of_getElem? (i := 46) rfl)) (hw _ (List.mem_of_getElem? (i := 3) rfl)) (by decide) (by decide)) rfl (argsL := []) (rest := []) (lenOf pd__28_29I rfl) rfl (Nat.le_of_ble_eq_true rfl) (by show _ ≤ 24; omega) (by show _ ≤ 1152; omega) frOf grOf at_165 (pc' := 168) rfl ?_
      rintro v287 h285 Lc286 ⟨⟨⟨rfl, eh⟩, -⟩, -⟩
      obtain rfl := eh
      show Go p l e _ _ m _ below meth c _ _ _ _ h264 _ _ (mkF m 168 #[.val (.int p0), .val (.int p1), .val (.int p2), .val (.int p3), .val (.int (Int32.ofNat cs.length)), .val (.ref b), .val (.int (Int32.ofNat ds.length)), .val (.ref d), .val (.ref sr), .val (.ref sc), .val (.ref sr)] [(.int (Int32.ofNat cs.length))])
      refine Go.iload K at_168 rfl (pc' := 170) rfl ?_
      refine Go.icmp K at_170 (by decide) (pcT := 187) (pcF := 173) (by decide) rfl (fun h170 => ?_) (fun h170 => ?_)
      · replace h170 : ¬ (Int32.ofNat cs.length) = (Int32.ofNat cs.length) := h170
        exact absurd rfl h170
      · replace h170 : ¬ (¬ (Int32.ofNat cs.length) = (Int32.ofNat cs.length)) := h170
        refine Go.aload K at_173 rfl rfl (pc' := 175) rfl ?_
        refine Go.aload K at_175 rfl rfl (pc' := 177) rfl ?_
        refine Go.callV K (y := (⟨"java/lang/String", "equals", "(Ljava/lang/Object;)Z"⟩ : MethodName)) (z := (⟨"java/lang/String", "equals", "(Ljava/lang/Object;)Z"⟩ : MethodName)) (W := 0) (kc := 0) (nc := 0) (a := sr) (mvT K.cz (hw _ (List.mem_of_getElem? (i := 52) rfl))) (mvT K.cz (hw _ (List.mem_of_getElem? (i := 53) rfl))) (notFace_of_selects (args := #[]) (mvT K.cz (hw _ (List.mem_of_getElem? (i := 55) rfl)))) (mvT K.cz (hw _ (List.mem_of_getElem? (i := 55) rfl))) (mvT K.cz (hw _ (List.mem_of_getElem? (i := 54) rfl))) (by decide) f273 ((m_eq l Z a0 hw h264 n0 z281 sr).pays (W := 0) K.cz (hw _ (List.mem_of_getElem? (i := 56) rfl)) (hw _ (List.mem_of_getElem? (i := 3) rfl)) (by decide) (by decide)) rfl (argsL := [(.ref sr)]) (rest := []) (lenOf pd__28Ljava_2flang_2fObject_3b_29Z rfl) rfl (Nat.le_of_ble_eq_true rfl) (by show _ ≤ 24; omega) (by show _ ≤ 1152; omega) frOf grOf at_177 (pc' := 180) rfl ?_
        rintro v290 h288 Lc289 ⟨⟨⟨rfl, eh⟩, -⟩, -⟩
        obtain rfl := eh
        show Go p l e _ _ m _ below meth c _ _ _ _ h264 _ _ (mkF m 180 #[.val (.int p0), .val (.int p1), .val (.int p2), .val (.int p3), .val (.int (Int32.ofNat cs.length)), .val (.ref b), .val (.int (Int32.ofNat ds.length)), .val (.ref d), .val (.ref sr), .val (.ref sc), .val (.ref sr)] [(.int (1 : Int32))])
        refine Go.ifc K at_180 (by decide) (pcT := 187) (pcF := 183) (by decide) rfl (fun h180 => ?_) (fun h180 => ?_)
        · replace h180 : (1 : Int32) = 0 := h180
          exact absurd h180 (by decide)
        · replace h180 : ¬ ((1 : Int32) = 0) := h180
          refine Go.iconst K (v := 1) at_183 rfl (pc' := 184) rfl ?_
          refine Go.goto K at_184 (pc' := 188) (by decide) (by decide) ?_
          exact Go.retN K (by simp) (by show _ ≤ 24; omega) (by show _ ≤ 1152; omega) at_188 (own_end hEL K.cz cr271 rfl)
    · have hdl : 0 < ds.length := List.length_pos_iff.mpr hemp
      refine Go.callC K (y := (⟨"java/lang/String", "<init>", "([C)V"⟩ : MethodName)) (W := 1) (kc := 1) (nc := ds.length) (a := sc) rfl (mvT K.cz (hw _ (List.mem_of_getElem? (i := 4) rfl))) (mvT K.cz (hw _ (List.mem_of_getElem? (i := 5) rfl))) (mvT K.cz (hw _ (List.mem_of_getElem? (i := 6) rfl))) (by decide) (paysNew (W := 1) K.cz hws (kI := 4) (hw _ (List.mem_of_getElem? (i := 2) rfl)) (cs := ds) (bs := ds.map (fun c => c.toInt8.toInt32)) (n := ds.length) g_sc z260 E_sc f263 f262 f254 (S1.ext od259.2) P1 rfl rfl hdl (by omega) hds rfl (by decide) (by decide)) rfl (argsL := [(.ref d)]) (rest := [(.ref sc)]) (lenOf pd__28_5bC_29V rfl) rfl (Nat.le_of_ble_eq_true rfl) (by show _ ≤ 24; omega) (by show _ ≤ 1152; omega) (fun v h' L q => q.2.1) (fun v h' L q => q.2.2.1.1) at_144 (pc' := 147) rfl ?_
      rintro v293 h291 Lc292 ⟨rfl, Nq2, Kq2, Eq2, Cq2, t2, kb2, ht02, ht12, htne2, Vq2, Aq2⟩
      have f294 := Safe.keep Kq2 (sfS sf245 sf0) cr261.1 f249
      have f295 := Safe.keep Kq2 (sfS sf245 sf0) cr261.1 sf245
      have cr296 := cr261.trans (CHr.keep Kq2 (sfS sf245 sf0) cr261.1)
      have f297 := f253.keep Kq2 (ninS ne243 nin0)
      have f298 := f254.keep Kq2 (ninS ne242 nin0)
      have f299 := f255.keep Kq2
      have f300 := f256.keep Kq2 (ninS ne244 nin0)
      have f301 := f257.keep Kq2 (ninS ne244 nin0)
      have f302 := f258.keep Kq2 (ninS ne241 nin0)
      have f303 := E_sc.keep Kq2
      have od306 := od259.keep Kq2 (allS g_sc all0)
      have z307 := Nat.le_trans z260 Kq2.1
      show Go p l e _ _ m _ below meth c _ _ _ _ h291 _ _ (mkF m 147 #[.val (.int p0), .val (.int p1), .val (.int p2), .val (.int p3), .val (.int (Int32.ofNat cs.length)), .val (.ref b), .val (.int (Int32.ofNat ds.length)), .val (.ref d), .val (.ref sr), .unset, .unset] [(.ref sc)])
      refine Go.astore K at_147 rfl (Ls' := #[.val (.int p0), .val (.int p1), .val (.int p2), .val (.int p3), .val (.int (Int32.ofNat cs.length)), .val (.ref b), .val (.int (Int32.ofNat ds.length)), .val (.ref d), .val (.ref sr), .val (.ref sc), .unset]) rfl (pc' := 149) rfl ?_
      refine Go.aload K at_149 rfl rfl (pc' := 151) rfl ?_
      refine Go.aload K at_151 rfl rfl (pc' := 153) rfl ?_
      refine Go.callS K (y := (⟨"com/example/inchworm/inchworm/InputFiles", "named", "(Ljava/lang/String;Ljava/lang/String;)Ljava/lang/String;"⟩ : MethodName)) (W := 0) (kc := 0) (nc := 0) (mvT K.cz (hw _ (List.mem_of_getElem? (i := 33) rfl))) (mvT K.cz (hw _ (List.mem_of_getElem? (i := 34) rfl))) (mvT K.cz (hw _ (List.mem_of_getElem? (i := 35) rfl))) (mvT K.cz (hw _ (List.mem_of_getElem? (i := 36) rfl))) (by decide) ((m_nm l Z a0 hw h291 n0 z307 sc sr t _ (Int32.ofNat (2 * cs.length)) 1 _ f299 f301 f300 f302 (own_nz (by omega) (by omega))).pays (W := 0) K.cz (hw _ (List.mem_of_getElem? (i := 36) rfl)) (hw _ (List.mem_of_getElem? (i := 35) rfl)) (by decide) (by decide)) rfl (argsL := [(.ref sc), (.ref sr)]) (rest := []) (lenOf pd__28Ljava_2flang_2fString_3bLjava_2flang_2fString_3b_29Ljava_2flang_2fString_3b rfl) rfl (Nat.le_of_ble_eq_true rfl) (by show _ ≤ 24; omega) (by show _ ≤ 1152; omega) frOf grOf at_153 (pc' := 156) rfl ?_
      rintro v310 h308 Lc309 ⟨⟨⟨rfl, eh⟩, -⟩, -⟩
      obtain rfl := eh
      show Go p l e _ _ m _ below meth c _ _ _ _ h291 _ _ (mkF m 156 #[.val (.int p0), .val (.int p1), .val (.int p2), .val (.int p3), .val (.int (Int32.ofNat cs.length)), .val (.ref b), .val (.int (Int32.ofNat ds.length)), .val (.ref d), .val (.ref sr), .val (.ref sc), .unset] [(.ref sr)])
      refine Go.astore K at_156 rfl (Ls' := #[.val (.int p0), .val (.int p1), .val (.int p2), .val (.int p3), .val (.int (Int32.ofNat cs.length)), .val (.ref b), .val (.int (Int32.ofNat ds.length)), .val (.ref d), .val (.ref sr), .val (.ref sc), .val (.ref sr)]) rfl (pc' := 158) rfl ?_
      refine Go.aload K at_158 rfl rfl (pc' := 160) rfl ?_
      refine Go.ifnullR K at_160 (pc' := 163) rfl ?_
      refine Go.aload K at_163 rfl rfl (pc' := 165) rfl ?_
      refine Go.callV K (y := (⟨"java/lang/String", "length", "()I"⟩ : MethodName)) (z := (⟨"java/lang/String", "length", "()I"⟩ : MethodName)) (W := 0) (kc := 0) (nc := 0) (a := sr) (mvT K.cz (hw _ (List.mem_of_getElem? (i := 42) rfl))) (mvT K.cz (hw _ (List.mem_of_getElem? (i := 43) rfl))) (notFace_of_selects (args := #[]) (mvT K.cz (hw _ (List.mem_of_getElem? (i := 45) rfl)))) (mvT K.cz (hw _ (List.mem_of_getElem? (i := 45) rfl))) (mvT K.cz (hw _ (List.mem_of_getElem? (i := 44) rfl))) (by decide) f299 ((m_le l Z a0 hw h291 n0 z307 sr t _ (Int32.ofNat (2 * cs.length)) 1 _ f299 f301 f300 f302 rfl od306 zc S1 P1 (Int32.ofNat cs.length) (own_shr1 h4)).pays (W := 0) K.cz (hw _ (List.mem_of_getElem? (i := 46) rfl)) (hw _ (List.mem_of_getElem? (i := 3) rfl)) (by decide) (by decide)) rfl (argsL := []) (rest := []) (lenOf pd__28_29I rfl) rfl (Nat.le_of_ble_eq_true rfl) (by show _ ≤ 24; omega) (by show _ ≤ 1152; omega) frOf grOf at_165 (pc' := 168) rfl ?_
      rintro v313 h311 Lc312 ⟨⟨⟨rfl, eh⟩, -⟩, -⟩
      obtain rfl := eh
      show Go p l e _ _ m _ below meth c _ _ _ _ h291 _ _ (mkF m 168 #[.val (.int p0), .val (.int p1), .val (.int p2), .val (.int p3), .val (.int (Int32.ofNat cs.length)), .val (.ref b), .val (.int (Int32.ofNat ds.length)), .val (.ref d), .val (.ref sr), .val (.ref sc), .val (.ref sr)] [(.int (Int32.ofNat cs.length))])
      refine Go.iload K at_168 rfl (pc' := 170) rfl ?_
      refine Go.icmp K at_170 (by decide) (pcT := 187) (pcF := 173) (by decide) rfl (fun h170 => ?_) (fun h170 => ?_)
      · replace h170 : ¬ (Int32.ofNat cs.length) = (Int32.ofNat cs.length) := h170
        exact absurd rfl h170
      · replace h170 : ¬ (¬ (Int32.ofNat cs.length) = (Int32.ofNat cs.length)) := h170
        refine Go.aload K at_173 rfl rfl (pc' := 175) rfl ?_
        refine Go.aload K at_175 rfl rfl (pc' := 177) rfl ?_
        refine Go.callV K (y := (⟨"java/lang/String", "equals", "(Ljava/lang/Object;)Z"⟩ : MethodName)) (z := (⟨"java/lang/String", "equals", "(Ljava/lang/Object;)Z"⟩ : MethodName)) (W := 0) (kc := 0) (nc := 0) (a := sr) (mvT K.cz (hw _ (List.mem_of_getElem? (i := 52) rfl))) (mvT K.cz (hw _ (List.mem_of_getElem? (i := 53) rfl))) (notFace_of_selects (args := #[]) (mvT K.cz (hw _ (List.mem_of_getElem? (i := 55) rfl)))) (mvT K.cz (hw _ (List.mem_of_getElem? (i := 55) rfl))) (mvT K.cz (hw _ (List.mem_of_getElem? (i := 54) rfl))) (by decide) f299 ((m_eq l Z a0 hw h291 n0 z307 sr).pays (W := 0) K.cz (hw _ (List.mem_of_getElem? (i := 56) rfl)) (hw _ (List.mem_of_getElem? (i := 3) rfl)) (by decide) (by decide)) rfl (argsL := [(.ref sr)]) (rest := []) (lenOf pd__28Ljava_2flang_2fObject_3b_29Z rfl) rfl (Nat.le_of_ble_eq_true rfl) (by show _ ≤ 24; omega) (by show _ ≤ 1152; omega) frOf grOf at_177 (pc' := 180) rfl ?_
        rintro v316 h314 Lc315 ⟨⟨⟨rfl, eh⟩, -⟩, -⟩
        obtain rfl := eh
        show Go p l e _ _ m _ below meth c _ _ _ _ h291 _ _ (mkF m 180 #[.val (.int p0), .val (.int p1), .val (.int p2), .val (.int p3), .val (.int (Int32.ofNat cs.length)), .val (.ref b), .val (.int (Int32.ofNat ds.length)), .val (.ref d), .val (.ref sr), .val (.ref sc), .val (.ref sr)] [(.int (1 : Int32))])
        refine Go.ifc K at_180 (by decide) (pcT := 187) (pcF := 183) (by decide) rfl (fun h180 => ?_) (fun h180 => ?_)
        · replace h180 : (1 : Int32) = 0 := h180
          exact absurd h180 (by decide)
        · replace h180 : ¬ ((1 : Int32) = 0) := h180
          refine Go.iconst K (v := 1) at_183 rfl (pc' := 184) rfl ?_
          refine Go.goto K at_184 (pc' := 188) (by decide) (by decide) ?_
          exact Go.retN K (by simp) (by show _ ≤ 24; omega) (by show _ ≤ 1152; omega) at_188 (own_end hEL K.cz cr296 rfl)
  · refine Go.callC K (y := (⟨"java/lang/String", "<init>", "([C)V"⟩ : MethodName)) (W := 1) (kc := 1) (nc := cs.length) (a := sr) rfl (mvT K.cz (hw _ (List.mem_of_getElem? (i := 4) rfl))) (mvT K.cz (hw _ (List.mem_of_getElem? (i := 5) rfl))) (mvT K.cz (hw _ (List.mem_of_getElem? (i := 6) rfl))) (by decide) (paysNew (W := 1) K.cz hws (kI := 4) (hw _ (List.mem_of_getElem? (i := 2) rfl)) (cs := cs) (bs := cs.map (fun c => c.toInt8.toInt32)) (n := cs.length) g_sr z218 E_sr f221 f220 f215 (S1.ext od217.2) P1 rfl rfl h0n (by omega) (own_low hbd hbig) rfl (by decide) (by decide)) rfl (argsL := [(.ref b)]) (rest := [(.ref sr)]) (lenOf pd__28_5bC_29V rfl) rfl (Nat.le_of_ble_eq_true rfl) (by show _ ≤ 24; omega) (by show _ ≤ 1152; omega) (fun v h' L q => q.2.1) (fun v h' L q => q.2.2.1.1) at_133 (pc' := 136) rfl ?_
    rintro v319 h317 Lc318 ⟨rfl, Nq, Kq, Eq, Cq, t, kt, ht0, ht1, htne, Fq, Vq⟩
    have ne320 : d ≠ t := own_ne f216.lt ht1
    have ne321 : b ≠ t := own_ne f215.lt ht1
    have ne322 : sr ≠ t := own_ne E_sr.lt ht1
    have f323 := Safe.keep Kq (sfS sf212 sf0) cr219.1 sf212
    have cr324 := cr219.trans (CHr.keep Kq (sfS sf212 sf0) cr219.1)
    have f325 := f215.keep Kq (ninS ne211 nin0)
    have f326 := f216.keep Kq (ninS ne210 nin0)
    have f327 := E_sr.keep Kq
    have od330 := od217.keep Kq (allS g_sr all0)
    have z331 := Nat.le_trans z218 Kq.1
    show Go p l e _ _ m _ below meth c _ _ _ _ h317 _ _ (mkF m 136 #[.val (.int p0), .val (.int p1), .val (.int p2), .val (.int p3), .val (.int (Int32.ofNat cs.length)), .val (.ref b), .val (.int (Int32.ofNat ds.length)), .val (.ref d), .unset, .unset, .unset] [(.ref sr)])
    refine Go.astore K at_136 rfl (Ls' := #[.val (.int p0), .val (.int p1), .val (.int p2), .val (.int p3), .val (.int (Int32.ofNat cs.length)), .val (.ref b), .val (.int (Int32.ofNat ds.length)), .val (.ref d), .val (.ref sr), .unset, .unset]) rfl (pc' := 138) rfl ?_
    refine Go.newO K (hw _ (List.mem_of_getElem? (i := 1) rfl)) (hw _ (List.mem_of_getElem? (i := 2) rfl)) (hw _ (List.mem_of_getElem? (i := 3) rfl)) (by show _ ≤ 24; omega) (by show _ ≤ 1152; omega) at_138 (pc' := 141) rfl ?_
    intro h332 sc eq335 E333 E_sc D334
    have ne336 : t ≠ sc := own_ne Vq.lt (Nat.le_of_eq eq335.symm)
    have ne337 : d ≠ sc := own_ne f326.lt (Nat.le_of_eq eq335.symm)
    have ne338 : b ≠ sc := own_ne f325.lt (Nat.le_of_eq eq335.symm)
    have ne339 : sr ≠ sc := own_ne Eq.lt (Nat.le_of_eq eq335.symm)
    have g_sc : n0 ≤ sc := Nat.le_trans z331 (Nat.le_of_eq eq335.symm)
    have sf340 := Safe.ext E333 cr324.1 (Safe.new (Nat.le_of_eq eq335.symm))
    have f344 := Safe.ext E333 cr324.1 f323
    have f348 := f325.ext E333
    have f349 := f326.ext E333
    have f350 := Eq.ext E333
    have f351 := Cq.ext E333
    have f352 := Fq.ext E333
    have f353 := Vq.ext E333
    have od354 := od330.ext E333
    have z355 := Nat.le_trans z331 E333.1
    have cr356 := cr324.trans (CHr.ext E333 cr324.1)
    have f357 : Fld Z h332 sc "java/lang/String" "coder" "B" (.int (0 : Int32)) := D334 (Or.inr (hw _ (List.mem_of_getElem? (i := 27) rfl))) (ty := .byte) (by decide)
    have f358 : Fld Z h332 sc "java/lang/String" "value" "[B" .null := D334 (Or.inr (hw _ (List.mem_of_getElem? (i := 29) rfl))) (ty := (.array .byte)) (by decide)
    refine Go.dup K at_141 rfl (pc' := 142) rfl ?_
    refine Go.aload K at_142 rfl rfl (pc' := 144) rfl ?_
    by_cases hemp : ds = []
    · have V_d0 : Arv Z h332 d kd .char (0 : Int32) [] dd := by have q := f349; rw [hemp] at q; exact q
      refine Go.callCW K hS (y := (⟨"java/lang/String", "<init>", "([C)V"⟩ : MethodName)) (W := 1) (kc := 4) (nc := 8) (a := sc) rfl (mvT K.cz (hw _ (List.mem_of_getElem? (i := 4) rfl))) (mvT K.cz (hw _ (List.mem_of_getElem? (i := 5) rfl))) (mvT K.cz (hw _ (List.mem_of_getElem? (i := 6) rfl))) (by decide) ((m_s1e l Z a0 hw h332 n0 z355 wS hEL sc E_sc f358 f357 g_sc d kd dd V_d0).pays (W := 1) K.cz (hw _ (List.mem_of_getElem? (i := 6) rfl)) (hw _ (List.mem_of_getElem? (i := 3) rfl)) (by decide) (by decide) hEL cr356.1) rfl (argsL := [(.ref d)]) (rest := [(.ref sc)]) (lenOf pd__28_5bC_29V rfl) rfl (Nat.le_of_ble_eq_true rfl) (by show _ ≤ 24; omega) (by show _ ≤ 1152; omega) frOf at_144 (pc' := 147) rfl ?_
      rintro v361 h359 Lc360 vm362 B363 ⟨⟨⟨rfl, Kq2⟩, -⟩, -⟩ hrh359 hS K
      have f364 := hrh359.safe f350.lt f344
      have f365 := hrh359.safe E_sc.lt sf340
      have cr366 := cr356.trans (hrh359)
      have f367 := f348.keep Kq2 (ninS ne338 nin0)
      have f368 := f350.keep Kq2
      have f369 := f351.keep Kq2 (ninS ne339 nin0)
      have f370 := f352.keep Kq2 (ninS ne339 nin0)
      have f371 := f353.keep Kq2 (ninS ne336 nin0)
      have f372 := E_sc.keep Kq2
      have od375 := od354.keep Kq2 (allS g_sc all0)
      have z376 := Nat.le_trans z355 Kq2.1
      show Go p l e _ _ m _ below meth c _ _ _ _ h359 _ _ (mkF m 147 #[.val (.int p0), .val (.int p1), .val (.int p2), .val (.int p3), .val (.int (Int32.ofNat cs.length)), .val (.ref b), .val (.int (Int32.ofNat ds.length)), .val (.ref d), .val (.ref sr), .unset, .unset] [(.ref sc)])
      refine Go.astore K at_147 rfl (Ls' := #[.val (.int p0), .val (.int p1), .val (.int p2), .val (.int p3), .val (.int (Int32.ofNat cs.length)), .val (.ref b), .val (.int (Int32.ofNat ds.length)), .val (.ref d), .val (.ref sr), .val (.ref sc), .unset]) rfl (pc' := 149) rfl ?_
      refine Go.aload K at_149 rfl rfl (pc' := 151) rfl ?_
      refine Go.aload K at_151 rfl rfl (pc' := 153) rfl ?_
      refine Go.callS K (y := (⟨"com/example/inchworm/inchworm/InputFiles", "named", "(Ljava/lang/String;Ljava/lang/String;)Ljava/lang/String;"⟩ : MethodName)) (W := 0) (kc := 0) (nc := 0) (mvT K.cz (hw _ (List.mem_of_getElem? (i := 33) rfl))) (mvT K.cz (hw _ (List.mem_of_getElem? (i := 34) rfl))) (mvT K.cz (hw _ (List.mem_of_getElem? (i := 35) rfl))) (mvT K.cz (hw _ (List.mem_of_getElem? (i := 36) rfl))) (by decide) ((m_nm l Z a0 hw h359 n0 z376 sc sr t _ (Int32.ofNat cs.length) 0 _ f368 f370 f369 f371 (own_nz h0n (by omega))).pays (W := 0) K.cz (hw _ (List.mem_of_getElem? (i := 36) rfl)) (hw _ (List.mem_of_getElem? (i := 35) rfl)) (by decide) (by decide)) rfl (argsL := [(.ref sc), (.ref sr)]) (rest := []) (lenOf pd__28Ljava_2flang_2fString_3bLjava_2flang_2fString_3b_29Ljava_2flang_2fString_3b rfl) rfl (Nat.le_of_ble_eq_true rfl) (by show _ ≤ 24; omega) (by show _ ≤ 1152; omega) frOf grOf at_153 (pc' := 156) rfl ?_
      rintro v379 h377 Lc378 ⟨⟨⟨rfl, eh⟩, -⟩, -⟩
      obtain rfl := eh
      show Go p l e _ _ m _ below meth c _ _ _ _ h359 _ _ (mkF m 156 #[.val (.int p0), .val (.int p1), .val (.int p2), .val (.int p3), .val (.int (Int32.ofNat cs.length)), .val (.ref b), .val (.int (Int32.ofNat ds.length)), .val (.ref d), .val (.ref sr), .val (.ref sc), .unset] [(.ref sr)])
      refine Go.astore K at_156 rfl (Ls' := #[.val (.int p0), .val (.int p1), .val (.int p2), .val (.int p3), .val (.int (Int32.ofNat cs.length)), .val (.ref b), .val (.int (Int32.ofNat ds.length)), .val (.ref d), .val (.ref sr), .val (.ref sc), .val (.ref sr)]) rfl (pc' := 158) rfl ?_
      refine Go.aload K at_158 rfl rfl (pc' := 160) rfl ?_
      refine Go.ifnullR K at_160 (pc' := 163) rfl ?_
      refine Go.aload K at_163 rfl rfl (pc' := 165) rfl ?_
      refine Go.callV K (y := (⟨"java/lang/String", "length", "()I"⟩ : MethodName)) (z := (⟨"java/lang/String", "length", "()I"⟩ : MethodName)) (W := 0) (kc := 0) (nc := 0) (a := sr) (mvT K.cz (hw _ (List.mem_of_getElem? (i := 42) rfl))) (mvT K.cz (hw _ (List.mem_of_getElem? (i := 43) rfl))) (notFace_of_selects (args := #[]) (mvT K.cz (hw _ (List.mem_of_getElem? (i := 45) rfl)))) (mvT K.cz (hw _ (List.mem_of_getElem? (i := 45) rfl))) (mvT K.cz (hw _ (List.mem_of_getElem? (i := 44) rfl))) (by decide) f368 ((m_le l Z a0 hw h359 n0 z376 sr t _ (Int32.ofNat cs.length) 0 _ f368 f370 f369 f371 rfl od375 zc S1 P1 (Int32.ofNat cs.length) (own_shr0 _)).pays (W := 0) K.cz (hw _ (List.mem_of_getElem? (i := 46) rfl)) (hw _ (List.mem_of_getElem? (i := 3) rfl)) (by decide) (by decide)) rfl (argsL := []) (rest := []) (lenOf pd__28_29I rfl) rfl (Nat.le_of_ble_eq_true rfl) (by show _ ≤ 24; omega) (by show _ ≤ 1152; omega) frOf grOf at_165 (pc' := 168) rfl ?_
      rintro v382 h380 Lc381 ⟨⟨⟨rfl, eh⟩, -⟩, -⟩
      obtain rfl := eh
      show Go p l e _ _ m _ below meth c _ _ _ _ h359 _ _ (mkF m 168 #[.val (.int p0), .val (.int p1), .val (.int p2), .val (.int p3), .val (.int (Int32.ofNat cs.length)), .val (.ref b), .val (.int (Int32.ofNat ds.length)), .val (.ref d), .val (.ref sr), .val (.ref sc), .val (.ref sr)] [(.int (Int32.ofNat cs.length))])
      refine Go.iload K at_168 rfl (pc' := 170) rfl ?_
      refine Go.icmp K at_170 (by decide) (pcT := 187) (pcF := 173) (by decide) rfl (fun h170 => ?_) (fun h170 => ?_)
      · replace h170 : ¬ (Int32.ofNat cs.length) = (Int32.ofNat cs.length) := h170
        exact absurd rfl h170
      · replace h170 : ¬ (¬ (Int32.ofNat cs.length) = (Int32.ofNat cs.length)) := h170
        refine Go.aload K at_173 rfl rfl (pc' := 175) rfl ?_
        refine Go.aload K at_175 rfl rfl (pc' := 177) rfl ?_
        refine Go.callV K (y := (⟨"java/lang/String", "equals", "(Ljava/lang/Object;)Z"⟩ : MethodName)) (z := (⟨"java/lang/String", "equals", "(Ljava/lang/Object;)Z"⟩ : MethodName)) (W := 0) (kc := 0) (nc := 0) (a := sr) (mvT K.cz (hw _ (List.mem_of_getElem? (i := 52) rfl))) (mvT K.cz (hw _ (List.mem_of_getElem? (i := 53) rfl))) (notFace_of_selects (args := #[]) (mvT K.cz (hw _ (List.mem_of_getElem? (i := 55) rfl)))) (mvT K.cz (hw _ (List.mem_of_getElem? (i := 55) rfl))) (mvT K.cz (hw _ (List.mem_of_getElem? (i := 54) rfl))) (by decide) f368 ((m_eq l Z a0 hw h359 n0 z376 sr).pays (W := 0) K.cz (hw _ (List.mem_of_getElem? (i := 56) rfl)) (hw _ (List.mem_of_getElem? (i := 3) rfl)) (by decide) (by decide)) rfl (argsL := [(.ref sr)]) (rest := []) (lenOf pd__28Ljava_2flang_2fObject_3b_29Z rfl) rfl (Nat.le_of_ble_eq_true rfl) (by show _ ≤ 24; omega) (by show _ ≤ 1152; omega) frOf grOf at_177 (pc' := 180) rfl ?_
        rintro v385 h383 Lc384 ⟨⟨⟨rfl, eh⟩, -⟩, -⟩
        obtain rfl := eh
        show Go p l e _ _ m _ below meth c _ _ _ _ h359 _ _ (mkF m 180 #[.val (.int p0), .val (.int p1), .val (.int p2), .val (.int p3), .val (.int (Int32.ofNat cs.length)), .val (.ref b), .val (.int (Int32.ofNat ds.length)), .val (.ref d), .val (.ref sr), .val (.ref sc), .val (.ref sr)] [(.int (1 : Int32))])
        refine Go.ifc K at_180 (by decide) (pcT := 187) (pcF := 183) (by decide) rfl (fun h180 => ?_) (fun h180 => ?_)
        · replace h180 : (1 : Int32) = 0 := h180
          exact absurd h180 (by decide)
        · replace h180 : ¬ ((1 : Int32) = 0) := h180
          refine Go.iconst K (v := 1) at_183 rfl (pc' := 184) rfl ?_
          refine Go.goto K at_184 (pc' := 188) (by decide) (by decide) ?_
          exact Go.retN K (by simp) (by show _ ≤ 24; omega) (by show _ ≤ 1152; omega) at_188 (own_end hEL K.cz cr366 rfl)
    · have hdl : 0 < ds.length := List.length_pos_iff.mpr hemp
      refine Go.callC K (y := (⟨"java/lang/String", "<init>", "([C)V"⟩ : MethodName)) (W := 1) (kc := 1) (nc := ds.length) (a := sc) rfl (mvT K.cz (hw _ (List.mem_of_getElem? (i := 4) rfl))) (mvT K.cz (hw _ (List.mem_of_getElem? (i := 5) rfl))) (mvT K.cz (hw _ (List.mem_of_getElem? (i := 6) rfl))) (by decide) (paysNew (W := 1) K.cz hws (kI := 4) (hw _ (List.mem_of_getElem? (i := 2) rfl)) (cs := ds) (bs := ds.map (fun c => c.toInt8.toInt32)) (n := ds.length) g_sc z355 E_sc f358 f357 f349 (S1.ext od354.2) P1 rfl rfl hdl (by omega) hds rfl (by decide) (by decide)) rfl (argsL := [(.ref d)]) (rest := [(.ref sc)]) (lenOf pd__28_5bC_29V rfl) rfl (Nat.le_of_ble_eq_true rfl) (by show _ ≤ 24; omega) (by show _ ≤ 1152; omega) (fun v h' L q => q.2.1) (fun v h' L q => q.2.2.1.1) at_144 (pc' := 147) rfl ?_
      rintro v388 h386 Lc387 ⟨rfl, Nq2, Kq2, Eq2, Cq2, t2, kb2, ht02, ht12, htne2, Vq2, Aq2⟩
      have f389 := Safe.keep Kq2 (sfS sf340 sf0) cr356.1 f344
      have f390 := Safe.keep Kq2 (sfS sf340 sf0) cr356.1 sf340
      have cr391 := cr356.trans (CHr.keep Kq2 (sfS sf340 sf0) cr356.1)
      have f392 := f348.keep Kq2 (ninS ne338 nin0)
      have f393 := f349.keep Kq2 (ninS ne337 nin0)
      have f394 := f350.keep Kq2
      have f395 := f351.keep Kq2 (ninS ne339 nin0)
      have f396 := f352.keep Kq2 (ninS ne339 nin0)
      have f397 := f353.keep Kq2 (ninS ne336 nin0)
      have f398 := E_sc.keep Kq2
      have od401 := od354.keep Kq2 (allS g_sc all0)
      have z402 := Nat.le_trans z355 Kq2.1
      show Go p l e _ _ m _ below meth c _ _ _ _ h386 _ _ (mkF m 147 #[.val (.int p0), .val (.int p1), .val (.int p2), .val (.int p3), .val (.int (Int32.ofNat cs.length)), .val (.ref b), .val (.int (Int32.ofNat ds.length)), .val (.ref d), .val (.ref sr), .unset, .unset] [(.ref sc)])
      refine Go.astore K at_147 rfl (Ls' := #[.val (.int p0), .val (.int p1), .val (.int p2), .val (.int p3), .val (.int (Int32.ofNat cs.length)), .val (.ref b), .val (.int (Int32.ofNat ds.length)), .val (.ref d), .val (.ref sr), .val (.ref sc), .unset]) rfl (pc' := 149) rfl ?_
      refine Go.aload K at_149 rfl rfl (pc' := 151) rfl ?_
      refine Go.aload K at_151 rfl rfl (pc' := 153) rfl ?_
      refine Go.callS K (y := (⟨"com/example/inchworm/inchworm/InputFiles", "named", "(Ljava/lang/String;Ljava/lang/String;)Ljava/lang/String;"⟩ : MethodName)) (W := 0) (kc := 0) (nc := 0) (mvT K.cz (hw _ (List.mem_of_getElem? (i := 33) rfl))) (mvT K.cz (hw _ (List.mem_of_getElem? (i := 34) rfl))) (mvT K.cz (hw _ (List.mem_of_getElem? (i := 35) rfl))) (mvT K.cz (hw _ (List.mem_of_getElem? (i := 36) rfl))) (by decide) ((m_nm l Z a0 hw h386 n0 z402 sc sr t _ (Int32.ofNat cs.length) 0 _ f394 f396 f395 f397 (own_nz h0n (by omega))).pays (W := 0) K.cz (hw _ (List.mem_of_getElem? (i := 36) rfl)) (hw _ (List.mem_of_getElem? (i := 35) rfl)) (by decide) (by decide)) rfl (argsL := [(.ref sc), (.ref sr)]) (rest := []) (lenOf pd__28Ljava_2flang_2fString_3bLjava_2flang_2fString_3b_29Ljava_2flang_2fString_3b rfl) rfl (Nat.le_of_ble_eq_true rfl) (by show _ ≤ 24; omega) (by show _ ≤ 1152; omega) frOf grOf at_153 (pc' := 156) rfl ?_
      rintro v405 h403 Lc404 ⟨⟨⟨rfl, eh⟩, -⟩, -⟩
      obtain rfl := eh
      show Go p l e _ _ m _ below meth c _ _ _ _ h386 _ _ (mkF m 156 #[.val (.int p0), .val (.int p1), .val (.int p2), .val (.int p3), .val (.int (Int32.ofNat cs.length)), .val (.ref b), .val (.int (Int32.ofNat ds.length)), .val (.ref d), .val (.ref sr), .val (.ref sc), .unset] [(.ref sr)])
      refine Go.astore K at_156 rfl (Ls' := #[.val (.int p0), .val (.int p1), .val (.int p2), .val (.int p3), .val (.int (Int32.ofNat cs.length)), .val (.ref b), .val (.int (Int32.ofNat ds.length)), .val (.ref d), .val (.ref sr), .val (.ref sc), .val (.ref sr)]) rfl (pc' := 158) rfl ?_
      refine Go.aload K at_158 rfl rfl (pc' := 160) rfl ?_
      refine Go.ifnullR K at_160 (pc' := 163) rfl ?_
      refine Go.aload K at_163 rfl rfl (pc' := 165) rfl ?_
      refine Go.callV K (y := (⟨"java/lang/String", "length", "()I"⟩ : MethodName)) (z := (⟨"java/lang/String", "length", "()I"⟩ : MethodName)) (W := 0) (kc := 0) (nc := 0) (a := sr) (mvT K.cz (hw _ (List.mem_of_getElem? (i := 42) rfl))) (mvT K.cz (hw _ (List.mem_of_getElem? (i := 43) rfl))) (notFace_of_selects (args := #[]) (mvT K.cz (hw _ (List.mem_of_getElem? (i := 45) rfl)))) (mvT K.cz (hw _ (List.mem_of_getElem? (i := 45) rfl))) (mvT K.cz (hw _ (List.mem_of_getElem? (i := 44) rfl))) (by decide) f394 ((m_le l Z a0 hw h386 n0 z402 sr t _ (Int32.ofNat cs.length) 0 _ f394 f396 f395 f397 rfl od401 zc S1 P1 (Int32.ofNat cs.length) (own_shr0 _)).pays (W := 0) K.cz (hw _ (List.mem_of_getElem? (i := 46) rfl)) (hw _ (List.mem_of_getElem? (i := 3) rfl)) (by decide) (by decide)) rfl (argsL := []) (rest := []) (lenOf pd__28_29I rfl) rfl (Nat.le_of_ble_eq_true rfl) (by show _ ≤ 24; omega) (by show _ ≤ 1152; omega) frOf grOf at_165 (pc' := 168) rfl ?_
      rintro v408 h406 Lc407 ⟨⟨⟨rfl, eh⟩, -⟩, -⟩
      obtain rfl := eh
      show Go p l e _ _ m _ below meth c _ _ _ _ h386 _ _ (mkF m 168 #[.val (.int p0), .val (.int p1), .val (.int p2), .val (.int p3), .val (.int (Int32.ofNat cs.length)), .val (.ref b), .val (.int (Int32.ofNat ds.length)), .val (.ref d), .val (.ref sr), .val (.ref sc), .val (.ref sr)] [(.int (Int32.ofNat cs.length))])
      refine Go.iload K at_168 rfl (pc' := 170) rfl ?_
      refine Go.icmp K at_170 (by decide) (pcT := 187) (pcF := 173) (by decide) rfl (fun h170 => ?_) (fun h170 => ?_)
      · replace h170 : ¬ (Int32.ofNat cs.length) = (Int32.ofNat cs.length) := h170
        exact absurd rfl h170
      · replace h170 : ¬ (¬ (Int32.ofNat cs.length) = (Int32.ofNat cs.length)) := h170
        refine Go.aload K at_173 rfl rfl (pc' := 175) rfl ?_
        refine Go.aload K at_175 rfl rfl (pc' := 177) rfl ?_
        refine Go.callV K (y := (⟨"java/lang/String", "equals", "(Ljava/lang/Object;)Z"⟩ : MethodName)) (z := (⟨"java/lang/String", "equals", "(Ljava/lang/Object;)Z"⟩ : MethodName)) (W := 0) (kc := 0) (nc := 0) (a := sr) (mvT K.cz (hw _ (List.mem_of_getElem? (i := 52) rfl))) (mvT K.cz (hw _ (List.mem_of_getElem? (i := 53) rfl))) (notFace_of_selects (args := #[]) (mvT K.cz (hw _ (List.mem_of_getElem? (i := 55) rfl)))) (mvT K.cz (hw _ (List.mem_of_getElem? (i := 55) rfl))) (mvT K.cz (hw _ (List.mem_of_getElem? (i := 54) rfl))) (by decide) f394 ((m_eq l Z a0 hw h386 n0 z402 sr).pays (W := 0) K.cz (hw _ (List.mem_of_getElem? (i := 56) rfl)) (hw _ (List.mem_of_getElem? (i := 3) rfl)) (by decide) (by decide)) rfl (argsL := [(.ref sr)]) (rest := []) (lenOf pd__28Ljava_2flang_2fObject_3b_29Z rfl) rfl (Nat.le_of_ble_eq_true rfl) (by show _ ≤ 24; omega) (by show _ ≤ 1152; omega) frOf grOf at_177 (pc' := 180) rfl ?_
        rintro v411 h409 Lc410 ⟨⟨⟨rfl, eh⟩, -⟩, -⟩
        obtain rfl := eh
        show Go p l e _ _ m _ below meth c _ _ _ _ h386 _ _ (mkF m 180 #[.val (.int p0), .val (.int p1), .val (.int p2), .val (.int p3), .val (.int (Int32.ofNat cs.length)), .val (.ref b), .val (.int (Int32.ofNat ds.length)), .val (.ref d), .val (.ref sr), .val (.ref sc), .val (.ref sr)] [(.int (1 : Int32))])
        refine Go.ifc K at_180 (by decide) (pcT := 187) (pcF := 183) (by decide) rfl (fun h180 => ?_) (fun h180 => ?_)
        · replace h180 : (1 : Int32) = 0 := h180
          exact absurd h180 (by decide)
        · replace h180 : ¬ ((1 : Int32) = 0) := h180
          refine Go.iconst K (v := 1) at_183 rfl (pc' := 184) rfl ?_
          refine Go.goto K at_184 (pc' := 188) (by decide) (by decide) ?_
          exact Go.retN K (by simp) (by show _ ≤ 24; omega) (by show _ ≤ 1152; omega) at_188 (own_end hEL K.cz cr391 rfl)
theorem own_and255 (x : Int32) : ¬ nar .char ((x &&& (255 : Int32)).toUInt32.toUInt16.toUInt32.toInt32) < 0 ∧ ¬ (255 : Int32) < nar .char ((x &&& (255 : Int32)).toUInt32.toUInt16.toUInt32.toInt32) := by
  have t : ∀ k : Fin 256, ¬ nar .char ((Int32.ofNat k.val).toUInt32.toUInt16.toUInt32.toInt32) < 0 ∧ ¬ (255 : Int32) < nar .char ((Int32.ofNat k.val).toUInt32.toUInt16.toUInt32.toInt32) := by decide +kernel
  have h : (x &&& 255).toBitVec.toNat < 256 := by
    simp only [Int32.toBitVec_and, BitVec.toNat_and]
    exact Nat.lt_succ_of_le Nat.and_le_right
  have e : (x &&& 255) = Int32.ofNat (x &&& 255).toBitVec.toNat := by
    apply Int32.toBitVec_inj.mp
    show _ = BitVec.ofNat 32 _
    rw [BitVec.ofNat_toNat]; simp
  rw [e]
  exact t ⟨_, h⟩
set_option maxRecDepth 65536 in
set_option maxHeartbeats 40000000 in
theorem segB {p : Program} {l : Launch} {e : Env} {s : State} {m : MethodId} {args : Array Value} {below : List Frame} {meth : Method} {c : Code} {vmS vm0 : Vm} {B : Nat} {Z : State} {a0 : Array Value} (hw : ∀ d ∈ tables_1, d.before a0 Z = true) (wS : ∀ a ∈ Bundle.stringAtoms, a.before a0 Z = true) (hEL : EW Z a0 [("java/lang/String", 7)]) (hws : ∀ d ∈ StrChars.Road.words, d.before a0 Z = true) (K : Ctx p (s.setVm vm0) m meth c Z x.cls code maxLocals ret x.name room_1 (FW s room_1) B) (hS : s.Since vm0 B) (h0 h : Heap) (n0 : Nat) (zh : n0 ≤ h.size) (CR : CHr Z [("java/lang/String", 7)] vmS h0 vm0 h) (odh : Old Z n0 h) (zc : Int32) (S1 : Sta Z Z.heap "java/lang/String" "COMPACT_STRINGS" "Z" (.int zc)) (P1 : ¬ (zc = (0 : Int32))) (S_ad : Sta Z Z.heap "java/lang/StringUTF16" "$assertionsDisabled" "Z" (.int (1 : Int32))) (S_hi : Sta Z Z.heap "java/lang/StringUTF16" "HI_BYTE_SHIFT" "I" (.int (0 : Int32))) (S_lo : Sta Z Z.heap "java/lang/StringUTF16" "LO_BYTE_SHIFT" "I" (.int (8 : Int32))) (b : Addr) (kb : ClassId) (cs : List Int32) (dc : Value) (V_b : Arv Z h b kb .char (Int32.ofNat cs.length) (cs.map Value.int) dc) (h4 : cs.length ≤ 4) (h0n : 0 < cs.length) (hbd : ∀ j, j < cs.length → ¬ cs.getD j 0 < 0 ∧ ¬ 65535 < cs.getD j 0) (g_b : n0 ≤ b) (p0 p1 p2 p3 : Int32) (k n : Nat) (hk : k ≤ 2) (hn : n ≤ 8) :
    Go p l e room_1 (s.setVm vm0) m args below meth c n0 (fun v vm h => v = some (.int 1) ∧ CHr Z [("java/lang/String", 7)] vmS h0 vm h) (FW s room_1) B h k n (mkF m 61 #[.val (.int p0), .val (.int p1), .val (.int p2), .val (.int p3), .val (.int (Int32.ofNat cs.length)), .val (.ref b), .unset, .unset, .unset, .unset, .unset] []) := by
  refine Go.iloadN K at_61 rfl (pc' := 62) rfl ?_
  refine Go.iconst K (v := 2) at_62 rfl (pc' := 63) rfl ?_
  refine Go.iushr K at_63 (pc' := 64) rfl ?_
  refine Go.iconst K (v := 3) at_64 rfl (pc' := 65) rfl ?_
  refine Go.iand K at_65 (pc' := 66) rfl ?_
  rcases own_and3 ((p0.toUInt32 >>> ((2 : Int32) &&& 31).toUInt32).toInt32) with hc | hc | hc | hc <;> rw [hc]
  · refine Go.istore K at_66 (Ls' := #[.val (.int p0), .val (.int p1), .val (.int p2), .val (.int p3), .val (.int (Int32.ofNat cs.length)), .val (.ref b), .val (.int (0 : Int32)), .unset, .unset, .unset, .unset]) rfl (pc' := 68) rfl ?_
    refine Go.iload K at_68 rfl (pc' := 70) rfl ?_
    refine Go.newP K (hw _ (List.mem_of_getElem? (i := 0) rfl)) (by decide) 0 (by decide) (by decide) (by show _ ≤ 24; omega) (by show _ ≤ 1152; omega) at_70 (pc' := 72) rfl ?_
    intro h412 d kA_d eq414 E413 V_d
    have ne415 : b ≠ d := own_ne V_b.lt (Nat.le_of_eq eq414.symm)
    have g_d : n0 ≤ d := Nat.le_trans zh (Nat.le_of_eq eq414.symm)
    have f417 := V_b.ext E413
    have od418 := odh.ext E413
    have z419 := Nat.le_trans zh E413.1
    have cr420 := CR.trans (CHr.ext E413 CR.1)
    have V421 : Arv Z h412 d kA_d .char (0 : Int32) [] (.int (0 : Int32)) := V_d.pad (pad_rep [] (.int (0 : Int32)) 0)
    refine Go.astore K at_72 rfl (Ls' := #[.val (.int p0), .val (.int p1), .val (.int p2), .val (.int p3), .val (.int (Int32.ofNat cs.length)), .val (.ref b), .val (.int (0 : Int32)), .val (.ref d), .unset, .unset, .unset]) rfl (pc' := 74) rfl ?_
    refine Go.iload K at_74 rfl (pc' := 76) rfl ?_
    refine Go.ifc K at_76 (by decide) (pcT := 89) (pcF := 79) (by decide) rfl (fun h76 => ?_) (fun h76 => ?_)
    · replace h76 : ¬ 0 < (0 : Int32) := h76
      refine Go.iload K at_89 rfl (pc' := 91) rfl ?_
      refine Go.iconst K (v := 1) at_91 rfl (pc' := 92) rfl ?_
      refine Go.icmp K at_92 (by decide) (pcT := 108) (pcF := 95) (by decide) rfl (fun h92 => ?_) (fun h92 => ?_)
      · replace h92 : ¬ (1 : Int32) < (0 : Int32) := h92
        refine Go.iload K at_108 rfl (pc' := 110) rfl ?_
        refine Go.iconst K (v := 2) at_110 rfl (pc' := 111) rfl ?_
        refine Go.icmp K at_111 (by decide) (pcT := 127) (pcF := 114) (by decide) rfl (fun h111 => ?_) (fun h111 => ?_)
        · replace h111 : ¬ (2 : Int32) < (0 : Int32) := h111
          have hds : ∀ c ∈ ([] : List Int32), ¬ c < 0 ∧ ¬ (255 : Int32) < c := fun c hc => nomatch hc
          exact segC hw wS hEL hws K hS h0 h412 n0 z419 cr420 od418 zc S1 P1 S_ad S_hi S_lo b kb cs dc f417 h4 h0n hbd g_b d kA_d ([] : List Int32) _ V421 (Nat.le_of_ble_eq_true rfl) hds g_d ne415 p0 p1 p2 p3 _ _ (by omega) (by omega)
        · replace h111 : ¬ (¬ (2 : Int32) < (0 : Int32)) := h111
          exact absurd (by decide) h111
      · replace h92 : ¬ (¬ (1 : Int32) < (0 : Int32)) := h92
        exact absurd (by decide) h92
    · replace h76 : ¬ (¬ 0 < (0 : Int32)) := h76
      exact absurd (by decide) h76
  · refine Go.istore K at_66 (Ls' := #[.val (.int p0), .val (.int p1), .val (.int p2), .val (.int p3), .val (.int (Int32.ofNat cs.length)), .val (.ref b), .val (.int (1 : Int32)), .unset, .unset, .unset, .unset]) rfl (pc' := 68) rfl ?_
    refine Go.iload K at_68 rfl (pc' := 70) rfl ?_
    refine Go.newP K (hw _ (List.mem_of_getElem? (i := 0) rfl)) (by decide) 1 (by decide) (by decide) (by show _ ≤ 24; omega) (by show _ ≤ 1152; omega) at_70 (pc' := 72) rfl ?_
    intro h422 d kA_d eq424 E423 V_d
    have ne425 : b ≠ d := own_ne V_b.lt (Nat.le_of_eq eq424.symm)
    have g_d : n0 ≤ d := Nat.le_trans zh (Nat.le_of_eq eq424.symm)
    have f427 := V_b.ext E423
    have od428 := odh.ext E423
    have z429 := Nat.le_trans zh E423.1
    have cr430 := CR.trans (CHr.ext E423 CR.1)
    have V431 : Arv Z h422 d kA_d .char (1 : Int32) [(.int (0 : Int32))] (.int (0 : Int32)) := V_d.pad (pad_rep [] (.int (0 : Int32)) 1)
    refine Go.astore K at_72 rfl (Ls' := #[.val (.int p0), .val (.int p1), .val (.int p2), .val (.int p3), .val (.int (Int32.ofNat cs.length)), .val (.ref b), .val (.int (1 : Int32)), .val (.ref d), .unset, .unset, .unset]) rfl (pc' := 74) rfl ?_
    refine Go.iload K at_74 rfl (pc' := 76) rfl ?_
    refine Go.ifc K at_76 (by decide) (pcT := 89) (pcF := 79) (by decide) rfl (fun h76 => ?_) (fun h76 => ?_)
    · replace h76 : ¬ 0 < (1 : Int32) := h76
      exact absurd h76 (by decide)
    · replace h76 : ¬ (¬ 0 < (1 : Int32)) := h76
      refine Go.aload K at_79 rfl rfl (pc' := 81) rfl ?_
      refine Go.iconst K (v := 0) at_81 rfl (pc' := 82) rfl ?_
      refine Go.iloadN K at_82 rfl (pc' := 83) rfl ?_
      refine Go.sipush K (v := 255) at_83 rfl (pc' := 86) rfl ?_
      refine Go.iand K at_86 (pc' := 87) rfl ?_
      refine Go.i2c K at_87 (pc' := 88) rfl ?_
      refine Go.castore K V431 0 rfl (Nat.le_of_ble_eq_true rfl) ⟨by decide, by decide⟩ g_d at_88 (pc' := 89) rfl ?_
      intro h432 K433 V434
      replace V434 : Arv Z h432 d kA_d .char (1 : Int32) [(.int (nar .char ((p3 &&& (255 : Int32)).toUInt32.toUInt16.toUInt32.toInt32)))] (.int (0 : Int32)) := V434
      have cr435 := cr430.trans (CHr.keep K433 (sfS (Safe.arv K.cz.alike V431 (by decide)) sf0) cr430.1)
      have f436 := f427.keep K433 (ninS ne425 nin0)
      have od438 := od428.keep K433 (allS g_d all0)
      have z439 := Nat.le_trans z429 K433.1
      refine Go.iload K at_89 rfl (pc' := 91) rfl ?_
      refine Go.iconst K (v := 1) at_91 rfl (pc' := 92) rfl ?_
      refine Go.icmp K at_92 (by decide) (pcT := 108) (pcF := 95) (by decide) rfl (fun h92 => ?_) (fun h92 => ?_)
      · replace h92 : ¬ (1 : Int32) < (1 : Int32) := h92
        refine Go.iload K at_108 rfl (pc' := 110) rfl ?_
        refine Go.iconst K (v := 2) at_110 rfl (pc' := 111) rfl ?_
        refine Go.icmp K at_111 (by decide) (pcT := 127) (pcF := 114) (by decide) rfl (fun h111 => ?_) (fun h111 => ?_)
        · replace h111 : ¬ (2 : Int32) < (1 : Int32) := h111
          have hds : ∀ c ∈ ([(nar .char ((p3 &&& (255 : Int32)).toUInt32.toUInt16.toUInt32.toInt32))] : List Int32), ¬ c < 0 ∧ ¬ (255 : Int32) < c := by
            intro c hc
            simp only [List.mem_cons, List.not_mem_nil, or_false] at hc
            subst hc
            exact own_and255 _
          exact segC hw wS hEL hws K hS h0 h432 n0 z439 cr435 od438 zc S1 P1 S_ad S_hi S_lo b kb cs dc f436 h4 h0n hbd g_b d kA_d ([(nar .char ((p3 &&& (255 : Int32)).toUInt32.toUInt16.toUInt32.toInt32))] : List Int32) _ V434 (Nat.le_of_ble_eq_true rfl) hds g_d ne425 p0 p1 p2 p3 _ _ (by omega) (by omega)
        · replace h111 : ¬ (¬ (2 : Int32) < (1 : Int32)) := h111
          exact absurd (by decide) h111
      · replace h92 : ¬ (¬ (1 : Int32) < (1 : Int32)) := h92
        exact absurd (by decide) h92
  · refine Go.istore K at_66 (Ls' := #[.val (.int p0), .val (.int p1), .val (.int p2), .val (.int p3), .val (.int (Int32.ofNat cs.length)), .val (.ref b), .val (.int (2 : Int32)), .unset, .unset, .unset, .unset]) rfl (pc' := 68) rfl ?_
    refine Go.iload K at_68 rfl (pc' := 70) rfl ?_
    refine Go.newP K (hw _ (List.mem_of_getElem? (i := 0) rfl)) (by decide) 2 (by decide) (by decide) (by show _ ≤ 24; omega) (by show _ ≤ 1152; omega) at_70 (pc' := 72) rfl ?_
    intro h440 d kA_d eq442 E441 V_d
    have ne443 : b ≠ d := own_ne V_b.lt (Nat.le_of_eq eq442.symm)
    have g_d : n0 ≤ d := Nat.le_trans zh (Nat.le_of_eq eq442.symm)
    have f445 := V_b.ext E441
    have od446 := odh.ext E441
    have z447 := Nat.le_trans zh E441.1
    have cr448 := CR.trans (CHr.ext E441 CR.1)
    have V449 : Arv Z h440 d kA_d .char (2 : Int32) [(.int (0 : Int32)), (.int (0 : Int32))] (.int (0 : Int32)) := V_d.pad (pad_rep [] (.int (0 : Int32)) 2)
    refine Go.astore K at_72 rfl (Ls' := #[.val (.int p0), .val (.int p1), .val (.int p2), .val (.int p3), .val (.int (Int32.ofNat cs.length)), .val (.ref b), .val (.int (2 : Int32)), .val (.ref d), .unset, .unset, .unset]) rfl (pc' := 74) rfl ?_
    refine Go.iload K at_74 rfl (pc' := 76) rfl ?_
    refine Go.ifc K at_76 (by decide) (pcT := 89) (pcF := 79) (by decide) rfl (fun h76 => ?_) (fun h76 => ?_)
    · replace h76 : ¬ 0 < (2 : Int32) := h76
      exact absurd h76 (by decide)
    · replace h76 : ¬ (¬ 0 < (2 : Int32)) := h76
      refine Go.aload K at_79 rfl rfl (pc' := 81) rfl ?_
      refine Go.iconst K (v := 0) at_81 rfl (pc' := 82) rfl ?_
      refine Go.iloadN K at_82 rfl (pc' := 83) rfl ?_
      refine Go.sipush K (v := 255) at_83 rfl (pc' := 86) rfl ?_
      refine Go.iand K at_86 (pc' := 87) rfl ?_
      refine Go.i2c K at_87 (pc' := 88) rfl ?_
      refine Go.castore K V449 0 rfl (Nat.le_of_ble_eq_true rfl) ⟨by decide, by decide⟩ g_d at_88 (pc' := 89) rfl ?_
      intro h450 K451 V452
      replace V452 : Arv Z h450 d kA_d .char (2 : Int32) [(.int (nar .char ((p3 &&& (255 : Int32)).toUInt32.toUInt16.toUInt32.toInt32))), (.int (0 : Int32))] (.int (0 : Int32)) := V452
      have cr453 := cr448.trans (CHr.keep K451 (sfS (Safe.arv K.cz.alike V449 (by decide)) sf0) cr448.1)
      have f454 := f445.keep K451 (ninS ne443 nin0)
      have od456 := od446.keep K451 (allS g_d all0)
      have z457 := Nat.le_trans z447 K451.1
      refine Go.iload K at_89 rfl (pc' := 91) rfl ?_
      refine Go.iconst K (v := 1) at_91 rfl (pc' := 92) rfl ?_
      refine Go.icmp K at_92 (by decide) (pcT := 108) (pcF := 95) (by decide) rfl (fun h92 => ?_) (fun h92 => ?_)
      · replace h92 : ¬ (1 : Int32) < (2 : Int32) := h92
        exact absurd h92 (by decide)
      · replace h92 : ¬ (¬ (1 : Int32) < (2 : Int32)) := h92
        refine Go.aload K at_95 rfl rfl (pc' := 97) rfl ?_
        refine Go.iconst K (v := 1) at_97 rfl (pc' := 98) rfl ?_
        refine Go.iloadN K at_98 rfl (pc' := 99) rfl ?_
        refine Go.bipush K (v := 8) at_99 rfl (pc' := 101) rfl ?_
        refine Go.iushr K at_101 (pc' := 102) rfl ?_
        refine Go.sipush K (v := 255) at_102 rfl (pc' := 105) rfl ?_
        refine Go.iand K at_105 (pc' := 106) rfl ?_
        refine Go.i2c K at_106 (pc' := 107) rfl ?_
        refine Go.castore K V452 1 rfl (Nat.le_of_ble_eq_true rfl) ⟨by decide, by decide⟩ g_d at_107 (pc' := 108) rfl ?_
        intro h458 K459 V460
        replace V460 : Arv Z h458 d kA_d .char (2 : Int32) [(.int (nar .char ((p3 &&& (255 : Int32)).toUInt32.toUInt16.toUInt32.toInt32))), (.int (nar .char ((((p3.toUInt32 >>> ((8 : Int32) &&& 31).toUInt32).toInt32) &&& (255 : Int32)).toUInt32.toUInt16.toUInt32.toInt32)))] (.int (0 : Int32)) := V460
        have cr461 := cr453.trans (CHr.keep K459 (sfS (Safe.arv K.cz.alike V452 (by decide)) sf0) cr453.1)
        have f462 := f454.keep K459 (ninS ne443 nin0)
        have od464 := od456.keep K459 (allS g_d all0)
        have z465 := Nat.le_trans z457 K459.1
        refine Go.iload K at_108 rfl (pc' := 110) rfl ?_
        refine Go.iconst K (v := 2) at_110 rfl (pc' := 111) rfl ?_
        refine Go.icmp K at_111 (by decide) (pcT := 127) (pcF := 114) (by decide) rfl (fun h111 => ?_) (fun h111 => ?_)
        · replace h111 : ¬ (2 : Int32) < (2 : Int32) := h111
          have hds : ∀ c ∈ ([(nar .char ((p3 &&& (255 : Int32)).toUInt32.toUInt16.toUInt32.toInt32)), (nar .char ((((p3.toUInt32 >>> ((8 : Int32) &&& 31).toUInt32).toInt32) &&& (255 : Int32)).toUInt32.toUInt16.toUInt32.toInt32))] : List Int32), ¬ c < 0 ∧ ¬ (255 : Int32) < c := by
            intro c hc
            simp only [List.mem_cons, List.not_mem_nil, or_false] at hc
            rcases hc with rfl | rfl
            · exact own_and255 _
            · exact own_and255 _
          exact segC hw wS hEL hws K hS h0 h458 n0 z465 cr461 od464 zc S1 P1 S_ad S_hi S_lo b kb cs dc f462 h4 h0n hbd g_b d kA_d ([(nar .char ((p3 &&& (255 : Int32)).toUInt32.toUInt16.toUInt32.toInt32)), (nar .char ((((p3.toUInt32 >>> ((8 : Int32) &&& 31).toUInt32).toInt32) &&& (255 : Int32)).toUInt32.toUInt16.toUInt32.toInt32))] : List Int32) _ V460 (Nat.le_of_ble_eq_true rfl) hds g_d ne443 p0 p1 p2 p3 _ _ (by omega) (by omega)
        · replace h111 : ¬ (¬ (2 : Int32) < (2 : Int32)) := h111
          exact absurd (by decide) h111
  · refine Go.istore K at_66 (Ls' := #[.val (.int p0), .val (.int p1), .val (.int p2), .val (.int p3), .val (.int (Int32.ofNat cs.length)), .val (.ref b), .val (.int (3 : Int32)), .unset, .unset, .unset, .unset]) rfl (pc' := 68) rfl ?_
    refine Go.iload K at_68 rfl (pc' := 70) rfl ?_
    refine Go.newP K (hw _ (List.mem_of_getElem? (i := 0) rfl)) (by decide) 3 (by decide) (by decide) (by show _ ≤ 24; omega) (by show _ ≤ 1152; omega) at_70 (pc' := 72) rfl ?_
    intro h466 d kA_d eq468 E467 V_d
    have ne469 : b ≠ d := own_ne V_b.lt (Nat.le_of_eq eq468.symm)
    have g_d : n0 ≤ d := Nat.le_trans zh (Nat.le_of_eq eq468.symm)
    have f471 := V_b.ext E467
    have od472 := odh.ext E467
    have z473 := Nat.le_trans zh E467.1
    have cr474 := CR.trans (CHr.ext E467 CR.1)
    have V475 : Arv Z h466 d kA_d .char (3 : Int32) [(.int (0 : Int32)), (.int (0 : Int32)), (.int (0 : Int32))] (.int (0 : Int32)) := V_d.pad (pad_rep [] (.int (0 : Int32)) 3)
    refine Go.astore K at_72 rfl (Ls' := #[.val (.int p0), .val (.int p1), .val (.int p2), .val (.int p3), .val (.int (Int32.ofNat cs.length)), .val (.ref b), .val (.int (3 : Int32)), .val (.ref d), .unset, .unset, .unset]) rfl (pc' := 74) rfl ?_
    refine Go.iload K at_74 rfl (pc' := 76) rfl ?_
    refine Go.ifc K at_76 (by decide) (pcT := 89) (pcF := 79) (by decide) rfl (fun h76 => ?_) (fun h76 => ?_)
    · replace h76 : ¬ 0 < (3 : Int32) := h76
      exact absurd h76 (by decide)
    · replace h76 : ¬ (¬ 0 < (3 : Int32)) := h76
      refine Go.aload K at_79 rfl rfl (pc' := 81) rfl ?_
      refine Go.iconst K (v := 0) at_81 rfl (pc' := 82) rfl ?_
      refine Go.iloadN K at_82 rfl (pc' := 83) rfl ?_
      refine Go.sipush K (v := 255) at_83 rfl (pc' := 86) rfl ?_
      refine Go.iand K at_86 (pc' := 87) rfl ?_
      refine Go.i2c K at_87 (pc' := 88) rfl ?_
      refine Go.castore K V475 0 rfl (Nat.le_of_ble_eq_true rfl) ⟨by decide, by decide⟩ g_d at_88 (pc' := 89) rfl ?_
      intro h476 K477 V478
      replace V478 : Arv Z h476 d kA_d .char (3 : Int32) [(.int (nar .char ((p3 &&& (255 : Int32)).toUInt32.toUInt16.toUInt32.toInt32))), (.int (0 : Int32)), (.int (0 : Int32))] (.int (0 : Int32)) := V478
      have cr479 := cr474.trans (CHr.keep K477 (sfS (Safe.arv K.cz.alike V475 (by decide)) sf0) cr474.1)
      have f480 := f471.keep K477 (ninS ne469 nin0)
      have od482 := od472.keep K477 (allS g_d all0)
      have z483 := Nat.le_trans z473 K477.1
      refine Go.iload K at_89 rfl (pc' := 91) rfl ?_
      refine Go.iconst K (v := 1) at_91 rfl (pc' := 92) rfl ?_
      refine Go.icmp K at_92 (by decide) (pcT := 108) (pcF := 95) (by decide) rfl (fun h92 => ?_) (fun h92 => ?_)
      · replace h92 : ¬ (1 : Int32) < (3 : Int32) := h92
        exact absurd h92 (by decide)
      · replace h92 : ¬ (¬ (1 : Int32) < (3 : Int32)) := h92
        refine Go.aload K at_95 rfl rfl (pc' := 97) rfl ?_
        refine Go.iconst K (v := 1) at_97 rfl (pc' := 98) rfl ?_
        refine Go.iloadN K at_98 rfl (pc' := 99) rfl ?_
        refine Go.bipush K (v := 8) at_99 rfl (pc' := 101) rfl ?_
        refine Go.iushr K at_101 (pc' := 102) rfl ?_
        refine Go.sipush K (v := 255) at_102 rfl (pc' := 105) rfl ?_
        refine Go.iand K at_105 (pc' := 106) rfl ?_
        refine Go.i2c K at_106 (pc' := 107) rfl ?_
        refine Go.castore K V478 1 rfl (Nat.le_of_ble_eq_true rfl) ⟨by decide, by decide⟩ g_d at_107 (pc' := 108) rfl ?_
        intro h484 K485 V486
        replace V486 : Arv Z h484 d kA_d .char (3 : Int32) [(.int (nar .char ((p3 &&& (255 : Int32)).toUInt32.toUInt16.toUInt32.toInt32))), (.int (nar .char ((((p3.toUInt32 >>> ((8 : Int32) &&& 31).toUInt32).toInt32) &&& (255 : Int32)).toUInt32.toUInt16.toUInt32.toInt32))), (.int (0 : Int32))] (.int (0 : Int32)) := V486
        have cr487 := cr479.trans (CHr.keep K485 (sfS (Safe.arv K.cz.alike V478 (by decide)) sf0) cr479.1)
        have f488 := f480.keep K485 (ninS ne469 nin0)
        have od490 := od482.keep K485 (allS g_d all0)
        have z491 := Nat.le_trans z483 K485.1
        refine Go.iload K at_108 rfl (pc' := 110) rfl ?_
        refine Go.iconst K (v := 2) at_110 rfl (pc' := 111) rfl ?_
        refine Go.icmp K at_111 (by decide) (pcT := 127) (pcF := 114) (by decide) rfl (fun h111 => ?_) (fun h111 => ?_)
        · replace h111 : ¬ (2 : Int32) < (3 : Int32) := h111
          exact absurd h111 (by decide)
        · replace h111 : ¬ (¬ (2 : Int32) < (3 : Int32)) := h111
          refine Go.aload K at_114 rfl rfl (pc' := 116) rfl ?_
          refine Go.iconst K (v := 2) at_116 rfl (pc' := 117) rfl ?_
          refine Go.iloadN K at_117 rfl (pc' := 118) rfl ?_
          refine Go.bipush K (v := 16) at_118 rfl (pc' := 120) rfl ?_
          refine Go.iushr K at_120 (pc' := 121) rfl ?_
          refine Go.sipush K (v := 255) at_121 rfl (pc' := 124) rfl ?_
          refine Go.iand K at_124 (pc' := 125) rfl ?_
          refine Go.i2c K at_125 (pc' := 126) rfl ?_
          refine Go.castore K V486 2 rfl (Nat.le_of_ble_eq_true rfl) ⟨by decide, by decide⟩ g_d at_126 (pc' := 127) rfl ?_
          intro h492 K493 V494
          replace V494 : Arv Z h492 d kA_d .char (3 : Int32) [(.int (nar .char ((p3 &&& (255 : Int32)).toUInt32.toUInt16.toUInt32.toInt32))), (.int (nar .char ((((p3.toUInt32 >>> ((8 : Int32) &&& 31).toUInt32).toInt32) &&& (255 : Int32)).toUInt32.toUInt16.toUInt32.toInt32))), (.int (nar .char ((((p3.toUInt32 >>> ((16 : Int32) &&& 31).toUInt32).toInt32) &&& (255 : Int32)).toUInt32.toUInt16.toUInt32.toInt32)))] (.int (0 : Int32)) := V494
          have cr495 := cr487.trans (CHr.keep K493 (sfS (Safe.arv K.cz.alike V486 (by decide)) sf0) cr487.1)
          have f496 := f488.keep K493 (ninS ne469 nin0)
          have od498 := od490.keep K493 (allS g_d all0)
          have z499 := Nat.le_trans z491 K493.1
          have hds : ∀ c ∈ ([(nar .char ((p3 &&& (255 : Int32)).toUInt32.toUInt16.toUInt32.toInt32)), (nar .char ((((p3.toUInt32 >>> ((8 : Int32) &&& 31).toUInt32).toInt32) &&& (255 : Int32)).toUInt32.toUInt16.toUInt32.toInt32)), (nar .char ((((p3.toUInt32 >>> ((16 : Int32) &&& 31).toUInt32).toInt32) &&& (255 : Int32)).toUInt32.toUInt16.toUInt32.toInt32))] : List Int32), ¬ c < 0 ∧ ¬ (255 : Int32) < c := by
            intro c hc
            simp only [List.mem_cons, List.not_mem_nil, or_false] at hc
            rcases hc with rfl | rfl | rfl
            · exact own_and255 _
            · exact own_and255 _
            · exact own_and255 _
          exact segC hw wS hEL hws K hS h0 h492 n0 z499 cr495 od498 zc S1 P1 S_ad S_hi S_lo b kb cs dc f496 h4 h0n hbd g_b d kA_d ([(nar .char ((p3 &&& (255 : Int32)).toUInt32.toUInt16.toUInt32.toInt32)), (nar .char ((((p3.toUInt32 >>> ((8 : Int32) &&& 31).toUInt32).toInt32) &&& (255 : Int32)).toUInt32.toUInt16.toUInt32.toInt32)), (nar .char ((((p3.toUInt32 >>> ((16 : Int32) &&& 31).toUInt32).toInt32) &&& (255 : Int32)).toUInt32.toUInt16.toUInt32.toInt32))] : List Int32) _ V494 (Nat.le_of_ble_eq_true rfl) hds g_d ne469 p0 p1 p2 p3 _ _ (by omega) (by omega)
theorem own_ch16 (y : Int32) : ¬ nar .char (y.toUInt32.toUInt16.toUInt32.toInt32) < 0 ∧ ¬ 65535 < nar .char (y.toUInt32.toUInt16.toUInt32.toInt32) := by
  have e : nar .char (y.toUInt32.toUInt16.toUInt32.toInt32) = y.toUInt32.toUInt16.toUInt32.toInt32 := by simp only [nar, UInt32.toUInt32_toInt32, UInt16.toUInt16_toUInt32]
  rw [e]
  have q := c_i2c y
  have e0 : (0 : Int32).toInt = 0 := by decide
  have e1 : (65535 : Int32).toInt = 65535 := by decide
  rw [Int32.lt_iff_toInt_lt, Int32.lt_iff_toInt_lt]
  omega
theorem ef_law (m : MethodId) (p0 : Int32) (p1 : Int32) (p2 : Int32) (p3 : Int32) : entryFrame m #[(.int p0), (.int p1), (.int p2), (.int p3)] maxLocals = mkF m 0 #[.val (.int p0), .val (.int p1), .val (.int p2), .val (.int p3), .unset, .unset, .unset, .unset, .unset, .unset, .unset] [] := by first | (simp [entryFrame, mkF, argsToLocals, Value.category, maxLocals]; done) | rfl
theorem pn_com_example_inchworm_inchworm_InputFilesNamedPinLaw : plainName "com/example/inchworm/inchworm/InputFilesNamedPinLaw" = true := by first | (simp [plainName, overriddenIn]; done) | decide +kernel
set_option maxRecDepth 65536 in
set_option maxHeartbeats 40000000 in
theorem m_law (l : Launch) (Z : State) (a0 : Array Value) (hw : ∀ d ∈ tables_1, d.before a0 Z = true) (h0 : Heap) (n0 : Nat) (Z0 : n0 ≤ h0.size) (wS : ∀ a ∈ Bundle.stringAtoms, a.before a0 Z = true) (hEL : EW Z a0 [("java/lang/String", 7)]) (p0 : Int32) (p1 : Int32) (p2 : Int32) (p3 : Int32) (zc : Int32) (S1 : Sta Z Z.heap "java/lang/String" "COMPACT_STRINGS" "Z" (.int zc)) (P1 : ¬ (zc = (0 : Int32))) (S_ad : Sta Z Z.heap "java/lang/StringUTF16" "$assertionsDisabled" "Z" (.int (1 : Int32))) (S_hi : Sta Z Z.heap "java/lang/StringUTF16" "HI_BYTE_SHIFT" "I" (.int (0 : Int32))) (S_lo : Sta Z Z.heap "java/lang/StringUTF16" "LO_BYTE_SHIFT" "I" (.int (8 : Int32))) (od : Old Z n0 h0) :
    MetW l Z tables_1 [("java/lang/String", 7)] x code maxLocals ret room_1 #[(.int p0), (.int p1), (.int p2), (.int p3)] h0 n0 (fun v _ => v = some (.int 1)) := by
  refine MetW.of (plainFor_of_name pn_com_example_inchworm_inchworm_InputFilesNamedPinLaw) ?_
  intro p e s m below meth c vm0 B hS HC K
  have CR := CHr.refl HC
  have hws : ∀ d ∈ StrChars.Road.words, d.before a0 Z = true := fun d hd => hw d ((by decide +kernel : ∀ d ∈ StrChars.Road.words, d ∈ tables_1) d hd)
  refine Go.cast (ef_law m p0 p1 p2 p3) ?_
  refine Go.iconst K (v := 1) at_0 rfl (pc' := 1) rfl ?_
  refine Go.iloadN K at_1 rfl (pc' := 2) rfl ?_
  refine Go.iconst K (v := 3) at_2 rfl (pc' := 3) rfl ?_
  refine Go.iand K at_3 (pc' := 4) rfl ?_
  rcases own_and3 p0 with hc | hc | hc | hc <;> rw [hc]
  · refine Go.iadd K at_4 (pc' := 5) rfl ?_
    show Go p l e _ _ m _ below meth c _ _ _ _ h0 _ _ (mkF m 5 #[.val (.int p0), .val (.int p1), .val (.int p2), .val (.int p3), .unset, .unset, .unset, .unset, .unset, .unset, .unset] [(.int (1 : Int32))])
    refine Go.istore K at_5 (Ls' := #[.val (.int p0), .val (.int p1), .val (.int p2), .val (.int p3), .val (.int (1 : Int32)), .unset, .unset, .unset, .unset, .unset, .unset]) rfl (pc' := 7) rfl ?_
    refine Go.iload K at_7 rfl (pc' := 9) rfl ?_
    refine Go.newP K (hw _ (List.mem_of_getElem? (i := 0) rfl)) (by decide) 1 (by decide) (by decide) (by decide) (by decide) at_9 (pc' := 11) rfl ?_
    intro h500 b kA_b eq502 E501 V_b
    have g_b : n0 ≤ b := Nat.le_trans Z0 (Nat.le_of_eq eq502.symm)
    have od503 := od.ext E501
    have z504 := Nat.le_trans Z0 E501.1
    have cr505 := CR.trans (CHr.ext E501 CR.1)
    have V506 : Arv Z h500 b kA_b .char (1 : Int32) [(.int (0 : Int32))] (.int (0 : Int32)) := V_b.pad (pad_rep [] (.int (0 : Int32)) 1)
    refine Go.astore K at_11 rfl (Ls' := #[.val (.int p0), .val (.int p1), .val (.int p2), .val (.int p3), .val (.int (1 : Int32)), .val (.ref b), .unset, .unset, .unset, .unset, .unset]) rfl (pc' := 13) rfl ?_
    refine Go.aload K at_13 rfl rfl (pc' := 15) rfl ?_
    refine Go.iconst K (v := 0) at_15 rfl (pc' := 16) rfl ?_
    refine Go.iloadN K at_16 rfl (pc' := 17) rfl ?_
    refine Go.i2c K at_17 (pc' := 18) rfl ?_
    refine Go.castore K V506 0 rfl (Nat.le_of_ble_eq_true rfl) ⟨by decide, by decide⟩ g_b at_18 (pc' := 19) rfl ?_
    intro h507 K508 V509
    replace V509 : Arv Z h507 b kA_b .char (1 : Int32) [(.int (nar .char (p1.toUInt32.toUInt16.toUInt32.toInt32)))] (.int (0 : Int32)) := V509
    have cr510 := cr505.trans (CHr.keep K508 (sfS (Safe.arv K.cz.alike V506 (by decide)) sf0) cr505.1)
    have od512 := od503.keep K508 (allS g_b all0)
    have z513 := Nat.le_trans z504 K508.1
    refine Go.iload K at_19 rfl (pc' := 21) rfl ?_
    refine Go.iconst K (v := 1) at_21 rfl (pc' := 22) rfl ?_
    refine Go.icmp K at_22 (by decide) (pcT := 34) (pcF := 25) (by decide) rfl (fun h22 => ?_) (fun h22 => ?_)
    · replace h22 : ¬ (1 : Int32) < (1 : Int32) := h22
      refine Go.iload K at_34 rfl (pc' := 36) rfl ?_
      refine Go.iconst K (v := 2) at_36 rfl (pc' := 37) rfl ?_
      refine Go.icmp K at_37 (by decide) (pcT := 46) (pcF := 40) (by decide) rfl (fun h37 => ?_) (fun h37 => ?_)
      · replace h37 : ¬ (2 : Int32) < (1 : Int32) := h37
        refine Go.iload K at_46 rfl (pc' := 48) rfl ?_
        refine Go.iconst K (v := 3) at_48 rfl (pc' := 49) rfl ?_
        refine Go.icmp K at_49 (by decide) (pcT := 61) (pcF := 52) (by decide) rfl (fun h49 => ?_) (fun h49 => ?_)
        · replace h49 : ¬ (3 : Int32) < (1 : Int32) := h49
          have hbd : ∀ j, j < ([(nar .char (p1.toUInt32.toUInt16.toUInt32.toInt32))] : List Int32).length → ¬ ([(nar .char (p1.toUInt32.toUInt16.toUInt32.toInt32))] : List Int32).getD j 0 < 0 ∧ ¬ 65535 < ([(nar .char (p1.toUInt32.toUInt16.toUInt32.toInt32))] : List Int32).getD j 0 := by
            intro j hj
            match j, hj with
            | 0, _ => exact own_ch16 _
          exact segB hw wS hEL hws K hS h0 h507 n0 z513 cr510 od512 zc S1 P1 S_ad S_hi S_lo b kA_b ([(nar .char (p1.toUInt32.toUInt16.toUInt32.toInt32))] : List Int32) _ V509 (Nat.le_of_ble_eq_true rfl) (Nat.le_of_ble_eq_true rfl) hbd g_b p0 p1 p2 p3 _ _ (by decide) (by decide)
        · replace h49 : ¬ (¬ (3 : Int32) < (1 : Int32)) := h49
          exact absurd (by decide) h49
      · replace h37 : ¬ (¬ (2 : Int32) < (1 : Int32)) := h37
        exact absurd (by decide) h37
    · replace h22 : ¬ (¬ (1 : Int32) < (1 : Int32)) := h22
      exact absurd (by decide) h22
  · refine Go.iadd K at_4 (pc' := 5) rfl ?_
    show Go p l e _ _ m _ below meth c _ _ _ _ h0 _ _ (mkF m 5 #[.val (.int p0), .val (.int p1), .val (.int p2), .val (.int p3), .unset, .unset, .unset, .unset, .unset, .unset, .unset] [(.int (2 : Int32))])
    refine Go.istore K at_5 (Ls' := #[.val (.int p0), .val (.int p1), .val (.int p2), .val (.int p3), .val (.int (2 : Int32)), .unset, .unset, .unset, .unset, .unset, .unset]) rfl (pc' := 7) rfl ?_
    refine Go.iload K at_7 rfl (pc' := 9) rfl ?_
    refine Go.newP K (hw _ (List.mem_of_getElem? (i := 0) rfl)) (by decide) 2 (by decide) (by decide) (by decide) (by decide) at_9 (pc' := 11) rfl ?_
    intro h514 b kA_b eq516 E515 V_b
    have g_b : n0 ≤ b := Nat.le_trans Z0 (Nat.le_of_eq eq516.symm)
    have od517 := od.ext E515
    have z518 := Nat.le_trans Z0 E515.1
    have cr519 := CR.trans (CHr.ext E515 CR.1)
    have V520 : Arv Z h514 b kA_b .char (2 : Int32) [(.int (0 : Int32)), (.int (0 : Int32))] (.int (0 : Int32)) := V_b.pad (pad_rep [] (.int (0 : Int32)) 2)
    refine Go.astore K at_11 rfl (Ls' := #[.val (.int p0), .val (.int p1), .val (.int p2), .val (.int p3), .val (.int (2 : Int32)), .val (.ref b), .unset, .unset, .unset, .unset, .unset]) rfl (pc' := 13) rfl ?_
    refine Go.aload K at_13 rfl rfl (pc' := 15) rfl ?_
    refine Go.iconst K (v := 0) at_15 rfl (pc' := 16) rfl ?_
    refine Go.iloadN K at_16 rfl (pc' := 17) rfl ?_
    refine Go.i2c K at_17 (pc' := 18) rfl ?_
    refine Go.castore K V520 0 rfl (Nat.le_of_ble_eq_true rfl) ⟨by decide, by decide⟩ g_b at_18 (pc' := 19) rfl ?_
    intro h521 K522 V523
    replace V523 : Arv Z h521 b kA_b .char (2 : Int32) [(.int (nar .char (p1.toUInt32.toUInt16.toUInt32.toInt32))), (.int (0 : Int32))] (.int (0 : Int32)) := V523
    have cr524 := cr519.trans (CHr.keep K522 (sfS (Safe.arv K.cz.alike V520 (by decide)) sf0) cr519.1)
    have od526 := od517.keep K522 (allS g_b all0)
    have z527 := Nat.le_trans z518 K522.1
    refine Go.iload K at_19 rfl (pc' := 21) rfl ?_
    refine Go.iconst K (v := 1) at_21 rfl (pc' := 22) rfl ?_
    refine Go.icmp K at_22 (by decide) (pcT := 34) (pcF := 25) (by decide) rfl (fun h22 => ?_) (fun h22 => ?_)
    · replace h22 : ¬ (1 : Int32) < (2 : Int32) := h22
      exact absurd h22 (by decide)
    · replace h22 : ¬ (¬ (1 : Int32) < (2 : Int32)) := h22
      refine Go.aload K at_25 rfl rfl (pc' := 27) rfl ?_
      refine Go.iconst K (v := 1) at_27 rfl (pc' := 28) rfl ?_
      refine Go.iloadN K at_28 rfl (pc' := 29) rfl ?_
      refine Go.bipush K (v := 16) at_29 rfl (pc' := 31) rfl ?_
      refine Go.iushr K at_31 (pc' := 32) rfl ?_
      refine Go.i2c K at_32 (pc' := 33) rfl ?_
      refine Go.castore K V523 1 rfl (Nat.le_of_ble_eq_true rfl) ⟨by decide, by decide⟩ g_b at_33 (pc' := 34) rfl ?_
      intro h528 K529 V530
      replace V530 : Arv Z h528 b kA_b .char (2 : Int32) [(.int (nar .char (p1.toUInt32.toUInt16.toUInt32.toInt32))), (.int (nar .char (((p1.toUInt32 >>> ((16 : Int32) &&& 31).toUInt32).toInt32).toUInt32.toUInt16.toUInt32.toInt32)))] (.int (0 : Int32)) := V530
      have cr531 := cr524.trans (CHr.keep K529 (sfS (Safe.arv K.cz.alike V523 (by decide)) sf0) cr524.1)
      have od533 := od526.keep K529 (allS g_b all0)
      have z534 := Nat.le_trans z527 K529.1
      refine Go.iload K at_34 rfl (pc' := 36) rfl ?_
      refine Go.iconst K (v := 2) at_36 rfl (pc' := 37) rfl ?_
      refine Go.icmp K at_37 (by decide) (pcT := 46) (pcF := 40) (by decide) rfl (fun h37 => ?_) (fun h37 => ?_)
      · replace h37 : ¬ (2 : Int32) < (2 : Int32) := h37
        refine Go.iload K at_46 rfl (pc' := 48) rfl ?_
        refine Go.iconst K (v := 3) at_48 rfl (pc' := 49) rfl ?_
        refine Go.icmp K at_49 (by decide) (pcT := 61) (pcF := 52) (by decide) rfl (fun h49 => ?_) (fun h49 => ?_)
        · replace h49 : ¬ (3 : Int32) < (2 : Int32) := h49
          have hbd : ∀ j, j < ([(nar .char (p1.toUInt32.toUInt16.toUInt32.toInt32)), (nar .char (((p1.toUInt32 >>> ((16 : Int32) &&& 31).toUInt32).toInt32).toUInt32.toUInt16.toUInt32.toInt32))] : List Int32).length → ¬ ([(nar .char (p1.toUInt32.toUInt16.toUInt32.toInt32)), (nar .char (((p1.toUInt32 >>> ((16 : Int32) &&& 31).toUInt32).toInt32).toUInt32.toUInt16.toUInt32.toInt32))] : List Int32).getD j 0 < 0 ∧ ¬ 65535 < ([(nar .char (p1.toUInt32.toUInt16.toUInt32.toInt32)), (nar .char (((p1.toUInt32 >>> ((16 : Int32) &&& 31).toUInt32).toInt32).toUInt32.toUInt16.toUInt32.toInt32))] : List Int32).getD j 0 := by
            intro j hj
            match j, hj with
            | 0, _ => exact own_ch16 _
            | 1, _ => exact own_ch16 _
          exact segB hw wS hEL hws K hS h0 h528 n0 z534 cr531 od533 zc S1 P1 S_ad S_hi S_lo b kA_b ([(nar .char (p1.toUInt32.toUInt16.toUInt32.toInt32)), (nar .char (((p1.toUInt32 >>> ((16 : Int32) &&& 31).toUInt32).toInt32).toUInt32.toUInt16.toUInt32.toInt32))] : List Int32) _ V530 (Nat.le_of_ble_eq_true rfl) (Nat.le_of_ble_eq_true rfl) hbd g_b p0 p1 p2 p3 _ _ (by decide) (by decide)
        · replace h49 : ¬ (¬ (3 : Int32) < (2 : Int32)) := h49
          exact absurd (by decide) h49
      · replace h37 : ¬ (¬ (2 : Int32) < (2 : Int32)) := h37
        exact absurd (by decide) h37
  · refine Go.iadd K at_4 (pc' := 5) rfl ?_
    show Go p l e _ _ m _ below meth c _ _ _ _ h0 _ _ (mkF m 5 #[.val (.int p0), .val (.int p1), .val (.int p2), .val (.int p3), .unset, .unset, .unset, .unset, .unset, .unset, .unset] [(.int (3 : Int32))])
    refine Go.istore K at_5 (Ls' := #[.val (.int p0), .val (.int p1), .val (.int p2), .val (.int p3), .val (.int (3 : Int32)), .unset, .unset, .unset, .unset, .unset, .unset]) rfl (pc' := 7) rfl ?_
    refine Go.iload K at_7 rfl (pc' := 9) rfl ?_
    refine Go.newP K (hw _ (List.mem_of_getElem? (i := 0) rfl)) (by decide) 3 (by decide) (by decide) (by decide) (by decide) at_9 (pc' := 11) rfl ?_
    intro h535 b kA_b eq537 E536 V_b
    have g_b : n0 ≤ b := Nat.le_trans Z0 (Nat.le_of_eq eq537.symm)
    have od538 := od.ext E536
    have z539 := Nat.le_trans Z0 E536.1
    have cr540 := CR.trans (CHr.ext E536 CR.1)
    have V541 : Arv Z h535 b kA_b .char (3 : Int32) [(.int (0 : Int32)), (.int (0 : Int32)), (.int (0 : Int32))] (.int (0 : Int32)) := V_b.pad (pad_rep [] (.int (0 : Int32)) 3)
    refine Go.astore K at_11 rfl (Ls' := #[.val (.int p0), .val (.int p1), .val (.int p2), .val (.int p3), .val (.int (3 : Int32)), .val (.ref b), .unset, .unset, .unset, .unset, .unset]) rfl (pc' := 13) rfl ?_
    refine Go.aload K at_13 rfl rfl (pc' := 15) rfl ?_
    refine Go.iconst K (v := 0) at_15 rfl (pc' := 16) rfl ?_
    refine Go.iloadN K at_16 rfl (pc' := 17) rfl ?_
    refine Go.i2c K at_17 (pc' := 18) rfl ?_
    refine Go.castore K V541 0 rfl (Nat.le_of_ble_eq_true rfl) ⟨by decide, by decide⟩ g_b at_18 (pc' := 19) rfl ?_
    intro h542 K543 V544
    replace V544 : Arv Z h542 b kA_b .char (3 : Int32) [(.int (nar .char (p1.toUInt32.toUInt16.toUInt32.toInt32))), (.int (0 : Int32)), (.int (0 : Int32))] (.int (0 : Int32)) := V544
    have cr545 := cr540.trans (CHr.keep K543 (sfS (Safe.arv K.cz.alike V541 (by decide)) sf0) cr540.1)
    have od547 := od538.keep K543 (allS g_b all0)
    have z548 := Nat.le_trans z539 K543.1
    refine Go.iload K at_19 rfl (pc' := 21) rfl ?_
    refine Go.iconst K (v := 1) at_21 rfl (pc' := 22) rfl ?_
    refine Go.icmp K at_22 (by decide) (pcT := 34) (pcF := 25) (by decide) rfl (fun h22 => ?_) (fun h22 => ?_)
    · replace h22 : ¬ (1 : Int32) < (3 : Int32) := h22
      exact absurd h22 (by decide)
    · replace h22 : ¬ (¬ (1 : Int32) < (3 : Int32)) := h22
      refine Go.aload K at_25 rfl rfl (pc' := 27) rfl ?_
      refine Go.iconst K (v := 1) at_27 rfl (pc' := 28) rfl ?_
      refine Go.iloadN K at_28 rfl (pc' := 29) rfl ?_
      refine Go.bipush K (v := 16) at_29 rfl (pc' := 31) rfl ?_
      refine Go.iushr K at_31 (pc' := 32) rfl ?_
      refine Go.i2c K at_32 (pc' := 33) rfl ?_
      refine Go.castore K V544 1 rfl (Nat.le_of_ble_eq_true rfl) ⟨by decide, by decide⟩ g_b at_33 (pc' := 34) rfl ?_
      intro h549 K550 V551
      replace V551 : Arv Z h549 b kA_b .char (3 : Int32) [(.int (nar .char (p1.toUInt32.toUInt16.toUInt32.toInt32))), (.int (nar .char (((p1.toUInt32 >>> ((16 : Int32) &&& 31).toUInt32).toInt32).toUInt32.toUInt16.toUInt32.toInt32))), (.int (0 : Int32))] (.int (0 : Int32)) := V551
      have cr552 := cr545.trans (CHr.keep K550 (sfS (Safe.arv K.cz.alike V544 (by decide)) sf0) cr545.1)
      have od554 := od547.keep K550 (allS g_b all0)
      have z555 := Nat.le_trans z548 K550.1
      refine Go.iload K at_34 rfl (pc' := 36) rfl ?_
      refine Go.iconst K (v := 2) at_36 rfl (pc' := 37) rfl ?_
      refine Go.icmp K at_37 (by decide) (pcT := 46) (pcF := 40) (by decide) rfl (fun h37 => ?_) (fun h37 => ?_)
      · replace h37 : ¬ (2 : Int32) < (3 : Int32) := h37
        exact absurd h37 (by decide)
      · replace h37 : ¬ (¬ (2 : Int32) < (3 : Int32)) := h37
        refine Go.aload K at_40 rfl rfl (pc' := 42) rfl ?_
        refine Go.iconst K (v := 2) at_42 rfl (pc' := 43) rfl ?_
        refine Go.iloadN K at_43 rfl (pc' := 44) rfl ?_
        refine Go.i2c K at_44 (pc' := 45) rfl ?_
        refine Go.castore K V551 2 rfl (Nat.le_of_ble_eq_true rfl) ⟨by decide, by decide⟩ g_b at_45 (pc' := 46) rfl ?_
        intro h556 K557 V558
        replace V558 : Arv Z h556 b kA_b .char (3 : Int32) [(.int (nar .char (p1.toUInt32.toUInt16.toUInt32.toInt32))), (.int (nar .char (((p1.toUInt32 >>> ((16 : Int32) &&& 31).toUInt32).toInt32).toUInt32.toUInt16.toUInt32.toInt32))), (.int (nar .char (p2.toUInt32.toUInt16.toUInt32.toInt32)))] (.int (0 : Int32)) := V558
        have cr559 := cr552.trans (CHr.keep K557 (sfS (Safe.arv K.cz.alike V551 (by decide)) sf0) cr552.1)
        have od561 := od554.keep K557 (allS g_b all0)
        have z562 := Nat.le_trans z555 K557.1
        refine Go.iload K at_46 rfl (pc' := 48) rfl ?_
        refine Go.iconst K (v := 3) at_48 rfl (pc' := 49) rfl ?_
        refine Go.icmp K at_49 (by decide) (pcT := 61) (pcF := 52) (by decide) rfl (fun h49 => ?_) (fun h49 => ?_)
        · replace h49 : ¬ (3 : Int32) < (3 : Int32) := h49
          have hbd : ∀ j, j < ([(nar .char (p1.toUInt32.toUInt16.toUInt32.toInt32)), (nar .char (((p1.toUInt32 >>> ((16 : Int32) &&& 31).toUInt32).toInt32).toUInt32.toUInt16.toUInt32.toInt32)), (nar .char (p2.toUInt32.toUInt16.toUInt32.toInt32))] : List Int32).length → ¬ ([(nar .char (p1.toUInt32.toUInt16.toUInt32.toInt32)), (nar .char (((p1.toUInt32 >>> ((16 : Int32) &&& 31).toUInt32).toInt32).toUInt32.toUInt16.toUInt32.toInt32)), (nar .char (p2.toUInt32.toUInt16.toUInt32.toInt32))] : List Int32).getD j 0 < 0 ∧ ¬ 65535 < ([(nar .char (p1.toUInt32.toUInt16.toUInt32.toInt32)), (nar .char (((p1.toUInt32 >>> ((16 : Int32) &&& 31).toUInt32).toInt32).toUInt32.toUInt16.toUInt32.toInt32)), (nar .char (p2.toUInt32.toUInt16.toUInt32.toInt32))] : List Int32).getD j 0 := by
            intro j hj
            match j, hj with
            | 0, _ => exact own_ch16 _
            | 1, _ => exact own_ch16 _
            | 2, _ => exact own_ch16 _
          exact segB hw wS hEL hws K hS h0 h556 n0 z562 cr559 od561 zc S1 P1 S_ad S_hi S_lo b kA_b ([(nar .char (p1.toUInt32.toUInt16.toUInt32.toInt32)), (nar .char (((p1.toUInt32 >>> ((16 : Int32) &&& 31).toUInt32).toInt32).toUInt32.toUInt16.toUInt32.toInt32)), (nar .char (p2.toUInt32.toUInt16.toUInt32.toInt32))] : List Int32) _ V558 (Nat.le_of_ble_eq_true rfl) (Nat.le_of_ble_eq_true rfl) hbd g_b p0 p1 p2 p3 _ _ (by decide) (by decide)
        · replace h49 : ¬ (¬ (3 : Int32) < (3 : Int32)) := h49
          exact absurd (by decide) h49
  · refine Go.iadd K at_4 (pc' := 5) rfl ?_
    show Go p l e _ _ m _ below meth c _ _ _ _ h0 _ _ (mkF m 5 #[.val (.int p0), .val (.int p1), .val (.int p2), .val (.int p3), .unset, .unset, .unset, .unset, .unset, .unset, .unset] [(.int (4 : Int32))])
    refine Go.istore K at_5 (Ls' := #[.val (.int p0), .val (.int p1), .val (.int p2), .val (.int p3), .val (.int (4 : Int32)), .unset, .unset, .unset, .unset, .unset, .unset]) rfl (pc' := 7) rfl ?_
    refine Go.iload K at_7 rfl (pc' := 9) rfl ?_
    refine Go.newP K (hw _ (List.mem_of_getElem? (i := 0) rfl)) (by decide) 4 (by decide) (by decide) (by decide) (by decide) at_9 (pc' := 11) rfl ?_
    intro h563 b kA_b eq565 E564 V_b
    have g_b : n0 ≤ b := Nat.le_trans Z0 (Nat.le_of_eq eq565.symm)
    have od566 := od.ext E564
    have z567 := Nat.le_trans Z0 E564.1
    have cr568 := CR.trans (CHr.ext E564 CR.1)
    have V569 : Arv Z h563 b kA_b .char (4 : Int32) [(.int (0 : Int32)), (.int (0 : Int32)), (.int (0 : Int32)), (.int (0 : Int32))] (.int (0 : Int32)) := V_b.pad (pad_rep [] (.int (0 : Int32)) 4)
    refine Go.astore K at_11 rfl (Ls' := #[.val (.int p0), .val (.int p1), .val (.int p2), .val (.int p3), .val (.int (4 : Int32)), .val (.ref b), .unset, .unset, .unset, .unset, .unset]) rfl (pc' := 13) rfl ?_
    refine Go.aload K at_13 rfl rfl (pc' := 15) rfl ?_
    refine Go.iconst K (v := 0) at_15 rfl (pc' := 16) rfl ?_
    refine Go.iloadN K at_16 rfl (pc' := 17) rfl ?_
    refine Go.i2c K at_17 (pc' := 18) rfl ?_
    refine Go.castore K V569 0 rfl (Nat.le_of_ble_eq_true rfl) ⟨by decide, by decide⟩ g_b at_18 (pc' := 19) rfl ?_
    intro h570 K571 V572
    replace V572 : Arv Z h570 b kA_b .char (4 : Int32) [(.int (nar .char (p1.toUInt32.toUInt16.toUInt32.toInt32))), (.int (0 : Int32)), (.int (0 : Int32)), (.int (0 : Int32))] (.int (0 : Int32)) := V572
    have cr573 := cr568.trans (CHr.keep K571 (sfS (Safe.arv K.cz.alike V569 (by decide)) sf0) cr568.1)
    have od575 := od566.keep K571 (allS g_b all0)
    have z576 := Nat.le_trans z567 K571.1
    refine Go.iload K at_19 rfl (pc' := 21) rfl ?_
    refine Go.iconst K (v := 1) at_21 rfl (pc' := 22) rfl ?_
    refine Go.icmp K at_22 (by decide) (pcT := 34) (pcF := 25) (by decide) rfl (fun h22 => ?_) (fun h22 => ?_)
    · replace h22 : ¬ (1 : Int32) < (4 : Int32) := h22
      exact absurd h22 (by decide)
    · replace h22 : ¬ (¬ (1 : Int32) < (4 : Int32)) := h22
      refine Go.aload K at_25 rfl rfl (pc' := 27) rfl ?_
      refine Go.iconst K (v := 1) at_27 rfl (pc' := 28) rfl ?_
      refine Go.iloadN K at_28 rfl (pc' := 29) rfl ?_
      refine Go.bipush K (v := 16) at_29 rfl (pc' := 31) rfl ?_
      refine Go.iushr K at_31 (pc' := 32) rfl ?_
      refine Go.i2c K at_32 (pc' := 33) rfl ?_
      refine Go.castore K V572 1 rfl (Nat.le_of_ble_eq_true rfl) ⟨by decide, by decide⟩ g_b at_33 (pc' := 34) rfl ?_
      intro h577 K578 V579
      replace V579 : Arv Z h577 b kA_b .char (4 : Int32) [(.int (nar .char (p1.toUInt32.toUInt16.toUInt32.toInt32))), (.int (nar .char (((p1.toUInt32 >>> ((16 : Int32) &&& 31).toUInt32).toInt32).toUInt32.toUInt16.toUInt32.toInt32))), (.int (0 : Int32)), (.int (0 : Int32))] (.int (0 : Int32)) := V579
      have cr580 := cr573.trans (CHr.keep K578 (sfS (Safe.arv K.cz.alike V572 (by decide)) sf0) cr573.1)
      have od582 := od575.keep K578 (allS g_b all0)
      have z583 := Nat.le_trans z576 K578.1
      refine Go.iload K at_34 rfl (pc' := 36) rfl ?_
      refine Go.iconst K (v := 2) at_36 rfl (pc' := 37) rfl ?_
      refine Go.icmp K at_37 (by decide) (pcT := 46) (pcF := 40) (by decide) rfl (fun h37 => ?_) (fun h37 => ?_)
      · replace h37 : ¬ (2 : Int32) < (4 : Int32) := h37
        exact absurd h37 (by decide)
      · replace h37 : ¬ (¬ (2 : Int32) < (4 : Int32)) := h37
        refine Go.aload K at_40 rfl rfl (pc' := 42) rfl ?_
        refine Go.iconst K (v := 2) at_42 rfl (pc' := 43) rfl ?_
        refine Go.iloadN K at_43 rfl (pc' := 44) rfl ?_
        refine Go.i2c K at_44 (pc' := 45) rfl ?_
        refine Go.castore K V579 2 rfl (Nat.le_of_ble_eq_true rfl) ⟨by decide, by decide⟩ g_b at_45 (pc' := 46) rfl ?_
        intro h584 K585 V586
        replace V586 : Arv Z h584 b kA_b .char (4 : Int32) [(.int (nar .char (p1.toUInt32.toUInt16.toUInt32.toInt32))), (.int (nar .char (((p1.toUInt32 >>> ((16 : Int32) &&& 31).toUInt32).toInt32).toUInt32.toUInt16.toUInt32.toInt32))), (.int (nar .char (p2.toUInt32.toUInt16.toUInt32.toInt32))), (.int (0 : Int32))] (.int (0 : Int32)) := V586
        have cr587 := cr580.trans (CHr.keep K585 (sfS (Safe.arv K.cz.alike V579 (by decide)) sf0) cr580.1)
        have od589 := od582.keep K585 (allS g_b all0)
        have z590 := Nat.le_trans z583 K585.1
        refine Go.iload K at_46 rfl (pc' := 48) rfl ?_
        refine Go.iconst K (v := 3) at_48 rfl (pc' := 49) rfl ?_
        refine Go.icmp K at_49 (by decide) (pcT := 61) (pcF := 52) (by decide) rfl (fun h49 => ?_) (fun h49 => ?_)
        · replace h49 : ¬ (3 : Int32) < (4 : Int32) := h49
          exact absurd h49 (by decide)
        · replace h49 : ¬ (¬ (3 : Int32) < (4 : Int32)) := h49
          refine Go.aload K at_52 rfl rfl (pc' := 54) rfl ?_
          refine Go.iconst K (v := 3) at_54 rfl (pc' := 55) rfl ?_
          refine Go.iloadN K at_55 rfl (pc' := 56) rfl ?_
          refine Go.bipush K (v := 16) at_56 rfl (pc' := 58) rfl ?_
          refine Go.iushr K at_58 (pc' := 59) rfl ?_
          refine Go.i2c K at_59 (pc' := 60) rfl ?_
          refine Go.castore K V586 3 rfl (Nat.le_of_ble_eq_true rfl) ⟨by decide, by decide⟩ g_b at_60 (pc' := 61) rfl ?_
          intro h591 K592 V593
          replace V593 : Arv Z h591 b kA_b .char (4 : Int32) [(.int (nar .char (p1.toUInt32.toUInt16.toUInt32.toInt32))), (.int (nar .char (((p1.toUInt32 >>> ((16 : Int32) &&& 31).toUInt32).toInt32).toUInt32.toUInt16.toUInt32.toInt32))), (.int (nar .char (p2.toUInt32.toUInt16.toUInt32.toInt32))), (.int (nar .char (((p2.toUInt32 >>> ((16 : Int32) &&& 31).toUInt32).toInt32).toUInt32.toUInt16.toUInt32.toInt32)))] (.int (0 : Int32)) := V593
          have cr594 := cr587.trans (CHr.keep K592 (sfS (Safe.arv K.cz.alike V586 (by decide)) sf0) cr587.1)
          have od596 := od589.keep K592 (allS g_b all0)
          have z597 := Nat.le_trans z590 K592.1
          have hbd : ∀ j, j < ([(nar .char (p1.toUInt32.toUInt16.toUInt32.toInt32)), (nar .char (((p1.toUInt32 >>> ((16 : Int32) &&& 31).toUInt32).toInt32).toUInt32.toUInt16.toUInt32.toInt32)), (nar .char (p2.toUInt32.toUInt16.toUInt32.toInt32)), (nar .char (((p2.toUInt32 >>> ((16 : Int32) &&& 31).toUInt32).toInt32).toUInt32.toUInt16.toUInt32.toInt32))] : List Int32).length → ¬ ([(nar .char (p1.toUInt32.toUInt16.toUInt32.toInt32)), (nar .char (((p1.toUInt32 >>> ((16 : Int32) &&& 31).toUInt32).toInt32).toUInt32.toUInt16.toUInt32.toInt32)), (nar .char (p2.toUInt32.toUInt16.toUInt32.toInt32)), (nar .char (((p2.toUInt32 >>> ((16 : Int32) &&& 31).toUInt32).toInt32).toUInt32.toUInt16.toUInt32.toInt32))] : List Int32).getD j 0 < 0 ∧ ¬ 65535 < ([(nar .char (p1.toUInt32.toUInt16.toUInt32.toInt32)), (nar .char (((p1.toUInt32 >>> ((16 : Int32) &&& 31).toUInt32).toInt32).toUInt32.toUInt16.toUInt32.toInt32)), (nar .char (p2.toUInt32.toUInt16.toUInt32.toInt32)), (nar .char (((p2.toUInt32 >>> ((16 : Int32) &&& 31).toUInt32).toInt32).toUInt32.toUInt16.toUInt32.toInt32))] : List Int32).getD j 0 := by
            intro j hj
            match j, hj with
            | 0, _ => exact own_ch16 _
            | 1, _ => exact own_ch16 _
            | 2, _ => exact own_ch16 _
            | 3, _ => exact own_ch16 _
          exact segB hw wS hEL hws K hS h0 h591 n0 z597 cr594 od596 zc S1 P1 S_ad S_hi S_lo b kA_b ([(nar .char (p1.toUInt32.toUInt16.toUInt32.toInt32)), (nar .char (((p1.toUInt32 >>> ((16 : Int32) &&& 31).toUInt32).toInt32).toUInt32.toUInt16.toUInt32.toInt32)), (nar .char (p2.toUInt32.toUInt16.toUInt32.toInt32)), (nar .char (((p2.toUInt32 >>> ((16 : Int32) &&& 31).toUInt32).toInt32).toUInt32.toUInt16.toUInt32.toInt32))] : List Int32) _ V593 (Nat.le_of_ble_eq_true rfl) (Nat.le_of_ble_eq_true rfl) hbd g_b p0 p1 p2 p3 _ _ (by decide) (by decide)
theorem own_eqi {args : Array Value} {first s : State} {o : Option Outcome} {idx : List Nat} {t : Term} {x : Int32} (h : (Jvm.Cond.eq t (.int x)).value args first o s idx = some true) : t.eval args first o idx s = some (.int x) := by
  simp only [Cond.value, Term.eval] at h
  cases e : t.eval args first o idx s with
  | none => simp [e] at h
  | some v => cases v <;> simp [e] at h ⊢ <;> first | exact h | exact h.symm
set_option maxRecDepth 65536 in
set_option maxHeartbeats 40000000 in
theorem comes_1 {Post : Tables → Env → Array Value → State → Outcome → State → Prop} (hpost : ∀ tb e args s v u, (limb_1_1.after args s (.returned v) u = true ∧ limb_1_2.after args s (.returned v) u = true ∧ True) → ReturnedEndW s (.returned v) u (Jvm.fieldLocs frame_1_writes args s ++ Jvm.arrayLocs frame_1_arrays args s ++ Jvm.staticLocs frame_1_statics s) 24 1152 → Post tb e args s (.returned v) u) :
    ArmFor flags0 classFile x code maxLocals ret World_1 tables_1 room_1 Calls_1 rest_1 Pre_1 Post := by
  intro l hfl _ _ p e ha hc hk s m args below hf hA hF happ hP
  obtain ⟨hcalls, hrest, hpre⟩ := hP
  obtain ⟨-, -, -, hnamed, -, -, -, hat⟩ := (Spec.applies_iff hf).mp happ
  obtain ⟨hg, hn⟩ := and_e (Cond.before_iff.mp (show (Jvm.Cond.and given_1 narrow_1).before args s = true from hpre))
  obtain ⟨q0, r0⟩ := and_e hg
  obtain ⟨q1, r1⟩ := and_e r0
  obtain ⟨q2, r2⟩ := and_e r1
  obtain ⟨q3, r3⟩ := and_e r2
  obtain ⟨w0, w1, w2, w3, rfl⟩ : ∃ w0 w1 w2 w3 : Value, args = #[w0, w1, w2, w3] := by
    have hs : args.size = 4 := by simpa [Cond.value, given_1] using q0
    obtain ⟨L⟩ := args
    match L, hs with
    | [w0, w1, w2, w3], _ => exact ⟨w0, w1, w2, w3, rfl⟩
  have hw := fun d (hd : d ∈ tables_1) => atoms_spec (ws := Jvm.Cond.code x code maxLocals ret :: tables_1) hat d (List.mem_cons_of_mem _ hd)
  obtain ⟨hsets, hown0⟩ := atoms_of _ (rest_1_c_eq ▸ (show rest_1_c.before _ s = true from hrest))
  have hr0 := Cond.before_iff.mp hown0
  have hfit : Fit s := fun {y c} hc i hi => by
    obtain ⟨ha, rfl⟩ := Array.getElem?_eq_some_iff.mp hc
    have q := List.all_eq_true.mp ((Array.all_eq_true_iff_forall_mem.mp hF) _ (Array.getElem_mem ha)) i (List.mem_range.mpr hi)
    simpa [Array.getElem?_eq_getElem hi] using q
  obtain ⟨i0, ei0⟩ := is_v q1
  obtain rfl : w0 = (.int i0) := Option.some.inj ei0
  obtain ⟨i1, ei1⟩ := is_v q2
  obtain rfl : w1 = (.int i1) := Option.some.inj ei1
  obtain ⟨i2, ei2⟩ := is_v q3
  obtain rfl : w2 = (.int i2) := Option.some.inj ei2
  obtain ⟨i3, ei3⟩ := is_v r3
  obtain rfl : w3 = (.int i3) := Option.some.inj ei3
  obtain ⟨zc, ezc⟩ := is_v (Cond.before_iff.mp (hsets _ (List.mem_of_getElem? (i := 1) rfl)))
  have S1 : Sta s s.heap "java/lang/String" "COMPACT_STRINGS" "Z" (.int zc) := Sta.start ezc (Or.inl (hsets _ (List.mem_of_getElem? (i := 0) rfl)))
  have P1 : ¬ (zc = (0 : Int32)) := gotF (Cond.eq_ints ezc (Term.int_eval (0))) (not_v (Cond.before_iff.mp (hsets _ (List.mem_of_getElem? (i := 2) rfl))))
  have S_ad : Sta s s.heap "java/lang/StringUTF16" "$assertionsDisabled" "Z" (.int (1 : Int32)) := Sta.start (own_eqi (Cond.before_iff.mp (hsets _ (List.mem_of_getElem? (i := 12) rfl)))) (Or.inl (hsets _ (List.mem_of_getElem? (i := 11) rfl)))
  have S_hi : Sta s s.heap "java/lang/StringUTF16" "HI_BYTE_SHIFT" "I" (.int (0 : Int32)) := Sta.start (own_eqi (Cond.before_iff.mp (hsets _ (List.mem_of_getElem? (i := 15) rfl)))) (Or.inl (hsets _ (List.mem_of_getElem? (i := 14) rfl)))
  have S_lo : Sta s s.heap "java/lang/StringUTF16" "LO_BYTE_SHIFT" "I" (.int (8 : Int32)) := Sta.start (own_eqi (Cond.before_iff.mp (hsets _ (List.mem_of_getElem? (i := 18) rfl)))) (Or.inl (hsets _ (List.mem_of_getElem? (i := 17) rfl)))
  have wS : ∀ a ∈ Bundle.stringAtoms, a.before _ s = true := fun d hd => hw d ((by decide +kernel : ∀ d ∈ Bundle.stringAtoms, d ∈ tables_1) d hd)
  have hEL : EW s _ [("java/lang/String", 7)] := EW.cons (hw _ (List.mem_of_getElem? (i := 30) rfl)) (by decide) EW.nil
  have HC0 : CHv s [("java/lang/String", 7)] s.vm s.heap := CHv.start hEL (fun q hq => hcalls.1 q (by simpa [consts_1] using hq)) (hsets _ (by decide +kernel)) (hw _ (List.mem_of_getElem? (i := 19) rfl)) (hw _ (List.mem_of_getElem? (i := 2) rfl))
  obtain ⟨n, o, h1, h2, h3, _, L, rfl, ⟨⟨rfl, N⟩, -⟩, -, hq⟩ := m_law l s _ hw s.heap s.heap.size (Nat.le_refl _) wS hEL i0 i1 i2 i3 zc S1 P1 S_ad S_hi S_lo (Old.start s) p e ha hc hk s m _ below hf ((Spec.applies_iff_loose hf).mp happ).1 ⟨rfl, State.Warmed39.refl s, rfl, HC0⟩ trivial
  refine ⟨n, _, h1, h2, h3, hpost _ _ _ _ _ _ ⟨Cond.after_iff.mpr rfl, Cond.after_iff.mpr (eq_i res_at (Term.int_eval (1)) rfl), trivial⟩ ⟨hq.1, hq.2.1, hq.2.2.1, (hq.2.2.2.sift fun y hy => Or.inr (N y hy)).mono (by decide) (by decide)⟩⟩
theorem main_1_1 : Claimed_1_1 := comes_1 fun _ _ _ _ _ _ h hF => ⟨h.1, hF⟩
theorem main_1_2 : Claimed_1_2 := comes_1 fun _ _ _ _ _ _ h hF => ⟨h.2.1, hF⟩
end Jvm.Pilot.@@N@@
namespace Jvm.Pilot.@@N@@
open Jvm Jvm.ClassFile Sem Op Lib Jvm.Free Jvm.Stand Jvm.Pilot.@@N@@.Jvm.D
/-! MADE BY PROGRAM (witnessworld.py) out of the Statement's table words and the real class files: 20 classes; the members and pool entries that the words name. The judged class is class 1, her method 1. -/
namespace start1
open Jvm.ClassFile
def u (s : String) : CpInfo := .utf8 (stringToUtf16 s)
/-- a pool by its gaps: so many unusable entries, then the entry; so many at the end -/
def gap : Nat → List CpInfo → List CpInfo
  | 0, r => r
  | n + 1, r => .unusable :: gap n r
def poolList (es : List (Nat × CpInfo)) (last : Nat) : List CpInfo := es.foldr (fun e r => gap e.1 (e.2 :: r)) (gap last [])
def pool (es : List (Nat × CpInfo)) (last : Nat) : Array CpInfo := ⟨poolList es last⟩
def fileOf (pool : Array CpInfo) (this : Nat) (attrs : Array Attribute := #[]) (ms : Array MethodInfo := #[]) (fl : Nat := 33) (sup : Nat := 0) (ifs : Array Nat := #[]) (fds : Array FieldInfo := #[]) : ClassFile where
  minorVersion := 0
  majorVersion := 65
  constantPool := pool
  accessFlags := fl
  thisClass := this
  superClass := sup
  interfaces := ifs
  fields := fds
  methods := ms
  attributes := attrs
def plain (name : String) (sup : Option ClassId) : Class where
  name := name
  kind := .ordinary
  loader := none
  accessFlags := 33
  super := sup
  interfaces := #[]
  cf := none
  fields := #[]
  methods := #[]
  instanceTypes := #[]
  staticTypes := #[]
  resolved := #[]
  callSites := []
  init := .initialized
  statics := none
  mirror := none

def pool0 : Array CpInfo := pool [(5, u "<init>"), (0, u "()V"), (1, .class_ 10), (1, u "java/lang/Object")] 113

def k0c0 : Code := { maxStack := 0, maxLocals := 1, code := object_method_1_code, exceptionTable := #[], attributes := #[] }
def k0m0 : Method := { name := "<init>", desc := "()V", sig := { parameters := [], returnType := none }, accessFlags := 1, code := some k0c0 }
/-- java/lang/Object -/
def k0 : Class := { plain "java/lang/Object" none with
  accessFlags := 33
  interfaces := #[]
  cf := some (fileOf pool0 8 #[] #[{ accessFlags := 1, nameIndex := 5, descriptorIndex := 6, attributes := #[] }] 33 0 #[] #[])
  fields := #[]
  methods := #[k0m0]
  instanceTypes := #[]
  staticTypes := #[]
  resolved := Array.replicate 124 none
  statics := none }

def pool1 : Array CpInfo := pool [(2, .class_ 4), (1, u "java/lang/Object"), (0, u "<init>"), (0, u "()V"), (0, .class_ 8), (0, u "java/lang/String"), (0, .methodref 7 10), (0, .nameAndType 5 11), (0, u "([C)V"), (0, .methodref 13 14), (0, .class_ 15), (0, .nameAndType 16 17), (0, u "com/example/inchworm/inchworm/InputFiles"), (0, u "named"), (0, u "(Ljava/lang/String;Ljava/lang/String;)Ljava/lang/String;"), (0, .methodref 7 19), (0, .nameAndType 20 21), (0, u "length"), (0, u "()I"), (0, .methodref 7 23), (0, .nameAndType 24 25), (0, u "equals"), (0, u "(Ljava/lang/Object;)Z"), (0, .class_ 27), (0, u "com/example/inchworm/inchworm/InputFilesNamedPinLaw"), (2, u "law"), (0, u "(IIII)Z")] 5

def k1m0 : Method := { name := "<init>", desc := "()V", sig := { parameters := [], returnType := none }, accessFlags := 2, code := none }
def k1c1 : Code := { maxStack := 4, maxLocals := 11, code := code, exceptionTable := #[], attributes := #[] }
def k1m1 : Method := { name := "law", desc := "(IIII)Z", sig := { parameters := [.int, .int, .int, .int], returnType := some .boolean }, accessFlags := 9, code := some k1c1 }
/-- com/example/inchworm/inchworm/InputFilesNamedPinLaw -/
def k1 : Class := { plain "com/example/inchworm/inchworm/InputFilesNamedPinLaw" (some 0) with
  accessFlags := 49
  interfaces := #[]
  cf := some (fileOf pool1 26 #[] #[{ accessFlags := 2, nameIndex := 5, descriptorIndex := 6, attributes := #[] }, { accessFlags := 9, nameIndex := 30, descriptorIndex := 31, attributes := #[] }] 49 2 #[] #[])
  fields := #[]
  methods := #[k1m0, k1m1]
  instanceTypes := #[]
  staticTypes := #[]
  resolved := Array.replicate 37 none
  statics := none }

def pool2 : Array CpInfo := pool [(1, .class_ 2), (0, u "java/io/Serializable"), (0, .class_ 4), (0, u "java/lang/Object")] 2

/-- java/io/Serializable -/
def k2 : Class := { plain "java/io/Serializable" (some 0) with
  accessFlags := 1537
  interfaces := #[]
  cf := some (fileOf pool2 1 #[] #[] 1537 3 #[] #[])
  fields := #[]
  methods := #[]
  instanceTypes := #[]
  staticTypes := #[]
  resolved := Array.replicate 7 none
  statics := none }

def pool3 : Array CpInfo := pool [(1, .class_ 2), (0, u "java/lang/Comparable"), (0, .class_ 4), (0, u "java/lang/Object")] 7

/-- java/lang/Comparable -/
def k3 : Class := { plain "java/lang/Comparable" (some 0) with
  accessFlags := 1537
  interfaces := #[]
  cf := some (fileOf pool3 1 #[] #[] 1537 3 #[] #[])
  fields := #[]
  methods := #[]
  instanceTypes := #[]
  staticTypes := #[]
  resolved := Array.replicate 12 none
  statics := none }

def pool4 : Array CpInfo := pool [(2, .class_ 4), (1, u "java/lang/CharSequence"), (42, .class_ 48), (0, u "java/lang/CharSequence$1CodePointIterator"), (10, .class_ 60), (0, u "java/lang/CharSequence$1CharIterator"), (5, .class_ 67), (0, u "java/lang/Object")] 63

/-- java/lang/CharSequence -/
def k4 : Class := { plain "java/lang/CharSequence" (some 0) with
  accessFlags := 1537
  interfaces := #[]
  cf := some (fileOf pool4 2 #[.nestMembers #[47, 59]] #[] 1537 66 #[] #[])
  fields := #[]
  methods := #[]
  instanceTypes := #[]
  staticTypes := #[]
  resolved := Array.replicate 131 none
  statics := none }

def pool5 : Array CpInfo := pool [(1, .class_ 2), (0, u "java/lang/constant/Constable"), (0, .class_ 4), (0, u "java/lang/Object")] 6

/-- java/lang/constant/Constable -/
def k5 : Class := { plain "java/lang/constant/Constable" (some 0) with
  accessFlags := 1537
  interfaces := #[]
  cf := some (fileOf pool5 1 #[] #[] 1537 3 #[] #[])
  fields := #[]
  methods := #[]
  instanceTypes := #[]
  staticTypes := #[]
  resolved := Array.replicate 11 none
  statics := none }

def pool6 : Array CpInfo := pool [(1, .class_ 2), (0, u "java/lang/constant/ConstantDesc"), (0, .class_ 4), (0, u "java/lang/Object")] 32

/-- java/lang/constant/ConstantDesc -/
def k6 : Class := { plain "java/lang/constant/ConstantDesc" (some 0) with
  accessFlags := 1537
  interfaces := #[]
  cf := some (fileOf pool6 1 #[] #[] 1537 3 #[] #[])
  fields := #[]
  methods := #[]
  instanceTypes := #[]
  staticTypes := #[]
  resolved := Array.replicate 37 none
  statics := none }

def pool7 : Array CpInfo := pool [(1, .methodref 2 3), (0, .class_ 4), (0, .nameAndType 5 6), (0, u "java/lang/Object"), (0, u "<init>"), (0, u "()V"), (0, .string 8), (0, u ""), (0, .fieldref 10 11), (0, .class_ 12), (0, .nameAndType 13 14), (0, u "java/lang/String"), (0, u "value"), (0, u "[B"), (0, .fieldref 10 16), (0, .nameAndType 17 18), (0, u "coder"), (0, u "B"), (2, u "hash"), (0, u "I"), (2, u "hashIsZero"), (0, u "Z"), (0, .methodref 10 28), (0, .nameAndType 5 29), (0, u "([CIILjava/lang/Void;)V"), (8, .fieldref 10 39), (0, .nameAndType 40 26), (0, u "COMPACT_STRINGS"), (1, .class_ 44), (1, u "java/lang/StringUTF16"), (0, u "compress"), (1, .methodref 42 48), (0, .nameAndType 49 50), (0, u "coderFromArrayLen"), (0, u "([BI)B"), (91, u "()Z"), (34, .methodref 42 178), (0, .nameAndType 45 179), (0, u "([CII)[B"), (154, u "()I"), (0, .methodref 10 336), (0, .nameAndType 17 337), (0, u "()B"), (169, u "length"), (35, u "equals"), (29, u "(Ljava/lang/Object;)Z"), (1, .class_ 576), (0, u "java/lang/CharSequence"), (22, u "CASE_INSENSITIVE_ORDER"), (0, u "Ljava/util/Comparator;"), (91, u "isEmpty"), (317, u "([C)V"), (90, u "serialPersistentFields"), (0, u "[Ljava/io/ObjectStreamField;"), (0, .class_ 1104), (0, u "java/lang/String$CaseInsensitiveComparator"), (1, .class_ 1107), (0, u "java/io/Serializable"), (0, .class_ 1109), (0, u "java/lang/Comparable"), (0, .class_ 1111), (0, u "java/lang/constant/Constable"), (0, .class_ 1113), (0, u "java/lang/constant/ConstantDesc"), (2, u "serialVersionUID"), (0, u "J"), (3, u "REPL"), (0, u "C"), (2, u "LATIN1"), (1, u "UTF16")] 323

def k7m0 : Method := { name := "<init>", desc := "()V", sig := { parameters := [], returnType := none }, accessFlags := 1, code := none }
def k7c1 : Code := { maxStack := 5, maxLocals := 2, code := jdk_42_method_3_code, exceptionTable := #[], attributes := #[] }
def k7m1 : Method := { name := "<init>", desc := "([C)V", sig := { parameters := [(.array .char)], returnType := none }, accessFlags := 1, code := some k7c1 }
def k7c2 : Code := { maxStack := 2, maxLocals := 1, code := jdk_42_method_54_code, exceptionTable := #[], attributes := #[] }
def k7m2 : Method := { name := "length", desc := "()I", sig := { parameters := [], returnType := some .int }, accessFlags := 1, code := some k7c2 }
def k7c3 : Code := { maxStack := 1, maxLocals := 1, code := jdk_42_method_55_code, exceptionTable := #[], attributes := #[] }
def k7m3 : Method := { name := "isEmpty", desc := "()Z", sig := { parameters := [], returnType := some .boolean }, accessFlags := 1, code := some k7c3 }
def k7c4 : Code := { maxStack := 2, maxLocals := 3, code := jdk_42_method_66_code, exceptionTable := #[], attributes := #[] }
def k7m4 : Method := { name := "equals", desc := "(Ljava/lang/Object;)Z", sig := { parameters := [(.object "java/lang/Object")], returnType := some .boolean }, accessFlags := 1, code := some k7c4 }
def k7c5 : Code := { maxStack := 4, maxLocals := 6, code := jdk_42_method_149_code, exceptionTable := #[], attributes := #[] }
def k7m5 : Method := { name := "<init>", desc := "([CIILjava/lang/Void;)V", sig := { parameters := [(.array .char), .int, .int, (.object "java/lang/Void")], returnType := none }, accessFlags := 2, code := some k7c5 }
def k7c6 : Code := { maxStack := 1, maxLocals := 1, code := jdk_42_method_152_code, exceptionTable := #[], attributes := #[] }
def k7m6 : Method := { name := "coder", desc := "()B", sig := { parameters := [], returnType := some .byte }, accessFlags := 0, code := some k7c6 }
/-- java/lang/String -/
def k7 : Class := { plain "java/lang/String" (some 0) with
  accessFlags := 49
  interfaces := #[2, 3, 4, 5, 6]
  cf := some (fileOf pool7 10 #[.nestMembers #[1103]] #[{ accessFlags := 1, nameIndex := 5, descriptorIndex := 6, attributes := #[] }, { accessFlags := 1, nameIndex := 5, descriptorIndex := 1010, attributes := #[] }, { accessFlags := 1, nameIndex := 507, descriptorIndex := 334, attributes := #[] }, { accessFlags := 1, nameIndex := 692, descriptorIndex := 142, attributes := #[] }, { accessFlags := 1, nameIndex := 543, descriptorIndex := 573, attributes := #[] }, { accessFlags := 2, nameIndex := 5, descriptorIndex := 29, attributes := #[] }, { accessFlags := 0, nameIndex := 17, descriptorIndex := 337, attributes := #[] }] 49 2 #[1106, 1108, 575, 1110, 1112] #[{ accessFlags := 18, nameIndex := 13, descriptorIndex := 14, attributes := #[] }, { accessFlags := 18, nameIndex := 17, descriptorIndex := 18, attributes := #[] }, { accessFlags := 2, nameIndex := 21, descriptorIndex := 22, attributes := #[] }, { accessFlags := 2, nameIndex := 25, descriptorIndex := 26, attributes := #[] }, { accessFlags := 26, nameIndex := 1116, descriptorIndex := 1117, attributes := #[] }, { accessFlags := 24, nameIndex := 40, descriptorIndex := 26, attributes := #[] }, { accessFlags := 26, nameIndex := 1101, descriptorIndex := 1102, attributes := #[] }, { accessFlags := 26, nameIndex := 1121, descriptorIndex := 1122, attributes := #[] }, { accessFlags := 25, nameIndex := 599, descriptorIndex := 600, attributes := #[] }, { accessFlags := 24, nameIndex := 1125, descriptorIndex := 18, attributes := #[] }, { accessFlags := 24, nameIndex := 1127, descriptorIndex := 18, attributes := #[] }])
  fields := #[{ name := "value", type := (.array .byte), accessFlags := 18, slot := 0, constantValue := 0 }, { name := "coder", type := .byte, accessFlags := 18, slot := 1, constantValue := 0 }, { name := "hash", type := .int, accessFlags := 2, slot := 2, constantValue := 0 }, { name := "hashIsZero", type := .boolean, accessFlags := 2, slot := 3, constantValue := 0 }, { name := "serialVersionUID", type := .long, accessFlags := 26, slot := 0, constantValue := 0 }, { name := "COMPACT_STRINGS", type := .boolean, accessFlags := 24, slot := 1, constantValue := 0 }, { name := "serialPersistentFields", type := (.array (.object "java/io/ObjectStreamField")), accessFlags := 26, slot := 2, constantValue := 0 }, { name := "REPL", type := .char, accessFlags := 26, slot := 3, constantValue := 0 }, { name := "CASE_INSENSITIVE_ORDER", type := (.object "java/util/Comparator"), accessFlags := 25, slot := 4, constantValue := 0 }, { name := "LATIN1", type := .byte, accessFlags := 24, slot := 5, constantValue := 0 }, { name := "UTF16", type := .byte, accessFlags := 24, slot := 6, constantValue := 0 }]
  methods := #[k7m0, k7m1, k7m2, k7m3, k7m4, k7m5, k7m6]
  instanceTypes := #[(.array .byte), .byte, .int, .boolean]
  staticTypes := #[.long, .boolean, (.array (.object "java/io/ObjectStreamField")), .char, (.object "java/util/Comparator"), .byte, .byte]
  resolved := Array.replicate 1451 none
  statics := some 0 }

def pool8 : Array CpInfo := pool [(6, .class_ 8), (1, u "java/lang/Object"), (0, u "<init>"), (0, u "()V"), (0, .methodref 12 13), (0, .class_ 14), (0, .nameAndType 15 16), (0, u "java/lang/StringUTF16"), (0, u "newBytesLength"), (0, u "(I)I"), (3, .integer 1073741823), (23, .fieldref 12 45), (0, .nameAndType 46 47), (0, u "$assertionsDisabled"), (0, u "Z"), (11, .fieldref 12 60), (0, .nameAndType 61 62), (0, u "HI_BYTE_SHIFT"), (0, u "I"), (0, .fieldref 12 64), (0, .nameAndType 65 62), (0, u "LO_BYTE_SHIFT"), (5, .methodref 12 72), (0, .nameAndType 73 74), (0, u "getChar"), (0, u "([BI)C"), (32, .methodref 12 108), (0, .nameAndType 109 110), (0, u "newBytesFor"), (0, u "(I)[B"), (0, .methodref 12 112), (0, .nameAndType 113 114), (0, u "putChar"), (0, u "([BII)V"), (0, .methodref 12 116), (0, .nameAndType 117 118), (0, u "compress"), (0, u "([CI[BII)I"), (0, .methodref 12 120), (0, .nameAndType 121 122), (0, u "toBytes"), (0, u "([CII)[B"), (138, u "coderFromArrayLen"), (0, u "([BI)B"), (106, .class_ 371), (1, u "java/lang/StringUTF16$LinesSpliterator"), (58, u "MAX_LENGTH"), (196, .class_ 628), (0, u "java/lang/StringUTF16$CodePointsSpliterator"), (0, .class_ 630), (0, u "java/lang/StringUTF16$CharsSpliterator")] 4

def k8m0 : Method := { name := "<init>", desc := "()V", sig := { parameters := [], returnType := none }, accessFlags := 0, code := none }
def k8c1 : Code := { maxStack := 1, maxLocals := 1, code := jdk_52_method_2_code, exceptionTable := #[], attributes := #[] }
def k8m1 : Method := { name := "newBytesFor", desc := "(I)[B", sig := { parameters := [.int], returnType := some (.array .byte) }, accessFlags := 9, code := some k8c1 }
def k8c2 : Code := { maxStack := 4, maxLocals := 1, code := jdk_52_method_3_code, exceptionTable := #[], attributes := #[] }
def k8m2 : Method := { name := "newBytesLength", desc := "(I)I", sig := { parameters := [.int], returnType := some .int }, accessFlags := 9, code := some k8c2 }
def k8c3 : Code := { maxStack := 4, maxLocals := 3, code := jdk_52_method_4_code, exceptionTable := #[], attributes := #[] }
def k8m3 : Method := { name := "putChar", desc := "([BII)V", sig := { parameters := [(.array .byte), .int, .int], returnType := none }, accessFlags := 8, code := some k8c3 }
def k8c4 : Code := { maxStack := 3, maxLocals := 2, code := jdk_52_method_5_code, exceptionTable := #[], attributes := #[] }
def k8m4 : Method := { name := "getChar", desc := "([BI)C", sig := { parameters := [(.array .byte), .int], returnType := some .char }, accessFlags := 8, code := some k8c4 }
def k8c5 : Code := { maxStack := 4, maxLocals := 5, code := jdk_52_method_14_code, exceptionTable := #[], attributes := #[] }
def k8m5 : Method := { name := "toBytes", desc := "([CII)[B", sig := { parameters := [(.array .char), .int, .int], returnType := some (.array .byte) }, accessFlags := 9, code := some k8c5 }
def k8c6 : Code := { maxStack := 2, maxLocals := 2, code := jdk_52_method_15_code, exceptionTable := #[], attributes := #[] }
def k8m6 : Method := { name := "coderFromArrayLen", desc := "([BI)B", sig := { parameters := [(.array .byte), .int], returnType := some .byte }, accessFlags := 8, code := some k8c6 }
def k8c7 : Code := { maxStack := 5, maxLocals := 6, code := jdk_52_method_16_code, exceptionTable := #[], attributes := #[] }
def k8m7 : Method := { name := "compress", desc := "([CII)[B", sig := { parameters := [(.array .char), .int, .int], returnType := some (.array .byte) }, accessFlags := 9, code := some k8c7 }
def k8c8 : Code := { maxStack := 3, maxLocals := 7, code := jdk_52_method_21_code, exceptionTable := #[], attributes := #[] }
def k8m8 : Method := { name := "compress", desc := "([CI[BII)I", sig := { parameters := [(.array .char), .int, (.array .byte), .int, .int], returnType := some .int }, accessFlags := 9, code := some k8c8 }
/-- java/lang/StringUTF16 -/
def k8 : Class := { plain "java/lang/StringUTF16" (some 0) with
  accessFlags := 48
  interfaces := #[]
  cf := some (fileOf pool8 12 #[.nestMembers #[627, 629, 369]] #[{ accessFlags := 0, nameIndex := 9, descriptorIndex := 10, attributes := #[] }, { accessFlags := 9, nameIndex := 109, descriptorIndex := 110, attributes := #[] }, { accessFlags := 9, nameIndex := 15, descriptorIndex := 16, attributes := #[] }, { accessFlags := 8, nameIndex := 113, descriptorIndex := 114, attributes := #[] }, { accessFlags := 8, nameIndex := 73, descriptorIndex := 74, attributes := #[] }, { accessFlags := 9, nameIndex := 121, descriptorIndex := 122, attributes := #[] }, { accessFlags := 8, nameIndex := 261, descriptorIndex := 262, attributes := #[] }, { accessFlags := 9, nameIndex := 117, descriptorIndex := 122, attributes := #[] }, { accessFlags := 9, nameIndex := 117, descriptorIndex := 118, attributes := #[] }] 48 6 #[] #[{ accessFlags := 26, nameIndex := 61, descriptorIndex := 62, attributes := #[] }, { accessFlags := 26, nameIndex := 65, descriptorIndex := 62, attributes := #[] }, { accessFlags := 24, nameIndex := 430, descriptorIndex := 62, attributes := #[] }, { accessFlags := 4120, nameIndex := 46, descriptorIndex := 47, attributes := #[] }])
  fields := #[{ name := "HI_BYTE_SHIFT", type := .int, accessFlags := 26, slot := 0, constantValue := 0 }, { name := "LO_BYTE_SHIFT", type := .int, accessFlags := 26, slot := 1, constantValue := 0 }, { name := "MAX_LENGTH", type := .int, accessFlags := 24, slot := 2, constantValue := 0 }, { name := "$assertionsDisabled", type := .boolean, accessFlags := 4120, slot := 3, constantValue := 0 }]
  methods := #[k8m0, k8m1, k8m2, k8m3, k8m4, k8m5, k8m6, k8m7, k8m8]
  instanceTypes := #[]
  staticTypes := #[.int, .int, .int, .boolean]
  resolved := Array.replicate 635 none
  statics := some 1 }

def pool9 : Array CpInfo := pool [(4, .class_ 6), (1, u "java/lang/Object"), (0, u "<init>"), (0, u "()V"), (26, .class_ 37), (1, u "com/example/inchworm/inchworm/InputFiles"), (5, .class_ 45), (1, u "java/lang/String"), (41, .methodref 43 88), (0, .nameAndType 89 90), (0, u "isEmpty"), (0, u "()Z"), (108, u "(Ljava/lang/String;Ljava/lang/String;)Ljava/lang/String;"), (1, u "BYTE_ORDER_MARK"), (0, u "C"), (1, u "NOT_COMMON"), (0, u "J"), (14, u "named")] 46

def k9m0 : Method := { name := "<init>", desc := "()V", sig := { parameters := [], returnType := none }, accessFlags := 2, code := none }
def k9c1 : Code := { maxStack := 3, maxLocals := 2, code := prog_15_method_7_code, exceptionTable := #[], attributes := #[] }
def k9m1 : Method := { name := "named", desc := "(Ljava/lang/String;Ljava/lang/String;)Ljava/lang/String;", sig := { parameters := [(.object "java/lang/String"), (.object "java/lang/String")], returnType := some (.object "java/lang/String") }, accessFlags := 8, code := some k9c1 }
/-- com/example/inchworm/inchworm/InputFiles -/
def k9 : Class := { plain "com/example/inchworm/inchworm/InputFiles" (some 0) with
  accessFlags := 32
  interfaces := #[]
  cf := some (fileOf pool9 35 #[] #[{ accessFlags := 2, nameIndex := 7, descriptorIndex := 8, attributes := #[] }, { accessFlags := 8, nameIndex := 220, descriptorIndex := 199, attributes := #[] }] 32 4 #[] #[{ accessFlags := 24, nameIndex := 201, descriptorIndex := 202, attributes := #[] }, { accessFlags := 26, nameIndex := 204, descriptorIndex := 205, attributes := #[] }])
  fields := #[{ name := "BYTE_ORDER_MARK", type := .char, accessFlags := 24, slot := 0, constantValue := 0 }, { name := "NOT_COMMON", type := .long, accessFlags := 26, slot := 1, constantValue := 0 }]
  methods := #[k9m0, k9m1]
  instanceTypes := #[]
  staticTypes := #[.char, .long]
  resolved := Array.replicate 267 none
  statics := none }

def pool10 : Array CpInfo := pool [(4, .class_ 6), (1, u "java/lang/Object"), (0, u "<init>"), (0, u "()V"), (5, .class_ 16), (1, u "java/lang/StringLatin1"), (104, u "$assertionsDisabled"), (0, u "Z"), (98, .class_ 223), (1, u "java/lang/StringLatin1$LinesSpliterator"), (166, .class_ 391), (0, u "java/lang/StringLatin1$CharsSpliterator")] 3

def k10m0 : Method := { name := "<init>", desc := "()V", sig := { parameters := [], returnType := none }, accessFlags := 0, code := none }
/-- java/lang/StringLatin1 -/
def k10 : Class := { plain "java/lang/StringLatin1" (some 0) with
  accessFlags := 48
  interfaces := #[]
  cf := some (fileOf pool10 14 #[.nestMembers #[390, 221]] #[{ accessFlags := 0, nameIndex := 7, descriptorIndex := 8, attributes := #[] }] 48 4 #[] #[{ accessFlags := 4120, nameIndex := 121, descriptorIndex := 122, attributes := #[] }])
  fields := #[{ name := "$assertionsDisabled", type := .boolean, accessFlags := 4120, slot := 0, constantValue := 0 }]
  methods := #[k10m0]
  instanceTypes := #[]
  staticTypes := #[.boolean]
  resolved := Array.replicate 395 none
  statics := none }

def pool11 : Array CpInfo := pool [(2, .class_ 4), (1, u "java/lang/Object"), (0, u "<init>"), (0, u "()V"), (17, .class_ 26), (1, u "jdk/internal/util/Preconditions"), (28, .class_ 56), (0, u "jdk/internal/util/Preconditions$4"), (57, .class_ 115), (0, u "jdk/internal/util/Preconditions$1"), (7, u "SIOOBE_FORMATTER"), (0, u "Ljava/util/function/BiFunction;"), (0, .class_ 126), (0, u "jdk/internal/util/Preconditions$2"), (3, u "AIOOBE_FORMATTER"), (0, .class_ 132), (0, u "jdk/internal/util/Preconditions$3"), (3, u "IOOBE_FORMATTER")] 57

def k11m0 : Method := { name := "<init>", desc := "()V", sig := { parameters := [], returnType := none }, accessFlags := 1, code := none }
/-- jdk/internal/util/Preconditions -/
def k11 : Class := { plain "jdk/internal/util/Preconditions" (some 0) with
  accessFlags := 33
  interfaces := #[]
  cf := some (fileOf pool11 24 #[.nestMembers #[55, 131, 125, 114]] #[{ accessFlags := 1, nameIndex := 5, descriptorIndex := 6, attributes := #[] }] 33 2 #[] #[{ accessFlags := 25, nameIndex := 123, descriptorIndex := 124, attributes := #[] }, { accessFlags := 25, nameIndex := 130, descriptorIndex := 124, attributes := #[] }, { accessFlags := 25, nameIndex := 136, descriptorIndex := 124, attributes := #[] }])
  fields := #[{ name := "SIOOBE_FORMATTER", type := (.object "java/util/function/BiFunction"), accessFlags := 25, slot := 0, constantValue := 0 }, { name := "AIOOBE_FORMATTER", type := (.object "java/util/function/BiFunction"), accessFlags := 25, slot := 1, constantValue := 0 }, { name := "IOOBE_FORMATTER", type := (.object "java/util/function/BiFunction"), accessFlags := 25, slot := 2, constantValue := 0 }]
  methods := #[k11m0]
  instanceTypes := #[]
  staticTypes := #[(.object "java/util/function/BiFunction"), (.object "java/util/function/BiFunction"), (.object "java/util/function/BiFunction")]
  resolved := Array.replicate 194 none
  statics := some 2 }

def pool12 : Array CpInfo := pool [(9, u "<init>"), (6, .class_ 18), (1, u "java/lang/Object"), (0, u "()V"), (1, .class_ 23), (1, u "jdk/internal/util/ArraysSupport"), (0, u "LOG2_ARRAY_LONG_INDEX_SCALE"), (0, u "I"), (2, u "U"), (0, u "Ljdk/internal/misc/Unsafe;"), (8, u "BIG_ENDIAN"), (0, u "Z"), (8, u "LOG2_BYTE_BIT_SIZE"), (4, u "LOG2_ARRAY_INT_INDEX_SCALE"), (54, u "JLA"), (0, u "Ljdk/internal/access/JavaLangAccess;"), (11, u "LOG2_ARRAY_BOOLEAN_INDEX_SCALE"), (9, u "LOG2_ARRAY_BYTE_INDEX_SCALE"), (5, u "LOG2_ARRAY_CHAR_INDEX_SCALE"), (5, u "LOG2_ARRAY_SHORT_INDEX_SCALE"), (18, u "LOG2_ARRAY_FLOAT_INDEX_SCALE"), (24, u "LOG2_ARRAY_DOUBLE_INDEX_SCALE"), (89, u "T_BOOLEAN"), (2, u "T_CHAR"), (1, u "T_FLOAT"), (1, u "T_DOUBLE"), (1, u "T_BYTE"), (1, u "T_SHORT"), (1, u "T_INT"), (1, u "T_LONG"), (1, u "SOFT_MAX_ARRAY_LENGTH")] 83

def k12m0 : Method := { name := "<init>", desc := "()V", sig := { parameters := [], returnType := none }, accessFlags := 2, code := none }
/-- jdk/internal/util/ArraysSupport -/
def k12 : Class := { plain "jdk/internal/util/ArraysSupport" (some 0) with
  accessFlags := 33
  interfaces := #[]
  cf := some (fileOf pool12 21 #[] #[{ accessFlags := 2, nameIndex := 9, descriptorIndex := 19, attributes := #[] }] 33 16 #[] #[{ accessFlags := 24, nameIndex := 28, descriptorIndex := 29, attributes := #[] }, { accessFlags := 26, nameIndex := 38, descriptorIndex := 39, attributes := #[] }, { accessFlags := 25, nameIndex := 121, descriptorIndex := 25, attributes := #[] }, { accessFlags := 25, nameIndex := 131, descriptorIndex := 25, attributes := #[] }, { accessFlags := 25, nameIndex := 137, descriptorIndex := 25, attributes := #[] }, { accessFlags := 25, nameIndex := 143, descriptorIndex := 25, attributes := #[] }, { accessFlags := 25, nameIndex := 53, descriptorIndex := 25, attributes := #[] }, { accessFlags := 25, nameIndex := 24, descriptorIndex := 25, attributes := #[] }, { accessFlags := 25, nameIndex := 162, descriptorIndex := 25, attributes := #[] }, { accessFlags := 25, nameIndex := 187, descriptorIndex := 25, attributes := #[] }, { accessFlags := 26, nameIndex := 48, descriptorIndex := 25, attributes := #[] }, { accessFlags := 25, nameIndex := 277, descriptorIndex := 25, attributes := #[] }, { accessFlags := 25, nameIndex := 280, descriptorIndex := 25, attributes := #[] }, { accessFlags := 25, nameIndex := 282, descriptorIndex := 25, attributes := #[] }, { accessFlags := 25, nameIndex := 284, descriptorIndex := 25, attributes := #[] }, { accessFlags := 25, nameIndex := 286, descriptorIndex := 25, attributes := #[] }, { accessFlags := 25, nameIndex := 288, descriptorIndex := 25, attributes := #[] }, { accessFlags := 25, nameIndex := 290, descriptorIndex := 25, attributes := #[] }, { accessFlags := 25, nameIndex := 292, descriptorIndex := 25, attributes := #[] }, { accessFlags := 26, nameIndex := 108, descriptorIndex := 109, attributes := #[] }, { accessFlags := 25, nameIndex := 294, descriptorIndex := 25, attributes := #[] }])
  fields := #[{ name := "U", type := (.object "jdk/internal/misc/Unsafe"), accessFlags := 24, slot := 0, constantValue := 0 }, { name := "BIG_ENDIAN", type := .boolean, accessFlags := 26, slot := 1, constantValue := 0 }, { name := "LOG2_ARRAY_BOOLEAN_INDEX_SCALE", type := .int, accessFlags := 25, slot := 2, constantValue := 0 }, { name := "LOG2_ARRAY_BYTE_INDEX_SCALE", type := .int, accessFlags := 25, slot := 3, constantValue := 0 }, { name := "LOG2_ARRAY_CHAR_INDEX_SCALE", type := .int, accessFlags := 25, slot := 4, constantValue := 0 }, { name := "LOG2_ARRAY_SHORT_INDEX_SCALE", type := .int, accessFlags := 25, slot := 5, constantValue := 0 }, { name := "LOG2_ARRAY_INT_INDEX_SCALE", type := .int, accessFlags := 25, slot := 6, constantValue := 0 }, { name := "LOG2_ARRAY_LONG_INDEX_SCALE", type := .int, accessFlags := 25, slot := 7, constantValue := 0 }, { name := "LOG2_ARRAY_FLOAT_INDEX_SCALE", type := .int, accessFlags := 25, slot := 8, constantValue := 0 }, { name := "LOG2_ARRAY_DOUBLE_INDEX_SCALE", type := .int, accessFlags := 25, slot := 9, constantValue := 0 }, { name := "LOG2_BYTE_BIT_SIZE", type := .int, accessFlags := 26, slot := 10, constantValue := 0 }, { name := "T_BOOLEAN", type := .int, accessFlags := 25, slot := 11, constantValue := 0 }, { name := "T_CHAR", type := .int, accessFlags := 25, slot := 12, constantValue := 0 }, { name := "T_FLOAT", type := .int, accessFlags := 25, slot := 13, constantValue := 0 }, { name := "T_DOUBLE", type := .int, accessFlags := 25, slot := 14, constantValue := 0 }, { name := "T_BYTE", type := .int, accessFlags := 25, slot := 15, constantValue := 0 }, { name := "T_SHORT", type := .int, accessFlags := 25, slot := 16, constantValue := 0 }, { name := "T_INT", type := .int, accessFlags := 25, slot := 17, constantValue := 0 }, { name := "T_LONG", type := .int, accessFlags := 25, slot := 18, constantValue := 0 }, { name := "JLA", type := (.object "jdk/internal/access/JavaLangAccess"), accessFlags := 26, slot := 19, constantValue := 0 }, { name := "SOFT_MAX_ARRAY_LENGTH", type := .int, accessFlags := 25, slot := 20, constantValue := 0 }]
  methods := #[k12m0]
  instanceTypes := #[]
  staticTypes := #[(.object "jdk/internal/misc/Unsafe"), .boolean, .int, .int, .int, .int, .int, .int, .int, .int, .int, .int, .int, .int, .int, .int, .int, .int, .int, (.object "jdk/internal/access/JavaLangAccess"), .int]
  resolved := Array.replicate 378 none
  statics := none }

def pool13 : Array CpInfo := pool [(1, u "java/lang/Cloneable"), (0, .class_ 1), (0, u "java/lang/Object"), (0, .class_ 3)] 3

/-- java/lang/Cloneable -/
def k13 : Class := { plain "java/lang/Cloneable" (some 0) with
  accessFlags := 1537
  interfaces := #[]
  cf := some (fileOf pool13 2 #[] #[] 1537 4 #[] #[])
  fields := #[]
  methods := #[]
  instanceTypes := #[]
  staticTypes := #[]
  resolved := Array.replicate 8 none
  statics := none }

/-- the primitive byte -/
def k14 : Class := { plain "byte" none with kind := .primitive 'B', accessFlags := 0x411 }
/-- [B -/
def k15 : Class := { plain "[B" (some 0) with kind := .array 14 .byte, interfaces := #[13, 2], accessFlags := 1041 }

/-- the primitive char -/
def k16 : Class := { plain "char" none with kind := .primitive 'C', accessFlags := 0x411 }
/-- [C -/
def k17 : Class := { plain "[C" (some 0) with kind := .array 16 .char, interfaces := #[13, 2], accessFlags := 1041 }

/-- the primitive int -/
def k18 : Class := { plain "int" none with kind := .primitive 'I', accessFlags := 0x411 }
/-- [I -/
def k19 : Class := { plain "[I" (some 0) with kind := .array 18 .int, interfaces := #[13, 2], accessFlags := 1041 }

def heap : Heap := #[{ cls := 7, slots := #[.long 0, .int 1, .null, .int 0, .null, .int 0, .int 0], vm := .statics 7 },
  { cls := 8, slots := #[.int 0, .int 8, .int 0, .int 1], vm := .statics 8 },
  { cls := 11, slots := #[.null, .null, .null], vm := .statics 11 }]
def classes : Array Class := #[k0, k1, k2, k3, k4, k5, k6, k7, k8, k9, k10, k11, k12, k13, k14, k15, k16, k17, k18, k19]
def interned : List (Array UInt16 × Addr) := []
def slotsUsed : Nat := 14
def theMethod : MethodId := ⟨1, 1⟩
def args0 : Array Value := #[.int 5, .int 66, .int 67, .int 68]
def aboutOver (below : List Frame) : State where
  vm := { classes := classes, interned := interned.toArray }
  heap := heap
  slotsUsed := slotsUsed
  threads := #[{ frames := .invoking theMethod args0 :: below }]
def below0 : List Frame := [.native { method := ⟨0, 0⟩, args := #[] }]
def about1 : State := aboutOver below0
def p0 : Program := .bare "" "" ""
def e0 : Env := launch0.env 0 0 0
theorem w_frames : about1.frames = Frame.invoking theMethod args0 :: below0 := rfl
set_option maxRecDepth 65536 in
theorem w_args : argsFit about1.vm theMethod args0 = true := by decide +kernel
set_option maxRecDepth 65536 in
theorem w_heap : heapFits about1 = true := by decide +kernel
set_option maxRecDepth 65536 in
theorem w_runnable : about1.curStatus? = some .runnable := by decide +kernel
set_option maxRecDepth 65536 in
theorem w_alone : about1.alone = true := by decide +kernel
set_option maxRecDepth 65536 in
theorem w_named : about1.methodNamed? x = some theMethod := by decide +kernel
set_option maxRecDepth 65536 in
theorem w_hears : about1.hears theMethod below0 = true := by decide +kernel
set_option maxRecDepth 65536 in
theorem w_ripe : about1.ripe theMethod args0 below0 = true := by decide +kernel
theorem w_running : about1.status = .running := rfl
set_option maxRecDepth 65536 in
theorem w_room : about1.hasRoom e0.platform room_1 = true :=
  launch0.hasRoom_least _ room_1 (by decide +kernel) (by decide +kernel) (by decide +kernel) (by decide +kernel) (by decide +kernel) (by decide +kernel)
theorem allAtoms_all (ts : List Jvm.Cond) (a : Array Jvm.Value) (st : Jvm.State) : (allAtoms ts).before a st = ts.all (fun c => c.before a st) := by
  induction ts with
  | nil => rfl
  | cons c t ih =>
    show (Jvm.Cond.and c (allAtoms t)).before a st = _
    rw [Jvm.Cond.before_and, ih, List.all_cons]
def words1 : List Jvm.Cond := Jvm.Cond.code x code maxLocals ret :: tables_1
/-- a 'code' word, met by the world's own term for the bytes: nothing is compared byte by byte -/
theorem code_word {y : MethodName} {bytes : ByteArray} {mx : Nat} {rt : Option FieldType} {a : Array Value} {s : State} {m : MethodId} {meth : Method} {c : Code} (h1 : s.methodNamed? y = some m) (h2 : s.vm.method? m = some meth) (h3 : meth.code = some c) (h4 : c.code = bytes)
    (h5 : (c.maxLocals == mx && c.exceptionTable.isEmpty && decide (c.maxStack ≤ mostOperands) && decide (meth.sig.returnType = rt) && !meth.locks && decide (parseMethodDescriptor y.desc = some meth.sig)) = true) : (Jvm.Cond.code y bytes mx rt).before a s = true := by
  simp only [Bool.and_eq_true, beq_iff_eq, Bool.not_eq_true', decide_eq_true_eq] at h5
  obtain ⟨⟨⟨⟨⟨g1, g2⟩, g3⟩, g4⟩, g5⟩, g6⟩ := h5
  simp [Cond.before, Cond.holds, Cond.value, h1, h2, h3, h4, g1, g2, g3, g4, g5, g6]
def isCode : Jvm.Cond → Bool
  | .code _ _ _ _ => true
  | _ => false
theorem all_split {L : List Jvm.Cond} {P : Jvm.Cond → Bool} (h1 : L.all (fun c => isCode c || P c) = true) (h2 : ∀ c ∈ L.filter isCode, P c = true) : L.all P = true := by
  refine List.all_eq_true.mpr fun c hc => ?_
  have h := List.all_eq_true.mp h1 c hc
  rcases Bool.eq_false_or_eq_true (isCode c) with hi | hi
  · exact h2 c (List.mem_filter.mpr ⟨hc, hi⟩)
  · simpa [hi] using h
set_option maxRecDepth 65536 in
theorem w_c0 : (Jvm.Cond.code x code maxLocals ret).before args0 about1 = true := code_word (m := ⟨1, 1⟩) (meth := k1m1) (c := k1c1) (by decide +kernel) rfl rfl rfl (by decide +kernel)
set_option maxRecDepth 65536 in
theorem w_c1 : (Jvm.Cond.code ({ cls := "java/lang/String", name := "<init>", desc := "([C)V" } : Jvm.MethodName) jdk_42_method_3_code (2 : Nat) (Option.none : Option Jvm.ClassFile.FieldType)).before args0 about1 = true := code_word (m := ⟨7, 1⟩) (meth := k7m1) (c := k7c1) (by decide +kernel) rfl rfl rfl (by decide +kernel)
set_option maxRecDepth 65536 in
theorem w_c2 : (Jvm.Cond.code ({ cls := "java/lang/String", name := "<init>", desc := "([CIILjava/lang/Void;)V" } : Jvm.MethodName) jdk_42_method_149_code (6 : Nat) (Option.none : Option Jvm.ClassFile.FieldType)).before args0 about1 = true := code_word (m := ⟨7, 5⟩) (meth := k7m5) (c := k7c5) (by decide +kernel) rfl rfl rfl (by decide +kernel)
set_option maxRecDepth 65536 in
theorem w_c3 : (Jvm.Cond.code ({ cls := "java/lang/Object", name := "<init>", desc := "()V" } : Jvm.MethodName) object_method_1_code (1 : Nat) (Option.none : Option Jvm.ClassFile.FieldType)).before args0 about1 = true := code_word (m := ⟨0, 0⟩) (meth := k0m0) (c := k0c0) (by decide +kernel) rfl rfl rfl (by decide +kernel)
set_option maxRecDepth 65536 in
theorem w_c4 : (Jvm.Cond.code ({ cls := "java/lang/StringUTF16", name := "compress", desc := "([CII)[B" } : Jvm.MethodName) jdk_52_method_16_code (6 : Nat) (Option.some (Jvm.ClassFile.FieldType.array Jvm.ClassFile.FieldType.byte))).before args0 about1 = true := code_word (m := ⟨8, 7⟩) (meth := k8m7) (c := k8c7) (by decide +kernel) rfl rfl rfl (by decide +kernel)
set_option maxRecDepth 65536 in
theorem w_c5 : (Jvm.Cond.code ({ cls := "java/lang/StringUTF16", name := "compress", desc := "([CI[BII)I" } : Jvm.MethodName) jdk_52_method_21_code (7 : Nat) (Option.some Jvm.ClassFile.FieldType.int)).before args0 about1 = true := code_word (m := ⟨8, 8⟩) (meth := k8m8) (c := k8c8) (by decide +kernel) rfl rfl rfl (by decide +kernel)
set_option maxRecDepth 65536 in
theorem w_c6 : (Jvm.Cond.code ({ cls := "java/lang/StringUTF16", name := "coderFromArrayLen", desc := "([BI)B" } : Jvm.MethodName) jdk_52_method_15_code (2 : Nat) (Option.some Jvm.ClassFile.FieldType.byte)).before args0 about1 = true := code_word (m := ⟨8, 6⟩) (meth := k8m6) (c := k8c6) (by decide +kernel) rfl rfl rfl (by decide +kernel)
set_option maxRecDepth 65536 in
theorem w_c7 : (Jvm.Cond.code ({ cls := "com/example/inchworm/inchworm/InputFiles", name := "named", desc := "(Ljava/lang/String;Ljava/lang/String;)Ljava/lang/String;" } : Jvm.MethodName) prog_15_method_7_code (2 : Nat) (Option.some (Jvm.ClassFile.FieldType.object "java/lang/String"))).before args0 about1 = true := code_word (m := ⟨9, 1⟩) (meth := k9m1) (c := k9c1) (by decide +kernel) rfl rfl rfl (by decide +kernel)
set_option maxRecDepth 65536 in
theorem w_c8 : (Jvm.Cond.code ({ cls := "java/lang/String", name := "isEmpty", desc := "()Z" } : Jvm.MethodName) jdk_42_method_55_code (1 : Nat) (Option.some Jvm.ClassFile.FieldType.boolean)).before args0 about1 = true := code_word (m := ⟨7, 3⟩) (meth := k7m3) (c := k7c3) (by decide +kernel) rfl rfl rfl (by decide +kernel)
set_option maxRecDepth 65536 in
theorem w_c9 : (Jvm.Cond.code ({ cls := "java/lang/String", name := "length", desc := "()I" } : Jvm.MethodName) jdk_42_method_54_code (1 : Nat) (Option.some Jvm.ClassFile.FieldType.int)).before args0 about1 = true := code_word (m := ⟨7, 2⟩) (meth := k7m2) (c := k7c2) (by decide +kernel) rfl rfl rfl (by decide +kernel)
set_option maxRecDepth 65536 in
theorem w_c10 : (Jvm.Cond.code ({ cls := "java/lang/String", name := "coder", desc := "()B" } : Jvm.MethodName) jdk_42_method_152_code (1 : Nat) (Option.some Jvm.ClassFile.FieldType.byte)).before args0 about1 = true := code_word (m := ⟨7, 6⟩) (meth := k7m6) (c := k7c6) (by decide +kernel) rfl rfl rfl (by decide +kernel)
set_option maxRecDepth 65536 in
theorem w_c11 : (Jvm.Cond.code ({ cls := "java/lang/String", name := "equals", desc := "(Ljava/lang/Object;)Z" } : Jvm.MethodName) jdk_42_method_66_code (3 : Nat) (Option.some Jvm.ClassFile.FieldType.boolean)).before args0 about1 = true := code_word (m := ⟨7, 4⟩) (meth := k7m4) (c := k7c4) (by decide +kernel) rfl rfl rfl (by decide +kernel)
set_option maxRecDepth 65536 in
theorem w_c12 : (Jvm.Cond.code ({ cls := "java/lang/StringUTF16", name := "toBytes", desc := "([CII)[B" } : Jvm.MethodName) jdk_52_method_14_code (5 : Nat) (Option.some (Jvm.ClassFile.FieldType.array Jvm.ClassFile.FieldType.byte))).before args0 about1 = true := code_word (m := ⟨8, 5⟩) (meth := k8m5) (c := k8c5) (by decide +kernel) rfl rfl rfl (by decide +kernel)
set_option maxRecDepth 65536 in
theorem w_c13 : (Jvm.Cond.code ({ cls := "java/lang/StringUTF16", name := "newBytesFor", desc := "(I)[B" } : Jvm.MethodName) jdk_52_method_2_code (1 : Nat) (Option.some (Jvm.ClassFile.FieldType.array Jvm.ClassFile.FieldType.byte))).before args0 about1 = true := code_word (m := ⟨8, 1⟩) (meth := k8m1) (c := k8c1) (by decide +kernel) rfl rfl rfl (by decide +kernel)
set_option maxRecDepth 65536 in
theorem w_c14 : (Jvm.Cond.code ({ cls := "java/lang/StringUTF16", name := "newBytesLength", desc := "(I)I" } : Jvm.MethodName) jdk_52_method_3_code (1 : Nat) (Option.some Jvm.ClassFile.FieldType.int)).before args0 about1 = true := code_word (m := ⟨8, 2⟩) (meth := k8m2) (c := k8c2) (by decide +kernel) rfl rfl rfl (by decide +kernel)
set_option maxRecDepth 65536 in
theorem w_c15 : (Jvm.Cond.code ({ cls := "java/lang/StringUTF16", name := "putChar", desc := "([BII)V" } : Jvm.MethodName) jdk_52_method_4_code (3 : Nat) (Option.none : Option Jvm.ClassFile.FieldType)).before args0 about1 = true := code_word (m := ⟨8, 3⟩) (meth := k8m3) (c := k8c3) (by decide +kernel) rfl rfl rfl (by decide +kernel)
set_option maxRecDepth 65536 in
theorem w_c16 : (Jvm.Cond.code ({ cls := "java/lang/StringUTF16", name := "getChar", desc := "([BI)C" } : Jvm.MethodName) jdk_52_method_5_code (2 : Nat) (Option.some Jvm.ClassFile.FieldType.char)).before args0 about1 = true := code_word (m := ⟨8, 4⟩) (meth := k8m4) (c := k8c4) (by decide +kernel) rfl rfl rfl (by decide +kernel)
def codes1 : List Jvm.Cond := [Jvm.Cond.code x code maxLocals ret, Jvm.Cond.code ({ cls := "java/lang/String", name := "<init>", desc := "([C)V" } : Jvm.MethodName) jdk_42_method_3_code (2 : Nat) (Option.none : Option Jvm.ClassFile.FieldType), Jvm.Cond.code ({ cls := "java/lang/String", name := "<init>", desc := "([CIILjava/lang/Void;)V" } : Jvm.MethodName) jdk_42_method_149_code (6 : Nat) (Option.none : Option Jvm.ClassFile.FieldType), Jvm.Cond.code ({ cls := "java/lang/Object", name := "<init>", desc := "()V" } : Jvm.MethodName) object_method_1_code (1 : Nat) (Option.none : Option Jvm.ClassFile.FieldType), Jvm.Cond.code ({ cls := "java/lang/StringUTF16", name := "compress", desc := "([CII)[B" } : Jvm.MethodName) jdk_52_method_16_code (6 : Nat) (Option.some (Jvm.ClassFile.FieldType.array Jvm.ClassFile.FieldType.byte)), Jvm.Cond.code ({ cls := "java/lang/StringUTF16", name := "compress", desc := "([CI[BII)I" } : Jvm.MethodName) jdk_52_method_21_code (7 : Nat) (Option.some Jvm.ClassFile.FieldType.int), Jvm.Cond.code ({ cls := "java/lang/StringUTF16", name := "coderFromArrayLen", desc := "([BI)B" } : Jvm.MethodName) jdk_52_method_15_code (2 : Nat) (Option.some Jvm.ClassFile.FieldType.byte), Jvm.Cond.code ({ cls := "com/example/inchworm/inchworm/InputFiles", name := "named", desc := "(Ljava/lang/String;Ljava/lang/String;)Ljava/lang/String;" } : Jvm.MethodName) prog_15_method_7_code (2 : Nat) (Option.some (Jvm.ClassFile.FieldType.object "java/lang/String")), Jvm.Cond.code ({ cls := "java/lang/String", name := "isEmpty", desc := "()Z" } : Jvm.MethodName) jdk_42_method_55_code (1 : Nat) (Option.some Jvm.ClassFile.FieldType.boolean), Jvm.Cond.code ({ cls := "java/lang/String", name := "length", desc := "()I" } : Jvm.MethodName) jdk_42_method_54_code (1 : Nat) (Option.some Jvm.ClassFile.FieldType.int), Jvm.Cond.code ({ cls := "java/lang/String", name := "coder", desc := "()B" } : Jvm.MethodName) jdk_42_method_152_code (1 : Nat) (Option.some Jvm.ClassFile.FieldType.byte), Jvm.Cond.code ({ cls := "java/lang/String", name := "equals", desc := "(Ljava/lang/Object;)Z" } : Jvm.MethodName) jdk_42_method_66_code (3 : Nat) (Option.some Jvm.ClassFile.FieldType.boolean), Jvm.Cond.code ({ cls := "java/lang/StringUTF16", name := "toBytes", desc := "([CII)[B" } : Jvm.MethodName) jdk_52_method_14_code (5 : Nat) (Option.some (Jvm.ClassFile.FieldType.array Jvm.ClassFile.FieldType.byte)), Jvm.Cond.code ({ cls := "java/lang/StringUTF16", name := "newBytesFor", desc := "(I)[B" } : Jvm.MethodName) jdk_52_method_2_code (1 : Nat) (Option.some (Jvm.ClassFile.FieldType.array Jvm.ClassFile.FieldType.byte)), Jvm.Cond.code ({ cls := "java/lang/StringUTF16", name := "newBytesLength", desc := "(I)I" } : Jvm.MethodName) jdk_52_method_3_code (1 : Nat) (Option.some Jvm.ClassFile.FieldType.int), Jvm.Cond.code ({ cls := "java/lang/StringUTF16", name := "putChar", desc := "([BII)V" } : Jvm.MethodName) jdk_52_method_4_code (3 : Nat) (Option.none : Option Jvm.ClassFile.FieldType), Jvm.Cond.code ({ cls := "java/lang/StringUTF16", name := "getChar", desc := "([BI)C" } : Jvm.MethodName) jdk_52_method_5_code (2 : Nat) (Option.some Jvm.ClassFile.FieldType.char)]
set_option maxRecDepth 65536 in
theorem codes_eq : words1.filter isCode = codes1 := rfl
theorem w_codes : ∀ c ∈ words1.filter isCode, c.before args0 about1 = true := by
  rw [codes_eq]
  intro c hc
  simp only [codes1, List.mem_cons, List.not_mem_nil, or_false] at hc
  rcases hc with rfl | rfl | rfl | rfl | rfl | rfl | rfl | rfl | rfl | rfl | rfl | rfl | rfl | rfl | rfl | rfl | rfl
  · exact w_c0
  · exact w_c1
  · exact w_c2
  · exact w_c3
  · exact w_c4
  · exact w_c5
  · exact w_c6
  · exact w_c7
  · exact w_c8
  · exact w_c9
  · exact w_c10
  · exact w_c11
  · exact w_c12
  · exact w_c13
  · exact w_c14
  · exact w_c15
  · exact w_c16
set_option maxRecDepth 65536 in
theorem w_t1 : (words1.take 24).all (fun c => isCode c || c.before args0 about1) = true := by decide +kernel
set_option maxRecDepth 65536 in
theorem w_t2 : ((words1.drop 24).take 24).all (fun c => isCode c || c.before args0 about1) = true := by decide +kernel
set_option maxRecDepth 65536 in
theorem w_t3 : (((words1.drop 24).drop 24).take 24).all (fun c => isCode c || c.before args0 about1) = true := by decide +kernel
set_option maxRecDepth 65536 in
theorem w_t4 : (((words1.drop 24).drop 24).drop 24).all (fun c => isCode c || c.before args0 about1) = true := by decide +kernel
theorem w_tables : (allAtoms (Jvm.Cond.code x code maxLocals ret :: tables_1)).before args0 about1 = true := by
  rw [allAtoms_all]
  show words1.all (fun c => c.before args0 about1) = true
  refine all_split ?_ w_codes
  rw [← List.take_append_drop 24 words1, List.all_append, w_t1, ← List.take_append_drop 24 (words1.drop 24), List.all_append, w_t2, ← List.take_append_drop 24 ((words1.drop 24).drop 24), List.all_append, w_t3, w_t4]
  rfl
set_option maxRecDepth 65536 in
theorem w_rest : rest_1_c.before args0 about1 = true := by decide +kernel
set_option maxRecDepth 65536 in
theorem w_case : (Jvm.Cond.and given_1 narrow_1).before args0 about1 = true := by decide +kernel
set_option maxRecDepth 65536 in
theorem w_consts : constsHeld consts_1 about1 := Jvm.Lit.constsHeldB_iff.mp (by decide +kernel)
theorem w_applies : (headSpec (Jvm.Cond.code x code maxLocals ret :: tables_1) room_1).applies x e0.platform about1 = true :=
  (Spec.applies_iff w_frames).mpr ⟨w_running, w_runnable, w_alone, w_named, w_hears, w_ripe, w_room, w_tables⟩
theorem atStart : AtStart classFile x code maxLocals ret World_1 tables_1 room_1 Calls_1 rest_1 Pre_1 launch0 p0 e0 about1 theMethod args0 below0 :=
  ⟨lists_1, trivial, launch0.admits_env _ _ _, launch0.least_env, fairChoices_fair.cas, fairChoices_fair.clock, w_frames, w_args, w_heap, w_applies, ⟨w_consts, trivial⟩, w_rest, w_case⟩
end start1
theorem witness_1 : WitnessClaimed_1 := ⟨start1.p0, start1.e0, start1.about1, start1.theMethod, start1.args0, start1.below0, start1.atStart⟩
end Jvm.Pilot.@@N@@
