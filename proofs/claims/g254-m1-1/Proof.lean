import JvmDerived
import JvmDerived.Pilot.@@N@@Statement
import JvmDerived.Pilot.@@N@@Code
set_option linter.unusedVariables false
set_option linter.unusedSimpArgs false
namespace Jvm.RoadKit
open Sem ClassFile Op Lib Jvm.Stand Jvm.Free Jvm.LawKit
section New
variable {p : Program} {l : Launch} {e : Env} {R : Room} {s : State} {m : MethodId} {args : Array Value} {below : List Frame} {meth : Method} {c : Code} {T : State} {locs : List Loc} {cells slots : Nat}
theorem retI (X : Stand p l e R s m args below meth c T locs cells slots) (hx : p.tables.exec = Jvm.exec) {pc : Nat} {Ls : Array Slot} {z : Int32} {rest : List Value} (hret : meth.sig.returnType = some .int) (hd : decode c.code pc = .ok (.ireturn, 1)) {fs : List Frame}
    (hl : ∀ (f : JFrame) (acts : List Action), f.method = m → f.locked = none → f.entered = [] → (doReturn e (T.setTop f) acts (some (.int z))).1 = T.setFrames fs) : Steps p.tables e below (T.setTop (mkF m pc Ls (.int z :: rest))) (T.setFrames fs) := by
  have hm' : T.vm.method? m = some meth := X.method'
  have hn : narrow .int (.int z) = .int z := rfl
  show Steps p.tables e below (T.setTop { method := m, pc := pc, locals := Ls, stack := _ :: rest, locked := none }) _
  jvm_step X.here [X.here.top, hx, hd, hm', hret, hn]
  first | (intro acts; rw [hl _ acts rfl rfl rfl]) | rw [hl _ _ rfl rfl rfl]
  exact Steps.refl _
theorem retL (X : Stand p l e R s m args below meth c T locs cells slots) (hx : p.tables.exec = Jvm.exec) {pc : Nat} {Ls : Array Slot} {z : Int64} {rest : List Value} (hret : meth.sig.returnType = some .long) (hd : decode c.code pc = .ok (.lreturn, 1)) {fs : List Frame}
    (hl : ∀ (f : JFrame) (acts : List Action), f.method = m → f.locked = none → f.entered = [] → (doReturn e (T.setTop f) acts (some (.long z))).1 = T.setFrames fs) : Steps p.tables e below (T.setTop (mkF m pc Ls (.long z :: rest))) (T.setFrames fs) := by
  have hm' : T.vm.method? m = some meth := X.method'
  have hn : narrow .long (.long z) = .long z := rfl
  show Steps p.tables e below (T.setTop { method := m, pc := pc, locals := Ls, stack := _ :: rest, locked := none }) _
  jvm_step X.here [X.here.top, hx, hd, hm', hret, hn]
  first | (intro acts; rw [hl _ acts rfl rfl rfl]) | rw [hl _ _ rfl rfl rfl]
  exact Steps.refl _
theorem retR (X : Stand p l e R s m args below meth c T locs cells slots) (hx : p.tables.exec = Jvm.exec) {pc : Nat} {Ls : Array Slot} {w : Value} {t : FieldType} {rest : List Value} (hret : meth.sig.returnType = some t) (hn : narrow t w = w) (ht : t.isReference = true) (hw : w.isRef = true) (hd : decode c.code pc = .ok (.areturn, 1)) {fs : List Frame}
    (hl : ∀ (f : JFrame) (acts : List Action), f.method = m → f.locked = none → f.entered = [] → (doReturn e (T.setTop f) acts (some w)).1 = T.setFrames fs) : Steps p.tables e below (T.setTop (mkF m pc Ls (w :: rest))) (T.setFrames fs) := by
  have hm' : T.vm.method? m = some meth := X.method'
  show Steps p.tables e below (T.setTop { method := m, pc := pc, locals := Ls, stack := _ :: rest, locked := none }) _
  jvm_step X.here [X.here.top, hx, hd, hm', hret, hn, hw]
  try (refine ⟨ht, ?_⟩)
  first | (intro acts; rw [hl _ acts rfl rfl rfl]) | rw [hl _ _ rfl rfl rfl]
  exact Steps.refl _
end New
end Jvm.RoadKit
namespace Jvm.Pilot.@@N@@
open Jvm Jvm.ClassFile Sem Op Lib Jvm.Free Jvm.Stand Jvm.LawKit Jvm.RoadKit Bundle Jvm.Pilot.@@N@@.Jvm.D
/-- what a walk of one body knows of its method, and how it ends -/
def Ctx (p : Program) (s : State) (m : MethodId) (meth : Method) (c : Code) (Z : State) (own : String) (bs : ByteArray) (ml : Nat) (ret : Option FieldType) (nm : String) (R : Room) (F : Outcome → State → List Loc → Prop) (B : Nat) : Prop :=
  p.tables.exec = Jvm.exec ∧ Z.Warmed39 s.vm ∧ s.vm.findClass own = some m.cls ∧ c.code = bs ∧ c.maxLocals = ml ∧ meth.sig.returnType = ret ∧ meth.name = nm ∧ meth.locks = false ∧
    ∀ (t : State) (v : Option Value) (L : List Loc) (k n : Nat), s.WarmedH t.vm → s.sameButNew ({ t with vm := s.vm } : State) L k n → B ≤ t.heap.size → k ≤ R.cells → n ≤ R.slots → F (.returned v) t L
/-- from the frame g, in any state that stands so with the heap h, the body runs to its end and leaves Q -/
def Go (p : Program) (l : Launch) (e : Env) (R : Room) (s : State) (m : MethodId) (args : Array Value) (below : List Frame) (meth : Method) (c : Code) (n0 : Nat) (Q : Option Value → Vm → Heap → Prop) (F : Outcome → State → List Loc → Prop) (B : Nat) (h : Heap) (k n : Nat) (g : JFrame) : Prop :=
  ∀ (T : State) (locs : List Loc), Stand p l e R s m args below meth c T locs k n → T.heap = h → Fr n0 locs → B ≤ h.size →
    ∃ s₂ o, Steps p.tables e below (T.setTop g) s₂ ∧ s₂.status = .running ∧ Ended s₂ below o ∧ ∃ v L, o = .returned v ∧ (Q v s₂.vm s₂.heap ∧ Fr n0 L) ∧ F o s₂ L
/-- who pays a call: what it asks and what it leaves -/
def Pays (l : Launch) (R : Room) (p : Program) (e : Env) (below : List Frame) (s : State) (args : Array Value) (y : MethodName) (len W : Nat) (as' : Array Value) (h : Heap) (kc nc : Nat) (Qc : Option Value → Heap → List Loc → Prop) : Prop :=
  Back l R p e below s args y len W (fun A a => a = as' ∧ A.U.heap = h ∧ A.cells + kc ≤ R.cells ∧ A.slots + nc ≤ R.slots)
    (fun A _ v B => ∃ L, Qc v B.U.heap L ∧ B.locs = A.locs ++ L ∧ B.cells = A.cells + kc ∧ B.slots = A.slots + nc)
/-- the same of a callee that may load String constants -/
def PaysW (l : Launch) (R : Room) (p : Program) (e : Env) (below : List Frame) (s : State) (vm0 : Vm) (args : Array Value) (y : MethodName) (len W : Nat) (as' : Array Value) (h : Heap) (kc nc : Nat) (Z : State) (EL : List (String × Nat)) (Qc : Option Value → Heap → List Loc → Prop) : Prop :=
  BackS l R p e below (s.setVm vm0) args y len W (fun A a => a = as' ∧ A.U.heap = h ∧ A.cells + kc ≤ R.cells ∧ A.slots + nc ≤ R.slots)
    (fun A _ v B => ∃ L, Qc v B.U.heap L ∧ B.locs = A.locs ++ L ∧ B.cells = A.cells + kc ∧ B.slots = A.slots + nc ∧ CHr Z EL vm0 h B.U.vm B.U.heap)
/-- a method's contract: at the heap h0, with these arguments, it returns and leaves Q; nothing below n0 is written -/
def Met (l : Launch) (Z : State) (ws : List Jvm.Cond) (y : MethodName) (bs : ByteArray) (ml : Nat) (ret : Option FieldType) (rm : Room) (as' : Array Value) (h0 : Heap) (n0 : Nat) (Q : Option Value → Heap → Prop) : Prop :=
  MetFree l y (head1 (Jvm.Cond.code y bs ml ret :: ws) rm) (fun a U => a = as' ∧ Z.Warmed39 U.vm ∧ U.heap = h0) (fun _ _ _ _ _ => True) (fun _ U o U' => ∃ v L, o = .returned v ∧ ((Q v U'.heap ∧ Fr n0 L) ∧ h0.size ≤ U'.heap.size) ∧ FrameEnd U o U' L rm.cells rm.slots)
/-- the same, where a stack trace is filled in beneath it -/
def MetK (l : Launch) (Z : State) (ws : List Jvm.Cond) (y : MethodName) (bs : ByteArray) (ml : Nat) (ret : Option FieldType) (rm : Room) (as' : Array Value) (h0 : Heap) (n0 : Nat) (Q : Option Value → Heap → Prop) : Prop :=
  MetFree l y (head1 (Jvm.Cond.code y bs ml ret :: ws) rm) (fun a U => a = as' ∧ Z.Warmed39 U.vm ∧ U.heap = h0) (fun _ _ bl s _ => s.vm.MethodsKnown ∧ s.vm.FramesKnown bl) (fun _ U o U' => ∃ v L, o = .returned v ∧ ((Q v U'.heap ∧ Fr n0 L) ∧ h0.size ≤ U'.heap.size) ∧ FrameEnd U o U' L rm.cells rm.slots)
/-- the same, where String constants may be loaded; EL: the constants that are read -/
def MetW (l : Launch) (Z : State) (ws : List Jvm.Cond) (EL : List (String × Nat)) (y : MethodName) (bs : ByteArray) (ml : Nat) (ret : Option FieldType) (rm : Room) (as' : Array Value) (h0 : Heap) (n0 : Nat) (Q : Option Value → Heap → Prop) : Prop :=
  MetFree l y (head1 (Jvm.Cond.code y bs ml ret :: ws) rm) (fun a U => a = as' ∧ Z.Warmed39 U.vm ∧ U.heap = h0 ∧ CHv Z EL U.vm h0) (fun _ _ _ _ _ => True) (fun _ U o U' => ∃ v L, o = .returned v ∧ ((Q v U'.heap ∧ Fr n0 L) ∧ h0.size ≤ U'.heap.size) ∧ CHr Z EL U.vm U.heap U'.vm U'.heap ∧ ReturnedEndW U o U' L rm.cells rm.slots)
/-- both -/
def MetWK (l : Launch) (Z : State) (ws : List Jvm.Cond) (EL : List (String × Nat)) (y : MethodName) (bs : ByteArray) (ml : Nat) (ret : Option FieldType) (rm : Room) (as' : Array Value) (h0 : Heap) (n0 : Nat) (Q : Option Value → Heap → Prop) : Prop :=
  MetFree l y (head1 (Jvm.Cond.code y bs ml ret :: ws) rm) (fun a U => a = as' ∧ Z.Warmed39 U.vm ∧ U.heap = h0 ∧ CHv Z EL U.vm h0) (fun _ _ bl s _ => s.vm.MethodsKnown ∧ s.vm.FramesKnown bl) (fun _ U o U' => ∃ v L, o = .returned v ∧ ((Q v U'.heap ∧ Fr n0 L) ∧ h0.size ≤ U'.heap.size) ∧ CHr Z EL U.vm U.heap U'.vm U'.heap ∧ ReturnedEndW U o U' L rm.cells rm.slots)
section GoKit
variable {p : Program} {l : Launch} {e : Env} {R : Room} {s : State} {m : MethodId} {args : Array Value} {below : List Frame} {meth : Method} {c : Code} {n0 : Nat} {Q : Option Value → Vm → Heap → Prop} {F : Outcome → State → List Loc → Prop} {B : Nat} {h : Heap} {k n : Nat}
variable {Z : State} {own : String} {bs : ByteArray} {ml : Nat} {ret : Option FieldType} {nm : String} {a0 : Array Value}
variable {pc pc' : Nat} {Ls Ls' : Array Slot} {st rest : List Value}
theorem Ctx.cx (K : Ctx p s m meth c Z own bs ml ret nm R F B) : p.tables.exec = Jvm.exec := K.1
theorem Ctx.cz (K : Ctx p s m meth c Z own bs ml ret nm R F B) : Z.Warmed39 s.vm := K.2.1
theorem Ctx.co (K : Ctx p s m meth c Z own bs ml ret nm R F B) : s.vm.findClass own = some m.cls := K.2.2.1
theorem Ctx.cb (K : Ctx p s m meth c Z own bs ml ret nm R F B) : c.code = bs := K.2.2.2.1
theorem Ctx.cl (K : Ctx p s m meth c Z own bs ml ret nm R F B) : c.maxLocals = ml := K.2.2.2.2.1
theorem Ctx.cr (K : Ctx p s m meth c Z own bs ml ret nm R F B) : meth.sig.returnType = ret := K.2.2.2.2.2.1
theorem Ctx.cn (K : Ctx p s m meth c Z own bs ml ret nm R F B) : meth.name = nm := K.2.2.2.2.2.2.1
theorem Ctx.ck (K : Ctx p s m meth c Z own bs ml ret nm R F B) : meth.locks = false := K.2.2.2.2.2.2.2.1
theorem Ctx.ce (K : Ctx p s m meth c Z own bs ml ret nm R F B) : ∀ (t : State) (v : Option Value) (L : List Loc) (k n : Nat), s.WarmedH t.vm → s.sameButNew ({ t with vm := s.vm } : State) L k n → B ≤ t.heap.size → k ≤ R.cells → n ≤ R.slots → F (.returned v) t L := K.2.2.2.2.2.2.2.2
/-- a step that leaves heap and counts alone -/
theorem Go.by {g g' : JFrame} (H : Go p l e R s m args below meth c n0 Q F B h k n g')
    (q : ∀ (T : State) (locs : List Loc), Stand p l e R s m args below meth c T locs k n → T.heap = h → ∀ t, Steps p.tables e below (T.setTop g') t → Steps p.tables e below (T.setTop g) t) : Go p l e R s m args below meth c n0 Q F B h k n g :=
  fun T locs X eT N hB => by
    obtain ⟨s₂, o, a, b⟩ := H T locs X eT N hB
    exact ⟨s₂, o, q T locs X eT _ a, b⟩
theorem Go.iload (K : Ctx p s m meth c Z own bs ml ret nm R F B) {j : Nat} {v : Int32} (hd : decode bs pc = .ok (.iload j, 2)) (hl : Ls[j]? = some (.val (.int v))) (hp : pc + 2 = pc') (H : Go p l e R s m args below meth c n0 Q F B h k n (mkF m pc' Ls (.int v :: st))) : Go p l e R s m args below meth c n0 Q F B h k n (mkF m pc Ls st) := by
  subst hp
  exact H.by fun T _ X _ t q => XS.iload X.here K.cx rfl (hb K.cb hd) hl q
theorem Go.iloadN (K : Ctx p s m meth c Z own bs ml ret nm R F B) {j : Fin 4} {v : Int32} (hd : decode bs pc = .ok (.iload_n j, 1)) (hl : Ls[j.val]? = some (.val (.int v))) (hp : pc + 1 = pc') (H : Go p l e R s m args below meth c n0 Q F B h k n (mkF m pc' Ls (.int v :: st))) : Go p l e R s m args below meth c n0 Q F B h k n (mkF m pc Ls st) := by
  subst hp
  exact H.by fun T _ X _ t q => XS.iloadN X.here K.cx rfl (hb K.cb hd) hl q
theorem Go.lload (K : Ctx p s m meth c Z own bs ml ret nm R F B) {j : Nat} {v : Int64} (hd : decode bs pc = .ok (.lload j, 2)) (hl : Ls[j]? = some (.val (.long v))) (hp : pc + 2 = pc') (H : Go p l e R s m args below meth c n0 Q F B h k n (mkF m pc' Ls (.long v :: st))) : Go p l e R s m args below meth c n0 Q F B h k n (mkF m pc Ls st) := by
  subst hp
  exact H.by fun T _ X _ t q => XS.lload X.here K.cx rfl (hb K.cb hd) hl q
theorem Go.lloadN (K : Ctx p s m meth c Z own bs ml ret nm R F B) {j : Fin 4} {v : Int64} (hd : decode bs pc = .ok (.lload_n j, 1)) (hl : Ls[j.val]? = some (.val (.long v))) (hp : pc + 1 = pc') (H : Go p l e R s m args below meth c n0 Q F B h k n (mkF m pc' Ls (.long v :: st))) : Go p l e R s m args below meth c n0 Q F B h k n (mkF m pc Ls st) := by
  subst hp
  exact H.by fun T _ X _ t q => XS.lloadN X.here K.cx rfl (hb K.cb hd) hl q
theorem Go.aload (K : Ctx p s m meth c Z own bs ml ret nm R F B) {j : Nat} {v : Value} (hd : decode bs pc = .ok (.aload j, 2)) (hl : Ls[j]? = some (.val v)) (hv : v.isRef = true) (hp : pc + 2 = pc') (H : Go p l e R s m args below meth c n0 Q F B h k n (mkF m pc' Ls (v :: st))) : Go p l e R s m args below meth c n0 Q F B h k n (mkF m pc Ls st) := by
  subst hp
  exact H.by fun T _ X _ t q => XS.aload X.here K.cx rfl (hb K.cb hd) hl hv q
theorem Go.aloadN (K : Ctx p s m meth c Z own bs ml ret nm R F B) {j : Fin 4} {v : Value} (hd : decode bs pc = .ok (.aload_n j, 1)) (hl : Ls[j.val]? = some (.val v)) (hv : v.isRef = true) (hp : pc + 1 = pc') (H : Go p l e R s m args below meth c n0 Q F B h k n (mkF m pc' Ls (v :: st))) : Go p l e R s m args below meth c n0 Q F B h k n (mkF m pc Ls st) := by
  subst hp
  exact H.by fun T _ X _ t q => XS.aloadN X.here K.cx rfl (hb K.cb hd) hl hv q
theorem Go.istore (K : Ctx p s m meth c Z own bs ml ret nm R F B) {j : Nat} {v : Int32} (hd : decode bs pc = .ok (.istore j, 2)) (hl : storeLocals Ls j (.int v) = some Ls') (hp : pc + 2 = pc') (H : Go p l e R s m args below meth c n0 Q F B h k n (mkF m pc' Ls' st)) : Go p l e R s m args below meth c n0 Q F B h k n (mkF m pc Ls (.int v :: st)) := by
  subst hp
  exact H.by fun T _ X _ t q => XS.istore X.here K.cx rfl (hb K.cb hd) rfl hl q
theorem Go.istoreN (K : Ctx p s m meth c Z own bs ml ret nm R F B) {j : Fin 4} {v : Int32} (hd : decode bs pc = .ok (.istore_n j, 1)) (hl : storeLocals Ls j.val (.int v) = some Ls') (hp : pc + 1 = pc') (H : Go p l e R s m args below meth c n0 Q F B h k n (mkF m pc' Ls' st)) : Go p l e R s m args below meth c n0 Q F B h k n (mkF m pc Ls (.int v :: st)) := by
  subst hp
  exact H.by fun T _ X _ t q => XS.istoreN X.here K.cx rfl (hb K.cb hd) rfl hl q
theorem Go.astore (K : Ctx p s m meth c Z own bs ml ret nm R F B) {j : Nat} {v : Value} (hd : decode bs pc = .ok (.astore j, 2)) (hv : v.isRef = true) (hl : storeLocals Ls j v = some Ls') (hp : pc + 2 = pc') (H : Go p l e R s m args below meth c n0 Q F B h k n (mkF m pc' Ls' st)) : Go p l e R s m args below meth c n0 Q F B h k n (mkF m pc Ls (v :: st)) := by
  subst hp
  exact H.by fun T _ X _ t q => XS.astore X.here K.cx rfl (hb K.cb hd) rfl hv hl q
theorem Go.astoreN (K : Ctx p s m meth c Z own bs ml ret nm R F B) {j : Fin 4} {v : Value} (hd : decode bs pc = .ok (.astore_n j, 1)) (hv : v.isRef = true) (hl : storeLocals Ls j.val v = some Ls') (hp : pc + 1 = pc') (H : Go p l e R s m args below meth c n0 Q F B h k n (mkF m pc' Ls' st)) : Go p l e R s m args below meth c n0 Q F B h k n (mkF m pc Ls (v :: st)) := by
  subst hp
  exact H.by fun T _ X _ t q => XS.astoreN X.here K.cx rfl (hb K.cb hd) rfl hv hl q
theorem Go.iconst (K : Ctx p s m meth c Z own bs ml ret nm R F B) {i : Int} {v : Int32} (hd : decode bs pc = .ok (.iconst i, 1)) (hv : Int32.ofInt i = v) (hp : pc + 1 = pc') (H : Go p l e R s m args below meth c n0 Q F B h k n (mkF m pc' Ls (.int v :: st))) : Go p l e R s m args below meth c n0 Q F B h k n (mkF m pc Ls st) := by
  subst hp hv
  exact H.by fun T _ X _ t q => XS.iconst X.here K.cx rfl (hb K.cb hd) q
theorem Go.bipush (K : Ctx p s m meth c Z own bs ml ret nm R F B) {i : Int} {v : Int32} (hd : decode bs pc = .ok (.bipush i, 2)) (hv : (Int8.ofInt i).toInt32 = v) (hp : pc + 2 = pc') (H : Go p l e R s m args below meth c n0 Q F B h k n (mkF m pc' Ls (.int v :: st))) : Go p l e R s m args below meth c n0 Q F B h k n (mkF m pc Ls st) := by
  subst hp hv
  exact H.by fun T _ X _ t q => XS.bipush X.here K.cx rfl (hb K.cb hd) q
theorem Go.sipush (K : Ctx p s m meth c Z own bs ml ret nm R F B) {i : Int} {v : Int32} (hd : decode bs pc = .ok (.sipush i, 3)) (hv : (Int16.ofInt i).toInt32 = v) (hp : pc + 3 = pc') (H : Go p l e R s m args below meth c n0 Q F B h k n (mkF m pc' Ls (.int v :: st))) : Go p l e R s m args below meth c n0 Q F B h k n (mkF m pc Ls st) := by
  subst hp hv
  exact H.by fun T _ X _ t q => XS.sipush X.here K.cx rfl (hb K.cb hd) q
theorem Go.aconstNull (K : Ctx p s m meth c Z own bs ml ret nm R F B) (hd : decode bs pc = .ok (.aconst_null, 1)) (hp : pc + 1 = pc') (H : Go p l e R s m args below meth c n0 Q F B h k n (mkF m pc' Ls (.null :: st))) : Go p l e R s m args below meth c n0 Q F B h k n (mkF m pc Ls st) := by
  subst hp
  exact H.by fun T _ X _ t q => XS.aconstNull X.here K.cx rfl (hb K.cb hd) q
theorem Go.lconst (K : Ctx p s m meth c Z own bs ml ret nm R F B) {j : Fin 2} {v : Int64} (hd : decode bs pc = .ok (.lconst j, 1)) (hv : Int64.ofNat j = v) (hp : pc + 1 = pc') (H : Go p l e R s m args below meth c n0 Q F B h k n (mkF m pc' Ls (.long v :: st))) : Go p l e R s m args below meth c n0 Q F B h k n (mkF m pc Ls st) := by
  subst hp hv
  exact H.by fun T _ X _ t q => XS.lconst X.here K.cx rfl (hb K.cb hd) q
theorem Go.ldcInt (K : Ctx p s m meth c Z own bs ml ret nm R F B) {j : Nat} {v : Int32} (w : (Jvm.Cond.constant own j v).before args s = true) (hd : decode bs pc = .ok (.ldc j, 2)) (hp : pc + 2 = pc') (H : Go p l e R s m args below meth c n0 Q F B h k n (mkF m pc' Ls (.int v :: st))) : Go p l e R s m args below meth c n0 Q F B h k n (mkF m pc Ls st) := by
  subst hp
  exact H.by fun T _ X _ t q => X.ldcInt K.cx K.co w (g := mkF m pc Ls st) rfl (hb K.cb hd) t q
theorem Go.ldcLong (K : Ctx p s m meth c Z own bs ml ret nm R F B) {j : Nat} {v : Int64} (w : (Jvm.Cond.constantLong own j v).before args s = true) (hd : decode bs pc = .ok (.ldc2_w j, 3)) (hp : pc + 3 = pc') (H : Go p l e R s m args below meth c n0 Q F B h k n (mkF m pc' Ls (.long v :: st))) : Go p l e R s m args below meth c n0 Q F B h k n (mkF m pc Ls st) := by
  subst hp
  exact H.by fun T _ X _ t q => X.ldc2Long K.cx K.co w (g := mkF m pc Ls st) rfl (hb K.cb hd) t q
theorem Go.ldcR (K : Ctx p s m meth c Z own bs ml ret nm R F B) {j : Nat} {a : Addr} {text : String} (w : (Jvm.Cond.stringRef own j text).before a0 Z = true) (L : Lit Z own j a) (hd : decode bs pc = .ok (.ldc j, 2)) (hp : pc + 2 = pc') (H : Go p l e R s m args below meth c n0 Q F B h k n (mkF m pc' Ls (.ref a :: st))) : Go p l e R s m args below meth c n0 Q F B h k n (mkF m pc Ls st) := by
  subst hp
  exact H.by fun T _ X _ t q => Jvm.RoadKit.ldcR X K.cx K.cz K.co w L (g := mkF m pc Ls st) rfl (hb K.cb hd) t q
theorem Go.iadd (K : Ctx p s m meth c Z own bs ml ret nm R F B) {x y : Int32} (hd : decode bs pc = .ok (.iadd, 1)) (hp : pc + 1 = pc') (H : Go p l e R s m args below meth c n0 Q F B h k n (mkF m pc' Ls (.int (x + y) :: st))) : Go p l e R s m args below meth c n0 Q F B h k n (mkF m pc Ls (.int y :: .int x :: st)) := by
  subst hp
  exact H.by fun T _ X _ t q => XS.iadd X.here K.cx rfl (hb K.cb hd) rfl q
theorem Go.isub (K : Ctx p s m meth c Z own bs ml ret nm R F B) {x y : Int32} (hd : decode bs pc = .ok (.isub, 1)) (hp : pc + 1 = pc') (H : Go p l e R s m args below meth c n0 Q F B h k n (mkF m pc' Ls (.int (x - y) :: st))) : Go p l e R s m args below meth c n0 Q F B h k n (mkF m pc Ls (.int y :: .int x :: st)) := by
  subst hp
  exact H.by fun T _ X _ t q => XS.isub X.here K.cx rfl (hb K.cb hd) rfl q
theorem Go.imul (K : Ctx p s m meth c Z own bs ml ret nm R F B) {x y : Int32} (hd : decode bs pc = .ok (.imul, 1)) (hp : pc + 1 = pc') (H : Go p l e R s m args below meth c n0 Q F B h k n (mkF m pc' Ls (.int (x * y) :: st))) : Go p l e R s m args below meth c n0 Q F B h k n (mkF m pc Ls (.int y :: .int x :: st)) := by
  subst hp
  exact H.by fun T _ X _ t q => XS.imul X.here K.cx rfl (hb K.cb hd) rfl q
theorem Go.iand (K : Ctx p s m meth c Z own bs ml ret nm R F B) {x y : Int32} (hd : decode bs pc = .ok (.iand, 1)) (hp : pc + 1 = pc') (H : Go p l e R s m args below meth c n0 Q F B h k n (mkF m pc' Ls (.int (x &&& y) :: st))) : Go p l e R s m args below meth c n0 Q F B h k n (mkF m pc Ls (.int y :: .int x :: st)) := by
  subst hp
  exact H.by fun T _ X _ t q => XS.iand X.here K.cx rfl (hb K.cb hd) rfl q
theorem Go.ior (K : Ctx p s m meth c Z own bs ml ret nm R F B) {x y : Int32} (hd : decode bs pc = .ok (.ior, 1)) (hp : pc + 1 = pc') (H : Go p l e R s m args below meth c n0 Q F B h k n (mkF m pc' Ls (.int (x ||| y) :: st))) : Go p l e R s m args below meth c n0 Q F B h k n (mkF m pc Ls (.int y :: .int x :: st)) := by
  subst hp
  exact H.by fun T _ X _ t q => XS.ior X.here K.cx rfl (hb K.cb hd) rfl q
theorem Go.ixor (K : Ctx p s m meth c Z own bs ml ret nm R F B) {x y : Int32} (hd : decode bs pc = .ok (.ixor, 1)) (hp : pc + 1 = pc') (H : Go p l e R s m args below meth c n0 Q F B h k n (mkF m pc' Ls (.int (x ^^^ y) :: st))) : Go p l e R s m args below meth c n0 Q F B h k n (mkF m pc Ls (.int y :: .int x :: st)) := by
  subst hp
  exact H.by fun T _ X _ t q => XS.ixor X.here K.cx rfl (hb K.cb hd) rfl q
theorem Go.ishl (K : Ctx p s m meth c Z own bs ml ret nm R F B) {x y : Int32} (hd : decode bs pc = .ok (.ishl, 1)) (hp : pc + 1 = pc') (H : Go p l e R s m args below meth c n0 Q F B h k n (mkF m pc' Ls (.int (x <<< (y &&& 31)) :: st))) : Go p l e R s m args below meth c n0 Q F B h k n (mkF m pc Ls (.int y :: .int x :: st)) := by
  subst hp
  exact H.by fun T _ X _ t q => XS.ishl X.here K.cx rfl (hb K.cb hd) rfl q
theorem Go.ishr (K : Ctx p s m meth c Z own bs ml ret nm R F B) {x y : Int32} (hd : decode bs pc = .ok (.ishr, 1)) (hp : pc + 1 = pc') (H : Go p l e R s m args below meth c n0 Q F B h k n (mkF m pc' Ls (.int (x >>> (y &&& 31)) :: st))) : Go p l e R s m args below meth c n0 Q F B h k n (mkF m pc Ls (.int y :: .int x :: st)) := by
  subst hp
  exact H.by fun T _ X _ t q => XS.ishr X.here K.cx rfl (hb K.cb hd) rfl q
theorem Go.iushr (K : Ctx p s m meth c Z own bs ml ret nm R F B) {x y : Int32} (hd : decode bs pc = .ok (.iushr, 1)) (hp : pc + 1 = pc') (H : Go p l e R s m args below meth c n0 Q F B h k n (mkF m pc' Ls (.int ((x.toUInt32 >>> (y &&& 31).toUInt32).toInt32) :: st))) : Go p l e R s m args below meth c n0 Q F B h k n (mkF m pc Ls (.int y :: .int x :: st)) := by
  subst hp
  exact H.by fun T _ X _ t q => XS.iushr X.here K.cx rfl (hb K.cb hd) rfl q
theorem Go.idiv (K : Ctx p s m meth c Z own bs ml ret nm R F B) {x y : Int32} (hd : decode bs pc = .ok (.idiv, 1)) (hy : y ≠ 0) (hp : pc + 1 = pc') (H : Go p l e R s m args below meth c n0 Q F B h k n (mkF m pc' Ls (.int (x / y) :: st))) : Go p l e R s m args below meth c n0 Q F B h k n (mkF m pc Ls (.int y :: .int x :: st)) := by
  subst hp
  exact H.by fun T _ X _ t q => XS.idiv X.here K.cx rfl (hb K.cb hd) rfl hy q
theorem Go.irem (K : Ctx p s m meth c Z own bs ml ret nm R F B) {x y : Int32} (hd : decode bs pc = .ok (.irem, 1)) (hy : y ≠ 0) (hp : pc + 1 = pc') (H : Go p l e R s m args below meth c n0 Q F B h k n (mkF m pc' Ls (.int (x % y) :: st))) : Go p l e R s m args below meth c n0 Q F B h k n (mkF m pc Ls (.int y :: .int x :: st)) := by
  subst hp
  exact H.by fun T _ X _ t q => iremM X K.cx rfl (hb K.cb hd) rfl hy q
theorem Go.ladd (K : Ctx p s m meth c Z own bs ml ret nm R F B) {x y : Int64} (hd : decode bs pc = .ok (.ladd, 1)) (hp : pc + 1 = pc') (H : Go p l e R s m args below meth c n0 Q F B h k n (mkF m pc' Ls (.long (x + y) :: st))) : Go p l e R s m args below meth c n0 Q F B h k n (mkF m pc Ls (.long y :: .long x :: st)) := by
  subst hp
  exact H.by fun T _ X _ t q => XS.ladd X.here K.cx rfl (hb K.cb hd) rfl q
theorem Go.lsub (K : Ctx p s m meth c Z own bs ml ret nm R F B) {x y : Int64} (hd : decode bs pc = .ok (.lsub, 1)) (hp : pc + 1 = pc') (H : Go p l e R s m args below meth c n0 Q F B h k n (mkF m pc' Ls (.long (x - y) :: st))) : Go p l e R s m args below meth c n0 Q F B h k n (mkF m pc Ls (.long y :: .long x :: st)) := by
  subst hp
  exact H.by fun T _ X _ t q => XS.lsub X.here K.cx rfl (hb K.cb hd) rfl q
theorem Go.land (K : Ctx p s m meth c Z own bs ml ret nm R F B) {x y : Int64} (hd : decode bs pc = .ok (.land, 1)) (hp : pc + 1 = pc') (H : Go p l e R s m args below meth c n0 Q F B h k n (mkF m pc' Ls (.long (x &&& y) :: st))) : Go p l e R s m args below meth c n0 Q F B h k n (mkF m pc Ls (.long y :: .long x :: st)) := by
  subst hp
  exact H.by fun T _ X _ t q => XS.land X.here K.cx rfl (hb K.cb hd) rfl q
theorem Go.lor (K : Ctx p s m meth c Z own bs ml ret nm R F B) {x y : Int64} (hd : decode bs pc = .ok (.lor, 1)) (hp : pc + 1 = pc') (H : Go p l e R s m args below meth c n0 Q F B h k n (mkF m pc' Ls (.long (x ||| y) :: st))) : Go p l e R s m args below meth c n0 Q F B h k n (mkF m pc Ls (.long y :: .long x :: st)) := by
  subst hp
  exact H.by fun T _ X _ t q => XS.lor X.here K.cx rfl (hb K.cb hd) rfl q
theorem Go.lcmp (K : Ctx p s m meth c Z own bs ml ret nm R F B) {x y : Int64} (hd : decode bs pc = .ok (.lcmp, 1)) (hp : pc + 1 = pc') (H : Go p l e R s m args below meth c n0 Q F B h k n (mkF m pc' Ls (.int (lcmpW x y) :: st))) : Go p l e R s m args below meth c n0 Q F B h k n (mkF m pc Ls (.long y :: .long x :: st)) := by
  subst hp
  exact H.by fun T _ X _ t q => XS.lcmp X.here K.cx rfl (hb K.cb hd) rfl q
theorem Go.i2c (K : Ctx p s m meth c Z own bs ml ret nm R F B) {x : Int32} (hd : decode bs pc = .ok (.i2c, 1)) (hp : pc + 1 = pc') (H : Go p l e R s m args below meth c n0 Q F B h k n (mkF m pc' Ls (.int (x.toUInt32.toUInt16.toUInt32.toInt32) :: st))) : Go p l e R s m args below meth c n0 Q F B h k n (mkF m pc Ls (.int x :: st)) := by
  subst hp
  exact H.by fun T _ X _ t q => XS.i2c X.here K.cx rfl (hb K.cb hd) rfl q
theorem Go.i2b (K : Ctx p s m meth c Z own bs ml ret nm R F B) {x : Int32} (hd : decode bs pc = .ok (.i2b, 1)) (hp : pc + 1 = pc') (H : Go p l e R s m args below meth c n0 Q F B h k n (mkF m pc' Ls (.int (x.toInt8.toInt32) :: st))) : Go p l e R s m args below meth c n0 Q F B h k n (mkF m pc Ls (.int x :: st)) := by
  subst hp
  exact H.by fun T _ X _ t q => XS.i2b X.here K.cx rfl (hb K.cb hd) rfl q
theorem Go.i2l (K : Ctx p s m meth c Z own bs ml ret nm R F B) {x : Int32} (hd : decode bs pc = .ok (.i2l, 1)) (hp : pc + 1 = pc') (H : Go p l e R s m args below meth c n0 Q F B h k n (mkF m pc' Ls (.long (x.toInt64) :: st))) : Go p l e R s m args below meth c n0 Q F B h k n (mkF m pc Ls (.int x :: st)) := by
  subst hp
  exact H.by fun T _ X _ t q => XS.i2l X.here K.cx rfl (hb K.cb hd) rfl q
theorem Go.ineg (K : Ctx p s m meth c Z own bs ml ret nm R F B) {x : Int32} (hd : decode bs pc = .ok (.ineg, 1)) (hp : pc + 1 = pc') (H : Go p l e R s m args below meth c n0 Q F B h k n (mkF m pc' Ls (.int (-x) :: st))) : Go p l e R s m args below meth c n0 Q F B h k n (mkF m pc Ls (.int x :: st)) := by
  subst hp
  exact H.by fun T _ X _ t q => XS.ineg X.here K.cx rfl (hb K.cb hd) rfl q
theorem Go.dup (K : Ctx p s m meth c Z own bs ml ret nm R F B) {v : Value} (hd : decode bs pc = .ok (.dup, 1)) (hc : v.category = 1) (hp : pc + 1 = pc') (H : Go p l e R s m args below meth c n0 Q F B h k n (mkF m pc' Ls (v :: v :: st))) : Go p l e R s m args below meth c n0 Q F B h k n (mkF m pc Ls (v :: st)) := by
  subst hp
  exact H.by fun T _ X _ t q => XS.dup X.here K.cx rfl (hb K.cb hd) rfl hc q
theorem Go.pop (K : Ctx p s m meth c Z own bs ml ret nm R F B) {v : Value} (hd : decode bs pc = .ok (.pop, 1)) (hc : v.category = 1) (hp : pc + 1 = pc') (H : Go p l e R s m args below meth c n0 Q F B h k n (mkF m pc' Ls st)) : Go p l e R s m args below meth c n0 Q F B h k n (mkF m pc Ls (v :: st)) := by
  subst hp
  exact H.by fun T _ X _ t q => XS.pop X.here K.cx rfl (hb K.cb hd) rfl hc q
theorem Go.iinc (K : Ctx p s m meth c Z own bs ml ret nm R F B) {j : Nat} {cst : Int} {x : Int32} (hd : decode bs pc = .ok (.iinc j cst, 3)) (hl : Ls[j]? = some (.val (.int x))) (hl' : storeLocals Ls j (.int (x + Int32.ofInt cst)) = some Ls') (hp : pc + 3 = pc') (H : Go p l e R s m args below meth c n0 Q F B h k n (mkF m pc' Ls' st)) : Go p l e R s m args below meth c n0 Q F B h k n (mkF m pc Ls st) := by
  subst hp
  exact H.by fun T _ X _ t q => XS.iinc X.here K.cx rfl (hb K.cb hd) hl hl' q
theorem Go.goto (K : Ctx p s m meth c Z own bs ml ret nm R F B) {o : Int} (hd : decode bs pc = .ok (.goto o, 3)) (ho : 0 ≤ (pc : Int) + o) (hp : ((pc : Int) + o).toNat = pc') (H : Go p l e R s m args below meth c n0 Q F B h k n (mkF m pc' Ls st)) : Go p l e R s m args below meth c n0 Q F B h k n (mkF m pc Ls st) :=
  H.by fun T _ X _ t q => XS.goto X.here K.cx rfl rfl (hb K.cb hd) ho hp q
/-- a comparison as a proposition -/
def CmpP : ClassFile.Cond → Int32 → Int32 → Prop
  | .eq, x, y => x = y
  | .ne, x, y => ¬ x = y
  | .lt, x, y => x < y
  | .ge, x, y => ¬ x < y
  | .gt, x, y => y < x
  | .le, x, y => ¬ y < x
theorem cmp_holds (cd : ClassFile.Cond) (x y : Int32) : (if_icmp.holds cd x y = true → CmpP cd x y) ∧ (if_icmp.holds cd x y = false → ¬ CmpP cd x y) := by
  cases cd <;> simp only [CmpP]
  · by_cases h : x = y
    · exact ⟨fun _ => h, fun q => (by rw [(teq h).1] at q; cases q)⟩
    · exact ⟨fun q => (by rw [(feq h).1] at q; cases q), fun _ => h⟩
  · by_cases h : x = y
    · exact ⟨fun q => (by rw [(teq h).2] at q; cases q), fun _ q => q h⟩
    · exact ⟨fun _ => h, fun q => (by rw [(feq h).2] at q; cases q)⟩
  · by_cases h : x < y
    · exact ⟨fun _ => h, fun q => (by rw [(tlt h).1] at q; cases q)⟩
    · exact ⟨fun q => (by rw [(flt h).1] at q; cases q), fun _ => h⟩
  · by_cases h : x < y
    · exact ⟨fun q => (by rw [(tlt h).2.1] at q; cases q), fun _ q => q h⟩
    · exact ⟨fun _ => h, fun q => (by rw [(flt h).2.1] at q; cases q)⟩
  · by_cases h : y < x
    · exact ⟨fun _ => h, fun q => (by rw [(tlt h).2.2.1] at q; cases q)⟩
    · exact ⟨fun q => (by rw [(flt h).2.2.1] at q; cases q), fun _ => h⟩
  · by_cases h : y < x
    · exact ⟨fun q => (by rw [(tlt h).2.2.2] at q; cases q), fun _ q => q h⟩
    · exact ⟨fun _ => h, fun q => (by rw [(flt h).2.2.2] at q; cases q)⟩
theorem Go.icmp (K : Ctx p s m meth c Z own bs ml ret nm R F B) {cd : ClassFile.Cond} {x y : Int32} {o : Int} {pcT pcF : Nat} (hd : decode bs pc = .ok (.if_icmp cd o, 3)) (ho : 0 ≤ (pc : Int) + o) (hT : ((pc : Int) + o).toNat = pcT) (hF : pc + 3 = pcF)
    (HT : CmpP cd x y → Go p l e R s m args below meth c n0 Q F B h k n (mkF m pcT Ls st)) (HF : ¬ CmpP cd x y → Go p l e R s m args below meth c n0 Q F B h k n (mkF m pcF Ls st)) : Go p l e R s m args below meth c n0 Q F B h k n (mkF m pc Ls (.int y :: .int x :: st)) := by
  subst hF
  cases q : if_icmp.holds cd x y with
  | true => exact (HT ((cmp_holds cd x y).1 q)).by fun T _ X _ t r => XS.icmpYes X.here K.cx rfl rfl (hb K.cb hd) rfl q ho hT r
  | false => exact (HF ((cmp_holds cd x y).2 q)).by fun T _ X _ t r => XS.icmpNo X.here K.cx rfl (hb K.cb hd) rfl q r
theorem Go.ifc (K : Ctx p s m meth c Z own bs ml ret nm R F B) {cd : ClassFile.Cond} {x : Int32} {o : Int} {pcT pcF : Nat} (hd : decode bs pc = .ok (.ifCond cd o, 3)) (ho : 0 ≤ (pc : Int) + o) (hT : ((pc : Int) + o).toNat = pcT) (hF : pc + 3 = pcF)
    (HT : CmpP cd x 0 → Go p l e R s m args below meth c n0 Q F B h k n (mkF m pcT Ls st)) (HF : ¬ CmpP cd x 0 → Go p l e R s m args below meth c n0 Q F B h k n (mkF m pcF Ls st)) : Go p l e R s m args below meth c n0 Q F B h k n (mkF m pc Ls (.int x :: st)) := by
  subst hF
  cases q : if_icmp.holds cd x 0 with
  | true => exact (HT ((cmp_holds cd x 0).1 q)).by fun T _ X _ t r => XS.ifYes X.here K.cx rfl rfl (hb K.cb hd) rfl ((if0 _ _).trans q) ho hT r
  | false => exact (HF ((cmp_holds cd x 0).2 q)).by fun T _ X _ t r => XS.ifNo X.here K.cx rfl (hb K.cb hd) rfl ((if0 _ _).trans q) r
theorem Go.ifnullN (K : Ctx p s m meth c Z own bs ml ret nm R F B) {o : Int} (hd : decode bs pc = .ok (.ifnull o, 3)) (ho : 0 ≤ (pc : Int) + o) (hT : ((pc : Int) + o).toNat = pc') (H : Go p l e R s m args below meth c n0 Q F B h k n (mkF m pc' Ls st)) : Go p l e R s m args below meth c n0 Q F B h k n (mkF m pc Ls (.null :: st)) :=
  H.by fun T _ X _ t r => XS.ifnullYes X.here K.cx rfl rfl (hb K.cb hd) rfl ho hT r
theorem Go.ifnullR (K : Ctx p s m meth c Z own bs ml ret nm R F B) {o : Int} {a : Addr} (hd : decode bs pc = .ok (.ifnull o, 3)) (hp : pc + 3 = pc') (H : Go p l e R s m args below meth c n0 Q F B h k n (mkF m pc' Ls st)) : Go p l e R s m args below meth c n0 Q F B h k n (mkF m pc Ls (.ref a :: st)) := by
  subst hp
  exact H.by fun T _ X _ t r => XS.ifnullNo X.here K.cx rfl (hb K.cb hd) rfl r
theorem Go.ifnonnullR (K : Ctx p s m meth c Z own bs ml ret nm R F B) {o : Int} {a : Addr} (hd : decode bs pc = .ok (.ifnonnull o, 3)) (ho : 0 ≤ (pc : Int) + o) (hT : ((pc : Int) + o).toNat = pc') (H : Go p l e R s m args below meth c n0 Q F B h k n (mkF m pc' Ls st)) : Go p l e R s m args below meth c n0 Q F B h k n (mkF m pc Ls (.ref a :: st)) :=
  H.by fun T _ X _ t r => XS.ifnonnullYes X.here K.cx rfl rfl (hb K.cb hd) rfl ho hT r
theorem Go.ifnonnullN (K : Ctx p s m meth c Z own bs ml ret nm R F B) {o : Int} (hd : decode bs pc = .ok (.ifnonnull o, 3)) (hp : pc + 3 = pc') (H : Go p l e R s m args below meth c n0 Q F B h k n (mkF m pc' Ls st)) : Go p l e R s m args below meth c n0 Q F B h k n (mkF m pc Ls (.null :: st)) := by
  subst hp
  exact H.by fun T _ X _ t r => XS.ifnonnullNo X.here K.cx rfl (hb K.cb hd) rfl r
/-- if_acmp whose answer is known -/
theorem Go.acmp (K : Ctx p s m meth c Z own bs ml ret nm R F B) {cd : ACond} {x y : Value} {o : Int} {same : Bool} (hd : decode bs pc = .ok (.if_acmp cd o, 3)) (h1 : x.isRef = true) (h2 : y.isRef = true) (hq : decide (x = y) = same) (ho : 0 ≤ (pc : Int) + o) (hp : pc' = if acV cd same = true then ((pc : Int) + o).toNat else pc + 3)
    (H : Go p l e R s m args below meth c n0 Q F B h k n (mkF m pc' Ls st)) : Go p l e R s m args below meth c n0 Q F B h k n (mkF m pc Ls (y :: x :: st)) :=
  H.by fun T _ X _ t r => Jvm.RoadKit.acmp (g := mkF m pc Ls (y :: x :: st)) X K.cx rfl h1 h2 rfl (hb K.cb hd) rfl hq ho hp r
theorem Go.cast {g g' : JFrame} (q : g = g') (H : Go p l e R s m args below meth c n0 Q F B h k n g') : Go p l e R s m args below meth c n0 Q F B h k n g := q ▸ H
/-! the heap -/
theorem Go.getF (K : Ctx p s m meth c Z own bs ml ret nm R F B) {R0 O f d host : String} {j : Nat} {a : Addr} {v : Value} (w : (Jvm.Cond.fieldLink own j R0 f d).before a0 Z = true ∨ (Jvm.Cond.fieldLinkNest own j R0 f d host).before a0 Z = true) (via : Via Z R0 O f d) (Fa : Fld Z h a O f d v) (hd : decode bs pc = .ok (.getfield j, 3)) (hp : pc + 3 = pc')
    (H : Go p l e R s m args below meth c n0 Q F B h k n (mkF m pc' Ls (v :: st))) : Go p l e R s m args below meth c n0 Q F B h k n (mkF m pc Ls (.ref a :: st)) := by
  subst hp
  intro T locs X eT N hB
  obtain ⟨T', X', e', q⟩ := Jvm.RoadKit.getF X K.cx K.cz K.co w via eT Fa (g := mkF m pc Ls (.ref a :: st)) rfl rfl (hb K.cb hd)
  obtain ⟨s₂, o, r1, r2⟩ := H T' locs X' e' N hB
  exact ⟨s₂, o, q _ r1, r2⟩
theorem Go.getS (K : Ctx p s m meth c Z own bs ml ret nm R F B) {R0 O f d host : String} {j : Nat} {v : Value} (w : (Jvm.Cond.fieldLink own j R0 f d).before a0 Z = true ∨ (Jvm.Cond.fieldLinkNest own j R0 f d host).before a0 Z = true) (via : Via Z R0 O f d) (Fa : Sta Z h O f d v) (hd : decode bs pc = .ok (.getstatic j, 3)) (hp : pc + 3 = pc')
    (H : Go p l e R s m args below meth c n0 Q F B h k n (mkF m pc' Ls (v :: st))) : Go p l e R s m args below meth c n0 Q F B h k n (mkF m pc Ls st) := by
  subst hp
  intro T locs X eT N hB
  obtain ⟨T', X', e', q⟩ := Jvm.RoadKit.getS2 X K.cx K.cz K.co w via eT Fa (g := mkF m pc Ls st) rfl (hb K.cb hd)
  obtain ⟨s₂, o, r1, r2⟩ := H T' locs X' e' N hB
  exact ⟨s₂, o, q _ r1, r2⟩
theorem Go.putF (K : Ctx p s m meth c Z own bs ml ret nm R F B) {R0 O f d host C : String} {j kk : Nat} {ty : FieldType} {a : Addr} {v old : Value} (w : (Jvm.Cond.fieldLink own j R0 f d).before a0 Z = true ∨ (Jvm.Cond.fieldLinkNest own j R0 f d host).before a0 Z = true) (via : Via Z R0 O f d) (Fa : Fld Z h a O f d old) (E : Exa Z h a C)
    (L : (Jvm.Cond.lays C O f d).before a0 Z = true ∨ ((Jvm.Cond.laysFinal C O f d).before a0 Z = true ∧ own = O ∧ nm = "<init>")) (wi : (Jvm.Cond.instantiable C kk).before a0 Z = true) (hty : parseFieldDescriptor d = some ty) (hn : narrow ty v = v) (hf : fits ty v = true) (ha : n0 ≤ a) (hd : decode bs pc = .ok (.putfield j, 3)) (hp : pc + 3 = pc')
    (H : ∀ h', Wr h h' a (Jvm.RoadKit.slotOf Z O f d) v → Fld Z h' a O f d v → Go p l e R s m args below meth c n0 Q F B h' k n (mkF m pc' Ls st)) : Go p l e R s m args below meth c n0 Q F B h k n (mkF m pc Ls (v :: .ref a :: st)) := by
  subst hp
  intro T locs X eT N hB
  obtain ⟨T', h', X', e', W, q⟩ := Jvm.RoadKit.putF X K.cx K.cz K.co w via eT Fa E (L.imp id fun r => ⟨r.1, r.2.1, K.cn.trans r.2.2⟩) wi hty hn hf (g := mkF m pc Ls (v :: .ref a :: st)) rfl rfl (hb K.cb hd)
  obtain ⟨s₂, o, r1, r2⟩ := H h' W (Fa.same W) T' _ X' e' (Fr.snoc X' N ha) (Nat.le_trans hB (Keep.of_wr W).1)
  exact ⟨s₂, o, q _ r1, r2⟩
theorem Go.putFN (K : Ctx p s m meth c Z own bs ml ret nm R F B) {R0 O f d C : String} {j kk : Nat} {ty : FieldType} {a : Addr} {v v' old : Value} (w : (Jvm.Cond.fieldLink own j R0 f d).before a0 Z = true) (via : Via Z R0 O f d) (Fa : Fld Z h a O f d old) (E : Exa Z h a C)
    (L : (Jvm.Cond.lays C O f d).before a0 Z = true ∨ ((Jvm.Cond.laysFinal C O f d).before a0 Z = true ∧ own = O ∧ nm = "<init>")) (wi : (Jvm.Cond.instantiable C kk).before a0 Z = true) (hty : parseFieldDescriptor d = some ty) (hn : narrow ty v = v') (hf : fits ty v' = true) (ha : n0 ≤ a) (hd : decode bs pc = .ok (.putfield j, 3)) (hp : pc + 3 = pc')
    (H : ∀ h', Wr h h' a (Jvm.RoadKit.slotOf Z O f d) v' → Fld Z h' a O f d v' → Go p l e R s m args below meth c n0 Q F B h' k n (mkF m pc' Ls st)) : Go p l e R s m args below meth c n0 Q F B h k n (mkF m pc Ls (v :: .ref a :: st)) := by
  subst hp
  intro T locs X eT N hB
  obtain ⟨T', h', X', e', W, q⟩ := Jvm.RoadKit.putFN X K.cx K.cz K.co w via eT Fa E (L.imp id fun r => ⟨r.1, r.2.1, K.cn.trans r.2.2⟩) wi hty hn hf (g := mkF m pc Ls (v :: .ref a :: st)) rfl rfl (hb K.cb hd)
  obtain ⟨s₂, o, r1, r2⟩ := H h' W (Fa.same W) T' _ X' e' (Fr.snoc X' N ha) (Nat.le_trans hB (Keep.of_wr W).1)
  exact ⟨s₂, o, q _ r1, r2⟩
theorem Go.newO (K : Ctx p s m meth c Z own bs ml ret nm R F B) {C : String} {j i : Nat} (w : (Jvm.Cond.classLink own j C).before a0 Z = true) (wi : (Jvm.Cond.instantiable C i).before a0 Z = true) (wz : (Jvm.Cond.initialized C).before a0 Z = true) (hc : k + 1 ≤ R.cells) (hl : n + i ≤ R.slots) (hd : decode bs pc = .ok (.new j, 3)) (hp : pc + 3 = pc')
    (H : ∀ h' a, a = h.size → Ext h h' → Exa Z h' a C → (∀ {O f d : String} {ty : FieldType}, Laid Z a0 C O f d → parseFieldDescriptor d = some ty → Fld Z h' a O f d (defaultValue ty)) → Go p l e R s m args below meth c n0 Q F B h' (k + 1) (n + i) (mkF m pc' Ls (.ref a :: st))) : Go p l e R s m args below meth c n0 Q F B h k n (mkF m pc Ls st) := by
  subst hp
  intro T locs X eT N hB
  obtain ⟨T', h', X', e', E, A, D, -, q⟩ := Jvm.RoadKit.newO X K.cx K.cz K.co w wi wz eT (g := mkF m pc Ls st) rfl (hb K.cb hd) hc hl
  obtain ⟨s₂, o, r1, r2⟩ := H h' h.size rfl E A D T' locs X' e' N (Nat.le_trans hB E.1)
  exact ⟨s₂, o, q _ r1, r2⟩
theorem Go.newP (K : Ctx p s m meth c Z own bs ml ret nm R F B) {aty : ArrayType} {z : Int32} (w : (Jvm.Cond.arrayClass (newarray.typeOf aty)).before a0 Z = true) (hz : ¬ z < 0) (cap : Nat) (hcap : z.toNatClampNeg ≤ cap) (hb8 : cap * 8 ≤ 536870912) (hc : k + 1 ≤ R.cells) (hl : n + cap ≤ R.slots) (hd : decode bs pc = .ok (.newarray aty, 2)) (hp : pc + 2 = pc')
    (H : ∀ h' a kA, a = h.size → Ext h h' → Arv Z h' a kA (newarray.typeOf aty) z [] (defaultValue (newarray.typeOf aty)) → Go p l e R s m args below meth c n0 Q F B h' (k + 1) (n + cap) (mkF m pc' Ls (.ref a :: st))) : Go p l e R s m args below meth c n0 Q F B h k n (mkF m pc Ls (.int z :: st)) := by
  subst hp
  intro T locs X eT N hB
  obtain ⟨T', h', kA, X', e', E, A, q⟩ := Jvm.RoadKit.newP X K.cx K.cz w eT (g := mkF m pc Ls (.int z :: st)) rfl (hb K.cb hd) rfl hz hcap hb8 hc hl
  obtain ⟨s₂, o, r1, r2⟩ := H h' h.size kA rfl E (Arv.new A hz) T' locs X' e' N (Nat.le_trans hB E.1)
  exact ⟨s₂, o, q _ r1, r2⟩
theorem Go.newR (K : Ctx p s m meth c Z own bs ml ret nm R F B) {C : String} {j : Nat} {z : Int32} (w : (Jvm.Cond.classLink own j C).before a0 Z = true) (w2 : (Jvm.Cond.arrayOver (.object C)).before a0 Z = true) (hz : ¬ z < 0) (cap : Nat) (hcap : z.toNatClampNeg ≤ cap) (hb8 : cap * 8 ≤ 536870912) (hc : k + 1 ≤ R.cells) (hl : n + cap ≤ R.slots) (hd : decode bs pc = .ok (.anewarray j, 3)) (hp : pc + 3 = pc')
    (H : ∀ h' a kA, a = h.size → Ext h h' → Arv Z h' a kA (.object C) z [] .null → Ovr Z kA C → Go p l e R s m args below meth c n0 Q F B h' (k + 1) (n + cap) (mkF m pc' Ls (.ref a :: st))) : Go p l e R s m args below meth c n0 Q F B h k n (mkF m pc Ls (.int z :: st)) := by
  subst hp
  intro T locs X eT N hB
  obtain ⟨T', h', kA, X', e', E, A, O, q⟩ := Jvm.RoadKit.newR X K.cx K.cz K.co w w2 eT (g := mkF m pc Ls (.int z :: st)) rfl (hb K.cb hd) rfl hz hcap hb8 hc hl
  obtain ⟨s₂, o, r1, r2⟩ := H h' h.size kA rfl E (Arv.new A hz) O T' locs X' e' N (Nat.le_trans hB E.1)
  exact ⟨s₂, o, q _ r1, r2⟩
/-- castore at the known place i of an array whose first places are said -/
theorem Go.castore (K : Ctx p s m meth c Z own bs ml ret nm R F B) {a : Addr} {kA : ClassId} {z j x : Int32} {vs : List Value} {dv : Value} (V : Arv Z h a kA .char z vs dv) (i : Nat) (hj : j.toNatClampNeg = i) (hi : i < vs.length) (hin : ¬ j < 0 ∧ j < z) (ha : n0 ≤ a) (hd : decode bs pc = .ok (.castore, 1)) (hp : pc + 1 = pc')
    (H : ∀ h', Keep h h' [a] → Arv Z h' a kA .char z (vs.set i (.int (nar .char x))) dv → Go p l e R s m args below meth c n0 Q F B h' k n (mkF m pc' Ls st)) : Go p l e R s m args below meth c n0 Q F B h k n (mkF m pc Ls (.int x :: .int j :: .ref a :: st)) := by
  subst hp
  intro T locs X eT N hB
  obtain ⟨cl, A, q1, S, q3, Hs, G⟩ := V
  obtain ⟨T', h', X', e', W, q⟩ := stC X K.cx K.cz eT A (j := j) (inb_of S hin) (g := mkF m pc Ls (.int x :: .int j :: .ref a :: st)) rfl rfl (hb K.cb hd)
  obtain ⟨s₂, o, r1, r2⟩ := H h' (Keep.of_wr W) (Arv.set A q1 S q3 Hs G (fits_nar_char _) W i hj hi) T' _ X' e' (Fr.snoc X' N ha) (Nat.le_trans hB (Keep.of_wr W).1)
  exact ⟨s₂, o, q _ r1, r2⟩
theorem Go.iastore (K : Ctx p s m meth c Z own bs ml ret nm R F B) {a : Addr} {kA : ClassId} {z j x : Int32} {vs : List Value} {dv : Value} (V : Arv Z h a kA .int z vs dv) (i : Nat) (hj : j.toNatClampNeg = i) (hi : i < vs.length) (hin : ¬ j < 0 ∧ j < z) (ha : n0 ≤ a) (hd : decode bs pc = .ok (.iastore, 1)) (hp : pc + 1 = pc')
    (H : ∀ h', Keep h h' [a] → Arv Z h' a kA .int z (vs.set i (.int x)) dv → Go p l e R s m args below meth c n0 Q F B h' k n (mkF m pc' Ls st)) : Go p l e R s m args below meth c n0 Q F B h k n (mkF m pc Ls (.int x :: .int j :: .ref a :: st)) := by
  subst hp
  intro T locs X eT N hB
  obtain ⟨cl, A, q1, S, q3, Hs, G⟩ := V
  obtain ⟨T', h', X', e', W, q⟩ := stI X K.cx K.cz eT A (j := j) (inb_of S hin) (g := mkF m pc Ls (.int x :: .int j :: .ref a :: st)) rfl rfl (hb K.cb hd)
  obtain ⟨s₂, o, r1, r2⟩ := H h' (Keep.of_wr W) (Arv.set A q1 S q3 Hs G rfl W i hj hi) T' _ X' e' (Fr.snoc X' N ha) (Nat.le_trans hB (Keep.of_wr W).1)
  exact ⟨s₂, o, q _ r1, r2⟩
theorem Go.bastore (K : Ctx p s m meth c Z own bs ml ret nm R F B) {a : Addr} {kA : ClassId} {z j x : Int32} {vs : List Value} {dv : Value} (V : Arv Z h a kA .byte z vs dv) (i : Nat) (hj : j.toNatClampNeg = i) (hi : i < vs.length) (hin : ¬ j < 0 ∧ j < z) (ha : n0 ≤ a) (hd : decode bs pc = .ok (.bastore, 1)) (hp : pc + 1 = pc')
    (H : ∀ h', Keep h h' [a] → Arv Z h' a kA .byte z (vs.set i (.int (nar .byte x))) dv → Go p l e R s m args below meth c n0 Q F B h' k n (mkF m pc' Ls st)) : Go p l e R s m args below meth c n0 Q F B h k n (mkF m pc Ls (.int x :: .int j :: .ref a :: st)) := by
  subst hp
  intro T locs X eT N hB
  obtain ⟨cl, A, q1, S, q3, Hs, G⟩ := V
  obtain ⟨T', h', X', e', W, q⟩ := stB X K.cx K.cz eT A (j := j) (inb_of S hin) (g := mkF m pc Ls (.int x :: .int j :: .ref a :: st)) rfl rfl (hb K.cb hd)
  obtain ⟨s₂, o, r1, r2⟩ := H h' (Keep.of_wr W) (Arv.set A q1 S q3 Hs G (fits_nar_byte _) W i hj hi) T' _ X' e' (Fr.snoc X' N ha) (Nat.le_trans hB (Keep.of_wr W).1)
  exact ⟨s₂, o, q _ r1, r2⟩
theorem Go.bzstore (K : Ctx p s m meth c Z own bs ml ret nm R F B) {a : Addr} {kA : ClassId} {z j x : Int32} {vs : List Value} {dv : Value} (V : Arv Z h a kA .boolean z vs dv) (i : Nat) (hj : j.toNatClampNeg = i) (hi : i < vs.length) (hin : ¬ j < 0 ∧ j < z) (ha : n0 ≤ a) (hd : decode bs pc = .ok (.bastore, 1)) (hp : pc + 1 = pc')
    (H : ∀ h', Keep h h' [a] → Arv Z h' a kA .boolean z (vs.set i (.int (nar .boolean x))) dv → Go p l e R s m args below meth c n0 Q F B h' k n (mkF m pc' Ls st)) : Go p l e R s m args below meth c n0 Q F B h k n (mkF m pc Ls (.int x :: .int j :: .ref a :: st)) := by
  subst hp
  intro T locs X eT N hB
  obtain ⟨cl, A, q1, S, q3, Hs, G⟩ := V
  obtain ⟨T', h', X', e', W, q⟩ := stZ X K.cx K.cz eT A (j := j) (inb_of S hin) (g := mkF m pc Ls (.int x :: .int j :: .ref a :: st)) rfl rfl (hb K.cb hd)
  obtain ⟨s₂, o, r1, r2⟩ := H h' (Keep.of_wr W) (Arv.set A q1 S q3 Hs G (fits_nar_bool _) W i hj hi) T' _ X' e' (Fr.snoc X' N ha) (Nat.le_trans hB (Keep.of_wr W).1)
  exact ⟨s₂, o, q _ r1, r2⟩
theorem Go.aastore (K : Ctx p s m meth c Z own bs ml ret nm R F B) {a : Addr} {kA : ClassId} {C : String} {z j : Int32} {v : Value} {vs : List Value} {dv : Value} (V : Arv Z h a kA (.object C) z vs dv) (S0 : v = .null ∨ ∃ y, v = .ref y ∧ Ovr Z kA C ∧ Ins Z h y C true) (i : Nat) (hj : j.toNatClampNeg = i) (hi : i < vs.length) (hin : ¬ j < 0 ∧ j < z) (ha : n0 ≤ a) (hd : decode bs pc = .ok (.aastore, 1)) (hp : pc + 1 = pc')
    (H : ∀ h', Keep h h' [a] → Arv Z h' a kA (.object C) z (vs.set i v) dv → Go p l e R s m args below meth c n0 Q F B h' k n (mkF m pc' Ls st)) : Go p l e R s m args below meth c n0 Q F B h k n (mkF m pc Ls (v :: .int j :: .ref a :: st)) := by
  subst hp
  intro T locs X eT N hB
  obtain ⟨cl, A, q1, S, q3, Hs, G⟩ := V
  have Fs : Sto Z h a v := by
    rcases S0 with rfl | ⟨y, rfl, O, I⟩
    · exact Or.inl rfl
    · exact Sto.ofV A q1 O I
  have hf : fits (.object C) v = true := by
    rcases S0 with rfl | ⟨y, rfl, O, I⟩ <;> rfl
  obtain ⟨T', h', X', e', W, q⟩ := stR X K.cx K.cz eT A (j := j) (inb_of S hin) rfl Fs (g := mkF m pc Ls (v :: .int j :: .ref a :: st)) rfl rfl (hb K.cb hd)
  obtain ⟨s₂, o, r1, r2⟩ := H h' (Keep.of_wr W) (Arv.set A q1 S q3 Hs G hf W i hj hi) T' _ X' e' (Fr.snoc X' N ha) (Nat.le_trans hB (Keep.of_wr W).1)
  exact ⟨s₂, o, q _ r1, r2⟩
theorem Go.arraylength (K : Ctx p s m meth c Z own bs ml ret nm R F B) {a : Addr} {kA : ClassId} {ty : FieldType} {z : Int32} {vs : List Value} {dv : Value} (V : Arv Z h a kA ty z vs dv) (hd : decode bs pc = .ok (.arraylength, 1)) (hp : pc + 1 = pc')
    (H : Go p l e R s m args below meth c n0 Q F B h k n (mkF m pc' Ls (.int z :: st))) : Go p l e R s m args below meth c n0 Q F B h k n (mkF m pc Ls (.ref a :: st)) := by
  subst hp
  obtain ⟨cl, A, q1, S, q3, Hs, G⟩ := V
  refine H.by fun T _ X eT t q => X.arraylength K.cx (by rw [eT]; exact A.1) (State.isArrayOf_alike K.cz.alike A.2.1) (g := mkF m pc Ls (.ref a :: st)) rfl rfl (hb K.cb hd) t ?_
  rw [len_of S q3]
  exact q
theorem Go.caload (K : Ctx p s m meth c Z own bs ml ret nm R F B) {a : Addr} {kA : ClassId} {z j : Int32} {vs : List Value} {dv v : Value} (V : Arv Z h a kA .char z vs dv) (hin : ¬ j < 0 ∧ j < z) (hv : vs.getD j.toNatClampNeg dv = v) (hd : decode bs pc = .ok (.caload, 1)) (hp : pc + 1 = pc')
    (H : Go p l e R s m args below meth c n0 Q F B h k n (mkF m pc' Ls (v :: st))) : Go p l e R s m args below meth c n0 Q F B h k n (mkF m pc Ls (.int j :: .ref a :: st)) := by
  subst hp
  obtain ⟨cl, A, q1, S, q3, Hs, G⟩ := V
  exact H.by fun T _ X eT t q => X.caload K.cx (by rw [eT]; exact A.1) (State.isArrayOf_alike K.cz.alike A.2.1) A.2.2 (inb_of S hin) (Hs.at (inb_of S hin) hv) (g := mkF m pc Ls (.int j :: .ref a :: st)) rfl rfl (hb K.cb hd) t q
theorem Go.iaload (K : Ctx p s m meth c Z own bs ml ret nm R F B) {a : Addr} {kA : ClassId} {z j : Int32} {vs : List Value} {dv v : Value} (V : Arv Z h a kA .int z vs dv) (hin : ¬ j < 0 ∧ j < z) (hv : vs.getD j.toNatClampNeg dv = v) (hd : decode bs pc = .ok (.iaload, 1)) (hp : pc + 1 = pc')
    (H : Go p l e R s m args below meth c n0 Q F B h k n (mkF m pc' Ls (v :: st))) : Go p l e R s m args below meth c n0 Q F B h k n (mkF m pc Ls (.int j :: .ref a :: st)) := by
  subst hp
  obtain ⟨cl, A, q1, S, q3, Hs, G⟩ := V
  exact H.by fun T _ X eT t q => X.iaload K.cx (by rw [eT]; exact A.1) (State.isArrayOf_alike K.cz.alike A.2.1) A.2.2 (inb_of S hin) (Hs.at (inb_of S hin) hv) (g := mkF m pc Ls (.int j :: .ref a :: st)) rfl rfl (hb K.cb hd) t q
theorem Go.baload (K : Ctx p s m meth c Z own bs ml ret nm R F B) {a : Addr} {kA : ClassId} {z j : Int32} {vs : List Value} {dv v : Value} (V : Arv Z h a kA .byte z vs dv) (hin : ¬ j < 0 ∧ j < z) (hv : vs.getD j.toNatClampNeg dv = v) (hd : decode bs pc = .ok (.baload, 1)) (hp : pc + 1 = pc')
    (H : Go p l e R s m args below meth c n0 Q F B h k n (mkF m pc' Ls (v :: st))) : Go p l e R s m args below meth c n0 Q F B h k n (mkF m pc Ls (.int j :: .ref a :: st)) := by
  subst hp
  obtain ⟨cl, A, q1, S, q3, Hs, G⟩ := V
  exact H.by fun T _ X eT t q => X.baloadBytes K.cx (by rw [eT]; exact A.1) (State.isArrayOf_alike K.cz.alike A.2.1) A.2.2 (inb_of S hin) (Hs.at (inb_of S hin) hv) (g := mkF m pc Ls (.int j :: .ref a :: st)) rfl rfl (hb K.cb hd) t q
theorem Go.aaload (K : Ctx p s m meth c Z own bs ml ret nm R F B) {a : Addr} {kA : ClassId} {C : String} {z j : Int32} {vs : List Value} {dv v : Value} (V : Arv Z h a kA (.object C) z vs dv) (hin : ¬ j < 0 ∧ j < z) (hv : vs.getD j.toNatClampNeg dv = v) (hd : decode bs pc = .ok (.aaload, 1)) (hp : pc + 1 = pc')
    (H : Go p l e R s m args below meth c n0 Q F B h k n (mkF m pc' Ls (v :: st))) : Go p l e R s m args below meth c n0 Q F B h k n (mkF m pc Ls (.int j :: .ref a :: st)) := by
  subst hp
  obtain ⟨cl, A, q1, S, q3, Hs, G⟩ := V
  exact H.by fun T _ X eT t q => X.aaload K.cx (by rw [eT]; exact A.1) (State.isArrayOf_alike K.cz.alike A.2.1) rfl A.2.2 (inb_of S hin) (Hs.at (inb_of S hin) hv) (g := mkF m pc Ls (.int j :: .ref a :: st)) rfl rfl (hb K.cb hd) t q
theorem Go.castY (K : Ctx p s m meth c Z own bs ml ret nm R F B) {C : String} {j : Nat} {a : Addr} (w : (Jvm.Cond.classLink own j C).before a0 Z = true) (Fa : Ins Z h a C true) (hd : decode bs pc = .ok (.checkcast j, 3)) (hp : pc + 3 = pc')
    (H : Go p l e R s m args below meth c n0 Q F B h k n (mkF m pc' Ls (.ref a :: st))) : Go p l e R s m args below meth c n0 Q F B h k n (mkF m pc Ls (.ref a :: st)) := by
  subst hp
  intro T locs X eT N hB
  obtain ⟨T', X', e', q⟩ := Jvm.RoadKit.castY X K.cx K.cz K.co w eT Fa (g := mkF m pc Ls (.ref a :: st)) rfl rfl (hb K.cb hd)
  obtain ⟨s₂, o, r1, r2⟩ := H T' locs X' e' N hB
  exact ⟨s₂, o, q _ r1, r2⟩
theorem Go.instY (K : Ctx p s m meth c Z own bs ml ret nm R F B) {C : String} {j : Nat} {a : Addr} (w : (Jvm.Cond.classLink own j C).before a0 Z = true) (Fa : Ins Z h a C true) (hd : decode bs pc = .ok (.instanceof j, 3)) (hp : pc + 3 = pc')
    (H : Go p l e R s m args below meth c n0 Q F B h k n (mkF m pc' Ls (.int 1 :: st))) : Go p l e R s m args below meth c n0 Q F B h k n (mkF m pc Ls (.ref a :: st)) := by
  subst hp
  intro T locs X eT N hB
  obtain ⟨T', X', e', q⟩ := Jvm.RoadKit.instY X K.cx K.cz K.co w eT Fa (g := mkF m pc Ls (.ref a :: st)) rfl rfl (hb K.cb hd)
  obtain ⟨s₂, o, r1, r2⟩ := H T' locs X' e' N hB
  exact ⟨s₂, o, q _ r1, r2⟩
theorem Go.initO (K : Ctx p s m meth c Z own bs ml ret nm R F B) {j : Nat} {a : Addr} (w1 : (Jvm.Cond.methodLink own j Lib.objectInit).before a0 Z = true) (w2 : (Jvm.Cond.instanceMethod Lib.objectInit).before a0 Z = true) (w3 : (Jvm.Cond.code Lib.objectInit ⟨#[0xb1]⟩ 1 none).before a0 Z = true) (hml : Ls.size = ml) (hf : 1 ≤ R.frames) (W : Nat) (hW : (st.map fun v => v.category).sum ≤ W) (hl : W + 12 ≤ R.locals) (hd : decode bs pc = .ok (.invokespecial j, 3)) (hp : pc + 3 = pc')
    (H : Go p l e R s m args below meth c n0 Q F B h k n (mkF m pc' Ls st)) : Go p l e R s m args below meth c n0 Q F B h k n (mkF m pc Ls (.ref a :: st)) := by
  subst hp
  intro T locs X eT N hB
  obtain ⟨T', X', e', q⟩ := Jvm.RoadKit.initO X K.cx K.cz K.co w1 w2 w3 eT (g := mkF m pc Ls (.ref a :: st)) rfl (hml.trans K.cl.symm) rfl (hb K.cb hd) hf (W := W) (by show 2 * 0 + _ ≤ _; omega) hl
  obtain ⟨s₂, o, r1, r2⟩ := H T' locs X' e' N hB
  exact ⟨s₂, o, q _ r1, r2⟩
/-! calls -/
theorem Go.callS (K : Ctx p s m meth c Z own bs ml ret nm R F B) {j : Nat} {y : MethodName} {bytes : ByteArray} {maxL : Nat} {rt : Option FieldType} {W kc nc : Nat} {Qc : Option Value → Heap → List Loc → Prop} {argsL : List Value}
    (w1 : (Jvm.Cond.methodLink own j y).before args s = true) (w2 : (Jvm.Cond.static y).before args s = true) (w3 : (Jvm.Cond.initialized y.cls).before args s = true) (w4 : (Jvm.Cond.code y bytes maxL rt).before args s = true) (hy : y.cls ≠ "java/lang/invoke/MethodHandle" ∧ y.cls ≠ "java/lang/invoke/VarHandle")
    (hK : Pays l R p e below s args y 3 W argsL.toArray h kc nc Qc) (hml : Ls.size = ml) (hlen : ∀ sig, parseMethodDescriptor y.desc = some sig → argsL.length = sig.parameters.length) (hst : st = argsL.reverse ++ rest) (hW : (rest.map fun v => v.category).sum ≤ W) (hc : k + kc ≤ R.cells) (hs : n + nc ≤ R.slots) (hfr : ∀ v h' L, Qc v h' L → Fr n0 L) (hgr : ∀ v h' L, Qc v h' L → h.size ≤ h'.size) (hd : decode bs pc = .ok (.invokestatic j, 3)) (hp : pc + 3 = pc')
    (H : ∀ v h' L, Qc v h' L → Go p l e R s m args below meth c n0 Q F B h' (k + kc) (n + nc) (mkF m pc' Ls (v.toList ++ rest))) : Go p l e R s m args below meth c n0 Q F B h k n (mkF m pc Ls st) := by
  subst hp hst
  intro T locs X eT N hB
  obtain ⟨v, vm₁, ⟨T', L', k', n'⟩, -, X', ⟨L, hq, l1, y1, z1⟩, q⟩ := Jvm.LawKit.callS X K.cx (y := y) (bytes := bytes) (maxL := maxL) (ret := rt) K.co w1 w2 w3 w4 hy hK (g := mkF m pc Ls (argsL.reverse ++ rest)) rfl (hml.trans K.cl.symm) (argsL := argsL) (rest := rest) hlen rfl (by show 2 * 0 + _ ≤ _; omega) (hb K.cb hd) (fun _ _ => ⟨rfl, eT, hc, hs⟩)
  dsimp only [Pt.U, Pt.locs, Pt.cells, Pt.slots] at X' l1 y1 z1 q hq
  subst l1 y1 z1
  obtain ⟨s₂, o, r1, r2⟩ := H v _ L hq T' _ X' rfl (N.app (hfr _ _ _ hq)) (Nat.le_trans hB (hgr _ _ _ hq))
  exact ⟨s₂, o, q _ r1, r2⟩
theorem Go.callC (K : Ctx p s m meth c Z own bs ml ret nm R F B) {j : Nat} {y : MethodName} {bytes : ByteArray} {maxL : Nat} {W kc nc : Nat} {a : Addr} {Qc : Option Value → Heap → List Loc → Prop} {argsL : List Value} (hy1 : y.name = "<init>")
    (w1 : (Jvm.Cond.methodLink own j y).before args s = true) (w2 : (Jvm.Cond.instanceMethod y).before args s = true) (w4 : (Jvm.Cond.code y bytes maxL none).before args s = true) (hy : y.cls ≠ "java/lang/invoke/MethodHandle" ∧ y.cls ≠ "java/lang/invoke/VarHandle")
    (hK : Pays l R p e below s args y 3 W (.ref a :: argsL).toArray h kc nc Qc) (hml : Ls.size = ml) (hlen : ∀ sig, parseMethodDescriptor y.desc = some sig → argsL.length = sig.parameters.length) (hst : st = argsL.reverse ++ .ref a :: rest) (hW : (rest.map fun v => v.category).sum ≤ W) (hc : k + kc ≤ R.cells) (hs : n + nc ≤ R.slots) (hfr : ∀ v h' L, Qc v h' L → Fr n0 L) (hgr : ∀ v h' L, Qc v h' L → h.size ≤ h'.size) (hd : decode bs pc = .ok (.invokespecial j, 3)) (hp : pc + 3 = pc')
    (H : ∀ v h' L, Qc v h' L → Go p l e R s m args below meth c n0 Q F B h' (k + kc) (n + nc) (mkF m pc' Ls (v.toList ++ rest))) : Go p l e R s m args below meth c n0 Q F B h k n (mkF m pc Ls st) := by
  subst hp hst
  intro T locs X eT N hB
  obtain ⟨v, vm₁, ⟨T', L', k', n'⟩, -, X', ⟨L, hq, l1, y1, z1⟩, q⟩ := X.specialBack K.cx (y := y) (bytes := bytes) (maxL := maxL) hy1 K.co w1 w2 w4 hy hK (g := mkF m pc Ls (argsL.reverse ++ .ref a :: rest)) rfl (hml.trans K.cl.symm) (Steps.refl _) (a := a) (argsL := argsL) (rest := rest) hlen rfl (by show 2 * 0 + _ ≤ _; omega) (hb K.cb hd) (fun _ _ => ⟨rfl, eT, hc, hs⟩)
  dsimp only [Pt.U, Pt.locs, Pt.cells, Pt.slots] at X' l1 y1 z1 q hq
  subst l1 y1 z1
  obtain ⟨s₂, o, r1, r2⟩ := H v _ L hq T' _ X' rfl (N.app (hfr _ _ _ hq)) (Nat.le_trans hB (hgr _ _ _ hq))
  exact ⟨s₂, o, q.trans r1, r2⟩
theorem Go.callV (K : Ctx p s m meth c Z own bs ml ret nm R F B) {j : Nat} {C : String} {y z : MethodName} {W kc nc : Nat} {a : Addr} {Qc : Option Value → Heap → List Loc → Prop} {argsL : List Value}
    (w1 : (Jvm.Cond.methodLink own j y).before args s = true) (w2 : (Jvm.Cond.declares y).before args s = true) (hnf : NotFace s y) (w3 : (Jvm.Cond.selects C y z).before args s = true) (w4 : (Jvm.Cond.instanceMethod z).before args s = true) (hy : y.cls ≠ "java/lang/invoke/MethodHandle" ∧ y.cls ≠ "java/lang/invoke/VarHandle") (E : Exa Z h a C)
    (hK : Pays l R p e below s args z 3 W (.ref a :: argsL).toArray h kc nc Qc) (hml : Ls.size = ml) (hlen : ∀ sig, parseMethodDescriptor y.desc = some sig → argsL.length = sig.parameters.length) (hst : st = argsL.reverse ++ .ref a :: rest) (hW : (rest.map fun v => v.category).sum ≤ W) (hc : k + kc ≤ R.cells) (hs : n + nc ≤ R.slots) (hfr : ∀ v h' L, Qc v h' L → Fr n0 L) (hgr : ∀ v h' L, Qc v h' L → h.size ≤ h'.size) (hd : decode bs pc = .ok (.invokevirtual j, 3)) (hp : pc + 3 = pc')
    (H : ∀ v h' L, Qc v h' L → Go p l e R s m args below meth c n0 Q F B h' (k + kc) (n + nc) (mkF m pc' Ls (v.toList ++ rest))) : Go p l e R s m args below meth c n0 Q F B h k n (mkF m pc Ls st) := by
  subst hp hst
  intro T locs X eT N hB
  obtain ⟨cq, kq, qa, qb, qc⟩ := isOf K.cz eT E
  obtain ⟨v, vm₁, ⟨T', L', k', n'⟩, -, X', ⟨L, hq, l1, y1, z1⟩, q⟩ := X.virtualBack K.cx (y := y) (z := z) K.co w1 w2 hnf w3 w4 hy hK qa qc (g := mkF m pc Ls (argsL.reverse ++ .ref a :: rest)) rfl (hml.trans K.cl.symm) (Steps.refl _) (argsL := argsL) (rest := rest) hlen rfl (by show 2 * 0 + _ ≤ _; omega) (hb K.cb hd) (fun _ _ => ⟨rfl, eT, hc, hs⟩)
  dsimp only [Pt.U, Pt.locs, Pt.cells, Pt.slots] at X' l1 y1 z1 q hq
  subst l1 y1 z1
  obtain ⟨s₂, o, r1, r2⟩ := H v _ L hq T' _ X' rfl (N.app (hfr _ _ _ hq)) (Nat.le_trans hB (hgr _ _ _ hq))
  exact ⟨s₂, o, q.trans r1, r2⟩
theorem nar_ref {C : String} {v : Value} (h : v.isRef = true) : narrow (.object C) v = v := by cases v <;> first | rfl | simp [Value.isRef] at h
theorem fit_ref {C : String} {v : Value} (h : v.isRef = true) : fits (.object C) v = true := by cases v <;> first | rfl | simp [Value.isRef] at h
/-! the ends -/
theorem Go.retN {t : FieldType} (K : Ctx p s m meth c Z own bs ml (some t) nm R F B) {x : Int32} (ht : t = .boolean ∨ t = .byte ∨ t = .char ∨ t = .short) (hk : k ≤ R.cells) (hn : n ≤ R.slots) (hd : decode bs pc = .ok (.ireturn, 1)) (q : ∀ (T : State) (locs : List Loc), Stand p l e R s m args below meth c T locs k n → T.heap = h → Q (some (.int (nar t x))) T.vm h) : Go p l e R s m args below meth c n0 Q F B h k n (mkF m pc Ls (.int x :: st)) := by
  intro T locs X eT N hB
  obtain ⟨fs, hr, hrun, hended, hW, hsame⟩ := X.leave (v := some (.int (nar t x))) (fun h => by rw [K.cr] at h; cases h) K.ck
  exact ⟨_, _, Jvm.RoadKit.retN X K.cx K.cr ht (hb K.cb hd) hr, hrun, hended, _, _, rfl, ⟨(show Q _ T.vm T.heap by rw [eT]; exact q T locs X eT), N⟩, K.ce _ _ _ _ _ hW hsame (by show B ≤ T.heap.size; rw [eT]; exact hB) hk hn⟩
theorem Go.retI (K : Ctx p s m meth c Z own bs ml (some .int) nm R F B) {x : Int32} (hk : k ≤ R.cells) (hn : n ≤ R.slots) (hd : decode bs pc = .ok (.ireturn, 1)) (q : ∀ (T : State) (locs : List Loc), Stand p l e R s m args below meth c T locs k n → T.heap = h → Q (some (.int x)) T.vm h) : Go p l e R s m args below meth c n0 Q F B h k n (mkF m pc Ls (.int x :: st)) := by
  intro T locs X eT N hB
  obtain ⟨fs, hr, hrun, hended, hW, hsame⟩ := X.leave (v := some (.int x)) (fun h => by rw [K.cr] at h; cases h) K.ck
  exact ⟨_, _, Jvm.RoadKit.retI X K.cx K.cr (hb K.cb hd) hr, hrun, hended, _, _, rfl, ⟨(show Q _ T.vm T.heap by rw [eT]; exact q T locs X eT), N⟩, K.ce _ _ _ _ _ hW hsame (by show B ≤ T.heap.size; rw [eT]; exact hB) hk hn⟩
theorem Go.retA {t : FieldType} (K : Ctx p s m meth c Z own bs ml (some t) nm R F B) {v : Value} (hnn : narrow t v = v) (ht : t.isReference = true) (hv : v.isRef = true) (hk : k ≤ R.cells) (hn : n ≤ R.slots) (hd : decode bs pc = .ok (.areturn, 1)) (q : ∀ (T : State) (locs : List Loc), Stand p l e R s m args below meth c T locs k n → T.heap = h → Q (some v) T.vm h) : Go p l e R s m args below meth c n0 Q F B h k n (mkF m pc Ls (v :: st)) := by
  intro T locs X eT N hB
  obtain ⟨fs, hr, hrun, hended, hW, hsame⟩ := X.leave (v := some v) (fun h => by rw [K.cr] at h; cases h) K.ck
  exact ⟨_, _, Jvm.RoadKit.retR X K.cx K.cr hnn ht hv (hb K.cb hd) hr, hrun, hended, _, _, rfl, ⟨(show Q _ T.vm T.heap by rw [eT]; exact q T locs X eT), N⟩, K.ce _ _ _ _ _ hW hsame (by show B ≤ T.heap.size; rw [eT]; exact hB) hk hn⟩
theorem Go.retJ (K : Ctx p s m meth c Z own bs ml (some .long) nm R F B) {x : Int64} (hk : k ≤ R.cells) (hn : n ≤ R.slots) (hd : decode bs pc = .ok (.lreturn, 1)) (q : ∀ (T : State) (locs : List Loc), Stand p l e R s m args below meth c T locs k n → T.heap = h → Q (some (.long x)) T.vm h) : Go p l e R s m args below meth c n0 Q F B h k n (mkF m pc Ls (.long x :: st)) := by
  intro T locs X eT N hB
  obtain ⟨fs, hr, hrun, hended, hW, hsame⟩ := X.leave (v := some (.long x)) (fun h => by rw [K.cr] at h; cases h) K.ck
  exact ⟨_, _, Jvm.RoadKit.retL X K.cx K.cr (hb K.cb hd) hr, hrun, hended, _, _, rfl, ⟨(show Q _ T.vm T.heap by rw [eT]; exact q T locs X eT), N⟩, K.ce _ _ _ _ _ hW hsame (by show B ≤ T.heap.size; rw [eT]; exact hB) hk hn⟩
theorem Go.retV (K : Ctx p s m meth c Z own bs ml none nm R F B) (hk : k ≤ R.cells) (hn : n ≤ R.slots) (hd : decode bs pc = .ok (.return_, 1)) (q : ∀ (T : State) (locs : List Loc), Stand p l e R s m args below meth c T locs k n → T.heap = h → Q none T.vm h) : Go p l e R s m args below meth c n0 Q F B h k n (mkF m pc Ls []) := by
  intro T locs X eT N hB
  obtain ⟨fs, hr, hrun, hended, hW, hsame⟩ := X.leave (v := none) (fun _ => rfl) K.ck
  exact ⟨_, _, X.returnOut K.cx K.cr (hb K.cb hd) hr, hrun, hended, _, _, rfl, ⟨(show Q _ T.vm T.heap by rw [eT]; exact q T locs X eT), N⟩, K.ce _ _ _ _ _ hW hsame (by show B ≤ T.heap.size; rw [eT]; exact hB) hk hn⟩
/-- a contract out of a walk -/
theorem Met.of {ws : List Jvm.Cond} {y : MethodName} {rm : Room} {as' : Array Value} {h0 : Heap} {Qm : Option Value → Heap → Prop} (hpl : plainFor y = true)
    (H : ∀ (p : Program) (e : Env) (s : State) (m : MethodId) (below : List Frame) (meth : Method) (c : Code) (F : Outcome → State → List Loc → Prop), Ctx p s m meth c Z y.cls bs ml ret y.name rm F 0 → Go p l e rm s m as' below meth c n0 (fun v _ h => Qm v h) F 0 h0 0 0 (entryFrame m as' ml)) : Met l Z ws y bs ml ret rm as' h0 n0 Qm := by
  refine MetFree.of_bodySF hpl hisR ?_
  intro p e s m args below meth c s₁ Bd hml0 hP hK
  obtain ⟨rfl, hZ, hh⟩ := hP
  have X0 : Stand p l e rm s m args below meth c s₁ [] 0 0 := Stand.of_body Bd
  have e0 : s₁.heap = h0 := by rw [← hh, Bd.state]; rfl
  obtain ⟨s₂, o, r1, r2, r3, v, L, rfl, ⟨q1, q2⟩, q3⟩ := H p e s m below meth c (fun o t L => FrameEnd s o t L rm.cells rm.slots) ⟨Bd.exec, hZ, findClass_of_methodNamed Bd.named, Bd.bytes, hml0, Bd.returns, (name_of_methodNamed Bd.named Bd.method).1, Bd.notSynchronized, fun t v L k n hW hs _ hk hn => ⟨⟨v, rfl⟩, hW, hs.mono hk hn⟩⟩ s₁ [] X0 e0 (Fr.nil n0) (Nat.zero_le _)
  exact ⟨s₂, _, r1, r2, r3, v, L, rfl, ⟨⟨q1, q2⟩, by have := q3.2.2.2.1; rw [← hh]; exact this⟩, q3⟩
theorem MetK.of {ws : List Jvm.Cond} {y : MethodName} {rm : Room} {as' : Array Value} {h0 : Heap} {Qm : Option Value → Heap → Prop} (hpl : plainFor y = true)
    (H : ∀ (p : Program) (e : Env) (s : State) (m : MethodId) (below : List Frame) (meth : Method) (c : Code) (F : Outcome → State → List Loc → Prop), s.heap = h0 → s.vm.MethodsKnown → s.vm.FramesKnown below → Ctx p s m meth c Z y.cls bs ml ret y.name rm F 0 → Go p l e rm s m as' below meth c n0 (fun v _ h => Qm v h) F 0 h0 0 0 (entryFrame m as' ml)) : MetK l Z ws y bs ml ret rm as' h0 n0 Qm := by
  refine MetFree.of_bodySF hpl hisR ?_
  intro p e s m args below meth c s₁ Bd hml0 hP hK
  obtain ⟨rfl, hZ, hh⟩ := hP
  have X0 : Stand p l e rm s m args below meth c s₁ [] 0 0 := Stand.of_body Bd
  have e0 : s₁.heap = h0 := by rw [← hh, Bd.state]; rfl
  obtain ⟨s₂, o, r1, r2, r3, v, L, rfl, ⟨q1, q2⟩, q3⟩ := H p e s m below meth c (fun o t L => FrameEnd s o t L rm.cells rm.slots) hh hK.1 hK.2 ⟨Bd.exec, hZ, findClass_of_methodNamed Bd.named, Bd.bytes, hml0, Bd.returns, (name_of_methodNamed Bd.named Bd.method).1, Bd.notSynchronized, fun t v L k n hW hs _ hk hn => ⟨⟨v, rfl⟩, hW, hs.mono hk hn⟩⟩ s₁ [] X0 e0 (Fr.nil n0) (Nat.zero_le _)
  exact ⟨s₂, _, r1, r2, r3, v, L, rfl, ⟨⟨q1, q2⟩, by have := q3.2.2.2.1; rw [← hh]; exact this⟩, q3⟩
theorem Met.pays {y : MethodName} {rm : Room} {as' : Array Value} {h0 : Heap} {len W : Nat} {Qm : Option Value → Heap → Prop} (M : Met l Z [] y bs ml ret rm as' h0 n0 Qm) (hZ : Z.Warmed39 s.vm) (wc : (Jvm.Cond.code y bs ml ret).before a0 Z = true) (wz : (Jvm.Cond.initialized y.cls).before a0 Z = true) (hf : rm.frames + 1 ≤ R.frames) (hl : W + (ml + 11) + rm.locals ≤ R.locals) :
    Pays l R p e below s args y len W as' h0 rm.cells rm.slots (fun v h L => (Qm v h ∧ Fr n0 L) ∧ h0.size ≤ h.size) :=
  backOf (Q := fun v h L => (Qm v h ∧ Fr n0 L) ∧ h0.size ≤ h.size) M hZ wc wz hf hl
theorem MetK.pays {y : MethodName} {rm : Room} {as' : Array Value} {h0 : Heap} {len W : Nat} {Qm : Option Value → Heap → Prop} (M : MetK l Z [] y bs ml ret rm as' h0 n0 Qm) (hZ : Z.Warmed39 s.vm) (wc : (Jvm.Cond.code y bs ml ret).before a0 Z = true) (wz : (Jvm.Cond.initialized y.cls).before a0 Z = true) (hf : rm.frames + 1 ≤ R.frames) (hl : W + (ml + 11) + rm.locals ≤ R.locals) (hTK : s.vm.MethodsKnown) (hBelow : s.vm.FramesKnown below) :
    Pays l R p e below s args y len W as' h0 rm.cells rm.slots (fun v h L => (Qm v h ∧ Fr n0 L) ∧ h0.size ≤ h.size) :=
  backOfKL (Q := fun v h L => (Qm v h ∧ Fr n0 L) ∧ h0.size ≤ h.size) M hZ wc wz hf hl hTK hBelow
theorem frOf {n0 N : Nat} {Q : Option Value → Heap → Prop} : ∀ (v : Option Value) (h' : Heap) (L : List Loc), ((Q v h' ∧ Fr n0 L) ∧ N ≤ h'.size) → Fr n0 L := fun _ _ _ q => q.1.2
theorem grOf {n0 N : Nat} {Q : Option Value → Heap → Prop} : ∀ (v : Option Value) (h' : Heap) (L : List Loc), ((Q v h' ∧ Fr n0 L) ∧ N ≤ h'.size) → N ≤ h'.size := fun _ _ _ q => q.2
/-! String constants, and callees that load them -/
section Wide
variable {vm0 : Vm} {EL : List (String × Nat)}
abbrev FW (s : State) (R : Room) : Outcome → State → List Loc → Prop := fun o t L => ReturnedEndW s o t L R.cells R.slots
theorem Ctx.wide {B1 : Nat} {vm1 : Vm} (hS : s.Since vm1 B1) (hx : p.tables.exec = Jvm.exec) (hZ : Z.Warmed39 vm1) (ho : vm1.findClass own = some m.cls) (hby : c.code = bs) (hml : c.maxLocals = ml) (hr : meth.sig.returnType = ret) (hn : meth.name = nm) (hk : meth.locks = false) : Ctx p (s.setVm vm1) m meth c Z own bs ml ret nm R (FW s R) B1 :=
  ⟨hx, hZ, ho, hby, hml, hr, hn, hk, fun t v L k n hW hs hB h1 h2 => by
    obtain ⟨a, b, c'⟩ := hS.ended (U := t) hW hB hs
    exact ⟨⟨v, rfl⟩, a, b, c'.mono h1 h2⟩⟩
/-- ldc of a String constant of which nothing is asked -/
theorem Go.ldcO (K : Ctx p (s.setVm vm0) m meth c Z own bs ml ret nm R (FW s R) B) (hS : s.Since vm0 B) {text : String} {j i : Nat} (w : (Jvm.Cond.stringLink own j text).before a0 Z = true) (wS : ∀ a ∈ Bundle.stringAtoms, a.before a0 Z = true) (hEL : EW Z a0 EL) (HC : CHv Z EL vm0 h) (hi : 4 * text.toList.length ≤ i) (hbig : i ≤ 536870912) (hc : k + 2 ≤ R.cells) (hl : n + (i + 4) ≤ R.slots) (hd : decode bs pc = .ok (.ldc j, 2)) (hp : pc + 2 = pc')
    (H : ∀ a vm1 h' B1, Ext h h' → CHr Z EL vm0 h vm1 h' → s.Since vm1 B1 → Ctx p (s.setVm vm1) m meth c Z own bs ml ret nm R (FW s R) B1 → Go p l e R (s.setVm vm1) m args below meth c n0 Q (FW s R) B1 h' (k + 2) (n + (i + 4)) (mkF m pc' Ls (.ref a :: st))) : Go p l e R (s.setVm vm0) m args below meth c n0 Q (FW s R) B h k n (mkF m pc Ls st) := by
  subst hp
  intro T locs X eT N hB
  obtain ⟨a, T', h', k1, X', e', E, hS', hk', hZ', ho', hr', -, q⟩ := ldcOH X K.cx K.cz K.co w wS eT hS hB hEL HC (g := mkF m pc Ls st) rfl (hb K.cb hd) hi hbig hc hl
  obtain ⟨s₂, o, r1, r2⟩ := H a T'.vm h' k1 E hr' hS' (Ctx.wide hS' K.cx hZ' ho' K.cb K.cl K.cr K.cn K.ck) T' locs X' e' N hk'
  exact ⟨s₂, o, q _ r1, r2⟩
/-- ldc of a String constant that is read -/
theorem Go.ldcV (K : Ctx p (s.setVm vm0) m meth c Z own bs ml ret nm R (FW s R) B) (hS : s.Since vm0 B) {text : String} {j i : Nat} (w : (Jvm.Cond.stringLink own j text).before a0 Z = true) (wS : ∀ a ∈ Bundle.stringAtoms, a.before a0 Z = true) (hEL : EW Z a0 EL) (hmem : (own, j) ∈ EL) (HC : CHv Z EL vm0 h)
    {vs : List Value} {z : Int32} (ht : (∀ c ∈ text.toList, c.toNat < 256) ∧ text.toList.map (fun c => Value.int (Jvm.Lit.byteI c.toNat.toUInt16)) = vs) (hz : ¬ z < 0) (hlz : z.toNatClampNeg = vs.length)
    (hi : 4 * text.toList.length ≤ i) (hbig : i ≤ 536870912) (hc : k + 2 ≤ R.cells) (hl : n + (i + 4) ≤ R.slots) (hd : decode bs pc = .ok (.ldc j, 2)) (hp : pc + 2 = pc')
    (H : ∀ a b kb vm1 h' B1, Ext h h' → CHr Z EL vm0 h vm1 h' → s.Since vm1 B1 → Exa Z h' a "java/lang/String" → Fld Z h' a "java/lang/String" "coder" "B" (.int 0) → Fld Z h' a "java/lang/String" "value" "[B" (.ref b) → Arv Z h' b kb .byte z vs (.int 0) → (∀ x, Safe Z EL vm1 h' x → x ≠ a ∧ x ≠ b) → Ctx p (s.setVm vm1) m meth c Z own bs ml ret nm R (FW s R) B1 →
      Go p l e R (s.setVm vm1) m args below meth c n0 Q (FW s R) B1 h' (k + 2) (n + (i + 4)) (mkF m pc' Ls (.ref a :: st))) : Go p l e R (s.setVm vm0) m args below meth c n0 Q (FW s R) B h k n (mkF m pc Ls st) := by
  subst hp
  intro T locs X eT N hB
  obtain ⟨a, T', h', k1, b, kb, X', e', E, hS', hk', hZ', ho', x1, x2, x3, x4, -, -, hr', -, hsf, q⟩ := ldcCH X K.cx K.cz K.co w wS eT hS hB hEL hmem HC ht hz hlz (g := mkF m pc Ls st) rfl (hb K.cb hd) hi hbig hc hl
  obtain ⟨s₂, o, r1, r2⟩ := H a b kb T'.vm h' k1 E hr' hS' x1 x2 x3 x4 hsf (Ctx.wide hS' K.cx hZ' ho' K.cb K.cl K.cr K.cn K.ck) T' locs X' e' N hk'
  exact ⟨s₂, o, q _ r1, r2⟩
theorem Go.callSW (K : Ctx p (s.setVm vm0) m meth c Z own bs ml ret nm R (FW s R) B) (hS : s.Since vm0 B) {j : Nat} {y : MethodName} {bytes : ByteArray} {maxL : Nat} {rt : Option FieldType} {W kc nc : Nat} {Qc : Option Value → Heap → List Loc → Prop} {argsL : List Value}
    (w1 : (Jvm.Cond.methodLink own j y).before args (s.setVm vm0) = true) (w2 : (Jvm.Cond.static y).before args (s.setVm vm0) = true) (w3 : (Jvm.Cond.initialized y.cls).before args (s.setVm vm0) = true) (w4 : (Jvm.Cond.code y bytes maxL rt).before args (s.setVm vm0) = true) (hy : y.cls ≠ "java/lang/invoke/MethodHandle" ∧ y.cls ≠ "java/lang/invoke/VarHandle")
    (hK : PaysW l R p e below s vm0 args y 3 W argsL.toArray h kc nc Z EL Qc) (hml : Ls.size = ml) (hlen : ∀ sig, parseMethodDescriptor y.desc = some sig → argsL.length = sig.parameters.length) (hst : st = argsL.reverse ++ rest) (hW : (rest.map fun v => v.category).sum ≤ W) (hc : k + kc ≤ R.cells) (hs : n + nc ≤ R.slots) (hfr : ∀ v h' L, Qc v h' L → Fr n0 L) (hd : decode bs pc = .ok (.invokestatic j, 3)) (hp : pc + 3 = pc')
    (H : ∀ v h' L vm1 B1, Qc v h' L → CHr Z EL vm0 h vm1 h' → s.Since vm1 B1 → Ctx p (s.setVm vm1) m meth c Z own bs ml ret nm R (FW s R) B1 → Go p l e R (s.setVm vm1) m args below meth c n0 Q (FW s R) B1 h' (k + kc) (n + nc) (mkF m pc' Ls (v.toList ++ rest))) : Go p l e R (s.setVm vm0) m args below meth c n0 Q (FW s R) B h k n (mkF m pc Ls st) := by
  subst hp hst
  intro T locs X eT N hB
  obtain ⟨v, vm₁, ⟨T', L', k', n'⟩, -, X', hs2, hg, ⟨L, hq, l1, y1, z1, hr⟩, q⟩ := callSS X K.cx (y := y) (bytes := bytes) (maxL := maxL) (ret := rt) K.co w1 w2 w3 w4 hy hK (g := mkF m pc Ls (argsL.reverse ++ rest)) rfl (hml.trans K.cl.symm) (argsL := argsL) (rest := rest) hlen rfl (by show 2 * 0 + _ ≤ _; omega) (hb K.cb hd) (fun _ _ => ⟨rfl, eT, hc, hs⟩)
  dsimp only [Pt.U, Pt.locs, Pt.cells, Pt.slots] at X' l1 y1 z1 q hq hr hs2 hg
  subst l1 y1 z1
  obtain ⟨X2, hS2, hZ2, ho2⟩ := rebS hS (Nat.le_trans hB (Nat.le_of_eq (congrArg Array.size eT.symm))) X' hs2 hg K.cz K.co
  obtain ⟨s₂, o, r1, r2⟩ := H v _ L _ _ hq hr hS2 (Ctx.wide hS2 K.cx hZ2 ho2 K.cb K.cl K.cr K.cn K.ck) T' _ X2 rfl (N.app (hfr _ _ _ hq)) (Nat.le_refl _)
  exact ⟨s₂, o, q.trans r1, r2⟩
theorem Go.callCW (K : Ctx p (s.setVm vm0) m meth c Z own bs ml ret nm R (FW s R) B) (hS : s.Since vm0 B) {j : Nat} {y : MethodName} {bytes : ByteArray} {maxL : Nat} {W kc nc : Nat} {a : Addr} {Qc : Option Value → Heap → List Loc → Prop} {argsL : List Value} (hy1 : y.name = "<init>")
    (w1 : (Jvm.Cond.methodLink own j y).before args (s.setVm vm0) = true) (w2 : (Jvm.Cond.instanceMethod y).before args (s.setVm vm0) = true) (w4 : (Jvm.Cond.code y bytes maxL none).before args (s.setVm vm0) = true) (hy : y.cls ≠ "java/lang/invoke/MethodHandle" ∧ y.cls ≠ "java/lang/invoke/VarHandle")
    (hK : PaysW l R p e below s vm0 args y 3 W (.ref a :: argsL).toArray h kc nc Z EL Qc) (hml : Ls.size = ml) (hlen : ∀ sig, parseMethodDescriptor y.desc = some sig → argsL.length = sig.parameters.length) (hst : st = argsL.reverse ++ .ref a :: rest) (hW : (rest.map fun v => v.category).sum ≤ W) (hc : k + kc ≤ R.cells) (hs : n + nc ≤ R.slots) (hfr : ∀ v h' L, Qc v h' L → Fr n0 L) (hd : decode bs pc = .ok (.invokespecial j, 3)) (hp : pc + 3 = pc')
    (H : ∀ v h' L vm1 B1, Qc v h' L → CHr Z EL vm0 h vm1 h' → s.Since vm1 B1 → Ctx p (s.setVm vm1) m meth c Z own bs ml ret nm R (FW s R) B1 → Go p l e R (s.setVm vm1) m args below meth c n0 Q (FW s R) B1 h' (k + kc) (n + nc) (mkF m pc' Ls (v.toList ++ rest))) : Go p l e R (s.setVm vm0) m args below meth c n0 Q (FW s R) B h k n (mkF m pc Ls st) := by
  subst hp hst
  intro T locs X eT N hB
  obtain ⟨v, vm₁, ⟨T', L', k', n'⟩, -, X', hs2, hg, ⟨L, hq, l1, y1, z1, hr⟩, q⟩ := X.specialBackS K.cx (y := y) (bytes := bytes) (maxL := maxL) hy1 K.co w1 w2 w4 hy hK (g := mkF m pc Ls (argsL.reverse ++ .ref a :: rest)) rfl (hml.trans K.cl.symm) (Steps.refl _) (a := a) (argsL := argsL) (rest := rest) hlen rfl (by show 2 * 0 + _ ≤ _; omega) (hb K.cb hd) (fun _ _ => ⟨rfl, eT, hc, hs⟩)
  dsimp only [Pt.U, Pt.locs, Pt.cells, Pt.slots] at X' l1 y1 z1 q hq hr hs2 hg
  subst l1 y1 z1
  obtain ⟨X2, hS2, hZ2, ho2⟩ := rebS hS (Nat.le_trans hB (Nat.le_of_eq (congrArg Array.size eT.symm))) X' hs2 hg K.cz K.co
  obtain ⟨s₂, o, r1, r2⟩ := H v _ L _ _ hq hr hS2 (Ctx.wide hS2 K.cx hZ2 ho2 K.cb K.cl K.cr K.cn K.ck) T' _ X2 rfl (N.app (hfr _ _ _ hq)) (Nat.le_refl _)
  exact ⟨s₂, o, q.trans r1, r2⟩
theorem Go.callVW (K : Ctx p (s.setVm vm0) m meth c Z own bs ml ret nm R (FW s R) B) (hS : s.Since vm0 B) {j : Nat} {C : String} {y z : MethodName} {W kc nc : Nat} {a : Addr} {Qc : Option Value → Heap → List Loc → Prop} {argsL : List Value}
    (w1 : (Jvm.Cond.methodLink own j y).before args (s.setVm vm0) = true) (w2 : (Jvm.Cond.declares y).before args (s.setVm vm0) = true) (hnf : NotFace (s.setVm vm0) y) (w3 : (Jvm.Cond.selects C y z).before args (s.setVm vm0) = true) (w4 : (Jvm.Cond.instanceMethod z).before args (s.setVm vm0) = true) (hy : y.cls ≠ "java/lang/invoke/MethodHandle" ∧ y.cls ≠ "java/lang/invoke/VarHandle") (E : Exa Z h a C)
    (hK : PaysW l R p e below s vm0 args z 3 W (.ref a :: argsL).toArray h kc nc Z EL Qc) (hml : Ls.size = ml) (hlen : ∀ sig, parseMethodDescriptor y.desc = some sig → argsL.length = sig.parameters.length) (hst : st = argsL.reverse ++ .ref a :: rest) (hW : (rest.map fun v => v.category).sum ≤ W) (hc : k + kc ≤ R.cells) (hs : n + nc ≤ R.slots) (hfr : ∀ v h' L, Qc v h' L → Fr n0 L) (hd : decode bs pc = .ok (.invokevirtual j, 3)) (hp : pc + 3 = pc')
    (H : ∀ v h' L vm1 B1, Qc v h' L → CHr Z EL vm0 h vm1 h' → s.Since vm1 B1 → Ctx p (s.setVm vm1) m meth c Z own bs ml ret nm R (FW s R) B1 → Go p l e R (s.setVm vm1) m args below meth c n0 Q (FW s R) B1 h' (k + kc) (n + nc) (mkF m pc' Ls (v.toList ++ rest))) : Go p l e R (s.setVm vm0) m args below meth c n0 Q (FW s R) B h k n (mkF m pc Ls st) := by
  subst hp hst
  intro T locs X eT N hB
  obtain ⟨cq, kq, qa, qb, qc⟩ := isOf K.cz eT E
  obtain ⟨v, vm₁, ⟨T', L', k', n'⟩, -, X', hs2, hg, ⟨L, hq, l1, y1, z1, hr⟩, q⟩ := X.virtualBackS K.cx (y := y) (z := z) K.co w1 w2 hnf w3 w4 hy hK qa qc (g := mkF m pc Ls (argsL.reverse ++ .ref a :: rest)) rfl (hml.trans K.cl.symm) (Steps.refl _) (argsL := argsL) (rest := rest) hlen rfl (by show 2 * 0 + _ ≤ _; omega) (hb K.cb hd) (fun _ _ => ⟨rfl, eT, hc, hs⟩)
  dsimp only [Pt.U, Pt.locs, Pt.cells, Pt.slots] at X' l1 y1 z1 q hq hr hs2 hg
  subst l1 y1 z1
  obtain ⟨X2, hS2, hZ2, ho2⟩ := rebS hS (Nat.le_trans hB (Nat.le_of_eq (congrArg Array.size eT.symm))) X' hs2 hg K.cz K.co
  obtain ⟨s₂, o, r1, r2⟩ := H v _ L _ _ hq hr hS2 (Ctx.wide hS2 K.cx hZ2 ho2 K.cb K.cl K.cr K.cn K.ck) T' _ X2 rfl (N.app (hfr _ _ _ hq)) (Nat.le_refl _)
  exact ⟨s₂, o, q.trans r1, r2⟩
theorem MetW.of {ws : List Jvm.Cond} {y : MethodName} {rm : Room} {as' : Array Value} {h0 : Heap} {Qm : Option Value → Heap → Prop} (hpl : plainFor y = true)
    (H : ∀ (p : Program) (e : Env) (s : State) (m : MethodId) (below : List Frame) (meth : Method) (c : Code) (vm0 : Vm) (B : Nat), s.Since vm0 B → CHv Z EL vm0 h0 → Ctx p (s.setVm vm0) m meth c Z y.cls bs ml ret y.name rm (FW s rm) B → Go p l e rm (s.setVm vm0) m as' below meth c n0 (fun v vm h => Qm v h ∧ CHr Z EL vm0 h0 vm h) (FW s rm) B h0 0 0 (entryFrame m as' ml)) : MetW l Z ws EL y bs ml ret rm as' h0 n0 Qm := by
  refine MetFree.of_bodySF hpl hisR ?_
  intro p e s m args below meth c s₁ Bd hml0 hP hK
  obtain ⟨rfl, hZ, hh, hC⟩ := hP
  have X0 : Stand p l e rm (s.setVm s.vm) m args below meth c s₁ [] 0 0 := Stand.of_body Bd
  have e0 : s₁.heap = h0 := by rw [← hh, Bd.state]; rfl
  have hS : s.Since s.vm 0 := (State.WarmedH.refl s).since 0
  obtain ⟨s₂, o, r1, r2, r3, v, L, rfl, ⟨⟨q1, q1'⟩, q2⟩, q3⟩ := H p e s m below meth c s.vm 0 hS hC (Ctx.wide hS Bd.exec hZ (findClass_of_methodNamed Bd.named) Bd.bytes hml0 Bd.returns (name_of_methodNamed Bd.named Bd.method).1 Bd.notSynchronized) s₁ [] X0 e0 (Fr.nil n0) (Nat.zero_le _)
  exact ⟨s₂, _, r1, r2, r3, v, L, rfl, ⟨⟨q1, q2⟩, q1'.2.1⟩, by rw [hh]; exact q1', q3⟩
theorem MetWK.of {ws : List Jvm.Cond} {y : MethodName} {rm : Room} {as' : Array Value} {h0 : Heap} {Qm : Option Value → Heap → Prop} (hpl : plainFor y = true)
    (H : ∀ (p : Program) (e : Env) (s : State) (m : MethodId) (below : List Frame) (meth : Method) (c : Code) (vm0 : Vm) (B : Nat), s.heap = h0 → s.vm.MethodsKnown → s.vm.FramesKnown below → s.Since vm0 B → CHv Z EL vm0 h0 → Ctx p (s.setVm vm0) m meth c Z y.cls bs ml ret y.name rm (FW s rm) B → Go p l e rm (s.setVm vm0) m as' below meth c n0 (fun v vm h => Qm v h ∧ CHr Z EL vm0 h0 vm h) (FW s rm) B h0 0 0 (entryFrame m as' ml)) : MetWK l Z ws EL y bs ml ret rm as' h0 n0 Qm := by
  refine MetFree.of_bodySF hpl hisR ?_
  intro p e s m args below meth c s₁ Bd hml0 hP hK
  obtain ⟨rfl, hZ, hh, hC⟩ := hP
  have X0 : Stand p l e rm (s.setVm s.vm) m args below meth c s₁ [] 0 0 := Stand.of_body Bd
  have e0 : s₁.heap = h0 := by rw [← hh, Bd.state]; rfl
  have hS : s.Since s.vm 0 := (State.WarmedH.refl s).since 0
  obtain ⟨s₂, o, r1, r2, r3, v, L, rfl, ⟨⟨q1, q1'⟩, q2⟩, q3⟩ := H p e s m below meth c s.vm 0 hh hK.1 hK.2 hS hC (Ctx.wide hS Bd.exec hZ (findClass_of_methodNamed Bd.named) Bd.bytes hml0 Bd.returns (name_of_methodNamed Bd.named Bd.method).1 Bd.notSynchronized) s₁ [] X0 e0 (Fr.nil n0) (Nat.zero_le _)
  exact ⟨s₂, _, r1, r2, r3, v, L, rfl, ⟨⟨q1, q2⟩, q1'.2.1⟩, by rw [hh]; exact q1', q3⟩
theorem MetW.pays {y : MethodName} {rm : Room} {as' : Array Value} {h0 : Heap} {len W : Nat} {Qm : Option Value → Heap → Prop} (M : MetW l Z [] EL y bs ml ret rm as' h0 n0 Qm) (hZ : Z.Warmed39 vm0) (wc : (Jvm.Cond.code y bs ml ret).before a0 Z = true) (wz : (Jvm.Cond.initialized y.cls).before a0 Z = true) (hf : rm.frames + 1 ≤ R.frames) (hl : W + (ml + 11) + rm.locals ≤ R.locals) (hEL : EW Z a0 EL) (HC : CHv Z EL vm0 h0) :
    PaysW l R p e below s vm0 args y len W as' h0 rm.cells rm.slots Z EL (fun v h L => (Qm v h ∧ Fr n0 L) ∧ h0.size ≤ h.size) :=
  backOfSH (Q := fun v h L => (Qm v h ∧ Fr n0 L) ∧ h0.size ≤ h.size) M hZ wc wz hf hl hEL HC
theorem MetWK.pays {y : MethodName} {rm : Room} {as' : Array Value} {h0 : Heap} {len W : Nat} {Qm : Option Value → Heap → Prop} (M : MetWK l Z [] EL y bs ml ret rm as' h0 n0 Qm) (hZ : Z.Warmed39 vm0) (wc : (Jvm.Cond.code y bs ml ret).before a0 Z = true) (wz : (Jvm.Cond.initialized y.cls).before a0 Z = true) (hf : rm.frames + 1 ≤ R.frames) (hl : W + (ml + 11) + rm.locals ≤ R.locals) (hEL : EW Z a0 EL) (HC : CHv Z EL vm0 h0) (hTK : vm0.MethodsKnown) (hBelow : vm0.FramesKnown below) :
    PaysW l R p e below s vm0 args y len W as' h0 rm.cells rm.slots Z EL (fun v h L => (Qm v h ∧ Fr n0 L) ∧ h0.size ≤ h.size) :=
  backOfSKH (Q := fun v h L => (Qm v h ∧ Fr n0 L) ∧ h0.size ≤ h.size) M hZ wc wz hf hl hEL HC hTK hBelow
/-- what a wide walk says at its return -/
theorem own_end {Z : State} {EL : List (String × Nat)} {vmS vm0 : Vm} {hS h : Heap} {P : Prop} (hEL : EW Z a0 EL) (hZ : Z.Warmed39 vm0) (CR : CHr Z EL vmS hS vm0 h) (q : P) : ∀ (T : State) (locs : List Loc), Stand p l e R (s.setVm vm0) m args below meth c T locs k n → T.heap = h → P ∧ CHr Z EL vmS hS T.vm h :=
  fun T locs X eT => ⟨q, CR.trans (CHv.at X hZ hEL CR.1)⟩
end Wide
theorem own_ne {a b : Nat} {h : Heap} (h1 : a < h.size) (h2 : h.size ≤ b) : a ≠ b := Nat.ne_of_lt (Nat.lt_of_lt_of_le h1 h2)
end GoKit
end Jvm.Pilot.@@N@@
namespace Jvm.Pilot.@@N@@
open Jvm Jvm.ClassFile Sem Op Lib Jvm.Free Jvm.Stand Jvm.LawKit Jvm.RoadKit Bundle Jvm.Pilot.@@N@@.Jvm.D
section ExcKit
variable {p : Program} {l : Launch} {e : Env} {R : Room} {s : State} {m : MethodId} {args : Array Value} {below : List Frame} {meth : Method} {c : Code} {n0 : Nat} {Q : Option Value → Vm → Heap → Prop} {F : Outcome → State → List Loc → Prop} {B : Nat} {h : Heap} {k n : Nat}
variable {Z : State} {own : String} {bs : ByteArray} {ml : Nat} {ret : Option FieldType} {nm : String} {a0 : Array Value}
variable {pc pc' : Nat} {Ls Ls' : Array Slot} {st rest : List Value}
theorem Go.newU (K : Ctx p s m meth c Z own bs ml ret nm R F B) {C : String} {j i : Nat} (w : (Jvm.Cond.classLink own j C).before a0 Z = true) (wi : (Jvm.Cond.instantiable C i).before a0 Z = true) (wz : (Jvm.Cond.initialized C).before a0 Z = true) (hc : k + 1 ≤ R.cells) (hl : n + i ≤ R.slots) (hd : decode bs pc = .ok (.new j, 3)) (hp : pc + 3 = pc')
    (H : ∀ h' a, a = h.size → Ext h h' → Exa Z h' a C → (∀ {O f d : String} {ty : FieldType}, Laid Z a0 C O f d → parseFieldDescriptor d = some ty → Fld Z h' a O f d (defaultValue ty)) → Unt h' a → Go p l e R s m args below meth c n0 Q F B h' (k + 1) (n + i) (mkF m pc' Ls (.ref a :: st))) : Go p l e R s m args below meth c n0 Q F B h k n (mkF m pc Ls st) := by
  subst hp
  intro T locs X eT N hB
  obtain ⟨T', h', X', e', E, A, D, U, q⟩ := Jvm.RoadKit.newO X K.cx K.cz K.co w wi wz eT (g := mkF m pc Ls st) rfl (hb K.cb hd) hc hl
  obtain ⟨s₂, o, r1, r2⟩ := H h' h.size rfl E A D U T' locs X' e' N (Nat.le_trans hB E.1)
  exact ⟨s₂, o, q _ r1, r2⟩
theorem Go.exc1 (K : Ctx p s m meth c Z own bs ml ret nm R F B) (hl : l.stackTraces = true) {rc : String} {links : List Jvm.Free.Exc.Link} {ic i : Nat} {a : Addr} {msg : Value} (hok : Jvm.Free.Exc.linksOk 1 links = true)
    (w1 : (Jvm.Cond.methodLink own ic (Jvm.Free.Exc.ctor 1 (Jvm.Free.Exc.headName links))).before a0 Z = true) (w2 : (Jvm.Cond.instanceMethod (Jvm.Free.Exc.ctor 1 (Jvm.Free.Exc.headName links))).before a0 Z = true) (wT : (Jvm.Free.Exc.chainTab 1 rc links).before a0 Z = true) (wi : (Jvm.Cond.instantiable rc i).before a0 Z = true) (r : ∀ d ∈ twoRefs, d.before a0 Z = true)
    (hT0 : ThS Z s.heap) (hT : ThS Z h) (hTK : s.vm.MethodsKnown) (hBl : s.vm.FramesKnown below) (E : Exa Z h a rc) (N0 : Unt h a) (B1 : Fld Z h a "java/lang/Throwable" "backtrace" "Ljava/lang/Object;" .null) (B2 : Fld Z h a "java/lang/Throwable" "detailMessage" "Ljava/lang/String;" .null) (hmsg : msg.isRef = true) (ha : n0 ≤ a)
    (hml : Ls.size = ml) (hf : 4 + links.length ≤ R.frames) (W : Nat) (hW : (st.map fun v => v.category).sum ≤ W) (hlo : W + (56 + 14 * links.length) ≤ R.locals) (hc : k + 1 ≤ R.cells) (hsl : n + 2752 ≤ R.slots) (hd : decode bs pc = .ok (.invokespecial ic, 3)) (hp : pc + 3 = pc')
    (H : ∀ h', Kp Z h h' a → Exa Z h' a rc → Unt h' a → Fld Z h' a "java/lang/Throwable" "detailMessage" "Ljava/lang/String;" msg → ThS Z h' → Go p l e R s m args below meth c n0 Q F B h' (k + 1) (n + 2752) (mkF m pc' Ls st)) : Go p l e R s m args below meth c n0 Q F B h k n (mkF m pc Ls (msg :: .ref a :: st)) := by
  subst hp
  intro T locs X eT N hB
  obtain ⟨T', h', X', e', Kq, E', U', D', -, hT', q⟩ := excL1 X K.cx hl K.cz K.co (links := links) (rc := rc) (ic := ic) (n := i) hok w1 w2 wT wi r hT0 hT hTK hBl eT E N0 B1 B2 hmsg (g := mkF m pc Ls (msg :: .ref a :: st)) rfl (hml.trans K.cl.symm) (rest := st) rfl (hb K.cb hd) hf (by show 2 * 0 + _ + _ ≤ _; omega) hc hsl
  obtain ⟨s₂, o, r1, r2⟩ := H h' Kq E' U' D' hT' T' _ X' e' (Fr.six N ha) (Nat.le_trans hB Kq.1)
  exact ⟨s₂, o, q _ r1, r2⟩
theorem Go.exc2 (K : Ctx p s m meth c Z own bs ml ret nm R F B) (hl : l.stackTraces = true) {rc : String} {links : List Jvm.Free.Exc.Link} {ic i : Nat} {a : Addr} {msg cz : Value} (hok : Jvm.Free.Exc.linksOk 2 links = true)
    (w1 : (Jvm.Cond.methodLink own ic (Jvm.Free.Exc.ctor 2 (Jvm.Free.Exc.headName links))).before a0 Z = true) (w2 : (Jvm.Cond.instanceMethod (Jvm.Free.Exc.ctor 2 (Jvm.Free.Exc.headName links))).before a0 Z = true) (wT : (Jvm.Free.Exc.chainTab 2 rc links).before a0 Z = true) (wi : (Jvm.Cond.instantiable rc i).before a0 Z = true) (r : ∀ d ∈ twoRefs, d.before a0 Z = true)
    (hT0 : ThS Z s.heap) (hT : ThS Z h) (hTK : s.vm.MethodsKnown) (hBl : s.vm.FramesKnown below) (E : Exa Z h a rc) (N0 : Unt h a) (B1 : Fld Z h a "java/lang/Throwable" "backtrace" "Ljava/lang/Object;" .null) (B2 : Fld Z h a "java/lang/Throwable" "detailMessage" "Ljava/lang/String;" .null) (hmsg : msg.isRef = true) (hcz : cz.isRef = true) (ha : n0 ≤ a)
    (hml : Ls.size = ml) (hf : 4 + links.length ≤ R.frames) (W : Nat) (hW : (st.map fun v => v.category).sum ≤ W) (hlo : W + (56 + 14 * links.length) ≤ R.locals) (hc : k + 1 ≤ R.cells) (hsl : n + 2752 ≤ R.slots) (hd : decode bs pc = .ok (.invokespecial ic, 3)) (hp : pc + 3 = pc')
    (H : ∀ h', Kp Z h h' a → Exa Z h' a rc → Unt h' a → Fld Z h' a "java/lang/Throwable" "detailMessage" "Ljava/lang/String;" msg → ThS Z h' → Go p l e R s m args below meth c n0 Q F B h' (k + 1) (n + 2752) (mkF m pc' Ls st)) : Go p l e R s m args below meth c n0 Q F B h k n (mkF m pc Ls (cz :: msg :: .ref a :: st)) := by
  subst hp
  intro T locs X eT N hB
  obtain ⟨T', h', X', e', Kq, E', U', D', -, hT', q⟩ := excL2 X K.cx hl K.cz K.co (links := links) (rc := rc) (ic := ic) (n := i) hok w1 w2 wT wi r hT0 hT hTK hBl eT E N0 B1 B2 hmsg hcz (g := mkF m pc Ls (cz :: msg :: .ref a :: st)) rfl (hml.trans K.cl.symm) (rest := st) rfl (hb K.cb hd) hf (by show 2 * 0 + _ + _ ≤ _; omega) hc hsl
  obtain ⟨s₂, o, r1, r2⟩ := H h' Kq E' U' D' hT' T' _ X' e' (Fr.six N ha) (Nat.le_trans hB Kq.1)
  exact ⟨s₂, o, q _ r1, r2⟩
theorem own_known {s : State} {m : MethodId} {args : Array Value} {below : List Frame} (hf : s.frames = .invoking m args :: below) (h1 : framesKnown s = true) (h2 : tablesKnown s = true) : s.vm.MethodsKnown ∧ s.vm.FramesKnown below := by
  constructor
  · intro m' x hx
    cases hk : s.vm.classes[m'.cls]? with
    | none => simp [Vm.method?, hk] at hx
    | some kk =>
      refine ⟨kk, hk, fun cf hcf => ?_⟩
      have hx' : kk.methods[m'.idx]? = some x := by simpa [Vm.method?, hk] using hx
      have q := (Array.all_eq_true_iff_forall_mem.mp h2) kk (by obtain ⟨hi, rfl⟩ := Array.getElem?_eq_some_iff.mp hk; exact Array.getElem_mem hi)
      rw [hcf] at q
      have e : kk.methods.size = cf.methods.size := by simpa using q
      have hi := (Array.getElem?_eq_some_iff.mp hx').1
      rw [Array.getElem?_eq_getElem (by omega)]
      rfl
  · intro y hy m' hm'
    have q := List.all_eq_true.mp h1 y (by rw [hf]; exact List.mem_cons_of_mem _ hy)
    have hkn : methodKnown s.vm m' = true := by
      cases y <;> simp [frameMethod?] at hm' <;> (try (subst hm'; simpa using q))
    unfold methodKnown at hkn
    cases hk : s.vm.classes[m'.cls]? with
    | none => rw [hk] at hkn; cases hkn
    | some kk =>
      rw [hk] at hkn
      refine ⟨kk, hk, fun cf hcf => ?_⟩
      simpa [hcf] using hkn
end ExcKit
end Jvm.Pilot.@@N@@
namespace Jvm.Pilot.@@N@@
open Jvm Jvm.ClassFile Sem Op Lib Jvm.Free Jvm.Stand Jvm.LawKit Jvm.RoadKit Bundle Jvm.Pilot.@@N@@.Jvm.D
section FillKit
open Jvm.Free.Exc (obD msgD thD)
/-- the words that Throwable.fillInStackTrace() asks of a receiver of the class rc: the places are asked of rc alone -/
def fillW (rc : String) : List Jvm.Cond := [.initialized tN, .superclass tN "java/lang/Object", .instanceMethod tFill, .codeSync tFill LibCode.Throwable.Fill.code 1 (some (.object tN)), .instanceMethod tFill0, .native tFill0, .instanceMethod oInit, .code oInit object_method_1_code 1 none,
  .methodLink tN 1 oInit, .methodLink tN 27 tFill, .methodLink tN 202 tFill0, .fieldLink tN 7 tN "cause" thD, .lays rc tN "cause" thD, .fieldLink tN 17 tN "stackTrace" steD, .lays rc tN "stackTrace" steD, .fieldLink tN 24 tN "suppressedExceptions" listD, .lays rc tN "suppressedExceptions" listD,
  .fieldLink tN 13 tN "UNASSIGNED_STACK" steD, .laysStatic tN "UNASSIGNED_STACK" steD, .fieldLink tN 20 tN "SUPPRESSED_SENTINEL" listD, .laysStatic tN "SUPPRESSED_SENTINEL" listD, .lays rc tN "detailMessage" msgD,
  .declares tFill, .selects rc tFill0 tFill0, .selects rc tFill tFill, .fieldLink tN 198 tN "backtrace" obD, .lays rc tN "backtrace" obD, .arrayOver (.object "java/lang/Object"), .soleField tN "backtrace", .soleField tN "depth", .lays rc tN "depth" "I"]
theorem fillW_ok {rc : String} : (fillW rc).all xOk = true := rfl
/-- what the library's law of fillInStackTrace asks of the tables -/
theorem own_links {args : Array Value} {s : State} {pl : Platform} {rc : String} (ho : pl.frameOwnsMonitors = true) (hf : pl.finalization = false) (hpl : pl.magicAccessors = ({} : Platform).magicAccessors) (H : ∀ d ∈ fillW rc, d.before args s = true) :
    ∃ T : ThrowableC, T.Links pl s ∧ s.vm.findClass tN = some T.cT ∧ s.methodNamed? tFill = some T.fill ∧ s.methodNamed? tFill0 = some T.fill0 ∧ s.fieldFound? tN "stackTrace" steD = some (T.cT, T.kT, T.i17, T.fStack) ∧ s.fieldFound? tN "UNASSIGNED_STACK" steD = some (T.cT, T.kT, T.i13, T.fUnassigned) ∧ T.fStack.type = .array (.object "java/lang/StackTraceElement") := by
  have w : ∀ (i : Nat) (d : Jvm.Cond), (fillW rc)[i]? = some d → d.holds args s none s [] = true := fun i d q => H d (List.mem_of_getElem? q)
  obtain ⟨c, hc⟩ : ∃ c, s.vm.findClass tN = some c := by
    obtain ⟨q0, _, q, -⟩ := Cond.native_spec (w 5 _ rfl)
    exact ⟨q0.cls, findClass_of_methodNamed q⟩
  obtain ⟨k, hk, hname⟩ := Vm.findClass_spec hc
  obtain ⟨_, k1, _, _, hk1, _, _, -, _, hni⟩ := Cond.superclass_spec hc (w 1 _ rfl)
  cases Option.some.inj (hk.symm.trans hk1)
  -- the two methods and the constructor of Object
  obtain ⟨iF, mF, nF, gF, aF, sF, bF, -, -⟩ := Cond.ownMethod (x := tFill) hc hk (w 2 _ rfl)
  obtain ⟨mF', cF, gF', kF, yF, lF, rF, oF, -, pF⟩ := Cond.codeSync_spec nF (w 3 _ rfl)
  cases Option.some.inj (gF.symm.trans gF')
  obtain ⟨i0, m0, n0, g0, a0, s0, b0, d0, e0⟩ := Cond.ownMethod (x := tFill0) hc hk (w 4 _ rfl)
  obtain ⟨m0i, m0', n0', g0', t0, k0, o0, p0⟩ := Cond.native_spec (w 5 _ rfl)
  cases Option.some.inj (n0.symm.trans n0')
  cases Option.some.inj (g0.symm.trans g0')
  obtain ⟨mO, xO, nO, gO, sO, bO⟩ := Cond.instanceMethod_spec (w 6 _ rfl)
  obtain ⟨xO', cO, gO', kO, yO, lO, -, oO, -, pO⟩ := Cond.code_spec nO (w 7 _ rfl)
  cases Option.some.inj (gO.symm.trans gO')
  obtain ⟨kOb, hkO, hnO⟩ := Vm.findClass_spec (findClass_of_methodNamed nO)
  obtain ⟨uO, vO⟩ := name_of_methodNamed nO gO
  -- the links
  obtain ⟨ci1, n1, cf, l1, r1, hcf, q1⟩ := Cond.linkedMethod hc hk nO (w 8 _ rfl) pl hpl
  obtain ⟨ci27, n27, cf2, l27, r27, hcf2, q27⟩ := Cond.linkedMethod hc hk nF (w 9 _ rfl) pl hpl
  cases Option.some.inj (hcf.symm.trans hcf2)
  obtain ⟨ci202, n202, cf3, l202, r202, hcf3, q202⟩ := Cond.linkedMethod hc hk n0 (w 10 _ rfl) pl hpl
  cases Option.some.inj (hcf.symm.trans hcf3)
  -- the fields: their places are asked of rc
  obtain ⟨ci7, i7, f7, l7, r7, a7, s7, z7, -, -, -⟩ := Cond.ownField (t := .object tN) hc hk (by decide +kernel) (w 11 _ rfl) (w 12 _ rfl) pl hpl
  obtain ⟨ci17, i17, f17, l17, r17, a17, s17, z17, x17, t17, y17⟩ := Cond.ownField (t := .array (.object "java/lang/StackTraceElement")) hc hk (by decide +kernel) (w 13 _ rfl) (w 14 _ rfl) pl hpl
  obtain ⟨ci24, i24, f24, l24, r24, a24, s24, z24, x24, -, y24⟩ := Cond.ownField (t := .object "java/util/List") hc hk (by decide +kernel) (w 15 _ rfl) (w 16 _ rfl) pl hpl
  obtain ⟨ci13, i13, f13, aS, cS, l13, r13, a13, s13, -, -, hsta, -, -, -, -, y13⟩ := Cond.ownStatic (t := .array (.object "java/lang/StackTraceElement")) hc hk (by decide +kernel) (w 17 _ rfl) (w 18 _ rfl) pl hpl
  obtain ⟨ci20, i20, f20, _, _, l20, r20, a20, s20, -⟩ := Cond.ownStatic (t := .object "java/util/List") hc hk (by decide +kernel) (w 19 _ rfl) (w 20 _ rfl) pl hpl
  obtain ⟨cR, kR, cM, kM, iM, fM, hcR, hkR, -, sM, zM, -⟩ := Cond.lays_spec (w 21 _ rfl)
  obtain ⟨-, d17, u17, v17⟩ := Cond.laysAt hcR hkR y17 (w 14 _ rfl)
  obtain ⟨-, d24, u24, v24⟩ := Cond.laysAt hcR hkR y24 (w 16 _ rfl)
  have ap : f17.slot ≠ f24.slot := Cond.laysApart u17 u24 v17 v24 (by rw [x17, x24]; decide)
  have hsig : ∀ {d : String} {L : List FieldType} {sg : MethodDescriptor}, (parseMethodDescriptor d).map (·.parameters) = some L → parseMethodDescriptor d = some sg → sg.parameters = L := fun q1 q2 => by rw [q2] at q1; simpa using q1
  refine ⟨{ cT := c, kT := k, cO := c, aS := aS, fillIdx := iF, fill0Idx := i0, initSIdx := iF, obj := mO, kObj := kOb, methFill := mF, methFill0 := m0, methInitS := mF, methObj := xO, codeFill := cF, codeInitS := cF, codeObj := cO, fBack := f7, fDepth := f7, fStack := f17, fCause := f7, fSupp := f24, fMsg := fM, fUnassigned := f13, fSentinel := f20, cfT := cf, ci1 := ci1, n1 := n1, ci27 := ci27, n27 := n27, ci202 := ci202, n202 := n202, ci7 := ci7, i7 := i7, ci13 := ci13, i13 := i13, ci17 := ci17, i17 := i17, ci20 := ci20, i20 := i20, ci24 := ci24, i24 := i24 }, ?_, hc, nF, n0, y17, y13, t17⟩
  constructor
  case owns => exact ho
  case noFinalization => exact hf
  case cls => exact hk
  case name => exact hname
  case boot => exact Vm.findClass_boot hc hk
  case notInterface => exact hni
  case initialized => exact Cond.initialized_spec hc hk (w 0 _ rfl)
  case objFound => show lookupSpecial _ _ _ xO.desc = _; rw [vO]; exact lookupSpecial_of_named nO gO sO
  case objParams => show xO.sig.parameters.length = 0; rw [hsig (L := []) (by decide +kernel) pO]; rfl
  case objBytes => exact yO
  case fillParams => exact hsig (by decide +kernel) pF
  case fill0Params => exact hsig (by decide +kernel) p0
  all_goals assumption
variable {p : Program} {l : Launch} {e : Env} {R : Room} {s : State} {m : MethodId} {args : Array Value} {below : List Frame} {meth : Method} {c : Code} {n0 : Nat} {Q : Option Value → Vm → Heap → Prop} {F : Outcome → State → List Loc → Prop} {B : Nat} {h : Heap} {k n : Nat}
variable {Z : State} {own : String} {bs : ByteArray} {ml : Nat} {ret : Option FieldType} {nm : String} {a0 : Array Value}
variable {pc pc' : Nat} {Ls Ls' : Array Slot} {st rest : List Value}
theorem own_ths {h0 : Heap} (O : Old Z n0 h0) : ThS Z h0 := fun _ _ _ _ _ _ _ q _ => O.2.2 _ _ q
set_option maxHeartbeats 4000000 in
/-- the call of fillInStackTrace() in Throwable's own constructors -/
theorem Go.fill (K : Ctx p s m meth c Z tN bs ml ret nm R F B) (hl : l.stackTraces = true) {rc : String} {i : Nat} {a u : Addr} (Wf : ∀ d ∈ fillW rc, d.before a0 Z = true) (wi : (Jvm.Cond.instantiable rc i).before a0 Z = true)
    (hT0 : ThS Z s.heap) (O : Old Z n0 h) (hTK : s.vm.MethodsKnown) (hBl : s.vm.FramesKnown below) (E : Exa Z h a rc) (N0 : Unt h a) (B1 : Fld Z h a tN "backtrace" obD .null) (B2 : Fld Z h a tN "stackTrace" steD (.ref u)) (SU : Sta Z Z.heap tN "UNASSIGNED_STACK" steD (.ref u)) (ha : n0 ≤ a)
    (hml : Ls.size = ml) (hfr : 2 < R.frames) (W : Nat) (hW : (st.map fun v => v.category).sum ≤ W) (hlo : W + 42 ≤ R.locals) (hc : k + 1 ≤ R.cells) (hsl : n + 2752 ≤ R.slots) (hd : decode bs pc = .ok (.invokevirtual 27, 3)) (hp : pc + 3 = pc')
    (H : ∀ h1 h2 h3 h' x y, Ext h h1 → Wr h1 h2 a (Jvm.RoadKit.slotOf Z tN "backtrace" obD) (.ref x) → Wr h2 h3 a (Jvm.RoadKit.slotOf Z tN "depth" "I") (.int y) → Wr h3 h' a (Jvm.RoadKit.slotOf Z tN "stackTrace" steD) (.ref u) → Go p l e R s m args below meth c n0 Q F B h' (k + 1) (n + 2752) (mkF m pc' Ls (.ref a :: st))) : Go p l e R s m args below meth c n0 Q F B h k n (mkF m pc Ls (.ref a :: st)) := by
  subst hp
  intro T0 locs X eT N hB
  have htr : e.platform.stackTraces = true := by rw [X.admits.platform]; exact hl
  have ho : e.platform.frameOwnsMonitors = true := by rw [X.admits.platform]
  have hfi : e.platform.finalization = false := by rw [X.admits.platform]
  have hpl : e.platform.magicAccessors = ({} : Platform).magicAccessors := by rw [X.admits.platform]
  have V : ∀ d ∈ fillW rc, d.before args s = true := fun d hd => mvX hT0 K.cz (List.all_eq_true.mp fillW_ok d hd) (Wf d hd)
  have w : ∀ (i : Nat) (d : Jvm.Cond), (fillW rc)[i]? = some d → d.before args s = true := fun i d q => V d (List.mem_of_getElem? q)
  have v : ∀ (i : Nat) (d : Jvm.Cond), (fillW rc)[i]? = some d → d.holds args s none s [] = true := fun i d q => w i d q
  obtain ⟨T, L, fT, nF, n00, yS, yU, tS⟩ := own_links (rc := rc) ho hfi hpl V
  have hal := K.cz.alike
  -- the receiver's cell
  obtain ⟨cell, kc, e1, e2, e3, e4, e5⟩ := id E
  obtain ⟨c2, u1, u2, u3⟩ := id N0
  cases e1.symm.trans u1
  obtain ⟨c3, cB, kB, iB, fB, b1, b2, -, -, -, -, b7⟩ := id B1
  cases e1.symm.trans b1
  obtain ⟨c4, cS, kS, iS, fS, d1, d2, -, -, -, -, d7⟩ := id B2
  cases e1.symm.trans d1
  obtain ⟨c5, k5, g1, g2, g3, -⟩ := Cond.instantiable_spec wi
  cases e2.symm.trans g1
  cases e3.symm.trans g2
  obtain ⟨kX, q1, q2⟩ := hal.2.2 _ _ e3
  have hfound : s.vm.findClass rc = some cell.cls := by rw [hal.findClass]; exact e2
  have hord : kX.kind = .ordinary := by rw [q2]; exact g3
  have hsz : cell.slots.size = kX.instanceTypes.size := by rw [q2]; exact e5 g3
  have tk : ∀ {f : Field} {v : Value}, kX.instanceTypes[f.slot]? = some f.type → fits f.type v = true → Jvm.Takes s cell f v := fun {f v} h1 h2 => by
    obtain ⟨r1, r2⟩ := Takes.of_laid (v := v) q1 hord h1 h2
    exact ⟨by rw [hsz]; simpa using r1, by rw [u2]; exact r2⟩
  -- its fields
  obtain ⟨k6, z6, -⟩ := State.fieldFound?_setVm (s := Z) hal d2
  have eS := Option.some.inj ((show s.fieldFound? tN "stackTrace" steD = _ from z6).symm.trans yS)
  simp only [Prod.mk.injEq] at eS
  obtain rfl : fS = T.fStack := eS.2.2.2
  obtain ⟨ci198, i198, fB', l198, r198, a198, sB, -, xB, tB, yB⟩ := Cond.ownField (t := .object "java/lang/Object") fT L.cls (by decide +kernel) (v 25 _ rfl) (v 26 _ rfl) e.platform hpl
  obtain ⟨k7, z7, -⟩ := State.fieldFound?_setVm (s := Z) hal b2
  have eB := Option.some.inj ((show s.fieldFound? tN "backtrace" obD = _ from z7).symm.trans yB)
  simp only [Prod.mk.injEq] at eB
  obtain rfl : fB = fB' := eB.2.2.2
  obtain ⟨_, _, cD, kD, iD, fD, -, -, yD, sD, -⟩ := Cond.lays_spec (v 30 _ rfl)
  cases Option.some.inj ((Cond.lays_declared (v 30 _ rfl) yD).symm.trans fT)
  obtain ⟨hkD, aD⟩ := State.fieldFound?_spec yD
  cases Option.some.inj (hkD.symm.trans L.cls)
  obtain ⟨xD, tD⟩ := State.fieldFound?_type yD (t := .int) (by decide +kernel)
  obtain ⟨_, _, _, zD⟩ := Jvm.Free.BdW.found_ride (U := s) (U' := Z) hal.symm ⟨_, _, _, yD⟩
  have hfb := Cond.soleField_find fT L.cls (v 28 _ rfl) a198 xB sB
  have hfd := Cond.soleField_find fT L.cls (v 29 _ rfl) aD xD sD
  obtain ⟨comp, cO, kO, -, -, hkO, hkindO, hO⟩ := Cond.arrayOver_spec (w 27 _ rfl)
  obtain ⟨pS, -⟩ := Cond.laysAt hfound q1 yS (v 14 _ rfl)
  obtain ⟨pB, -⟩ := Cond.laysAt hfound q1 yB (v 26 _ rfl)
  obtain ⟨pD, -⟩ := Cond.laysAt hfound q1 yD (v 30 _ rfl)
  have hsel0 : selectMethod e.platform s.vm cell.cls T.fill0 = .method T.fill0 := by
    obtain ⟨c2, r2, m2, q1, q2, q3, q4, -⟩ := Cond.selects_spec (v 23 _ rfl)
    cases Option.some.inj (q1.symm.trans hfound)
    cases Option.some.inj (q2.symm.trans (State.methodFound?_of_named n00 (by decide)))
    cases Option.some.inj (q3.symm.trans n00)
    rw [Launch.admits_selectMethod X.admits]; exact q4
  -- the static
  obtain ⟨cU, iU, kU, fU, aU, cellU, v1, -, -, v4, v5, v6, v7⟩ := SU
  obtain ⟨k8, z8, hk8⟩ := State.fieldFound?_setVm (s := Z) hal v1
  have eU := Option.some.inj ((show s.fieldFound? tN "UNASSIGNED_STACK" steD = _ from z8).symm.trans yU)
  simp only [Prod.mk.injEq] at eU
  have st8 : k8.statics = some aU := by rw [hk8]; exact v4
  have eA : T.aS = aU := Option.some.inj (L.statics.symm.trans (eU.2.1 ▸ st8))
  rw [eU.2.2.2] at v7
  have hU : h[T.aS]? = some cellU := by rw [eA]; exact O.2.2 _ _ v5
  have hneS : T.aS ≠ a := fun q => by
    rw [q] at hU
    cases e1.symm.trans hU
    rw [u2] at v6
    cases v6
  have hSE := w 24 _ rfl
  obtain ⟨vr, vm6, ⟨T6, L6, c6, n6⟩, -, X6, ⟨hv6, vm', lines, hli, -, hU6, hL6, hc6, hn6⟩, come⟩ := X.virtualBack K.cx (own := tN) (C := rc) (index := 27) (y := tFill) (z := tFill) K.co (w 9 _ rfl) (w 22 _ rfl) (notFace_of_selects hSE) hSE (w 2 _ rfl) (by decide)
    (Jvm.Free.Str.fillPays (l := l) (W := W) K.cx htr T L nF (u0 := ⟨.ref u, rfl⟩) (fun q => nomatch q) (self := a) (cell := cell) (cellS := cellU) (fun _ => by rw [u2]; simp) (by rw [u2]; simp) (by rw [u3]) (by rw [u3]) d7 hsel0 hneS (fun q => by rw [q] at v6; cases v6) v7 (tk pS (by rw [tS]; rfl))
      ⟨{ ci198 := ci198, i198 := i198, fBack := fB }, ⟨l198, r198, a198, sB⟩, b7⟩ hTK hBl fT hO hkO hkindO hfb hfd (fun x => tk pB (by rw [tB]; rfl)) (fun x => tk pD (by rw [tD]; rfl)) hfr hlo)
    (b := a) (cB := cell.cls) hfound ⟨cell, by rw [eT]; exact e1, rfl, by rw [u2]; rfl⟩ (g := mkF m pc Ls (.ref a :: st)) rfl (hml.trans K.cl.symm) (Steps.refl _) (argsL := []) (rest := st)
    (fun sig q => by rw [show parseMethodDescriptor tFill.desc = some ⟨[], some (.object tN)⟩ from by decide +kernel] at q; rw [← Option.some.inj q]; rfl) rfl (by show 2 * 0 + _ ≤ _; omega) (hb K.cb hd)
    (fun vmx _ => ⟨rfl, hc, hsl, by show T0.heap[a]? = _; rw [eT]; exact e1, by show T0.heap[T.aS]? = _; rw [eT]; exact hU⟩)
  dsimp only [Pt.U, Pt.locs, Pt.cells, Pt.slots] at X6 hU6 hL6 hc6 hn6 come
  subst hv6 hL6 hc6 hn6
  -- the heap, write by write
  have hlt : a < h.size := (Array.getElem?_eq_some_iff.mp e1).1
  have lB : fB.slot < cell.slots.size := (Array.getElem?_eq_some_iff.mp b7).1
  have lS : T.fStack.slot < cell.slots.size := (Array.getElem?_eq_some_iff.mp d7).1
  have lD : fD.slot < cell.slots.size := (tk (v := .int 0) pD (by rw [tD]; rfl)).1
  have es : cell.vm.isStatics = false := e4
  generalize hx : (T0.setVm vm6).heap.size = x at hU6
  generalize lines.length.toInt32 = y at hU6
  generalize hh1 : h.push (traceHolder cO lines) = h1
  have h1a : h1[a]? = some cell := by rw [← hh1, Array.getElem?_push_lt hlt]; exact (Array.getElem?_eq_getElem hlt).symm.trans e1
  have hlt1 : a < h1.size := (Array.getElem?_eq_some_iff.mp h1a).1
  have E1 : Ext h h1 := ⟨by rw [← hh1, Array.size_push]; exact Nat.le_succ _, fun b cb q => by
    have hb := (Array.getElem?_eq_some_iff.mp q).1
    rw [← hh1, Array.getElem?_push_lt hb]; exact (Array.getElem?_eq_getElem hb).symm.trans q⟩
  have W1 : Wr h1 (h1.setIfInBounds a (cell.setSlot fB.slot (.ref x))) a fB.slot (.ref x) := ⟨cell, h1a, es, lB, rfl⟩
  have W2 : Wr (h1.setIfInBounds a (cell.setSlot fB.slot (.ref x))) (h1.setIfInBounds a ((cell.setSlot fB.slot (.ref x)).setSlot fD.slot (.int y))) a fD.slot (.int y) :=
    ⟨cell.setSlot fB.slot (.ref x), Array.getElem?_setIfInBounds_self_of_lt hlt1, es, by rw [sz_set]; exact lD, (Array.setIfInBounds_setIfInBounds ..).symm⟩
  have W3 : Wr (h1.setIfInBounds a ((cell.setSlot fB.slot (.ref x)).setSlot fD.slot (.int y))) T6.heap a T.fStack.slot (.ref u) :=
    ⟨(cell.setSlot fB.slot (.ref x)).setSlot fD.slot (.int y), Array.getElem?_setIfInBounds_self_of_lt hlt1, es, by rw [sz_set, sz_set]; exact lS, by
      rw [hU6, Array.setIfInBounds_setIfInBounds]
      show ((T0.heap.push _).setIfInBounds _ _) = _
      rw [eT, hh1]⟩
  have sl1 : Jvm.RoadKit.slotOf Z tN "backtrace" obD = fB.slot := by simp [Jvm.RoadKit.slotOf, b2]
  have sl2 : Jvm.RoadKit.slotOf Z tN "depth" "I" = fD.slot := by simp [Jvm.RoadKit.slotOf, zD]
  have sl3 : Jvm.RoadKit.slotOf Z tN "stackTrace" steD = T.fStack.slot := by simp [Jvm.RoadKit.slotOf, d2]
  obtain ⟨s₂, o, r1, r2⟩ := H h1 (h1.setIfInBounds a (cell.setSlot fB.slot (.ref x))) (h1.setIfInBounds a ((cell.setSlot fB.slot (.ref x)).setSlot fD.slot (.int y))) T6.heap x y E1 (by rw [sl1]; exact W1) (by rw [sl2]; exact W2) (by rw [sl3]; exact W3) T6 _ (X6.more (Nat.le_refl _) (Nat.add_le_add_left (traceHolder_size_le cO hli) _)) rfl
    (N.app fun z hz => by simp only [List.mem_cons, List.not_mem_nil, or_false] at hz; rcases hz with rfl | rfl | rfl <;> exact ha) (Nat.le_trans hB (by rw [W3.size, W2.size, W1.size]; exact E1.1))
  exact ⟨s₂, o, come.trans r1, r2⟩
end FillKit
end Jvm.Pilot.@@N@@
/- laws to paste: Road.backV (cut by pick.py; bodies as the Statement names them) -/
namespace Jvm.Pilot.@@N@@
namespace StrChars
open Jvm Sem ClassFile Op Lib Jvm.Stand Jvm.Free.XT Jvm.Free.ALB Jvm.Free.JM Jvm.Free
open Jvm.Lib.Cold (StaticIs)
/-- a char array whose places are chars -/
def Ch (a : Addr) (A : Cell) (U : State) : Prop := Arr .char a A U ∧ Typed .char A
theorem Ch.mv {a : Addr} {A : Cell} {U U' : State} (h : Ch a A U) (hal : U.vm.Alike U'.vm) (hh : U'.heap = U.heap) : Ch a A U' := ⟨h.1.mv hal hh, h.2⟩
theorem Ch.keep {a : Addr} {A : Cell} {U U' : State} (h : Ch a A U) (hal : U.vm.Alike U'.vm) (hk : U'.heap[a]? = some A) : Ch a A U' := ⟨h.1.keep hal hk, h.2⟩
/-- what place i of a char[]'s cell holds -/
def cv (A : Cell) (i : Nat) : Int32 := match A.slots[i]? with | some (.int x) => x | _ => 0
theorem Ch.get {a : Addr} {A : Cell} {U : State} (h : Ch a A U) {i : Nat} (hi : i < A.slots.size) : A.slots[i]? = some (.int (cv A i)) := by
  have e := Array.getElem?_eq_getElem hi
  have f := h.2 i _ e
  unfold cv; rw [e]
  generalize A.slots[i] = v at f
  cases v <;> simp [fits] at f ⊢
/-- the byte that i2b leaves of a char -/
def lo8 (x : Int32) : Int32 := x.toInt8.toInt32
theorem fits_lo8 (y : Int32) : fits .byte (.int (lo8 y)) = true := by
  have h1 := y.toInt8.le_toInt
  have h2 := y.toInt8.toInt_lt
  simp only [lo8, fits, Bool.and_eq_true, decide_eq_true_eq, Int32.le_iff_toInt_le, Int8.toInt_toInt32, show (-128 : Int32).toInt = -128 from by decide, show (127 : Int32).toInt = 127 from by decide]
  omega
/-- A' is A but that each place j of lo .. hi - 1 holds f j -/
def Laid (A A' : Cell) (lo hi : Nat) (f : Nat → Value) : Prop := A'.cls = A.cls ∧ A'.vm = A.vm ∧ A'.slots.size = A.slots.size ∧ ∀ i, A'.slots[i]? = if lo ≤ i ∧ i < hi then some (f i) else A.slots[i]?
theorem Laid.zero (A : Cell) (lo : Nat) (f : Nat → Value) : Laid A A lo (lo + 0) f := ⟨rfl, rfl, rfl, fun i => by rw [if_neg (by omega)]⟩
theorem Laid.step {A Ak : Cell} {lo k : Nat} {f : Nat → Value} {v : Value} (h : Laid A Ak lo k f) (hlo : lo ≤ k) (hk : k < Ak.slots.size) (hv : v = f k) : Laid A (Ak.setSlot k v) lo (k + 1) f := by
  refine ⟨h.1, h.2.1, by simpa [Cell.setSlot] using h.2.2.1, fun i => ?_⟩
  by_cases e : k = i
  · subst e; rw [Cell.slots_setSlot_self v hk, if_pos (by omega), hv]
  · rw [Cell.slots_setSlot_ne v e, h.2.2.2 i]
    by_cases q : lo ≤ i ∧ i < k
    · rw [if_pos q, if_pos (by omega)]
    · rw [if_neg q, if_neg (by omega)]
def U16 : String := "java/lang/StringUTF16"
namespace Cmp5
def yN : MethodName := ⟨"java/lang/StringUTF16", "compress", "([CI[BII)I"⟩
abbrev yB : ByteArray := jdk_52_method_21_code
theorem d0 : decode yB 0 = .ok (.iconst 0, 1) := by decide +kernel
theorem d1 : decode yB 1 = .ok (.istore 5, 2) := by decide +kernel
theorem d3 : decode yB 3 = .ok (.iload 5, 2) := by decide +kernel
theorem d5 : decode yB 5 = .ok (.iload 4, 2) := by decide +kernel
theorem d7 : decode yB 7 = .ok (.if_icmp (.ge) 37, 3) := by decide +kernel
theorem d10 : decode yB 10 = .ok (.aload_n 0, 1) := by decide +kernel
theorem d11 : decode yB 11 = .ok (.iload_n 1, 1) := by decide +kernel
theorem d12 : decode yB 12 = .ok (.caload, 1) := by decide +kernel
theorem d13 : decode yB 13 = .ok (.istore 6, 2) := by decide +kernel
theorem d15 : decode yB 15 = .ok (.iload 6, 2) := by decide +kernel
theorem d17 : decode yB 17 = .ok (.sipush 255, 3) := by decide +kernel
theorem d20 : decode yB 20 = .ok (.if_icmp (.le) 6, 3) := by decide +kernel
theorem d26 : decode yB 26 = .ok (.aload_n 2, 1) := by decide +kernel
theorem d27 : decode yB 27 = .ok (.iload_n 3, 1) := by decide +kernel
theorem d28 : decode yB 28 = .ok (.iload 6, 2) := by decide +kernel
theorem d30 : decode yB 30 = .ok (.i2b, 1) := by decide +kernel
theorem d31 : decode yB 31 = .ok (.bastore, 1) := by decide +kernel
theorem d32 : decode yB 32 = .ok (.iinc 1 1, 3) := by decide +kernel
theorem d35 : decode yB 35 = .ok (.iinc 3 1, 3) := by decide +kernel
theorem d38 : decode yB 38 = .ok (.iinc 5 1, 3) := by decide +kernel
theorem d41 : decode yB 41 = .ok (.goto (-38), 3) := by decide +kernel
theorem d44 : decode yB 44 = .ok (.iload 4, 2) := by decide +kernel
theorem d46 : decode yB 46 = .ok (.ireturn, 1) := by decide +kernel
def site : List Cond := []
def tab : Cond := tabOf yN yB 7 (some .int) site
def P (b : Addr) (A : Cell) (d : Addr) (B : Cell) (o q len : Nat) (args : Array Value) (s : State) : Prop := args = #[.ref b, .int (Int32.ofNat o), .ref d, .int (Int32.ofNat q), .int (Int32.ofNat len)] ∧ Ch b A s ∧ Arr .byte d B s ∧ b ≠ d ∧ o + len ≤ A.slots.size ∧ q + len ≤ B.slots.size ∧ ∀ i, i < len → ¬ 255 < cv A (o + i)
def E (b : Addr) (A : Cell) (d : Addr) (B : Cell) (o q len : Nat) (r : Option Value) (s u : State) : Prop := r = some (.int (Int32.ofNat len)) ∧ ∃ B', Put d B' s u ∧ Laid B B' q (q + len) (fun j => Value.int (lo8 (cv A (o + (j - q)))))
/-- no char of the range above 255: len; the places written hold each char's low byte -/
theorem law (l : Launch) (b : Addr) (A : Cell) (d : Addr) (B : Cell) (o q len : Nat) : Law l yN 5 5 0 0 yB 7 (some .int) site (P b A d B o q len) (E b A d B o q len) (copyLocs d q len) 0 0 := by
  refine Law.of_walk (plainFor_of_name (by decide +kernel)) (by decide +kernel) (by decide +kernel) (by decide) (fun _ _ h => by rw [h.1]; rfl) (fun _ U U' hal hh h => ⟨h.1, h.2.1.mv hal hh, h.2.2.1.mv hal hh, h.2.2.2⟩) (fun r U U' V V' h1 hal h2 h => ⟨h.1, h.2.elim fun B' q => ⟨B', q.1.mv h1 h2, q.2⟩⟩) ?_
  intro p e s m args below meth c s₁ X0 hexec hbytes hml hret hlk hnm hown hh0 W hP
  obtain ⟨rfl, hA, hB, hne, l1, l2, hp⟩ := hP
  have c1 : Steps p.tables e below (s₁.setTop (entryFrame m #[.ref b, .int (Int32.ofNat o), .ref d, .int (Int32.ofNat q), .int (Int32.ofNat len)] 7)) (s₁.setTop (mkF m 0 #[.val (.ref b), .val (.int (Int32.ofNat o)), .val (.ref d), .val (.int (Int32.ofNat q)), .val (.int (Int32.ofNat len)), .unset, .unset] [])) := entry rfl
  have hA0 := hA.1.mv X0.warmed.alike hh0
  have hB0 := hB.mv X0.warmed.alike hh0
  have a31 := hA.1.2.2.2
  have c2 : Steps p.tables e below (s₁.setTop (entryFrame m #[.ref b, .int (Int32.ofNat o), .ref d, .int (Int32.ofNat q), .int (Int32.ofNat len)] 7)) (s₁.setTop (mkF m 3 #[.val (.ref b), .val (.int (Int32.ofNat o)), .val (.ref d), .val (.int (Int32.ofNat q)), .val (.int (Int32.ofNat len)), .val (.int 0), .unset] [])) := c1.trans (by
    refine iconstV X0.here hexec rfl 0 (hb hbytes d0) (by decide) ?_
    refine XS.istore X0.here hexec rfl (hb hbytes d1) rfl rfl ?_
    exact Steps.refl _)
  have loop : ∀ (r i : Nat), i + r = len → ∀ (z : Slot), (z = .unset ∨ ∃ w, z = .val w ∧ w.category = 1) → ∀ (Tl : State) (Bk : Cell), Stand p l e { frames := 0, locals := 0, cells := 0, slots := 0 } s m #[.ref b, .int (Int32.ofNat o), .ref d, .int (Int32.ofNat q), .int (Int32.ofNat len)] below meth c Tl ([] ++ copyLocs d q i) 0 0 → Put d Bk s₁ Tl → Laid B Bk q (q + i) (fun j => Value.int (lo8 (cv A (o + (j - q))))) →
      Steps p.tables e below (s₁.setTop (entryFrame m #[.ref b, .int (Int32.ofNat o), .ref d, .int (Int32.ofNat q), .int (Int32.ofNat len)] 7)) (Tl.setTop (mkF m 3 #[.val (.ref b), .val (.int (Int32.ofNat (o + i))), .val (.ref d), .val (.int (Int32.ofNat (q + i))), .val (.int (Int32.ofNat len)), .val (.int (Int32.ofNat i)), z] [])) → ∃ (T' : State) (B' : Cell) (z' : Slot), Stand p l e { frames := 0, locals := 0, cells := 0, slots := 0 } s m #[.ref b, .int (Int32.ofNat o), .ref d, .int (Int32.ofNat q), .int (Int32.ofNat len)] below meth c T' ([] ++ copyLocs d q len) 0 0 ∧ Put d B' s₁ T' ∧ Laid B B' q (q + len) (fun j => Value.int (lo8 (cv A (o + (j - q))))) ∧
      Steps p.tables e below (s₁.setTop (entryFrame m #[.ref b, .int (Int32.ofNat o), .ref d, .int (Int32.ofNat q), .int (Int32.ofNat len)] 7)) (T'.setTop (mkF m 3 #[.val (.ref b), .val (.int (Int32.ofNat (o + len))), .val (.ref d), .val (.int (Int32.ofNat (q + len))), .val (.int (Int32.ofNat len)), .val (.int (Int32.ofNat len)), z'] [])) := by
    intro r
    induction r with
    | zero =>
      intro i hi z hz Tl Bk Xl pl fl cl
      have hil : i = len := by omega
      rw [hil] at Xl fl cl
      exact ⟨Tl, Bk, z, Xl, pl, fl, cl⟩
    | succ r ih =>
      intro i hi z hz Tl Bk Xl pl fl cl
      have all := X0.warmed.alike.symm.trans Xl.warmed.alike
      have hAl := hA0.keep all (pl.other hne hA0.1)
      have hBk := hB0.like all pl.1 fl.1 fl.2.1 fl.2.2.1
      have hlt : q + i < Bk.slots.size := by rw [fl.2.2.1]; omega
      have c3 : Steps p.tables e below (s₁.setTop (entryFrame m #[.ref b, .int (Int32.ofNat o), .ref d, .int (Int32.ofNat q), .int (Int32.ofNat len)] 7)) (Tl.setTop (mkF m 12 #[.val (.ref b), .val (.int (Int32.ofNat (o + i))), .val (.ref d), .val (.int (Int32.ofNat (q + i))), .val (.int (Int32.ofNat len)), .val (.int (Int32.ofNat i)), z] [.int (Int32.ofNat (o + i)), .ref b])) := cl.trans (by
        refine XS.iload Xl.here hexec rfl (hb hbytes d3) rfl ?_
        refine XS.iload Xl.here hexec rfl (hb hbytes d5) rfl ?_
        refine XS.icmpNo Xl.here hexec rfl (hb hbytes d7) rfl (ii_ge_f (lt32 (by omega) (by omega))) ?_
        refine XS.aloadN Xl.here hexec rfl (hb hbytes d10) rfl rfl ?_
        refine XS.iloadN Xl.here hexec rfl (hb hbytes d11) rfl ?_
        exact Steps.refl _)
      have c4 : Steps p.tables e below (s₁.setTop (entryFrame m #[.ref b, .int (Int32.ofNat o), .ref d, .int (Int32.ofNat q), .int (Int32.ofNat len)] 7)) (Tl.setTop (mkF m 13 #[.val (.ref b), .val (.int (Int32.ofNat (o + i))), .val (.ref d), .val (.int (Int32.ofNat (q + i))), .val (.int (Int32.ofNat len)), .val (.int (Int32.ofNat i)), z] [.int (cv A (o + i))])) := c3.trans (by
        refine Xl.aget hexec hAl rfl (hA.get (i := o + i) (by omega)) rfl rfl (hb hbytes d12) ?_
        exact Steps.refl _)
      have c5 : Steps p.tables e below (s₁.setTop (entryFrame m #[.ref b, .int (Int32.ofNat o), .ref d, .int (Int32.ofNat q), .int (Int32.ofNat len)] 7)) (Tl.setTop (mkF m 15 #[.val (.ref b), .val (.int (Int32.ofNat (o + i))), .val (.ref d), .val (.int (Int32.ofNat (q + i))), .val (.int (Int32.ofNat len)), .val (.int (Int32.ofNat i)), .val (.int (cv A (o + i)))] [])) := c4.trans (by
        refine XS.istoreS Xl.here hexec rfl (hb hbytes d13) rfl rfl hz ?_
        exact Steps.refl _)
      have c6 : Steps p.tables e below (s₁.setTop (entryFrame m #[.ref b, .int (Int32.ofNat o), .ref d, .int (Int32.ofNat q), .int (Int32.ofNat len)] 7)) (Tl.setTop (mkF m 31 #[.val (.ref b), .val (.int (Int32.ofNat (o + i))), .val (.ref d), .val (.int (Int32.ofNat (q + i))), .val (.int (Int32.ofNat len)), .val (.int (Int32.ofNat i)), .val (.int (cv A (o + i)))] [.int (lo8 (cv A (o + i))), .int (Int32.ofNat (q + i)), .ref d])) := c5.trans (by
        refine XS.iload Xl.here hexec rfl (hb hbytes d15) rfl ?_
        refine sipushV Xl.here hexec rfl 255 (hb hbytes d17) (by decide) ?_
        refine XS.icmpYes Xl.here hexec rfl (pc0 := 20) rfl (hb hbytes d20) rfl (ii_le_t (hp i (by omega))) (by decide) rfl ?_
        refine XS.aloadN Xl.here hexec rfl (hb hbytes d26) rfl rfl ?_
        refine XS.iloadN Xl.here hexec rfl (hb hbytes d27) rfl ?_
        refine XS.iload Xl.here hexec rfl (hb hbytes d28) rfl ?_
        refine i2b Xl.here hexec rfl (hb hbytes d30) rfl ?_
        exact Steps.refl _)
      obtain ⟨T7, X7, p7, st7⟩ := Xl.aput hexec hBk rfl hlt rfl (fits_lo8 (cv A (o + i))) (g := (mkF m 31 #[.val (.ref b), .val (.int (Int32.ofNat (o + i))), .val (.ref d), .val (.int (Int32.ofNat (q + i))), .val (.int (Int32.ofNat len)), .val (.int (Int32.ofNat i)), .val (.int (cv A (o + i)))] [.int (lo8 (cv A (o + i))), .int (Int32.ofNat (q + i)), .ref d])) rfl (rest := []) rfl (hb hbytes d31)
      have c8 : Steps p.tables e below (s₁.setTop (entryFrame m #[.ref b, .int (Int32.ofNat o), .ref d, .int (Int32.ofNat q), .int (Int32.ofNat len)] 7)) (T7.setTop (mkF m 32 #[.val (.ref b), .val (.int (Int32.ofNat (o + i))), .val (.ref d), .val (.int (Int32.ofNat (q + i))), .val (.int (Int32.ofNat len)), .val (.int (Int32.ofNat i)), .val (.int (cv A (o + i)))] [])) := c6.trans (st7 _ (Steps.refl _))
      have c9 : Steps p.tables e below (s₁.setTop (entryFrame m #[.ref b, .int (Int32.ofNat o), .ref d, .int (Int32.ofNat q), .int (Int32.ofNat len)] 7)) (T7.setTop (mkF m 3 #[.val (.ref b), .val (.int (Int32.ofNat (o + i) + 1)), .val (.ref d), .val (.int (Int32.ofNat (q + i) + 1)), .val (.int (Int32.ofNat len)), .val (.int (Int32.ofNat i + 1)), .val (.int (cv A (o + i)))] [])) := c8.trans (by
        refine iincV X7.here hexec rfl 1 (hb hbytes d32) (by decide) rfl rfl ?_
        refine iincV X7.here hexec rfl 1 (hb hbytes d35) (by decide) rfl rfl ?_
        refine iincV X7.here hexec rfl 1 (hb hbytes d38) (by decide) rfl rfl ?_
        refine XS.goto X7.here hexec rfl (pc0 := 41) rfl (hb hbytes d41) (by decide) rfl ?_
        exact Steps.refl _)
      have c10 : Steps p.tables e below (s₁.setTop (entryFrame m #[.ref b, .int (Int32.ofNat o), .ref d, .int (Int32.ofNat q), .int (Int32.ofNat len)] 7)) (T7.setTop (mkF m 3 #[.val (.ref b), .val (.int (Int32.ofNat (o + (i + 1)))), .val (.ref d), .val (.int (Int32.ofNat (q + (i + 1)))), .val (.int (Int32.ofNat len)), .val (.int (Int32.ofNat (i + 1))), .val (.int (cv A (o + i)))] [])) := by
        have := c9
        rw [succ32, succ32, succ32] at this
        exact this
      exact ih (i + 1) (by omega) _ (Or.inr ⟨_, rfl, rfl⟩) T7 _ (by rw [copyLocs_step, ← List.append_assoc]; exact X7) (pl.trans p7) (fl.step (by omega) hlt (by simp)) c10
  obtain ⟨T9, B9, z9, X9, p9, f9, g9⟩ := loop len 0 (by omega) .unset (Or.inl rfl) s₁ B (by simpa [copyLocs] using X0) ⟨hB0.1, fun _ _ => rfl, rfl⟩ (Laid.zero _ _ _) c2
  have c11 : Steps p.tables e below (s₁.setTop (entryFrame m #[.ref b, .int (Int32.ofNat o), .ref d, .int (Int32.ofNat q), .int (Int32.ofNat len)] 7)) (T9.setTop (mkF m 46 #[.val (.ref b), .val (.int (Int32.ofNat (o + len))), .val (.ref d), .val (.int (Int32.ofNat (q + len))), .val (.int (Int32.ofNat len)), .val (.int (Int32.ofNat len)), z9] [.int (Int32.ofNat len)])) := g9.trans (by
    refine XS.iload X9.here hexec rfl (hb hbytes d3) rfl ?_
    refine XS.iload X9.here hexec rfl (hb hbytes d5) rfl ?_
    refine XS.icmpYes X9.here hexec rfl (pc0 := 7) rfl (hb hbytes d7) rfl (ii_ge_t (nlt32 (by omega) (Nat.le_refl _))) (by decide) rfl ?_
    refine XS.iload X9.here hexec rfl (hb hbytes d44) rfl ?_
    exact Steps.refl _)
  exact ⟨T9, some (.int (Int32.ofNat len)), _, _, _, X9, by simp, rfl, rfl, (fun h => by cases h), ⟨rfl, B9, p9.from hh0, f9⟩, fun fs hl => c11.trans (X9.ireturnOut hexec hret rfl (Or.inl rfl) (hb hbytes d46) hl)⟩
end Cmp5
namespace Cmp3
def yN : MethodName := ⟨"java/lang/StringUTF16", "compress", "([CII)[B"⟩
abbrev yB : ByteArray := jdk_52_method_16_code
theorem d0 : decode yB 0 = .ok (.iload_n 2, 1) := by decide +kernel
theorem d1 : decode yB 1 = .ok (.newarray .byte, 2) := by decide +kernel
theorem d3 : decode yB 3 = .ok (.astore_n 3, 1) := by decide +kernel
theorem d4 : decode yB 4 = .ok (.aload_n 0, 1) := by decide +kernel
theorem d5 : decode yB 5 = .ok (.iload_n 1, 1) := by decide +kernel
theorem d6 : decode yB 6 = .ok (.aload_n 3, 1) := by decide +kernel
theorem d7 : decode yB 7 = .ok (.iconst 0, 1) := by decide +kernel
theorem d8 : decode yB 8 = .ok (.iload_n 2, 1) := by decide +kernel
theorem d9 : decode yB 9 = .ok (.invokestatic 115, 3) := by decide +kernel
theorem d12 : decode yB 12 = .ok (.istore 4, 2) := by decide +kernel
theorem d14 : decode yB 14 = .ok (.iload 4, 2) := by decide +kernel
theorem d16 : decode yB 16 = .ok (.iload_n 2, 1) := by decide +kernel
theorem d17 : decode yB 17 = .ok (.if_icmp (.eq) 40, 3) := by decide +kernel
theorem d57 : decode yB 57 = .ok (.aload_n 3, 1) := by decide +kernel
theorem d58 : decode yB 58 = .ok (.areturn, 1) := by decide +kernel
def site : List Cond := [.arrayClass .byte, Cmp5.tab] ++ staticW U16 115 Cmp5.yN
def tab : Cond := tabOf yN yB 6 (some (.array .byte)) site
def P (b : Addr) (A : Cell) (o len : Nat) (args : Array Value) (s : State) : Prop := args = #[.ref b, .int (Int32.ofNat o), .int (Int32.ofNat len)] ∧ Ch b A s ∧ o + len ≤ A.slots.size ∧ len ≤ 536870912 ∧ ∀ i, i < len → ¬ 255 < cv A (o + i)
def E (b : Addr) (A : Cell) (o len : Nat) (r : Option Value) (s u : State) : Prop := NewArr .byte "[B" len (fun j => .int (lo8 (cv A (o + j)))) r s u ∧ u.heap.size = s.heap.size + 1
/-- no char of the range above 255: a new byte[] of their low bytes -/
theorem law (l : Launch) (b : Addr) (A : Cell) (o len : Nat) : Law l yN 3 3 1 18 yB 6 (some (.array .byte)) site (P b A o len) (E b A o len) [] 1 len := by
  refine Law.of_walk (plainFor_of_name (by decide +kernel)) (by decide +kernel) (by decide +kernel) (by decide) (fun _ _ h => by rw [h.1]; rfl) (fun _ U U' hal hh h => ⟨h.1, h.2.1.mv hal hh, h.2.2⟩) (fun r U U' V V' h1 hal h2 h => ⟨NewArr.mv r U U' V V' h1 hal h2 h.1, by rw [h1, h2]; exact h.2⟩) ?_
  intro p e s m args below meth c s₁ X0 hexec hbytes hml hret hlk hnm hown hh0 W hP
  obtain ⟨rfl, hA, l1, l2, hp⟩ := hP
  have a31 := hA.1.2.2.2
  have c1 : Steps p.tables e below (s₁.setTop (entryFrame m #[.ref b, .int (Int32.ofNat o), .int (Int32.ofNat len)] 6)) (s₁.setTop (mkF m 0 #[.val (.ref b), .val (.int (Int32.ofNat o)), .val (.int (Int32.ofNat len)), .unset, .unset, .unset] [])) := entry rfl
  have c2 : Steps p.tables e below (s₁.setTop (entryFrame m #[.ref b, .int (Int32.ofNat o), .int (Int32.ofNat len)] 6)) (s₁.setTop (mkF m 1 #[.val (.ref b), .val (.int (Int32.ofNat o)), .val (.int (Int32.ofNat len)), .unset, .unset, .unset] [.int (Int32.ofNat len)])) := c1.trans (by
    refine XS.iloadN X0.here hexec rfl (hb hbytes d0) rfl ?_
    exact Steps.refl _)
  obtain ⟨T3, B3, X3, ba3, bs3, bv3, bh3, bf3, st3⟩ := X0.anew hexec (atype := .byte) (wk W (.arrayClass .byte)) rfl (by show len * 1 ≤ _; omega) (by omega) (g := (mkF m 1 #[.val (.ref b), .val (.int (Int32.ofNat o)), .val (.int (Int32.ofNat len)), .unset, .unset, .unset] [.int (Int32.ofNat len)])) rfl (hb hbytes d1) (rest := []) rfl (Nat.le_refl _) (by show 0 + len ≤ len; omega)
  rw [hh0] at ba3 st3
  have kp3 : XT.Kept s T3 := (XT.Kept.of_eq hh0).push bh3
  have hA3 := hA.keep X3.warmed.alike (kp3 _ _ hA.1.1)
  have hne : b ≠ s.heap.size := hA.1.ne
  have c4 : Steps p.tables e below (s₁.setTop (entryFrame m #[.ref b, .int (Int32.ofNat o), .int (Int32.ofNat len)] 6)) (T3.setTop (mkF m 3 #[.val (.ref b), .val (.int (Int32.ofNat o)), .val (.int (Int32.ofNat len)), .unset, .unset, .unset] [.ref s.heap.size])) := c2.trans (st3 _ (Steps.refl _))
  have c5 : Steps p.tables e below (s₁.setTop (entryFrame m #[.ref b, .int (Int32.ofNat o), .int (Int32.ofNat len)] 6)) (T3.setTop (mkF m 9 #[.val (.ref b), .val (.int (Int32.ofNat o)), .val (.int (Int32.ofNat len)), .val (.ref s.heap.size), .unset, .unset] [.int (Int32.ofNat len), .int 0, .ref s.heap.size, .int (Int32.ofNat o), .ref b])) := c4.trans (by
    refine XS.astoreN X3.here hexec rfl (hb hbytes d3) rfl rfl rfl ?_
    refine XS.aloadN X3.here hexec rfl (hb hbytes d4) rfl rfl ?_
    refine XS.iloadN X3.here hexec rfl (hb hbytes d5) rfl ?_
    refine XS.aloadN X3.here hexec rfl (hb hbytes d6) rfl rfl ?_
    refine iconstV X3.here hexec rfl 0 (hb hbytes d7) (by decide) ?_
    refine XS.iloadN X3.here hexec rfl (hb hbytes d8) rfl ?_
    exact Steps.refl _)
  obtain ⟨v6, T6, X6, E6, g6⟩ := X3.callS hexec (Cmp5.law l b A s.heap.size B3 o 0 len) hown (wks W (staticW U16 115 Cmp5.yN)) (wk W Cmp5.tab) (W := 0) (Nat.le_of_ble_eq_true rfl) (Nat.le_of_ble_eq_true rfl) (Nat.le_refl _) (by show 0 + len + 0 ≤ len; omega) (g := (mkF m 9 #[.val (.ref b), .val (.int (Int32.ofNat o)), .val (.int (Int32.ofNat len)), .val (.ref s.heap.size), .unset, .unset] [.int (Int32.ofNat len), .int (Int32.ofNat 0), .ref s.heap.size, .int (Int32.ofNat o), .ref b])) rfl (by rw [hml]; rfl) c5 (argsL := [.ref b, .int (Int32.ofNat o), .ref s.heap.size, .int (Int32.ofNat 0), .int (Int32.ofNat len)]) (rest := []) rfl rfl (by show 2 * 0 + 0 ≤ _; decide) (hb hbytes d9) (⟨rfl, hA3, ba3, hne, l1, by rw [bs3]; simp, hp⟩)
  obtain ⟨rfl, B6, p6, f6⟩ := E6
  have c7 : Steps p.tables e below (s₁.setTop (entryFrame m #[.ref b, .int (Int32.ofNat o), .int (Int32.ofNat len)] 6)) (T6.setTop (mkF m 12 #[.val (.ref b), .val (.int (Int32.ofNat o)), .val (.int (Int32.ofNat len)), .val (.ref s.heap.size), .unset, .unset] [.int (Int32.ofNat len)])) := g6
  have c8 : Steps p.tables e below (s₁.setTop (entryFrame m #[.ref b, .int (Int32.ofNat o), .int (Int32.ofNat len)] 6)) (T6.setTop (mkF m 58 #[.val (.ref b), .val (.int (Int32.ofNat o)), .val (.int (Int32.ofNat len)), .val (.ref s.heap.size), .val (.int (Int32.ofNat len)), .unset] [.ref s.heap.size])) := c7.trans (by
    refine XS.istore X6.here hexec rfl (hb hbytes d12) rfl rfl ?_
    refine XS.iload X6.here hexec rfl (hb hbytes d14) rfl ?_
    refine XS.iloadN X6.here hexec rfl (hb hbytes d16) rfl ?_
    refine XS.icmpYes X6.here hexec rfl (pc0 := 17) rfl (hb hbytes d17) rfl (ii_eq_t rfl) (by decide) rfl ?_
    refine XS.aloadN X6.here hexec rfl (hb hbytes d57) rfl rfl ?_
    exact Steps.refl _)
  have X8 := X6.wide (L' := []) (cells' := 1) (slots' := len) (fun x hx hlt => by
    simp only [List.nil_append, copyLocs, List.mem_map, List.mem_range] at hx
    obtain ⟨i, -, rfl⟩ := hx
    exact absurd hlt (Nat.lt_irrefl _)) (Nat.le_refl _) (by omega)
  exact ⟨T6, some (.ref s.heap.size), _, _, _, X8, rfl, rfl, rfl, (fun h => by cases h), ⟨⟨rfl, B6, ba3.like (X3.warmed.alike.symm.trans X6.warmed.alike) p6.1 f6.1 f6.2.1 f6.2.2.1, f6.2.1.trans bv3, by rw [X6.warmed.alike.findClass, f6.1]; exact bf3, by rw [f6.2.2.1, bs3]; simp, fun j hj => by rw [f6.2.2.2 j, if_pos (by omega)]; rfl, kp3.put p6 (Nat.le_refl _)⟩, by rw [p6.2.2, bh3, hh0]; simp⟩, fun fs hl => c8.trans (X8.areturnOut hexec rfl hret rfl (hb hbytes d58) hl)⟩
end Cmp3
namespace CodL
def yN : MethodName := ⟨"java/lang/StringUTF16", "coderFromArrayLen", "([BI)B"⟩
abbrev yB : ByteArray := jdk_52_method_15_code
theorem d0 : decode yB 0 = .ok (.iload_n 1, 1) := by decide +kernel
theorem d1 : decode yB 1 = .ok (.aload_n 0, 1) := by decide +kernel
theorem d2 : decode yB 2 = .ok (.arraylength, 1) := by decide +kernel
theorem d3 : decode yB 3 = .ok (.isub, 1) := by decide +kernel
theorem d4 : decode yB 4 = .ok (.bipush 31, 2) := by decide +kernel
theorem d6 : decode yB 6 = .ok (.iushr, 1) := by decide +kernel
theorem d7 : decode yB 7 = .ok (.i2b, 1) := by decide +kernel
theorem d8 : decode yB 8 = .ok (.ireturn, 1) := by decide +kernel
def site : List Cond := []
def tab : Cond := tabOf yN yB 2 (some .byte) site
def P (d : Addr) (B : Cell) (args : Array Value) (s : State) : Prop := args = #[.ref d, .int (Int32.ofNat B.slots.size)] ∧ Arr .byte d B s
def E (r : Option Value) (s u : State) : Prop := XT.PureE (some (.int 0)) r s u
/-- an array as long as the number of chars: LATIN1 -/
theorem law (l : Launch) (d : Addr) (B : Cell) : Law l yN 2 2 0 0 yB 2 (some .byte) site (P d B) E [] 0 0 := by
  refine Law.of_walk (plainFor_of_name (by decide +kernel)) (by decide +kernel) (by decide +kernel) (by decide) (fun _ _ h => by rw [h.1]; rfl) (fun _ U U' hal hh h => ⟨h.1, h.2.mv hal hh⟩) (fun r U U' V V' h1 hal h2 h => XT.PureE.mv r U U' V V' h1 hal h2 h) ?_
  intro p e s m args below meth c s₁ X0 hexec hbytes hml hret hlk hnm hown hh0 W hP
  obtain ⟨rfl, hB⟩ := hP
  have hB0 := hB.mv X0.warmed.alike hh0
  have c1 : Steps p.tables e below (s₁.setTop (entryFrame m #[.ref d, .int (Int32.ofNat B.slots.size)] 2)) (s₁.setTop (mkF m 0 #[.val (.ref d), .val (.int (Int32.ofNat B.slots.size))] [])) := entry rfl
  have c2 : Steps p.tables e below (s₁.setTop (entryFrame m #[.ref d, .int (Int32.ofNat B.slots.size)] 2)) (s₁.setTop (mkF m 2 #[.val (.ref d), .val (.int (Int32.ofNat B.slots.size))] [.ref d, .int (Int32.ofNat B.slots.size)])) := c1.trans (by
    refine XS.iloadN X0.here hexec rfl (hb hbytes d0) rfl ?_
    refine XS.aloadN X0.here hexec rfl (hb hbytes d1) rfl rfl ?_
    exact Steps.refl _)
  have c3 : Steps p.tables e below (s₁.setTop (entryFrame m #[.ref d, .int (Int32.ofNat B.slots.size)] 2)) (s₁.setTop (mkF m 8 #[.val (.ref d), .val (.int (Int32.ofNat B.slots.size))] [.int (lo8 (ushr (Int32.ofNat B.slots.size - Int32.ofNat B.slots.size) 31))])) := c2.trans (by
    refine X0.alen hexec hB0 rfl rfl (hb hbytes d2) ?_
    refine XS.isub X0.here hexec rfl (hb hbytes d3) rfl ?_
    refine bipushV X0.here hexec rfl 31 (hb hbytes d4) (by decide) ?_
    refine iushr X0.here hexec rfl (hb hbytes d6) rfl ?_
    refine i2b X0.here hexec rfl (hb hbytes d7) rfl ?_
    exact Steps.refl _)
  have e0 : lo8 (ushr (Int32.ofNat B.slots.size - Int32.ofNat B.slots.size) 31) = 0 := by rw [Int32.sub_self]; decide
  rw [e0] at c3
  exact ⟨s₁, some (.int 0), _, _, _, X0, rfl, rfl, rfl, (fun h => by cases h), ⟨rfl, hh0⟩, fun fs hl => c3.trans (X0.ireturnOut hexec hret rfl (Or.inr (Or.inr (Or.inl rfl))) (hb hbytes d8) hl)⟩
end CodL
/-- the String at a is Latin-1 over a new byte[] (the heap's one new cell): the low bytes of the len chars of A from o on; every cell but a is kept -/
def Got (a : Addr) (D : Cell) (fV fC : Field) (A : Cell) (o len : Nat) (r : Option Value) (s u : State) : Prop := r = none ∧ ∃ D' V : Cell, Blank "java/lang/String" a D' u ∧ Same D D' [fV.slot, fC.slot] ∧ D'.slots[fV.slot]? = some (.ref s.heap.size) ∧ D'.slots[fC.slot]? = some (.int 0) ∧ Arr .byte s.heap.size V u ∧ V.vm = .none ∧ u.vm.findClass "[B" = some V.cls ∧ V.slots.size = len ∧ (∀ j, j < len → V.slots[j]? = some (.int (lo8 (cv A (o + j))))) ∧ (∀ (y : Addr) (c : Cell), y ≠ a → s.heap[y]? = some c → u.heap[y]? = some c) ∧ u.heap.size = s.heap.size + 1
theorem Got.mv {a : Addr} {D A : Cell} {fV fC : Field} {o len : Nat} : ∀ r (U U' V V' : State), U'.heap = U.heap → V.vm.Alike V'.vm → V'.heap = V.heap → Got a D fV fC A o len r U V → Got a D fV fC A o len r U' V' :=
  fun r U U' V V' h1 hal h2 ⟨e0, D', X, a1, a2, a3, a4, a5, a6, a7, a8, a9, a10, a11⟩ => ⟨e0, D', X, a1.mv hal h2, a2, by rw [h1]; exact a3, a4, by rw [h1]; exact a5.mv hal h2, a6, by rw [hal.findClass]; exact a7, a8, a9, by rw [h1, h2]; exact a10, by rw [h1, h2]; exact a11⟩
namespace New4
def yN : MethodName := ⟨"java/lang/String", "<init>", "([CIILjava/lang/Void;)V"⟩
abbrev yB : ByteArray := jdk_42_method_149_code
theorem d0 : decode yB 0 = .ok (.aload_n 0, 1) := by decide +kernel
theorem d1 : decode yB 1 = .ok (.invokespecial 1, 3) := by decide +kernel
theorem d4 : decode yB 4 = .ok (.iload_n 3, 1) := by decide +kernel
theorem d5 : decode yB 5 = .ok (.ifCond (.ne) 22, 3) := by decide +kernel
theorem d27 : decode yB 27 = .ok (.getstatic 38, 3) := by decide +kernel
theorem d30 : decode yB 30 = .ok (.ifCond (.eq) 28, 3) := by decide +kernel
theorem d33 : decode yB 33 = .ok (.aload_n 1, 1) := by decide +kernel
theorem d34 : decode yB 34 = .ok (.iload_n 2, 1) := by decide +kernel
theorem d35 : decode yB 35 = .ok (.iload_n 3, 1) := by decide +kernel
theorem d36 : decode yB 36 = .ok (.invokestatic 177, 3) := by decide +kernel
theorem d39 : decode yB 39 = .ok (.astore 5, 2) := by decide +kernel
theorem d41 : decode yB 41 = .ok (.aload_n 0, 1) := by decide +kernel
theorem d42 : decode yB 42 = .ok (.aload 5, 2) := by decide +kernel
theorem d44 : decode yB 44 = .ok (.iload_n 3, 1) := by decide +kernel
theorem d45 : decode yB 45 = .ok (.invokestatic 47, 3) := by decide +kernel
theorem d48 : decode yB 48 = .ok (.putfield 15, 3) := by decide +kernel
theorem d51 : decode yB 51 = .ok (.aload_n 0, 1) := by decide +kernel
theorem d52 : decode yB 52 = .ok (.aload 5, 2) := by decide +kernel
theorem d54 : decode yB 54 = .ok (.putfield 9, 3) := by decide +kernel
theorem d57 : decode yB 57 = .ok (.return_, 1) := by decide +kernel
def site : List Cond := [.fieldLink "java/lang/String" 38 "java/lang/String" "COMPACT_STRINGS" "Z", Cmp3.tab, CodL.tab, .laysFinal "java/lang/String" "java/lang/String" "value" "[B", .fieldLink "java/lang/String" 9 "java/lang/String" "value" "[B", .laysFinal "java/lang/String" "java/lang/String" "coder" "B", .fieldLink "java/lang/String" 15 "java/lang/String" "coder" "B"] ++ objW "java/lang/String" 1 ++ staticW "java/lang/String" 177 Cmp3.yN ++ staticW "java/lang/String" 47 CodL.yN
def tab : Cond := tabOf yN yB 6 none site
def P (a : Addr) (D : Cell) (fV fC : Field) (b : Addr) (A : Cell) (z : Int32) (o len : Nat) (args : Array Value) (s : State) : Prop := args = #[.ref a, .ref b, .int (Int32.ofNat o), .int (Int32.ofNat len), .null] ∧ Blank "java/lang/String" a D s ∧ Found "java/lang/String" "value" "[B" fV s ∧ Found "java/lang/String" "coder" "B" fC s ∧ Ch b A s ∧ StaticIs s "java/lang/String" "COMPACT_STRINGS" "Z" (.int z) ∧ ¬ z = 0 ∧ 0 < len ∧ o + len ≤ A.slots.size ∧ len ≤ 536870912 ∧ ∀ i, i < len → ¬ 255 < cv A (o + i)
def E (a : Addr) (D : Cell) (fV fC : Field) (A : Cell) (o len : Nat) (r : Option Value) (s u : State) : Prop := Got a D fV fC A o len r s u
/-- len > 0, no char of the range above 255: a Latin-1 String of their low bytes -/
theorem law (l : Launch) (a : Addr) (D : Cell) (fV fC : Field) (b : Addr) (A : Cell) (z : Int32) (o len : Nat) : Law l yN 5 4 2 35 yB 6 none site (P a D fV fC b A z o len) (E a D fV fC A o len) [⟨a, fC.slot⟩, ⟨a, fV.slot⟩] 1 len := by
  refine Law.of_walk (plainFor_of_name (by decide +kernel)) (by decide +kernel) (by decide +kernel) (by decide) (fun _ _ h => by rw [h.1]; rfl) (fun _ U U' hal hh h => ⟨h.1, h.2.1.mv hal hh, h.2.2.1.al hal, h.2.2.2.1.al hal, h.2.2.2.2.1.mv hal hh, h.2.2.2.2.2.1.there hal hh, h.2.2.2.2.2.2⟩) (fun r U U' V V' h1 hal h2 h => Got.mv r U U' V V' h1 hal h2 h) ?_
  intro p e s m args below meth c s₁ X0 hexec hbytes hml hret hlk hnm hown hh0 W hP
  obtain ⟨rfl, hB, f1, f2, hA, s1, hz, l0, l1, l2, hp⟩ := hP
  have a31 := hA.1.2.2.2
  have c1 : Steps p.tables e below (s₁.setTop (entryFrame m #[.ref a, .ref b, .int (Int32.ofNat o), .int (Int32.ofNat len), .null] 6)) (s₁.setTop (mkF m 0 #[.val (.ref a), .val (.ref b), .val (.int (Int32.ofNat o)), .val (.int (Int32.ofNat len)), .val .null, .unset] [])) := entry rfl
  have c2 : Steps p.tables e below (s₁.setTop (entryFrame m #[.ref a, .ref b, .int (Int32.ofNat o), .int (Int32.ofNat len), .null] 6)) (s₁.setTop (mkF m 1 #[.val (.ref a), .val (.ref b), .val (.int (Int32.ofNat o)), .val (.int (Int32.ofNat len)), .val .null, .unset] [.ref a])) := c1.trans (by
    refine XS.aloadN X0.here hexec rfl (hb hbytes d0) rfl rfl ?_
    exact Steps.refl _)
  obtain ⟨T3, X3, q3, st3⟩ := X0.oinit hexec hown (wks W (objW "java/lang/String" 1)) (g := (mkF m 1 #[.val (.ref a), .val (.ref b), .val (.int (Int32.ofNat o)), .val (.int (Int32.ofNat len)), .val .null, .unset] [.ref a])) rfl (by rw [hml]; rfl) (rest := []) rfl (hb hbytes d1) (W := 0) (by show 2 * 0 + 0 ≤ _; decide) (Nat.le_of_ble_eq_true rfl) (Nat.le_of_ble_eq_true rfl)
  have hh3 := q3.trans hh0
  have c4 : Steps p.tables e below (s₁.setTop (entryFrame m #[.ref a, .ref b, .int (Int32.ofNat o), .int (Int32.ofNat len), .null] 6)) (T3.setTop (mkF m 27 #[.val (.ref a), .val (.ref b), .val (.int (Int32.ofNat o)), .val (.int (Int32.ofNat len)), .val .null, .unset] [])) := (c2.trans (st3 _ (Steps.refl _))).trans (by
    refine XS.iloadN X3.here hexec rfl (hb hbytes d4) rfl ?_
    refine XS.ifYes X3.here hexec rfl (pc0 := 5) rfl (hb hbytes d5) rfl (i0_ne_t (nz32 (by omega) l0)) (by decide) rfl ?_
    exact Steps.refl _)
  obtain ⟨T5, X5, q5, st5⟩ := X3.sget hexec hown (wk W (.fieldLink "java/lang/String" 38 "java/lang/String" "COMPACT_STRINGS" "Z")) s1 (fun _ _ h => by rw [hh3]; exact h) (g := (mkF m 27 #[.val (.ref a), .val (.ref b), .val (.int (Int32.ofNat o)), .val (.int (Int32.ofNat len)), .val .null, .unset] [])) rfl (hb hbytes d27)
  have hh5 := q5.trans hh3
  have c6 : Steps p.tables e below (s₁.setTop (entryFrame m #[.ref a, .ref b, .int (Int32.ofNat o), .int (Int32.ofNat len), .null] 6)) (T5.setTop (mkF m 30 #[.val (.ref a), .val (.ref b), .val (.int (Int32.ofNat o)), .val (.int (Int32.ofNat len)), .val .null, .unset] [.int z])) := c4.trans (st5 _ (Steps.refl _))
  have c7 : Steps p.tables e below (s₁.setTop (entryFrame m #[.ref a, .ref b, .int (Int32.ofNat o), .int (Int32.ofNat len), .null] 6)) (T5.setTop (mkF m 36 #[.val (.ref a), .val (.ref b), .val (.int (Int32.ofNat o)), .val (.int (Int32.ofNat len)), .val .null, .unset] [.int (Int32.ofNat len), .int (Int32.ofNat o), .ref b])) := c6.trans (by
    refine XS.ifNo X5.here hexec rfl (hb hbytes d30) rfl (i0_eq_f hz) ?_
    refine XS.aloadN X5.here hexec rfl (hb hbytes d33) rfl rfl ?_
    refine XS.iloadN X5.here hexec rfl (hb hbytes d34) rfl ?_
    refine XS.iloadN X5.here hexec rfl (hb hbytes d35) rfl ?_
    exact Steps.refl _)
  obtain ⟨v8, T8, X8, E8, g8⟩ := X5.callS hexec (Cmp3.law l b A o len) hown (wks W (staticW "java/lang/String" 177 Cmp3.yN)) (wk W Cmp3.tab) (W := 0) (Nat.le_of_ble_eq_true rfl) (Nat.le_of_ble_eq_true rfl) (Nat.le_refl _) (by show 0 + len ≤ len; omega) (g := (mkF m 36 #[.val (.ref a), .val (.ref b), .val (.int (Int32.ofNat o)), .val (.int (Int32.ofNat len)), .val .null, .unset] [.int (Int32.ofNat len), .int (Int32.ofNat o), .ref b])) rfl (by rw [hml]; rfl) c7 (argsL := [.ref b, .int (Int32.ofNat o), .int (Int32.ofNat len)]) (rest := []) rfl rfl (by show 2 * 0 + 0 ≤ _; decide) (hb hbytes d36) (⟨rfl, hA.mv X5.warmed.alike hh5, l1, l2, hp⟩)
  obtain ⟨e8, z8⟩ := E8
  obtain ⟨rfl, N, n1, n2, n3, n4, n5, n6⟩ := NewArr.mv _ T5 s _ _ hh5.symm (Vm.Alike.refl _) rfl e8
  rw [hh5] at z8
  have hB1 := hB.keep X8.warmed.alike (n6 _ _ hB.1)
  have hne : s.heap.size ≠ a := (Nat.ne_of_lt (Array.getElem?_eq_some_iff.mp hB.1).1).symm
  have c9 : Steps p.tables e below (s₁.setTop (entryFrame m #[.ref a, .ref b, .int (Int32.ofNat o), .int (Int32.ofNat len), .null] 6)) (T8.setTop (mkF m 39 #[.val (.ref a), .val (.ref b), .val (.int (Int32.ofNat o)), .val (.int (Int32.ofNat len)), .val .null, .unset] [.ref s.heap.size])) := g8
  have c10 : Steps p.tables e below (s₁.setTop (entryFrame m #[.ref a, .ref b, .int (Int32.ofNat o), .int (Int32.ofNat len), .null] 6)) (T8.setTop (mkF m 45 #[.val (.ref a), .val (.ref b), .val (.int (Int32.ofNat o)), .val (.int (Int32.ofNat len)), .val .null, .val (.ref s.heap.size)] [.int (Int32.ofNat N.slots.size), .ref s.heap.size, .ref a])) := by
    have hc : Steps p.tables e below (s₁.setTop (entryFrame m #[.ref a, .ref b, .int (Int32.ofNat o), .int (Int32.ofNat len), .null] 6)) (T8.setTop (mkF m 45 #[.val (.ref a), .val (.ref b), .val (.int (Int32.ofNat o)), .val (.int (Int32.ofNat len)), .val .null, .val (.ref s.heap.size)] [.int (Int32.ofNat len), .ref s.heap.size, .ref a])) := c9.trans (by
      refine XS.astore X8.here hexec rfl (hb hbytes d39) rfl rfl rfl ?_
      refine XS.aloadN X8.here hexec rfl (hb hbytes d41) rfl rfl ?_
      refine XS.aload X8.here hexec rfl (hb hbytes d42) rfl rfl ?_
      refine XS.iloadN X8.here hexec rfl (hb hbytes d44) rfl ?_
      exact Steps.refl _)
    rw [n4]; exact hc
  obtain ⟨v11, T11, X11, E11, g11⟩ := X8.callS hexec (CodL.law l s.heap.size N) hown (wks W (staticW "java/lang/String" 47 CodL.yN)) (wk W CodL.tab) (W := 1) (Nat.le_of_ble_eq_true rfl) (Nat.le_of_ble_eq_true rfl) (Nat.le_refl _) (by show 0 + len + 0 ≤ len; omega) (g := (mkF m 45 #[.val (.ref a), .val (.ref b), .val (.int (Int32.ofNat o)), .val (.int (Int32.ofNat len)), .val .null, .val (.ref s.heap.size)] [.int (Int32.ofNat N.slots.size), .ref s.heap.size, .ref a])) rfl (by rw [hml]; rfl) c10 (argsL := [.ref s.heap.size, .int (Int32.ofNat N.slots.size)]) (rest := [.ref a]) rfl rfl (by show 2 * 0 + (1 + 0) ≤ _; decide) (hb hbytes d45) (⟨rfl, n1⟩)
  obtain ⟨rfl, q11⟩ := E11
  have hB11 := hB1.mv (X8.warmed.alike.symm.trans X11.warmed.alike) q11
  have c12 : Steps p.tables e below (s₁.setTop (entryFrame m #[.ref a, .ref b, .int (Int32.ofNat o), .int (Int32.ofNat len), .null] 6)) (T11.setTop (mkF m 48 #[.val (.ref a), .val (.ref b), .val (.int (Int32.ofNat o)), .val (.int (Int32.ofNat len)), .val .null, .val (.ref s.heap.size)] [.int 0, .ref a])) := g11
  obtain ⟨T13, X13, p13, bl13, sl13, st13⟩ := X11.finit hexec hown (wk W (.fieldLink "java/lang/String" 15 "java/lang/String" "coder" "B")) (Or.inr ⟨_, (wk W (.laysFinal "java/lang/String" "java/lang/String" "coder" "B"))⟩) (Or.inl ⟨rfl, hnm⟩) f2 (Or.inl rfl) hB11 (t := .byte) (by decide +kernel) rfl (g := (mkF m 48 #[.val (.ref a), .val (.ref b), .val (.int (Int32.ofNat o)), .val (.int (Int32.ofNat len)), .val .null, .val (.ref s.heap.size)] [.int 0, .ref a])) rfl (rest := []) rfl (hb hbytes d48)
  have c14 : Steps p.tables e below (s₁.setTop (entryFrame m #[.ref a, .ref b, .int (Int32.ofNat o), .int (Int32.ofNat len), .null] 6)) (T13.setTop (mkF m 54 #[.val (.ref a), .val (.ref b), .val (.int (Int32.ofNat o)), .val (.int (Int32.ofNat len)), .val .null, .val (.ref s.heap.size)] [.ref s.heap.size, .ref a])) := (c12.trans (st13 _ (Steps.refl _))).trans (by
    refine XS.aloadN X13.here hexec rfl (hb hbytes d51) rfl rfl ?_
    refine XS.aload X13.here hexec rfl (hb hbytes d52) rfl rfl ?_
    exact Steps.refl _)
  obtain ⟨T15, X15, p15, bl15, sl15, st15⟩ := X13.finit hexec hown (wk W (.fieldLink "java/lang/String" 9 "java/lang/String" "value" "[B")) (Or.inr ⟨_, (wk W (.laysFinal "java/lang/String" "java/lang/String" "value" "[B"))⟩) (Or.inl ⟨rfl, hnm⟩) f1 (Or.inl rfl) bl13 (t := (.array .byte)) (by decide +kernel) rfl (g := (mkF m 54 #[.val (.ref a), .val (.ref b), .val (.int (Int32.ofNat o)), .val (.int (Int32.ofNat len)), .val .null, .val (.ref s.heap.size)] [.ref s.heap.size, .ref a])) rfl (rest := []) rfl (hb hbytes d54)
  have c16 : Steps p.tables e below (s₁.setTop (entryFrame m #[.ref a, .ref b, .int (Int32.ofNat o), .int (Int32.ofNat len), .null] 6)) (T15.setTop (mkF m 57 #[.val (.ref a), .val (.ref b), .val (.int (Int32.ofNat o)), .val (.int (Int32.ofNat len)), .val .null, .val (.ref s.heap.size)] [])) := c14.trans (st15 _ (Steps.refl _))
  have ap := apart (Or.inr ⟨_, (wk W (.laysFinal "java/lang/String" "java/lang/String" "value" "[B"))⟩) (Or.inr ⟨_, (wk W (.laysFinal "java/lang/String" "java/lang/String" "coder" "B"))⟩) f1 f2 (t₁ := .array .byte) (t₂ := .byte) (by decide +kernel) (by decide +kernel) (by decide)
  have al := X8.warmed.alike.symm.trans X15.warmed.alike
  have n7 : T11.heap[s.heap.size]? = some N := by rw [q11]; exact n1.1
  exact ⟨T15, none, _, _, _, X15, by simp, rfl, by omega, (fun _ => rfl), ⟨rfl, _, N, bl15, ((Same.refl D _).set _ (by simp)).set _ (by simp), sl15, (Cell.slots_setSlot_ne _ ap).trans sl13, n1.keep al (p15.other hne (p13.other hne n7)), n2, by rw [al.findClass]; exact n3, n4, n5, fun y c h1 h2 => p15.other h1 (p13.other h1 (by rw [q11]; exact n6 y c h2)), by rw [p15.2.2, p13.2.2, q11]; exact z8⟩, fun fs hl => c16.trans (X15.returnOut hexec hret (hb hbytes d57) hl)⟩
end New4
namespace New1
def yN : MethodName := ⟨"java/lang/String", "<init>", "([C)V"⟩
abbrev yB : ByteArray := jdk_42_method_3_code
theorem d0 : decode yB 0 = .ok (.aload_n 0, 1) := by decide +kernel
theorem d1 : decode yB 1 = .ok (.aload_n 1, 1) := by decide +kernel
theorem d2 : decode yB 2 = .ok (.iconst 0, 1) := by decide +kernel
theorem d3 : decode yB 3 = .ok (.aload_n 1, 1) := by decide +kernel
theorem d4 : decode yB 4 = .ok (.arraylength, 1) := by decide +kernel
theorem d5 : decode yB 5 = .ok (.aconst_null, 1) := by decide +kernel
theorem d6 : decode yB 6 = .ok (.invokespecial 27, 3) := by decide +kernel
theorem d9 : decode yB 9 = .ok (.return_, 1) := by decide +kernel
def site : List Cond := [New4.tab] ++ initW "java/lang/String" 27 New4.yN
def tab : Cond := tabOf yN yB 2 none site
def P (a : Addr) (D : Cell) (fV fC : Field) (b : Addr) (A : Cell) (z : Int32) (args : Array Value) (s : State) : Prop := args = #[.ref a, .ref b] ∧ Blank "java/lang/String" a D s ∧ Found "java/lang/String" "value" "[B" fV s ∧ Found "java/lang/String" "coder" "B" fC s ∧ Ch b A s ∧ StaticIs s "java/lang/String" "COMPACT_STRINGS" "Z" (.int z) ∧ ¬ z = 0 ∧ 0 < A.slots.size ∧ A.slots.size ≤ 536870912 ∧ ∀ i, i < A.slots.size → ¬ 255 < cv A i
def E (a : Addr) (D : Cell) (fV fC : Field) (A : Cell) (r : Option Value) (s u : State) : Prop := Got a D fV fC A 0 A.slots.size r s u
/-- new String(chars), not empty, no char above 255: a Latin-1 String of their low bytes -/
theorem law (l : Launch) (a : Addr) (D : Cell) (fV fC : Field) (b : Addr) (A : Cell) (z : Int32) : Law l yN 2 1 3 52 yB 2 none site (P a D fV fC b A z) (E a D fV fC A) [⟨a, fC.slot⟩, ⟨a, fV.slot⟩] 1 A.slots.size := by
  refine Law.of_walk (plainFor_of_name (by decide +kernel)) (by decide +kernel) (by decide +kernel) (by decide) (fun _ _ h => by rw [h.1]; rfl) (fun _ U U' hal hh h => ⟨h.1, h.2.1.mv hal hh, h.2.2.1.al hal, h.2.2.2.1.al hal, h.2.2.2.2.1.mv hal hh, h.2.2.2.2.2.1.there hal hh, h.2.2.2.2.2.2⟩) (fun r U U' V V' h1 hal h2 h => Got.mv r U U' V V' h1 hal h2 h) ?_
  intro p e s m args below meth c s₁ X0 hexec hbytes hml hret hlk hnm hown hh0 W hP
  obtain ⟨rfl, hB, f1, f2, hA, s1, hz, l0, l2, hp⟩ := hP
  have c1 : Steps p.tables e below (s₁.setTop (entryFrame m #[.ref a, .ref b] 2)) (s₁.setTop (mkF m 0 #[.val (.ref a), .val (.ref b)] [])) := entry rfl
  have c2 : Steps p.tables e below (s₁.setTop (entryFrame m #[.ref a, .ref b] 2)) (s₁.setTop (mkF m 6 #[.val (.ref a), .val (.ref b)] [.null, .int (Int32.ofNat A.slots.size), .int 0, .ref b, .ref a])) := c1.trans (by
    refine XS.aloadN X0.here hexec rfl (hb hbytes d0) rfl rfl ?_
    refine XS.aloadN X0.here hexec rfl (hb hbytes d1) rfl rfl ?_
    refine iconstV X0.here hexec rfl 0 (hb hbytes d2) (by decide) ?_
    refine XS.aloadN X0.here hexec rfl (hb hbytes d3) rfl rfl ?_
    refine X0.alen hexec (hA.1.mv X0.warmed.alike hh0) rfl rfl (hb hbytes d4) ?_
    refine XS.aconstNull X0.here hexec rfl (hb hbytes d5) ?_
    exact Steps.refl _)
  obtain ⟨v3, T3, X3, E3, g3⟩ := X0.callN hexec (New4.law l a D fV fC b A z 0 A.slots.size) rfl hown (wks W (initW "java/lang/String" 27 New4.yN)) (W New4.tab (by simp only [site, List.mem_cons, List.mem_append, true_or, or_true])) (W := 0) (Nat.le_of_ble_eq_true rfl) (Nat.le_of_ble_eq_true rfl) (Nat.le_refl _) (by show 0 + A.slots.size ≤ A.slots.size; omega) (g := (mkF m 6 #[.val (.ref a), .val (.ref b)] [.null, .int (Int32.ofNat A.slots.size), .int (Int32.ofNat 0), .ref b, .ref a])) rfl (by rw [hml]; rfl) c2 (argsL := [.ref b, .int (Int32.ofNat 0), .int (Int32.ofNat A.slots.size), .null]) (rest := []) rfl rfl (by show 2 * 0 + 0 ≤ _; decide) (hb hbytes d6) (⟨rfl, hB.mv X0.warmed.alike hh0, f1.al X0.warmed.alike, f2.al X0.warmed.alike, hA.mv X0.warmed.alike hh0, s1.there X0.warmed.alike hh0, hz, l0, by omega, l2, fun i hi => by rw [Nat.zero_add]; exact hp i hi⟩)
  have e0 := Got.mv _ s₁ s _ _ hh0.symm (Vm.Alike.refl _) rfl E3
  obtain rfl := e0.1
  have c4 : Steps p.tables e below (s₁.setTop (entryFrame m #[.ref a, .ref b] 2)) (T3.setTop (mkF m 9 #[.val (.ref a), .val (.ref b)] [])) := g3
  exact ⟨T3, none, _, _, _, X3, by simp, rfl, by omega, (fun _ => rfl), e0, fun fs hl => c4.trans (X3.returnOut hexec hret (hb hbytes d9) hl)⟩
theorem pays {l : Launch} {R : Room} {p : Program} {e : Env} {below : List Frame} {s : State} {sargs : Array Value} {len W : Nat} (a : Addr) (D : Cell) (fV fC : Field) (b : Addr) (A : Cell) (z : Int32) (htab : tab.before sargs s = true) (hfr : 4 ≤ R.frames) (hlo : W + 65 ≤ R.locals) :
    Back l R p e below s sargs yN len W (fun A₁ a₁ => A₁.cells + 1 ≤ R.cells ∧ A₁.slots + A.slots.size ≤ R.slots ∧ P a D fV fC b A z a₁ A₁.U) (fun A₁ _ v₁ B₁ => E a D fV fC A v₁ A₁.U B₁.U ∧ B₁.locs = A₁.locs ++ [⟨a, fC.slot⟩, ⟨a, fV.slot⟩] ∧ B₁.cells = A₁.cells + 1 ∧ B₁.slots = A₁.slots + A.slots.size) :=
  (law l a D fV fC b A z).pays htab hfr (by omega)
end New1
end StrChars
namespace StrChars.Road
open Jvm Sem ClassFile Op Lib Jvm.Stand Jvm.Free Jvm.Free.XT
open Jvm.Lib.Cold (StaticIs)
abbrev ST : String := "java/lang/String"
/-- every table word that New1's law asks, flat -/
abbrev words : List Jvm.Cond := [.code New1.yN New1.yB 2 none, .initialized ST, .methodLink ST 27 New4.yN, .instanceMethod New4.yN,
  .code New4.yN New4.yB 6 none, .fieldLink ST 38 ST "COMPACT_STRINGS" "Z", .laysFinal ST ST "value" "[B", .fieldLink ST 9 ST "value" "[B", .laysFinal ST ST "coder" "B", .fieldLink ST 15 ST "coder" "B",
  .methodLink ST 1 Lib.objectInit, .instanceMethod Lib.objectInit, .code Lib.objectInit ⟨#[0xb1]⟩ 1 none, .methodLink ST 177 Cmp3.yN, .static Cmp3.yN, .methodLink ST 47 CodL.yN, .static CodL.yN,
  .code Cmp3.yN Cmp3.yB 6 (some (.array .byte)), .initialized U16, .arrayClass .byte, .methodLink U16 115 Cmp5.yN, .static Cmp5.yN, .code Cmp5.yN Cmp5.yB 7 (some .int), .code CodL.yN CodL.yB 2 (some .byte)]
theorem tab_of {a : Array Value} {s : State} (h : ∀ w ∈ words, w.before a s = true) : New1.tab.before a s = true := by
  have h5 : Cmp5.tab.before a s = true := unparts (wk h (.code Cmp5.yN Cmp5.yB 7 (some .int))) (wks h (.initialized Cmp5.yN.cls :: Cmp5.site))
  have hc : CodL.tab.before a s = true := unparts (wk h (.code CodL.yN CodL.yB 2 (some .byte))) (wks h (.initialized CodL.yN.cls :: CodL.site))
  have q5 : ∀ w ∈ Cmp5.tab :: words, w.before a s = true := fun w hw => (List.mem_cons.mp hw).elim (fun e => e ▸ h5) (h w)
  have h3 : Cmp3.tab.before a s = true := unparts (wk q5 (.code Cmp3.yN Cmp3.yB 6 (some (.array .byte)))) (wks q5 (.initialized Cmp3.yN.cls :: Cmp3.site))
  have q3 : ∀ w ∈ Cmp3.tab :: CodL.tab :: words, w.before a s = true := fun w hw => (List.mem_cons.mp hw).elim (fun e => e ▸ h3) fun hw => (List.mem_cons.mp hw).elim (fun e => e ▸ hc) (h w)
  have h4 : New4.tab.before a s = true := unparts (wk q3 (.code New4.yN New4.yB 6 none)) (wks q3 (.initialized New4.yN.cls :: New4.site))
  have q4 : ∀ w ∈ New4.tab :: words, w.before a s = true := fun w hw => (List.mem_cons.mp hw).elim (fun e => e ▸ h4) (h w)
  exact unparts (wk q4 (.code New1.yN New1.yB 2 none)) (wks q4 (.initialized New1.yN.cls :: New1.site))
/-- the words ride from the start Z to the walk's own state -/
theorem moved {Z s : State} {a0 args : Array Value} (hZ : Z.Warmed39 s.vm) (hw : ∀ d ∈ words, d.before a0 Z = true) : ∀ d ∈ words, d.before args s = true := fun d hd => by
  have q := hw d hd
  have t : ∀ d ∈ words, d = .arrayClass .byte ∨ (d.onTables && d.keepsFace) = true := by decide +kernel
  rcases t d hd with rfl | t
  · exact RoadKit.mvA hZ q
  · exact RoadKit.mv hZ q t
/-- WHAT COMES BACK, over the tables of the start Z: h the heap at the call, h' behind it -/
def Q (Z : State) (x : Addr) (A : Cell) (h : Heap) (v : Option Value) (h' : Heap) (L : List Loc) : Prop := v = none ∧ (∀ y ∈ L, y.base = x) ∧ RoadKit.Keep h h' [x] ∧ h'.size = h.size + 1 ∧ RoadKit.Exa Z h' x ST ∧ RoadKit.Fld Z h' x ST "value" "[B" (.ref h.size) ∧ RoadKit.Fld Z h' x ST "coder" "B" (.int 0) ∧
  (∃ V : Cell, RoadKit.Arr Z h' h.size V .byte ∧ V.vm = .none ∧ Z.vm.findClass "[B" = some V.cls ∧ V.slots.size = A.slots.size ∧ ∀ j, j < A.slots.size → V.slots[j]? = some (.int (lo8 (cv A j)))) ∧
  ∀ (O n d : String) (w : Value), RoadKit.Fld Z h x O n d w → RoadKit.slotOf Z O n d ≠ RoadKit.slotOf Z ST "value" "[B" → RoadKit.slotOf Z O n d ≠ RoadKit.slotOf Z ST "coder" "B" → RoadKit.Fld Z h' x O n d w
/-- **new String(chars) AT A CALL, IN THE ROAD'S FORM**: for specialBack behind newO: x the fresh String, b the char[] with the cell A -/
theorem back {p : Program} {l : Launch} {e : Env} {R : Room} {s : State} {args : Array Value} {below : List Frame} {len W : Nat} {Z : State} {a0 : Array Value} {h : Heap} (hZ : Z.Warmed39 s.vm) (hw : ∀ d ∈ words, d.before a0 Z = true) {kI : Nat} (wi : (Jvm.Cond.instantiable ST kI).before a0 Z = true)
    {x b : Addr} {A : Cell} {z : Int32} {v0 c0 : Value} (E : RoadKit.Exa Z h x ST) (V : RoadKit.Fld Z h x ST "value" "[B" v0) (C : RoadKit.Fld Z h x ST "coder" "B" c0) (K : RoadKit.Arr Z h b A .char) (hty : Typed .char A) (S : RoadKit.Sta Z h ST "COMPACT_STRINGS" "Z" (.int z)) (hz : ¬ z = 0)
    (l0 : 0 < A.slots.size) (l2 : A.slots.size ≤ 536870912) (hp : ∀ i, i < A.slots.size → ¬ 255 < cv A i) (hfr : 4 ≤ R.frames) (hlo : W + 65 ≤ R.locals) :
    Back l R p e below s args New1.yN len W (fun P a => a = #[.ref x, .ref b] ∧ P.U.heap = h ∧ P.cells + 1 ≤ R.cells ∧ P.slots + A.slots.size ≤ R.slots)
      (fun P _ v B => ∃ L, Q Z x A h v B.U.heap L ∧ B.locs = P.locs ++ L ∧ B.cells = P.cells + 1 ∧ B.slots = P.slots + A.slots.size) := by
  intro m meth c P g ig mk a X hg hsize hdg hW hn hp'
  obtain ⟨rfl, rfl, r1, r2⟩ := hp'
  have al : Z.vm.Alike P.U.vm := hZ.alike.trans X.warmed.alike
  obtain ⟨D, cfV, kV, iV, fV, hD, gV, stV, knV, obV, asV, slV⟩ := id V
  obtain ⟨D', cfC, kC, iC, fC, hD', gC, stC, -, -, asC, slC⟩ := id C
  cases hD.symm.trans hD'
  obtain ⟨D2, kD, e1, e2, e3, e4, e5⟩ := id E
  cases hD.symm.trans e1
  obtain ⟨c2, k2, i1, i2, i3, -⟩ := Cond.instantiable_spec wi
  cases e2.symm.trans i1
  cases e3.symm.trans i2
  obtain ⟨kU, u1, u2⟩ := al.2.2 _ _ e3
  have hB : Blank ST x D P.U := ⟨hD, ⟨knV, fun q hq => by rw [hq] at obV; cases obV⟩, by rw [al.findClass]; exact e2, kU, u1, by rw [u2]; exact i3, by rw [u2]; exact e5 i3⟩
  have F1 : Found ST "value" "[B" fV P.U := ⟨SBG.found_only al ⟨cfV, kV, iV, gV⟩, stV⟩
  have F2 : Found ST "coder" "B" fC P.U := ⟨SBG.found_only al ⟨cfC, kC, iC, gC⟩, stC⟩
  have hA : Ch b A P.U := ⟨⟨K.1, State.isArrayOf_alike al K.2.1, K.2.2, by omega⟩, hty⟩
  have hS : StaticIs P.U ST "COMPACT_STRINGS" "Z" (.int z) := by
    obtain ⟨cfS, iS, kS, fS, st, cS, t1, t2, t3, t4, t5, t6, t7⟩ := S
    exact StaticIs.there (s := { Z with heap := P.U.heap }) ⟨cfS, iS, kS, fS, st, cS, t1, t2, t3, t4, t5, (fun q => by rw [q] at t6; cases t6), t7⟩ al rfl
  obtain ⟨v, B, X', ⟨⟨hv, E', V', q1, q2, q3, q4, q5, q6, q7, q8, q9, q10, q11⟩, hl, hc, hs⟩, st⟩ := New1.pays x D fV fC b A z (tab_of (moved hZ hw)) hfr hlo m meth c P g ig mk _ X hg hsize hdg hW hn ⟨r1, r2, rfl, hB, F1, F2, hA, hS, hz, l0, l2, hp⟩
  have al' : Z.vm.Alike B.U.vm := hZ.alike.trans X'.warmed.alike
  have hsz : E'.slots.size = D.slots.size := by
    obtain ⟨-, -, -, kB, w1, w2, w3⟩ := q1
    obtain ⟨kB', y1, y2⟩ := al'.2.2 _ _ e3
    rw [q2.2.1] at w1
    cases w1.symm.trans y1
    rw [w3, e5 i3, y2]
  refine ⟨v, B, X', ⟨_, ⟨hv, ?_, ⟨by omega, fun y cy hy hn' => q10 y cy (by simpa using hn') hy, fun y cy hy => ?_⟩, q11, ⟨E', _, q1.1, by rw [q2.2.1]; exact e2, by rw [q2.2.1]; exact e3, by rw [q2.1]; exact obV, fun _ => by rw [hsz]; exact e5 i3⟩,
    ⟨E', cfV, kV, iV, fV, q1.1, gV, stV, by rw [q2.1]; exact knV, by rw [q2.1]; exact obV, by rw [q2.2.1]; exact asV, q3⟩, ⟨E', cfC, kC, iC, fC, q1.1, gC, stC, by rw [q2.1]; exact knV, by rw [q2.1]; exact obV, by rw [q2.2.1]; exact asC, q4⟩,
    ⟨V', ⟨q5.1, State.isArrayOf_alike al'.symm q5.2.1, q5.2.2.1⟩, q6, by rw [← al'.findClass]; exact q7, q8, fun j hj => by have := q9 j hj; rwa [Nat.zero_add] at this⟩, fun O n d w F n1 n2 => ?_⟩, hl, hc, hs⟩, st⟩
  · intro y hy
    simp only [List.mem_cons, List.not_mem_nil, or_false] at hy
    rcases hy with rfl | rfl <;> rfl
  · by_cases q : y = x
    · subst q
      cases hD.symm.trans hy
      exact ⟨E', q1.1, q2.2.1, q2.1, hsz⟩
    · exact ⟨cy, q10 y cy q hy, rfl, rfl, rfl⟩
  · obtain ⟨D3, cf, k, i, f, g1, g2, g3, g4, g5, g6, g7⟩ := F
    cases hD.symm.trans g1
    simp only [RoadKit.slotOf, g2, gV, gC, Option.map_some, Option.getD_some] at n1 n2
    exact ⟨E', cf, k, i, f, q1.1, g2, g3, by rw [q2.1]; exact g4, by rw [q2.1]; exact g5, by rw [q2.2.1]; exact g6, by rw [q2.2.2 f.slot (by simp [n1, n2])]; exact g7⟩
end StrChars.Road
namespace StrChars.Road
open Jvm Sem ClassFile Op Lib Jvm.Stand Jvm.Free Jvm.Free.XT
/-- WHAT COMES BACK, the byte[] as a list of values -/
def QA (Z : State) (x : Addr) (zn : Int32) (cs : List Int32) (h : Heap) (v : Option Value) (h' : Heap) (L : List Loc) : Prop := v = none ∧ (∀ y ∈ L, y.base = x) ∧ RoadKit.Keep h h' [x] ∧ h'.size = h.size + 1 ∧ RoadKit.Exa Z h' x ST ∧ RoadKit.Fld Z h' x ST "value" "[B" (.ref h.size) ∧ RoadKit.Fld Z h' x ST "coder" "B" (.int 0) ∧
  (∃ kb, Z.vm.findClass "[B" = some kb ∧ RoadKit.Arv Z h' h.size kb .byte zn (cs.map fun c => .int (lo8 c)) (.int 0)) ∧
  ∀ (O n d : String) (w : Value), RoadKit.Fld Z h x O n d w → RoadKit.slotOf Z O n d ≠ RoadKit.slotOf Z ST "value" "[B" → RoadKit.slotOf Z O n d ≠ RoadKit.slotOf Z ST "coder" "B" → RoadKit.Fld Z h' x O n d w
/-- **new String(chars) AT A CALL, THE ARRAYS AS LISTS**: the char[] at b holds cs, not empty, no char above 255 -/
theorem backArv {p : Program} {l : Launch} {e : Env} {R : Room} {s : State} {args : Array Value} {below : List Frame} {len W : Nat} {Z : State} {a0 : Array Value} {h : Heap} (hZ : Z.Warmed39 s.vm) (hw : ∀ d ∈ words, d.before a0 Z = true) {kI : Nat} (wi : (Jvm.Cond.instantiable ST kI).before a0 Z = true)
    {x b : Addr} {k : ClassId} {zn z : Int32} {cs : List Int32} {dv v0 c0 : Value} (E : RoadKit.Exa Z h x ST) (V : RoadKit.Fld Z h x ST "value" "[B" v0) (C : RoadKit.Fld Z h x ST "coder" "B" c0) (K : RoadKit.Arv Z h b k .char zn (cs.map Value.int) dv) (S : RoadKit.Sta Z h ST "COMPACT_STRINGS" "Z" (.int z)) (hz : ¬ z = 0)
    (hlen : zn.toNatClampNeg = cs.length) (h0 : 0 < cs.length) (hbig : cs.length ≤ 536870912) (hall : ∀ c ∈ cs, ¬ 255 < c) (hfr : 4 ≤ R.frames) (hlo : W + 65 ≤ R.locals) :
    Back l R p e below s args New1.yN len W (fun P a => a = #[.ref x, .ref b] ∧ P.U.heap = h ∧ P.cells + 1 ≤ R.cells ∧ P.slots + cs.length ≤ R.slots)
      (fun P _ v B => ∃ L, QA Z x zn cs h v B.U.heap L ∧ B.locs = P.locs ++ L ∧ B.cells = P.cells + 1 ∧ B.slots = P.slots + cs.length) := by
  obtain ⟨A, K1, K2, K3, K4, K5, K6⟩ := K
  have e : A.slots.size = cs.length := K3.trans hlen
  have hat : ∀ (i : Nat) (hi : i < cs.length), A.slots[i]? = some (.int cs[i]) := fun i hi => by rw [K5 i (by omega)]; simp [List.getD_eq_getElem?_getD, hi]
  have hcv : ∀ (i : Nat) (hi : i < cs.length), cv A i = cs[i] := fun i hi => by unfold cv; rw [hat i hi]
  have hty : Typed .char A := fun i v hv => by
    have hi : i < A.slots.size := (Array.getElem?_eq_some_iff.mp hv).1
    have q := K5 i hi
    rw [hv] at q
    rw [Option.some.inj q]
    exact K6 i hi
  refine Back.mono (back hZ hw wi E V C K1 hty S hz (by omega) (by omega) (fun i hi => by rw [hcv i (by omega)]; exact hall _ (List.getElem_mem _)) hfr hlo) (fun P a hp => ⟨hp.1, hp.2.1, hp.2.2.1, by rw [e]; exact hp.2.2.2⟩) (fun P a v B hp hq => ?_)
  obtain ⟨L, ⟨q1, q2, q3, q4, q5, q6, q7, ⟨V', v1, v2, v3, v4, v5⟩, q9⟩, hl, hc, hs⟩ := hq
  refine ⟨L, ⟨q1, q2, q3, q4, q5, q6, q7, ⟨V'.cls, v3, V', v1, rfl, by rw [v4, e, hlen], K4, fun i hi => ?_, fun i hi => ?_⟩, q9⟩, hl, hc, by rw [hs, e]⟩
  · have hi' : i < cs.length := by omega
    rw [v5 i (by omega), hcv i hi']; simp [List.getD_eq_getElem?_getD, hi']
  · have hi' : i < cs.length := by omega
    simp only [List.getD_eq_getElem?_getD, List.getElem?_map, List.getElem?_eq_getElem hi', Option.map_some, Option.getD_some]
    exact fits_lo8 _
end StrChars.Road
namespace StrChars.Road
open Jvm Sem ClassFile Op Lib Jvm.Stand Jvm.Free Jvm.Free.XT
/-- WHAT COMES BACK, in the writer's own shape -/
def QV (Z : State) (x : Addr) (N : Int32) (bs : List Int32) (h : Heap) (n0 : Nat) (v : Option Value) (h' : Heap) (L : List Loc) : Prop := v = none ∧ RoadKit.Fr n0 L ∧ RoadKit.Keep h h' [x] ∧ RoadKit.Exa Z h' x ST ∧ RoadKit.Fld Z h' x ST "coder" "B" (.int 0) ∧
  ∃ (t : Addr) (kb : ClassId), n0 ≤ t ∧ h.size ≤ t ∧ ¬ t = x ∧ RoadKit.Fld Z h' x ST "value" "[B" (.ref t) ∧ RoadKit.Arv Z h' t kb .byte N (bs.map Value.int) (.int 0)
/-- **new String(chars) AT A CALL, FOR THE WRITER**: a char[] of n known ints, each 0 to 255 -/
theorem backV {p : Program} {l : Launch} {e : Env} {R : Room} {s : State} {args : Array Value} {below : List Frame} {len W : Nat} {Z : State} {a0 : Array Value} {h : Heap} (hZ : Z.Warmed39 s.vm) (hw : ∀ d ∈ words, d.before a0 Z = true) {kI : Nat} (wi : (Jvm.Cond.instantiable ST kI).before a0 Z = true)
    {x b : Addr} {kC : ClassId} {cs bs : List Int32} {d v0 c0 : Value} {z N : Int32} {n n0 : Nat} (hx0 : n0 ≤ x) (hh0 : n0 ≤ h.size) (E : RoadKit.Exa Z h x ST) (V : RoadKit.Fld Z h x ST "value" "[B" v0) (C : RoadKit.Fld Z h x ST "coder" "B" c0) (K : RoadKit.Arv Z h b kC .char N (cs.map Value.int) d) (S : RoadKit.Sta Z h ST "COMPACT_STRINGS" "Z" (.int z)) (hz : ¬ z = 0)
    (hn : cs.length = n) (hN : N = Int32.ofNat n) (l0 : 0 < n) (l2 : n ≤ 4000) (hp : ∀ c ∈ cs, ¬ c < 0 ∧ ¬ (255 : Int32) < c) (hb : bs = cs.map (fun c => c.toInt8.toInt32)) (hfr : 4 ≤ R.frames) (hlo : W + 65 ≤ R.locals) :
    Back l R p e below s args (⟨"java/lang/String", "<init>", "([C)V"⟩ : MethodName) len W (fun P a => a = #[.ref x, .ref b] ∧ P.U.heap = h ∧ P.cells + 1 ≤ R.cells ∧ P.slots + n ≤ R.slots)
      (fun P _ v B => ∃ L, QV Z x N bs h n0 v B.U.heap L ∧ B.locs = P.locs ++ L ∧ B.cells = P.cells + 1 ∧ B.slots = P.slots + n) := by
  subst hn hN hb
  refine Back.mono (backArv hZ hw wi E V C K S hz (n32 (by omega)) l0 (by omega) (fun c hc => (hp c hc).2) hfr hlo) (fun P a hp => hp) (fun P a v B hp hq => ?_)
  obtain ⟨L, ⟨q1, q2, q3, q4, q5, q6, q7, ⟨kb, v1, v2⟩, q9⟩, hl, hc, hs⟩ := hq
  exact ⟨L, ⟨q1, fun y hy => by rw [q2 y hy]; exact hx0, q3, q5, q7, h.size, kb, hh0, Nat.le_refl _, Nat.ne_of_gt E.lt, q6, by rw [List.map_map]; exact v2⟩, hl, hc, hs⟩
end StrChars.Road
end Jvm.Pilot.@@N@@
namespace Jvm.Pilot.@@N@@
open Jvm Jvm.ClassFile Sem Op Lib Jvm.Free Jvm.Stand Jvm.LawKit Jvm.RoadKit Bundle Jvm.Pilot.@@N@@.Jvm.D
theorem paysNew {p : Program} {l : Launch} {e : Env} {R : Room} {s : State} {args : Array Value} {below : List Frame} {len W : Nat} {Z : State} {a0 : Array Value} {h : Heap} (hZ : Z.Warmed39 s.vm) (hw : ∀ d ∈ StrChars.Road.words, d.before a0 Z = true) {kI : Nat} (wi : (Jvm.Cond.instantiable StrChars.Road.ST kI).before a0 Z = true) {x b : Addr} {kC : ClassId} {cs bs : List Int32} {d v0 c0 : Value} {z N : Int32} {n n0 : Nat} (hx0 : n0 ≤ x) (hh0 : n0 ≤ h.size) (E : RoadKit.Exa Z h x StrChars.Road.ST) (F : RoadKit.Fld Z h x StrChars.Road.ST "value" "[B" v0) (C : RoadKit.Fld Z h x StrChars.Road.ST "coder" "B" c0) (A : RoadKit.Arv Z h b kC .char N (cs.map Value.int) d) (S : RoadKit.Sta Z h StrChars.Road.ST "COMPACT_STRINGS" "Z" (.int z)) (hz : ¬ z = 0) (hn : cs.length = n) (hN : N = Int32.ofNat n) (l0 : 0 < n) (l2 : n ≤ 4000) (hp : ∀ c ∈ cs, ¬ c < 0 ∧ ¬ (255 : Int32) < c) (hb : bs = cs.map (fun c => c.toInt8.toInt32)) (hfr : 4 ≤ R.frames) (hlo : W + 65 ≤ R.locals) : Pays l R p e below s args (⟨"java/lang/String", "<init>", "([C)V"⟩ : MethodName) len W #[.ref x, .ref b] h 1 n (StrChars.Road.QV Z x N bs h n0) :=
  StrChars.Road.backV hZ hw wi hx0 hh0 E F C A S hz hn hN l0 l2 hp hb hfr hlo
end Jvm.Pilot.@@N@@
namespace Jvm.Pilot.@@N@@
open Jvm Jvm.ClassFile Sem Op Lib Jvm.Free Jvm.Stand Jvm.LawKit Jvm.RoadKit Bundle Jvm.Pilot.@@N@@.Jvm.D
theorem own_and255 (x : Int32) : ¬ nar .char ((x &&& (255 : Int32)).toUInt32.toUInt16.toUInt32.toInt32) < 0 ∧ ¬ (255 : Int32) < nar .char ((x &&& (255 : Int32)).toUInt32.toUInt16.toUInt32.toInt32) := by
  have t : ∀ k : Fin 256, ¬ nar .char ((Int32.ofNat k.val).toUInt32.toUInt16.toUInt32.toInt32) < 0 ∧ ¬ (255 : Int32) < nar .char ((Int32.ofNat k.val).toUInt32.toUInt16.toUInt32.toInt32) := by decide +kernel
  have h : (x &&& 255).toBitVec.toNat < 256 := by
    simp only [Int32.toBitVec_and, BitVec.toNat_and]
    exact Nat.lt_succ_of_le Nat.and_le_right
  have e : (x &&& 255) = Int32.ofNat (x &&& 255).toBitVec.toNat := by
    apply Int32.toBitVec_inj.mp
    show _ = BitVec.ofNat 32 _
    rw [BitVec.ofNat_toNat]; simp
  rw [e]
  exact t ⟨_, h⟩
theorem own_k4 (x : Int32) (h0 : ¬ (x &&& 3) = 0) (h1 : ¬ (x &&& 3) = 1) : ¬ (x &&& 3) < 2 := by
  have q := c_and x 3 (by decide)
  have e0 : (0 : Int32).toInt = 0 := by decide
  have e1 : (1 : Int32).toInt = 1 := by decide
  have e2 : (2 : Int32).toInt = 2 := by decide
  have e3 : (3 : Int32).toInt = 3 := by decide
  rw [Int32.lt_iff_toInt_lt]
  have n0 : ¬ (x &&& 3).toInt = 0 := fun q => h0 (Int32.toInt_inj.mp (q.trans e0.symm))
  have n1 : ¬ (x &&& 3).toInt = 1 := fun q => h1 (Int32.toInt_inj.mp (q.trans e1.symm))
  omega
theorem ef_m_th1 (m : MethodId) (o : Addr) (mg : Addr) : entryFrame m #[(.ref o), (.ref mg)] 2 = mkF m 0 #[.val (.ref o), .val (.ref mg)] [] := by first | (simp [entryFrame, mkF, argsToLocals, Value.category]; done) | rfl
theorem d_jdk_78_method_2_0 : decode jdk_78_method_2_code 0 = .ok (.aload_n 0, 1) := by decide +kernel
theorem d_jdk_78_method_2_1 : decode jdk_78_method_2_code 1 = .ok (.invokespecial 1, 3) := by decide +kernel
theorem d_jdk_78_method_2_4 : decode jdk_78_method_2_code 4 = .ok (.aload_n 0, 1) := by decide +kernel
theorem d_jdk_78_method_2_5 : decode jdk_78_method_2_code 5 = .ok (.aload_n 0, 1) := by decide +kernel
theorem d_jdk_78_method_2_6 : decode jdk_78_method_2_code 6 = .ok (.putfield 7, 3) := by decide +kernel
theorem d_jdk_78_method_2_9 : decode jdk_78_method_2_code 9 = .ok (.aload_n 0, 1) := by decide +kernel
theorem d_jdk_78_method_2_10 : decode jdk_78_method_2_code 10 = .ok (.getstatic 13, 3) := by decide +kernel
theorem d_jdk_78_method_2_13 : decode jdk_78_method_2_code 13 = .ok (.putfield 17, 3) := by decide +kernel
theorem d_jdk_78_method_2_16 : decode jdk_78_method_2_code 16 = .ok (.aload_n 0, 1) := by decide +kernel
theorem d_jdk_78_method_2_17 : decode jdk_78_method_2_code 17 = .ok (.getstatic 20, 3) := by decide +kernel
theorem d_jdk_78_method_2_20 : decode jdk_78_method_2_code 20 = .ok (.putfield 24, 3) := by decide +kernel
theorem d_jdk_78_method_2_23 : decode jdk_78_method_2_code 23 = .ok (.aload_n 0, 1) := by decide +kernel
theorem d_jdk_78_method_2_24 : decode jdk_78_method_2_code 24 = .ok (.invokevirtual 27, 3) := by decide +kernel
theorem d_jdk_78_method_2_27 : decode jdk_78_method_2_code 27 = .ok (.pop, 1) := by decide +kernel
theorem d_jdk_78_method_2_28 : decode jdk_78_method_2_code 28 = .ok (.aload_n 0, 1) := by decide +kernel
theorem d_jdk_78_method_2_29 : decode jdk_78_method_2_code 29 = .ok (.aload_n 1, 1) := by decide +kernel
theorem d_jdk_78_method_2_30 : decode jdk_78_method_2_code 30 = .ok (.putfield 31, 3) := by decide +kernel
theorem d_jdk_78_method_2_33 : decode jdk_78_method_2_code 33 = .ok (.return_, 1) := by decide +kernel
theorem pn_java_lang_Throwable : plainName "java/lang/Throwable" = true := by first | (simp [plainName, overriddenIn]; done) | decide +kernel
set_option maxRecDepth 65536 in
set_option maxHeartbeats 40000000 in
theorem m_th1 (l : Launch) (Z : State) (a0 : Array Value) (hw : ∀ d ∈ tables_1, d.before a0 Z = true) (h0 : Heap) (n0 : Nat) (Z0 : n0 ≤ h0.size) (o : Addr) (mg : Addr) (hl : l.stackTraces = true) (us ss : Addr) (SU : Sta Z Z.heap "java/lang/Throwable" "UNASSIGNED_STACK" "[Ljava/lang/StackTraceElement;" (.ref us)) (SS : Sta Z Z.heap "java/lang/Throwable" "SUPPRESSED_SENTINEL" "Ljava/util/List;" (.ref ss)) (od : Old Z n0 h0) (E_o : Exa Z h0 o "com/example/pollster/pollster/recipient/TransmitterException") (U_o : Unt h0 o) (F_b : Fld Z h0 o "java/lang/Throwable" "backtrace" "Ljava/lang/Object;" .null) (F_c : Fld Z h0 o "java/lang/Throwable" "cause" "Ljava/lang/Throwable;" .null) (F_t : Fld Z h0 o "java/lang/Throwable" "stackTrace" "[Ljava/lang/StackTraceElement;" .null) (F_u : Fld Z h0 o "java/lang/Throwable" "suppressedExceptions" "Ljava/util/List;" .null) (F_m : Fld Z h0 o "java/lang/Throwable" "detailMessage" "Ljava/lang/String;" .null) (F_s : Fld Z h0 o "com/example/pollster/pollster/recipient/TransmitterException" "status" "I" (.int (0 : Int32))) (g_o : n0 ≤ o) :
    MetK l Z [] (⟨"java/lang/Throwable", "<init>", "(Ljava/lang/String;)V"⟩ : MethodName) jdk_78_method_2_code 2 none ({ frames := 3, cells := 1, slots := 2752, locals := 42 } : Room) #[(.ref o), (.ref mg)] h0 n0 (fun v h => v = none ∧ Keep h0 h [o] ∧ Exa Z h o "com/example/pollster/pollster/recipient/TransmitterException" ∧ Fld Z h o "com/example/pollster/pollster/recipient/TransmitterException" "status" "I" (.int (0 : Int32))) := by
  refine MetK.of (plainFor_of_name pn_java_lang_Throwable) ?_
  intro p e s m below meth c F hsh hTK hBl K
  have hfw : ∀ d ∈ fillW "com/example/pollster/pollster/recipient/TransmitterException", d.before a0 Z = true := fun d hd => hw d ((by decide +kernel : ∀ d ∈ fillW "com/example/pollster/pollster/recipient/TransmitterException", d ∈ tables_1) d hd)
  have th0 : ThS Z s.heap := by rw [hsh]; exact own_ths od
  refine Go.cast (ef_m_th1 m o mg) ?_
  have kc0 := Keep.refl h0 [o]
  refine Go.aloadN K d_jdk_78_method_2_0 rfl rfl (pc' := 1) rfl ?_
  refine Go.initO K (hw _ (List.mem_of_getElem? (i := 47) rfl)) (hw _ (List.mem_of_getElem? (i := 12) rfl)) (hw _ (List.mem_of_getElem? (i := 13) rfl)) rfl (by decide) 0 (Nat.le_of_ble_eq_true rfl) (by decide) d_jdk_78_method_2_1 (pc' := 4) rfl ?_
  refine Go.aloadN K d_jdk_78_method_2_4 rfl rfl (pc' := 5) rfl ?_
  refine Go.aloadN K d_jdk_78_method_2_5 rfl rfl (pc' := 6) rfl ?_
  refine Go.putF K (host := "") (Or.inl (hw _ (List.mem_of_getElem? (i := 48) rfl))) Via.refl F_c E_o (Or.inl (hw _ (List.mem_of_getElem? (i := 49) rfl))) (hw _ (List.mem_of_getElem? (i := 31) rfl)) (ty := (.object "java/lang/Throwable")) (by decide) rfl rfl g_o d_jdk_78_method_2_6 (pc' := 9) rfl ?_
  intro h1 W2 f3
  have f4 := F_b.other W2 (Or.inr (slot_ne (Or.inl (hw _ (List.mem_of_getElem? (i := 80) rfl))) (Or.inl (hw _ (List.mem_of_getElem? (i := 49) rfl))) (by decide) (t := (.object "java/lang/Object")) (t' := (.object "java/lang/Throwable")) (by decide) (by decide)))
  have f5 := F_t.other W2 (Or.inr (slot_ne (Or.inl (hw _ (List.mem_of_getElem? (i := 52) rfl))) (Or.inl (hw _ (List.mem_of_getElem? (i := 49) rfl))) (by decide) (t := (.array (.object "java/lang/StackTraceElement"))) (t' := (.object "java/lang/Throwable")) (by decide) (by decide)))
  have f6 := F_u.other W2 (Or.inr (slot_ne (Or.inl (hw _ (List.mem_of_getElem? (i := 55) rfl))) (Or.inl (hw _ (List.mem_of_getElem? (i := 49) rfl))) (by decide) (t := (.object "java/util/List")) (t' := (.object "java/lang/Throwable")) (by decide) (by decide)))
  have f7 := F_m.other W2 (Or.inr (slot_ne (Or.inl (hw _ (List.mem_of_getElem? (i := 79) rfl))) (Or.inl (hw _ (List.mem_of_getElem? (i := 49) rfl))) (by decide) (t := (.object "java/lang/String")) (t' := (.object "java/lang/Throwable")) (by decide) (by decide)))
  have f8 := F_s.other W2 (Or.inr (slot_ne (Or.inr (hw _ (List.mem_of_getElem? (i := 85) rfl))) (Or.inl (hw _ (List.mem_of_getElem? (i := 49) rfl))) (by decide) (t := .int) (t' := (.object "java/lang/Throwable")) (by decide) (by decide)))
  have U9 := Unt.wr W2 U_o
  have K10 := Keep.of_wr W2
  have f11 := E_o.keep K10
  have od19 := od.keep K10 (allS g_o all0)
  have z20 := Nat.le_trans Z0 K10.1
  have kc21 := kc0.trans K10 (allS (Or.inl (List.mem_of_getElem? (i := 0) rfl)) all0)
  refine Go.aloadN K d_jdk_78_method_2_9 rfl rfl (pc' := 10) rfl ?_
  refine Go.getS K (host := "") (Or.inl (hw _ (List.mem_of_getElem? (i := 50) rfl))) Via.refl (SU.ext od19.2) d_jdk_78_method_2_10 (pc' := 13) rfl ?_
  refine Go.putF K (host := "") (Or.inl (hw _ (List.mem_of_getElem? (i := 51) rfl))) Via.refl f5 f11 (Or.inl (hw _ (List.mem_of_getElem? (i := 52) rfl))) (hw _ (List.mem_of_getElem? (i := 31) rfl)) (ty := (.array (.object "java/lang/StackTraceElement"))) (by decide) rfl rfl g_o d_jdk_78_method_2_13 (pc' := 16) rfl ?_
  intro h22 W23 f24
  have f25 := f4.other W23 (Or.inr (slot_ne (Or.inl (hw _ (List.mem_of_getElem? (i := 80) rfl))) (Or.inl (hw _ (List.mem_of_getElem? (i := 52) rfl))) (by decide) (t := (.object "java/lang/Object")) (t' := (.array (.object "java/lang/StackTraceElement"))) (by decide) (by decide)))
  have f26 := f6.other W23 (Or.inr (slot_ne (Or.inl (hw _ (List.mem_of_getElem? (i := 55) rfl))) (Or.inl (hw _ (List.mem_of_getElem? (i := 52) rfl))) (by decide) (t := (.object "java/util/List")) (t' := (.array (.object "java/lang/StackTraceElement"))) (by decide) (by decide)))
  have f27 := f7.other W23 (Or.inr (slot_ne (Or.inl (hw _ (List.mem_of_getElem? (i := 79) rfl))) (Or.inl (hw _ (List.mem_of_getElem? (i := 52) rfl))) (by decide) (t := (.object "java/lang/String")) (t' := (.array (.object "java/lang/StackTraceElement"))) (by decide) (by decide)))
  have f28 := f8.other W23 (Or.inr (slot_ne (Or.inr (hw _ (List.mem_of_getElem? (i := 85) rfl))) (Or.inl (hw _ (List.mem_of_getElem? (i := 52) rfl))) (by decide) (t := .int) (t' := (.array (.object "java/lang/StackTraceElement"))) (by decide) (by decide)))
  have f29 := f3.other W23 (Or.inr (slot_ne (Or.inl (hw _ (List.mem_of_getElem? (i := 49) rfl))) (Or.inl (hw _ (List.mem_of_getElem? (i := 52) rfl))) (by decide) (t := (.object "java/lang/Throwable")) (t' := (.array (.object "java/lang/StackTraceElement"))) (by decide) (by decide)))
  have U30 := Unt.wr W23 U9
  have K31 := Keep.of_wr W23
  have f32 := f11.keep K31
  have od40 := od19.keep K31 (allS g_o all0)
  have z41 := Nat.le_trans z20 K31.1
  have kc42 := kc21.trans K31 (allS (Or.inl (List.mem_of_getElem? (i := 0) rfl)) all0)
  refine Go.aloadN K d_jdk_78_method_2_16 rfl rfl (pc' := 17) rfl ?_
  refine Go.getS K (host := "") (Or.inl (hw _ (List.mem_of_getElem? (i := 53) rfl))) Via.refl (SS.ext od40.2) d_jdk_78_method_2_17 (pc' := 20) rfl ?_
  refine Go.putF K (host := "") (Or.inl (hw _ (List.mem_of_getElem? (i := 54) rfl))) Via.refl f26 f32 (Or.inl (hw _ (List.mem_of_getElem? (i := 55) rfl))) (hw _ (List.mem_of_getElem? (i := 31) rfl)) (ty := (.object "java/util/List")) (by decide) rfl rfl g_o d_jdk_78_method_2_20 (pc' := 23) rfl ?_
  intro h43 W44 f45
  have f46 := f25.other W44 (Or.inr (slot_ne (Or.inl (hw _ (List.mem_of_getElem? (i := 80) rfl))) (Or.inl (hw _ (List.mem_of_getElem? (i := 55) rfl))) (by decide) (t := (.object "java/lang/Object")) (t' := (.object "java/util/List")) (by decide) (by decide)))
  have f47 := f27.other W44 (Or.inr (slot_ne (Or.inl (hw _ (List.mem_of_getElem? (i := 79) rfl))) (Or.inl (hw _ (List.mem_of_getElem? (i := 55) rfl))) (by decide) (t := (.object "java/lang/String")) (t' := (.object "java/util/List")) (by decide) (by decide)))
  have f48 := f28.other W44 (Or.inr (slot_ne (Or.inr (hw _ (List.mem_of_getElem? (i := 85) rfl))) (Or.inl (hw _ (List.mem_of_getElem? (i := 55) rfl))) (by decide) (t := .int) (t' := (.object "java/util/List")) (by decide) (by decide)))
  have f49 := f29.other W44 (Or.inr (slot_ne (Or.inl (hw _ (List.mem_of_getElem? (i := 49) rfl))) (Or.inl (hw _ (List.mem_of_getElem? (i := 55) rfl))) (by decide) (t := (.object "java/lang/Throwable")) (t' := (.object "java/util/List")) (by decide) (by decide)))
  have f50 := f24.other W44 (Or.inr (slot_ne (Or.inl (hw _ (List.mem_of_getElem? (i := 52) rfl))) (Or.inl (hw _ (List.mem_of_getElem? (i := 55) rfl))) (by decide) (t := (.array (.object "java/lang/StackTraceElement"))) (t' := (.object "java/util/List")) (by decide) (by decide)))
  have U51 := Unt.wr W44 U30
  have K52 := Keep.of_wr W44
  have f53 := f32.keep K52
  have od61 := od40.keep K52 (allS g_o all0)
  have z62 := Nat.le_trans z41 K52.1
  have kc63 := kc42.trans K52 (allS (Or.inl (List.mem_of_getElem? (i := 0) rfl)) all0)
  refine Go.aloadN K d_jdk_78_method_2_23 rfl rfl (pc' := 24) rfl ?_
  refine Go.fill K hl (rc := "com/example/pollster/pollster/recipient/TransmitterException") (u := us) hfw (hw _ (List.mem_of_getElem? (i := 31) rfl)) th0 od61 hTK hBl f53 U51 f46 f50 SU g_o rfl (by decide) 0 (Nat.le_of_ble_eq_true rfl) (by decide) (by decide) (by decide) d_jdk_78_method_2_24 (pc' := 27) rfl ?_
  intro h64 h65 h66 h67 _ _ E68 W69 W70 W71
  have f80 := f53.ext E68
  have f81 := f46.ext E68
  have f82 := f47.ext E68
  have f83 := f48.ext E68
  have f84 := f49.ext E68
  have f85 := f50.ext E68
  have f86 := U51.ext E68
  have f87 := f45.ext E68
  have od88 := od61.ext E68
  have z89 := Nat.le_trans z62 E68.1
  have kc90 := kc63.ext E68
  have f91 := f82.other W69 (Or.inr (slot_ne (Or.inl (hw _ (List.mem_of_getElem? (i := 79) rfl))) (Or.inl (hw _ (List.mem_of_getElem? (i := 80) rfl))) (by decide) (t := (.object "java/lang/String")) (t' := (.object "java/lang/Object")) (by decide) (by decide)))
  have f92 := f83.other W69 (Or.inr (slot_ne (Or.inr (hw _ (List.mem_of_getElem? (i := 85) rfl))) (Or.inl (hw _ (List.mem_of_getElem? (i := 80) rfl))) (by decide) (t := .int) (t' := (.object "java/lang/Object")) (by decide) (by decide)))
  have f93 := f84.other W69 (Or.inr (slot_ne (Or.inl (hw _ (List.mem_of_getElem? (i := 49) rfl))) (Or.inl (hw _ (List.mem_of_getElem? (i := 80) rfl))) (by decide) (t := (.object "java/lang/Throwable")) (t' := (.object "java/lang/Object")) (by decide) (by decide)))
  have f94 := f85.other W69 (Or.inr (slot_ne (Or.inl (hw _ (List.mem_of_getElem? (i := 52) rfl))) (Or.inl (hw _ (List.mem_of_getElem? (i := 80) rfl))) (by decide) (t := (.array (.object "java/lang/StackTraceElement"))) (t' := (.object "java/lang/Object")) (by decide) (by decide)))
  have f95 := f87.other W69 (Or.inr (slot_ne (Or.inl (hw _ (List.mem_of_getElem? (i := 55) rfl))) (Or.inl (hw _ (List.mem_of_getElem? (i := 80) rfl))) (by decide) (t := (.object "java/util/List")) (t' := (.object "java/lang/Object")) (by decide) (by decide)))
  have U96 := Unt.wr W69 f86
  have K97 := Keep.of_wr W69
  have f98 := f80.keep K97
  have od106 := od88.keep K97 (allS g_o all0)
  have z107 := Nat.le_trans z89 K97.1
  have kc108 := kc90.trans K97 (allS (Or.inl (List.mem_of_getElem? (i := 0) rfl)) all0)
  have f109 := f91.other W70 (Or.inr (slot_ne (Or.inl (hw _ (List.mem_of_getElem? (i := 79) rfl))) (Or.inl (hw _ (List.mem_of_getElem? (i := 81) rfl))) (by decide) (t := (.object "java/lang/String")) (t' := .int) (by decide) (by decide)))
  have f110 := f92.other W70 (Or.inr (slot_ne (Or.inr (hw _ (List.mem_of_getElem? (i := 85) rfl))) (Or.inl (hw _ (List.mem_of_getElem? (i := 81) rfl))) (by decide) (t := .int) (t' := .int) (by decide) (by decide)))
  have f111 := f93.other W70 (Or.inr (slot_ne (Or.inl (hw _ (List.mem_of_getElem? (i := 49) rfl))) (Or.inl (hw _ (List.mem_of_getElem? (i := 81) rfl))) (by decide) (t := (.object "java/lang/Throwable")) (t' := .int) (by decide) (by decide)))
  have f112 := f94.other W70 (Or.inr (slot_ne (Or.inl (hw _ (List.mem_of_getElem? (i := 52) rfl))) (Or.inl (hw _ (List.mem_of_getElem? (i := 81) rfl))) (by decide) (t := (.array (.object "java/lang/StackTraceElement"))) (t' := .int) (by decide) (by decide)))
  have f113 := f95.other W70 (Or.inr (slot_ne (Or.inl (hw _ (List.mem_of_getElem? (i := 55) rfl))) (Or.inl (hw _ (List.mem_of_getElem? (i := 81) rfl))) (by decide) (t := (.object "java/util/List")) (t' := .int) (by decide) (by decide)))
  have U114 := Unt.wr W70 U96
  have K115 := Keep.of_wr W70
  have f116 := f98.keep K115
  have od123 := od106.keep K115 (allS g_o all0)
  have z124 := Nat.le_trans z107 K115.1
  have kc125 := kc108.trans K115 (allS (Or.inl (List.mem_of_getElem? (i := 0) rfl)) all0)
  have f126 := f109.other W71 (Or.inr (slot_ne (Or.inl (hw _ (List.mem_of_getElem? (i := 79) rfl))) (Or.inl (hw _ (List.mem_of_getElem? (i := 52) rfl))) (by decide) (t := (.object "java/lang/String")) (t' := (.array (.object "java/lang/StackTraceElement"))) (by decide) (by decide)))
  have f127 := f110.other W71 (Or.inr (slot_ne (Or.inr (hw _ (List.mem_of_getElem? (i := 85) rfl))) (Or.inl (hw _ (List.mem_of_getElem? (i := 52) rfl))) (by decide) (t := .int) (t' := (.array (.object "java/lang/StackTraceElement"))) (by decide) (by decide)))
  have f128 := f111.other W71 (Or.inr (slot_ne (Or.inl (hw _ (List.mem_of_getElem? (i := 49) rfl))) (Or.inl (hw _ (List.mem_of_getElem? (i := 52) rfl))) (by decide) (t := (.object "java/lang/Throwable")) (t' := (.array (.object "java/lang/StackTraceElement"))) (by decide) (by decide)))
  have f129 := f113.other W71 (Or.inr (slot_ne (Or.inl (hw _ (List.mem_of_getElem? (i := 55) rfl))) (Or.inl (hw _ (List.mem_of_getElem? (i := 52) rfl))) (by decide) (t := (.object "java/util/List")) (t' := (.array (.object "java/lang/StackTraceElement"))) (by decide) (by decide)))
  have U130 := Unt.wr W71 U114
  have K131 := Keep.of_wr W71
  have f132 := f116.keep K131
  have od139 := od123.keep K131 (allS g_o all0)
  have z140 := Nat.le_trans z124 K131.1
  have kc141 := kc125.trans K131 (allS (Or.inl (List.mem_of_getElem? (i := 0) rfl)) all0)
  refine Go.pop K d_jdk_78_method_2_27 rfl (pc' := 28) rfl ?_
  refine Go.aloadN K d_jdk_78_method_2_28 rfl rfl (pc' := 29) rfl ?_
  refine Go.aloadN K d_jdk_78_method_2_29 rfl rfl (pc' := 30) rfl ?_
  refine Go.putF K (host := "") (Or.inl (hw _ (List.mem_of_getElem? (i := 83) rfl))) Via.refl f126 f132 (Or.inl (hw _ (List.mem_of_getElem? (i := 79) rfl))) (hw _ (List.mem_of_getElem? (i := 31) rfl)) (ty := (.object "java/lang/String")) (by decide) rfl rfl g_o d_jdk_78_method_2_30 (pc' := 33) rfl ?_
  intro h142 W143 f144
  have f145 := f127.other W143 (Or.inr (slot_ne (Or.inr (hw _ (List.mem_of_getElem? (i := 85) rfl))) (Or.inl (hw _ (List.mem_of_getElem? (i := 79) rfl))) (by decide) (t := .int) (t' := (.object "java/lang/String")) (by decide) (by decide)))
  have f146 := f128.other W143 (Or.inr (slot_ne (Or.inl (hw _ (List.mem_of_getElem? (i := 49) rfl))) (Or.inl (hw _ (List.mem_of_getElem? (i := 79) rfl))) (by decide) (t := (.object "java/lang/Throwable")) (t' := (.object "java/lang/String")) (by decide) (by decide)))
  have f147 := f129.other W143 (Or.inr (slot_ne (Or.inl (hw _ (List.mem_of_getElem? (i := 55) rfl))) (Or.inl (hw _ (List.mem_of_getElem? (i := 79) rfl))) (by decide) (t := (.object "java/util/List")) (t' := (.object "java/lang/String")) (by decide) (by decide)))
  have U148 := Unt.wr W143 U130
  have K149 := Keep.of_wr W143
  have f150 := f132.keep K149
  have od156 := od139.keep K149 (allS g_o all0)
  have z157 := Nat.le_trans z140 K149.1
  have kc158 := kc141.trans K149 (allS (Or.inl (List.mem_of_getElem? (i := 0) rfl)) all0)
  exact Go.retV K (by decide) (by decide) d_jdk_78_method_2_33 (fun _ _ _ _ => ⟨rfl, kc158, f150, f145⟩)
theorem ef_m_th2 (m : MethodId) (o : Addr) (mg : Addr) (cz : Addr) : entryFrame m #[(.ref o), (.ref mg), (.ref cz)] 3 = mkF m 0 #[.val (.ref o), .val (.ref mg), .val (.ref cz)] [] := by first | (simp [entryFrame, mkF, argsToLocals, Value.category]; done) | rfl
theorem d_jdk_78_method_3_0 : decode jdk_78_method_3_code 0 = .ok (.aload_n 0, 1) := by decide +kernel
theorem d_jdk_78_method_3_1 : decode jdk_78_method_3_code 1 = .ok (.invokespecial 1, 3) := by decide +kernel
theorem d_jdk_78_method_3_4 : decode jdk_78_method_3_code 4 = .ok (.aload_n 0, 1) := by decide +kernel
theorem d_jdk_78_method_3_5 : decode jdk_78_method_3_code 5 = .ok (.aload_n 0, 1) := by decide +kernel
theorem d_jdk_78_method_3_6 : decode jdk_78_method_3_code 6 = .ok (.putfield 7, 3) := by decide +kernel
theorem d_jdk_78_method_3_9 : decode jdk_78_method_3_code 9 = .ok (.aload_n 0, 1) := by decide +kernel
theorem d_jdk_78_method_3_10 : decode jdk_78_method_3_code 10 = .ok (.getstatic 13, 3) := by decide +kernel
theorem d_jdk_78_method_3_13 : decode jdk_78_method_3_code 13 = .ok (.putfield 17, 3) := by decide +kernel
theorem d_jdk_78_method_3_16 : decode jdk_78_method_3_code 16 = .ok (.aload_n 0, 1) := by decide +kernel
theorem d_jdk_78_method_3_17 : decode jdk_78_method_3_code 17 = .ok (.getstatic 20, 3) := by decide +kernel
theorem d_jdk_78_method_3_20 : decode jdk_78_method_3_code 20 = .ok (.putfield 24, 3) := by decide +kernel
theorem d_jdk_78_method_3_23 : decode jdk_78_method_3_code 23 = .ok (.aload_n 0, 1) := by decide +kernel
theorem d_jdk_78_method_3_24 : decode jdk_78_method_3_code 24 = .ok (.invokevirtual 27, 3) := by decide +kernel
theorem d_jdk_78_method_3_27 : decode jdk_78_method_3_code 27 = .ok (.pop, 1) := by decide +kernel
theorem d_jdk_78_method_3_28 : decode jdk_78_method_3_code 28 = .ok (.aload_n 0, 1) := by decide +kernel
theorem d_jdk_78_method_3_29 : decode jdk_78_method_3_code 29 = .ok (.aload_n 1, 1) := by decide +kernel
theorem d_jdk_78_method_3_30 : decode jdk_78_method_3_code 30 = .ok (.putfield 31, 3) := by decide +kernel
theorem d_jdk_78_method_3_33 : decode jdk_78_method_3_code 33 = .ok (.aload_n 0, 1) := by decide +kernel
theorem d_jdk_78_method_3_34 : decode jdk_78_method_3_code 34 = .ok (.aload_n 2, 1) := by decide +kernel
theorem d_jdk_78_method_3_35 : decode jdk_78_method_3_code 35 = .ok (.putfield 7, 3) := by decide +kernel
theorem d_jdk_78_method_3_38 : decode jdk_78_method_3_code 38 = .ok (.return_, 1) := by decide +kernel
set_option maxRecDepth 65536 in
set_option maxHeartbeats 40000000 in
theorem m_th2 (l : Launch) (Z : State) (a0 : Array Value) (hw : ∀ d ∈ tables_1, d.before a0 Z = true) (h0 : Heap) (n0 : Nat) (Z0 : n0 ≤ h0.size) (o : Addr) (mg : Addr) (cz : Addr) (hl : l.stackTraces = true) (us ss : Addr) (SU : Sta Z Z.heap "java/lang/Throwable" "UNASSIGNED_STACK" "[Ljava/lang/StackTraceElement;" (.ref us)) (SS : Sta Z Z.heap "java/lang/Throwable" "SUPPRESSED_SENTINEL" "Ljava/util/List;" (.ref ss)) (od : Old Z n0 h0) (E_o : Exa Z h0 o "com/example/pollster/pollster/recipient/TransmitterException") (U_o : Unt h0 o) (F_b : Fld Z h0 o "java/lang/Throwable" "backtrace" "Ljava/lang/Object;" .null) (F_c : Fld Z h0 o "java/lang/Throwable" "cause" "Ljava/lang/Throwable;" .null) (F_t : Fld Z h0 o "java/lang/Throwable" "stackTrace" "[Ljava/lang/StackTraceElement;" .null) (F_u : Fld Z h0 o "java/lang/Throwable" "suppressedExceptions" "Ljava/util/List;" .null) (F_m : Fld Z h0 o "java/lang/Throwable" "detailMessage" "Ljava/lang/String;" .null) (F_s : Fld Z h0 o "com/example/pollster/pollster/recipient/TransmitterException" "status" "I" (.int (0 : Int32))) (g_o : n0 ≤ o) :
    MetK l Z [] (⟨"java/lang/Throwable", "<init>", "(Ljava/lang/String;Ljava/lang/Throwable;)V"⟩ : MethodName) jdk_78_method_3_code 3 none ({ frames := 3, cells := 1, slots := 2752, locals := 42 } : Room) #[(.ref o), (.ref mg), (.ref cz)] h0 n0 (fun v h => v = none ∧ Keep h0 h [o] ∧ Exa Z h o "com/example/pollster/pollster/recipient/TransmitterException" ∧ Fld Z h o "com/example/pollster/pollster/recipient/TransmitterException" "status" "I" (.int (0 : Int32))) := by
  refine MetK.of (plainFor_of_name pn_java_lang_Throwable) ?_
  intro p e s m below meth c F hsh hTK hBl K
  have hfw : ∀ d ∈ fillW "com/example/pollster/pollster/recipient/TransmitterException", d.before a0 Z = true := fun d hd => hw d ((by decide +kernel : ∀ d ∈ fillW "com/example/pollster/pollster/recipient/TransmitterException", d ∈ tables_1) d hd)
  have th0 : ThS Z s.heap := by rw [hsh]; exact own_ths od
  refine Go.cast (ef_m_th2 m o mg cz) ?_
  have kc0 := Keep.refl h0 [o]
  refine Go.aloadN K d_jdk_78_method_3_0 rfl rfl (pc' := 1) rfl ?_
  refine Go.initO K (hw _ (List.mem_of_getElem? (i := 47) rfl)) (hw _ (List.mem_of_getElem? (i := 12) rfl)) (hw _ (List.mem_of_getElem? (i := 13) rfl)) rfl (by decide) 0 (Nat.le_of_ble_eq_true rfl) (by decide) d_jdk_78_method_3_1 (pc' := 4) rfl ?_
  refine Go.aloadN K d_jdk_78_method_3_4 rfl rfl (pc' := 5) rfl ?_
  refine Go.aloadN K d_jdk_78_method_3_5 rfl rfl (pc' := 6) rfl ?_
  refine Go.putF K (host := "") (Or.inl (hw _ (List.mem_of_getElem? (i := 48) rfl))) Via.refl F_c E_o (Or.inl (hw _ (List.mem_of_getElem? (i := 49) rfl))) (hw _ (List.mem_of_getElem? (i := 31) rfl)) (ty := (.object "java/lang/Throwable")) (by decide) rfl rfl g_o d_jdk_78_method_3_6 (pc' := 9) rfl ?_
  intro h159 W160 f161
  have f162 := F_b.other W160 (Or.inr (slot_ne (Or.inl (hw _ (List.mem_of_getElem? (i := 80) rfl))) (Or.inl (hw _ (List.mem_of_getElem? (i := 49) rfl))) (by decide) (t := (.object "java/lang/Object")) (t' := (.object "java/lang/Throwable")) (by decide) (by decide)))
  have f163 := F_t.other W160 (Or.inr (slot_ne (Or.inl (hw _ (List.mem_of_getElem? (i := 52) rfl))) (Or.inl (hw _ (List.mem_of_getElem? (i := 49) rfl))) (by decide) (t := (.array (.object "java/lang/StackTraceElement"))) (t' := (.object "java/lang/Throwable")) (by decide) (by decide)))
  have f164 := F_u.other W160 (Or.inr (slot_ne (Or.inl (hw _ (List.mem_of_getElem? (i := 55) rfl))) (Or.inl (hw _ (List.mem_of_getElem? (i := 49) rfl))) (by decide) (t := (.object "java/util/List")) (t' := (.object "java/lang/Throwable")) (by decide) (by decide)))
  have f165 := F_m.other W160 (Or.inr (slot_ne (Or.inl (hw _ (List.mem_of_getElem? (i := 79) rfl))) (Or.inl (hw _ (List.mem_of_getElem? (i := 49) rfl))) (by decide) (t := (.object "java/lang/String")) (t' := (.object "java/lang/Throwable")) (by decide) (by decide)))
  have f166 := F_s.other W160 (Or.inr (slot_ne (Or.inr (hw _ (List.mem_of_getElem? (i := 85) rfl))) (Or.inl (hw _ (List.mem_of_getElem? (i := 49) rfl))) (by decide) (t := .int) (t' := (.object "java/lang/Throwable")) (by decide) (by decide)))
  have U167 := Unt.wr W160 U_o
  have K168 := Keep.of_wr W160
  have f169 := E_o.keep K168
  have od177 := od.keep K168 (allS g_o all0)
  have z178 := Nat.le_trans Z0 K168.1
  have kc179 := kc0.trans K168 (allS (Or.inl (List.mem_of_getElem? (i := 0) rfl)) all0)
  refine Go.aloadN K d_jdk_78_method_3_9 rfl rfl (pc' := 10) rfl ?_
  refine Go.getS K (host := "") (Or.inl (hw _ (List.mem_of_getElem? (i := 50) rfl))) Via.refl (SU.ext od177.2) d_jdk_78_method_3_10 (pc' := 13) rfl ?_
  refine Go.putF K (host := "") (Or.inl (hw _ (List.mem_of_getElem? (i := 51) rfl))) Via.refl f163 f169 (Or.inl (hw _ (List.mem_of_getElem? (i := 52) rfl))) (hw _ (List.mem_of_getElem? (i := 31) rfl)) (ty := (.array (.object "java/lang/StackTraceElement"))) (by decide) rfl rfl g_o d_jdk_78_method_3_13 (pc' := 16) rfl ?_
  intro h180 W181 f182
  have f183 := f162.other W181 (Or.inr (slot_ne (Or.inl (hw _ (List.mem_of_getElem? (i := 80) rfl))) (Or.inl (hw _ (List.mem_of_getElem? (i := 52) rfl))) (by decide) (t := (.object "java/lang/Object")) (t' := (.array (.object "java/lang/StackTraceElement"))) (by decide) (by decide)))
  have f184 := f164.other W181 (Or.inr (slot_ne (Or.inl (hw _ (List.mem_of_getElem? (i := 55) rfl))) (Or.inl (hw _ (List.mem_of_getElem? (i := 52) rfl))) (by decide) (t := (.object "java/util/List")) (t' := (.array (.object "java/lang/StackTraceElement"))) (by decide) (by decide)))
  have f185 := f165.other W181 (Or.inr (slot_ne (Or.inl (hw _ (List.mem_of_getElem? (i := 79) rfl))) (Or.inl (hw _ (List.mem_of_getElem? (i := 52) rfl))) (by decide) (t := (.object "java/lang/String")) (t' := (.array (.object "java/lang/StackTraceElement"))) (by decide) (by decide)))
  have f186 := f166.other W181 (Or.inr (slot_ne (Or.inr (hw _ (List.mem_of_getElem? (i := 85) rfl))) (Or.inl (hw _ (List.mem_of_getElem? (i := 52) rfl))) (by decide) (t := .int) (t' := (.array (.object "java/lang/StackTraceElement"))) (by decide) (by decide)))
  have f187 := f161.other W181 (Or.inr (slot_ne (Or.inl (hw _ (List.mem_of_getElem? (i := 49) rfl))) (Or.inl (hw _ (List.mem_of_getElem? (i := 52) rfl))) (by decide) (t := (.object "java/lang/Throwable")) (t' := (.array (.object "java/lang/StackTraceElement"))) (by decide) (by decide)))
  have U188 := Unt.wr W181 U167
  have K189 := Keep.of_wr W181
  have f190 := f169.keep K189
  have od198 := od177.keep K189 (allS g_o all0)
  have z199 := Nat.le_trans z178 K189.1
  have kc200 := kc179.trans K189 (allS (Or.inl (List.mem_of_getElem? (i := 0) rfl)) all0)
  refine Go.aloadN K d_jdk_78_method_3_16 rfl rfl (pc' := 17) rfl ?_
  refine Go.getS K (host := "") (Or.inl (hw _ (List.mem_of_getElem? (i := 53) rfl))) Via.refl (SS.ext od198.2) d_jdk_78_method_3_17 (pc' := 20) rfl ?_
  refine Go.putF K (host := "") (Or.inl (hw _ (List.mem_of_getElem? (i := 54) rfl))) Via.refl f184 f190 (Or.inl (hw _ (List.mem_of_getElem? (i := 55) rfl))) (hw _ (List.mem_of_getElem? (i := 31) rfl)) (ty := (.object "java/util/List")) (by decide) rfl rfl g_o d_jdk_78_method_3_20 (pc' := 23) rfl ?_
  intro h201 W202 f203
  have f204 := f183.other W202 (Or.inr (slot_ne (Or.inl (hw _ (List.mem_of_getElem? (i := 80) rfl))) (Or.inl (hw _ (List.mem_of_getElem? (i := 55) rfl))) (by decide) (t := (.object "java/lang/Object")) (t' := (.object "java/util/List")) (by decide) (by decide)))
  have f205 := f185.other W202 (Or.inr (slot_ne (Or.inl (hw _ (List.mem_of_getElem? (i := 79) rfl))) (Or.inl (hw _ (List.mem_of_getElem? (i := 55) rfl))) (by decide) (t := (.object "java/lang/String")) (t' := (.object "java/util/List")) (by decide) (by decide)))
  have f206 := f186.other W202 (Or.inr (slot_ne (Or.inr (hw _ (List.mem_of_getElem? (i := 85) rfl))) (Or.inl (hw _ (List.mem_of_getElem? (i := 55) rfl))) (by decide) (t := .int) (t' := (.object "java/util/List")) (by decide) (by decide)))
  have f207 := f187.other W202 (Or.inr (slot_ne (Or.inl (hw _ (List.mem_of_getElem? (i := 49) rfl))) (Or.inl (hw _ (List.mem_of_getElem? (i := 55) rfl))) (by decide) (t := (.object "java/lang/Throwable")) (t' := (.object "java/util/List")) (by decide) (by decide)))
  have f208 := f182.other W202 (Or.inr (slot_ne (Or.inl (hw _ (List.mem_of_getElem? (i := 52) rfl))) (Or.inl (hw _ (List.mem_of_getElem? (i := 55) rfl))) (by decide) (t := (.array (.object "java/lang/StackTraceElement"))) (t' := (.object "java/util/List")) (by decide) (by decide)))
  have U209 := Unt.wr W202 U188
  have K210 := Keep.of_wr W202
  have f211 := f190.keep K210
  have od219 := od198.keep K210 (allS g_o all0)
  have z220 := Nat.le_trans z199 K210.1
  have kc221 := kc200.trans K210 (allS (Or.inl (List.mem_of_getElem? (i := 0) rfl)) all0)
  refine Go.aloadN K d_jdk_78_method_3_23 rfl rfl (pc' := 24) rfl ?_
  refine Go.fill K hl (rc := "com/example/pollster/pollster/recipient/TransmitterException") (u := us) hfw (hw _ (List.mem_of_getElem? (i := 31) rfl)) th0 od219 hTK hBl f211 U209 f204 f208 SU g_o rfl (by decide) 0 (Nat.le_of_ble_eq_true rfl) (by decide) (by decide) (by decide) d_jdk_78_method_3_24 (pc' := 27) rfl ?_
  intro h222 h223 h224 h225 _ _ E226 W227 W228 W229
  have f238 := f211.ext E226
  have f239 := f204.ext E226
  have f240 := f205.ext E226
  have f241 := f206.ext E226
  have f242 := f207.ext E226
  have f243 := f208.ext E226
  have f244 := U209.ext E226
  have f245 := f203.ext E226
  have od246 := od219.ext E226
  have z247 := Nat.le_trans z220 E226.1
  have kc248 := kc221.ext E226
  have f249 := f240.other W227 (Or.inr (slot_ne (Or.inl (hw _ (List.mem_of_getElem? (i := 79) rfl))) (Or.inl (hw _ (List.mem_of_getElem? (i := 80) rfl))) (by decide) (t := (.object "java/lang/String")) (t' := (.object "java/lang/Object")) (by decide) (by decide)))
  have f250 := f241.other W227 (Or.inr (slot_ne (Or.inr (hw _ (List.mem_of_getElem? (i := 85) rfl))) (Or.inl (hw _ (List.mem_of_getElem? (i := 80) rfl))) (by decide) (t := .int) (t' := (.object "java/lang/Object")) (by decide) (by decide)))
  have f251 := f242.other W227 (Or.inr (slot_ne (Or.inl (hw _ (List.mem_of_getElem? (i := 49) rfl))) (Or.inl (hw _ (List.mem_of_getElem? (i := 80) rfl))) (by decide) (t := (.object "java/lang/Throwable")) (t' := (.object "java/lang/Object")) (by decide) (by decide)))
  have f252 := f243.other W227 (Or.inr (slot_ne (Or.inl (hw _ (List.mem_of_getElem? (i := 52) rfl))) (Or.inl (hw _ (List.mem_of_getElem? (i := 80) rfl))) (by decide) (t := (.array (.object "java/lang/StackTraceElement"))) (t' := (.object "java/lang/Object")) (by decide) (by decide)))
  have f253 := f245.other W227 (Or.inr (slot_ne (Or.inl (hw _ (List.mem_of_getElem? (i := 55) rfl))) (Or.inl (hw _ (List.mem_of_getElem? (i := 80) rfl))) (by decide) (t := (.object "java/util/List")) (t' := (.object "java/lang/Object")) (by decide) (by decide)))
  have U254 := Unt.wr W227 f244
  have K255 := Keep.of_wr W227
  have f256 := f238.keep K255
  have od264 := od246.keep K255 (allS g_o all0)
  have z265 := Nat.le_trans z247 K255.1
  have kc266 := kc248.trans K255 (allS (Or.inl (List.mem_of_getElem? (i := 0) rfl)) all0)
  have f267 := f249.other W228 (Or.inr (slot_ne (Or.inl (hw _ (List.mem_of_getElem? (i := 79) rfl))) (Or.inl (hw _ (List.mem_of_getElem? (i := 81) rfl))) (by decide) (t := (.object "java/lang/String")) (t' := .int) (by decide) (by decide)))
  have f268 := f250.other W228 (Or.inr (slot_ne (Or.inr (hw _ (List.mem_of_getElem? (i := 85) rfl))) (Or.inl (hw _ (List.mem_of_getElem? (i := 81) rfl))) (by decide) (t := .int) (t' := .int) (by decide) (by decide)))
  have f269 := f251.other W228 (Or.inr (slot_ne (Or.inl (hw _ (List.mem_of_getElem? (i := 49) rfl))) (Or.inl (hw _ (List.mem_of_getElem? (i := 81) rfl))) (by decide) (t := (.object "java/lang/Throwable")) (t' := .int) (by decide) (by decide)))
  have f270 := f252.other W228 (Or.inr (slot_ne (Or.inl (hw _ (List.mem_of_getElem? (i := 52) rfl))) (Or.inl (hw _ (List.mem_of_getElem? (i := 81) rfl))) (by decide) (t := (.array (.object "java/lang/StackTraceElement"))) (t' := .int) (by decide) (by decide)))
  have f271 := f253.other W228 (Or.inr (slot_ne (Or.inl (hw _ (List.mem_of_getElem? (i := 55) rfl))) (Or.inl (hw _ (List.mem_of_getElem? (i := 81) rfl))) (by decide) (t := (.object "java/util/List")) (t' := .int) (by decide) (by decide)))
  have U272 := Unt.wr W228 U254
  have K273 := Keep.of_wr W228
  have f274 := f256.keep K273
  have od281 := od264.keep K273 (allS g_o all0)
  have z282 := Nat.le_trans z265 K273.1
  have kc283 := kc266.trans K273 (allS (Or.inl (List.mem_of_getElem? (i := 0) rfl)) all0)
  have f284 := f267.other W229 (Or.inr (slot_ne (Or.inl (hw _ (List.mem_of_getElem? (i := 79) rfl))) (Or.inl (hw _ (List.mem_of_getElem? (i := 52) rfl))) (by decide) (t := (.object "java/lang/String")) (t' := (.array (.object "java/lang/StackTraceElement"))) (by decide) (by decide)))
  have f285 := f268.other W229 (Or.inr (slot_ne (Or.inr (hw _ (List.mem_of_getElem? (i := 85) rfl))) (Or.inl (hw _ (List.mem_of_getElem? (i := 52) rfl))) (by decide) (t := .int) (t' := (.array (.object "java/lang/StackTraceElement"))) (by decide) (by decide)))
  have f286 := f269.other W229 (Or.inr (slot_ne (Or.inl (hw _ (List.mem_of_getElem? (i := 49) rfl))) (Or.inl (hw _ (List.mem_of_getElem? (i := 52) rfl))) (by decide) (t := (.object "java/lang/Throwable")) (t' := (.array (.object "java/lang/StackTraceElement"))) (by decide) (by decide)))
  have f287 := f271.other W229 (Or.inr (slot_ne (Or.inl (hw _ (List.mem_of_getElem? (i := 55) rfl))) (Or.inl (hw _ (List.mem_of_getElem? (i := 52) rfl))) (by decide) (t := (.object "java/util/List")) (t' := (.array (.object "java/lang/StackTraceElement"))) (by decide) (by decide)))
  have U288 := Unt.wr W229 U272
  have K289 := Keep.of_wr W229
  have f290 := f274.keep K289
  have od297 := od281.keep K289 (allS g_o all0)
  have z298 := Nat.le_trans z282 K289.1
  have kc299 := kc283.trans K289 (allS (Or.inl (List.mem_of_getElem? (i := 0) rfl)) all0)
  refine Go.pop K d_jdk_78_method_3_27 rfl (pc' := 28) rfl ?_
  refine Go.aloadN K d_jdk_78_method_3_28 rfl rfl (pc' := 29) rfl ?_
  refine Go.aloadN K d_jdk_78_method_3_29 rfl rfl (pc' := 30) rfl ?_
  refine Go.putF K (host := "") (Or.inl (hw _ (List.mem_of_getElem? (i := 83) rfl))) Via.refl f284 f290 (Or.inl (hw _ (List.mem_of_getElem? (i := 79) rfl))) (hw _ (List.mem_of_getElem? (i := 31) rfl)) (ty := (.object "java/lang/String")) (by decide) rfl rfl g_o d_jdk_78_method_3_30 (pc' := 33) rfl ?_
  intro h300 W301 f302
  have f303 := f285.other W301 (Or.inr (slot_ne (Or.inr (hw _ (List.mem_of_getElem? (i := 85) rfl))) (Or.inl (hw _ (List.mem_of_getElem? (i := 79) rfl))) (by decide) (t := .int) (t' := (.object "java/lang/String")) (by decide) (by decide)))
  have f304 := f286.other W301 (Or.inr (slot_ne (Or.inl (hw _ (List.mem_of_getElem? (i := 49) rfl))) (Or.inl (hw _ (List.mem_of_getElem? (i := 79) rfl))) (by decide) (t := (.object "java/lang/Throwable")) (t' := (.object "java/lang/String")) (by decide) (by decide)))
  have f305 := f287.other W301 (Or.inr (slot_ne (Or.inl (hw _ (List.mem_of_getElem? (i := 55) rfl))) (Or.inl (hw _ (List.mem_of_getElem? (i := 79) rfl))) (by decide) (t := (.object "java/util/List")) (t' := (.object "java/lang/String")) (by decide) (by decide)))
  have U306 := Unt.wr W301 U288
  have K307 := Keep.of_wr W301
  have f308 := f290.keep K307
  have od314 := od297.keep K307 (allS g_o all0)
  have z315 := Nat.le_trans z298 K307.1
  have kc316 := kc299.trans K307 (allS (Or.inl (List.mem_of_getElem? (i := 0) rfl)) all0)
  refine Go.aloadN K d_jdk_78_method_3_33 rfl rfl (pc' := 34) rfl ?_
  refine Go.aloadN K d_jdk_78_method_3_34 rfl rfl (pc' := 35) rfl ?_
  refine Go.putF K (host := "") (Or.inl (hw _ (List.mem_of_getElem? (i := 48) rfl))) Via.refl f304 f308 (Or.inl (hw _ (List.mem_of_getElem? (i := 49) rfl))) (hw _ (List.mem_of_getElem? (i := 31) rfl)) (ty := (.object "java/lang/Throwable")) (by decide) rfl rfl g_o d_jdk_78_method_3_35 (pc' := 38) rfl ?_
  intro h317 W318 f319
  have f320 := f303.other W318 (Or.inr (slot_ne (Or.inr (hw _ (List.mem_of_getElem? (i := 85) rfl))) (Or.inl (hw _ (List.mem_of_getElem? (i := 49) rfl))) (by decide) (t := .int) (t' := (.object "java/lang/Throwable")) (by decide) (by decide)))
  have f321 := f305.other W318 (Or.inr (slot_ne (Or.inl (hw _ (List.mem_of_getElem? (i := 55) rfl))) (Or.inl (hw _ (List.mem_of_getElem? (i := 49) rfl))) (by decide) (t := (.object "java/util/List")) (t' := (.object "java/lang/Throwable")) (by decide) (by decide)))
  have f322 := f302.other W318 (Or.inr (slot_ne (Or.inl (hw _ (List.mem_of_getElem? (i := 79) rfl))) (Or.inl (hw _ (List.mem_of_getElem? (i := 49) rfl))) (by decide) (t := (.object "java/lang/String")) (t' := (.object "java/lang/Throwable")) (by decide) (by decide)))
  have U323 := Unt.wr W318 U306
  have K324 := Keep.of_wr W318
  have f325 := f308.keep K324
  have od331 := od314.keep K324 (allS g_o all0)
  have z332 := Nat.le_trans z315 K324.1
  have kc333 := kc316.trans K324 (allS (Or.inl (List.mem_of_getElem? (i := 0) rfl)) all0)
  exact Go.retV K (by decide) (by decide) d_jdk_78_method_3_38 (fun _ _ _ _ => ⟨rfl, kc333, f325, f320⟩)
theorem ef_m_ex1 (m : MethodId) (o : Addr) (mg : Addr) : entryFrame m #[(.ref o), (.ref mg)] 2 = mkF m 0 #[.val (.ref o), .val (.ref mg)] [] := by first | (simp [entryFrame, mkF, argsToLocals, Value.category]; done) | rfl
theorem d_jdk_59_method_2_0 : decode jdk_59_method_2_code 0 = .ok (.aload_n 0, 1) := by decide +kernel
theorem d_jdk_59_method_2_1 : decode jdk_59_method_2_code 1 = .ok (.aload_n 1, 1) := by decide +kernel
theorem d_jdk_59_method_2_2 : decode jdk_59_method_2_code 2 = .ok (.invokespecial 7, 3) := by decide +kernel
theorem pd__28Ljava_2flang_2fString_3b_29V : parseMethodDescriptor "(Ljava/lang/String;)V" = some ⟨[(.object "java/lang/String")], none⟩ := by decide +kernel
theorem d_jdk_59_method_2_5 : decode jdk_59_method_2_code 5 = .ok (.return_, 1) := by decide +kernel
theorem pn_java_lang_Exception : plainName "java/lang/Exception" = true := by first | (simp [plainName, overriddenIn]; done) | decide +kernel
set_option maxRecDepth 65536 in
set_option maxHeartbeats 40000000 in
theorem m_ex1 (l : Launch) (Z : State) (a0 : Array Value) (hw : ∀ d ∈ tables_1, d.before a0 Z = true) (h0 : Heap) (n0 : Nat) (Z0 : n0 ≤ h0.size) (o : Addr) (mg : Addr) (hl : l.stackTraces = true) (us ss : Addr) (SU : Sta Z Z.heap "java/lang/Throwable" "UNASSIGNED_STACK" "[Ljava/lang/StackTraceElement;" (.ref us)) (SS : Sta Z Z.heap "java/lang/Throwable" "SUPPRESSED_SENTINEL" "Ljava/util/List;" (.ref ss)) (od : Old Z n0 h0) (E_o : Exa Z h0 o "com/example/pollster/pollster/recipient/TransmitterException") (U_o : Unt h0 o) (F_b : Fld Z h0 o "java/lang/Throwable" "backtrace" "Ljava/lang/Object;" .null) (F_c : Fld Z h0 o "java/lang/Throwable" "cause" "Ljava/lang/Throwable;" .null) (F_t : Fld Z h0 o "java/lang/Throwable" "stackTrace" "[Ljava/lang/StackTraceElement;" .null) (F_u : Fld Z h0 o "java/lang/Throwable" "suppressedExceptions" "Ljava/util/List;" .null) (F_m : Fld Z h0 o "java/lang/Throwable" "detailMessage" "Ljava/lang/String;" .null) (F_s : Fld Z h0 o "com/example/pollster/pollster/recipient/TransmitterException" "status" "I" (.int (0 : Int32))) (g_o : n0 ≤ o) :
    MetK l Z [] (⟨"java/lang/Exception", "<init>", "(Ljava/lang/String;)V"⟩ : MethodName) jdk_59_method_2_code 2 none ({ frames := 4, cells := 1, slots := 2752, locals := 56 } : Room) #[(.ref o), (.ref mg)] h0 n0 (fun v h => v = none ∧ Keep h0 h [o] ∧ Exa Z h o "com/example/pollster/pollster/recipient/TransmitterException" ∧ Fld Z h o "com/example/pollster/pollster/recipient/TransmitterException" "status" "I" (.int (0 : Int32))) := by
  refine MetK.of (plainFor_of_name pn_java_lang_Exception) ?_
  intro p e s m below meth c F hsh hTK hBl K
  refine Go.cast (ef_m_ex1 m o mg) ?_
  have kc0 := Keep.refl h0 [o]
  refine Go.aloadN K d_jdk_59_method_2_0 rfl rfl (pc' := 1) rfl ?_
  refine Go.aloadN K d_jdk_59_method_2_1 rfl rfl (pc' := 2) rfl ?_
  refine Go.callC K (y := (⟨"java/lang/Throwable", "<init>", "(Ljava/lang/String;)V"⟩ : MethodName)) (W := 0) (kc := 1) (nc := 2752) (a := o) rfl (mvT K.cz (hw _ (List.mem_of_getElem? (i := 41) rfl))) (mvT K.cz (hw _ (List.mem_of_getElem? (i := 42) rfl))) (mvT K.cz (hw _ (List.mem_of_getElem? (i := 46) rfl))) (by decide) ((m_th1 l Z a0 hw h0 n0 Z0 o mg hl us ss SU SS od E_o U_o F_b F_c F_t F_u F_m F_s g_o).pays (W := 0) K.cz (hw _ (List.mem_of_getElem? (i := 46) rfl)) (hw _ (List.mem_of_getElem? (i := 45) rfl)) (by decide) (by decide) hTK hBl) rfl (argsL := [(.ref mg)]) (rest := []) (lenOf pd__28Ljava_2flang_2fString_3b_29V rfl) rfl (Nat.le_of_ble_eq_true rfl) (by decide) (by decide) frOf grOf d_jdk_59_method_2_2 (pc' := 5) rfl ?_
  rintro v336 h334 Lc335 ⟨⟨⟨rfl, Kq, Eq, Fq⟩, -⟩, -⟩
  have f337 := E_o.keep Kq
  have od345 := od.keep Kq (allS g_o all0)
  have z346 := Nat.le_trans Z0 Kq.1
  have kc347 := kc0.trans Kq (allS (Or.inl (List.mem_of_getElem? (i := 0) rfl)) all0)
  show Go p l e _ _ m _ below meth c _ _ _ _ h334 _ _ (mkF m 5 #[.val (.ref o), .val (.ref mg)] [])
  exact Go.retV K (by decide) (by decide) d_jdk_59_method_2_5 (fun _ _ _ _ => ⟨rfl, kc347, Eq, Fq⟩)
theorem ef_m_ex2 (m : MethodId) (o : Addr) (mg : Addr) (cz : Addr) : entryFrame m #[(.ref o), (.ref mg), (.ref cz)] 3 = mkF m 0 #[.val (.ref o), .val (.ref mg), .val (.ref cz)] [] := by first | (simp [entryFrame, mkF, argsToLocals, Value.category]; done) | rfl
theorem d_jdk_59_method_3_0 : decode jdk_59_method_3_code 0 = .ok (.aload_n 0, 1) := by decide +kernel
theorem d_jdk_59_method_3_1 : decode jdk_59_method_3_code 1 = .ok (.aload_n 1, 1) := by decide +kernel
theorem d_jdk_59_method_3_2 : decode jdk_59_method_3_code 2 = .ok (.aload_n 2, 1) := by decide +kernel
theorem d_jdk_59_method_3_3 : decode jdk_59_method_3_code 3 = .ok (.invokespecial 10, 3) := by decide +kernel
theorem pd__28Ljava_2flang_2fString_3bLjava_2flang_2fThrowable_3b_29V : parseMethodDescriptor "(Ljava/lang/String;Ljava/lang/Throwable;)V" = some ⟨[(.object "java/lang/String"), (.object "java/lang/Throwable")], none⟩ := by decide +kernel
theorem d_jdk_59_method_3_6 : decode jdk_59_method_3_code 6 = .ok (.return_, 1) := by decide +kernel
set_option maxRecDepth 65536 in
set_option maxHeartbeats 40000000 in
theorem m_ex2 (l : Launch) (Z : State) (a0 : Array Value) (hw : ∀ d ∈ tables_1, d.before a0 Z = true) (h0 : Heap) (n0 : Nat) (Z0 : n0 ≤ h0.size) (o : Addr) (mg : Addr) (cz : Addr) (hl : l.stackTraces = true) (us ss : Addr) (SU : Sta Z Z.heap "java/lang/Throwable" "UNASSIGNED_STACK" "[Ljava/lang/StackTraceElement;" (.ref us)) (SS : Sta Z Z.heap "java/lang/Throwable" "SUPPRESSED_SENTINEL" "Ljava/util/List;" (.ref ss)) (od : Old Z n0 h0) (E_o : Exa Z h0 o "com/example/pollster/pollster/recipient/TransmitterException") (U_o : Unt h0 o) (F_b : Fld Z h0 o "java/lang/Throwable" "backtrace" "Ljava/lang/Object;" .null) (F_c : Fld Z h0 o "java/lang/Throwable" "cause" "Ljava/lang/Throwable;" .null) (F_t : Fld Z h0 o "java/lang/Throwable" "stackTrace" "[Ljava/lang/StackTraceElement;" .null) (F_u : Fld Z h0 o "java/lang/Throwable" "suppressedExceptions" "Ljava/util/List;" .null) (F_m : Fld Z h0 o "java/lang/Throwable" "detailMessage" "Ljava/lang/String;" .null) (F_s : Fld Z h0 o "com/example/pollster/pollster/recipient/TransmitterException" "status" "I" (.int (0 : Int32))) (g_o : n0 ≤ o) :
    MetK l Z [] (⟨"java/lang/Exception", "<init>", "(Ljava/lang/String;Ljava/lang/Throwable;)V"⟩ : MethodName) jdk_59_method_3_code 3 none ({ frames := 4, cells := 1, slots := 2752, locals := 56 } : Room) #[(.ref o), (.ref mg), (.ref cz)] h0 n0 (fun v h => v = none ∧ Keep h0 h [o] ∧ Exa Z h o "com/example/pollster/pollster/recipient/TransmitterException" ∧ Fld Z h o "com/example/pollster/pollster/recipient/TransmitterException" "status" "I" (.int (0 : Int32))) := by
  refine MetK.of (plainFor_of_name pn_java_lang_Exception) ?_
  intro p e s m below meth c F hsh hTK hBl K
  refine Go.cast (ef_m_ex2 m o mg cz) ?_
  have kc0 := Keep.refl h0 [o]
  refine Go.aloadN K d_jdk_59_method_3_0 rfl rfl (pc' := 1) rfl ?_
  refine Go.aloadN K d_jdk_59_method_3_1 rfl rfl (pc' := 2) rfl ?_
  refine Go.aloadN K d_jdk_59_method_3_2 rfl rfl (pc' := 3) rfl ?_
  refine Go.callC K (y := (⟨"java/lang/Throwable", "<init>", "(Ljava/lang/String;Ljava/lang/Throwable;)V"⟩ : MethodName)) (W := 0) (kc := 1) (nc := 2752) (a := o) rfl (mvT K.cz (hw _ (List.mem_of_getElem? (i := 130) rfl))) (mvT K.cz (hw _ (List.mem_of_getElem? (i := 131) rfl))) (mvT K.cz (hw _ (List.mem_of_getElem? (i := 133) rfl))) (by decide) ((m_th2 l Z a0 hw h0 n0 Z0 o mg cz hl us ss SU SS od E_o U_o F_b F_c F_t F_u F_m F_s g_o).pays (W := 0) K.cz (hw _ (List.mem_of_getElem? (i := 133) rfl)) (hw _ (List.mem_of_getElem? (i := 45) rfl)) (by decide) (by decide) hTK hBl) rfl (argsL := [(.ref mg), (.ref cz)]) (rest := []) (lenOf pd__28Ljava_2flang_2fString_3bLjava_2flang_2fThrowable_3b_29V rfl) rfl (Nat.le_of_ble_eq_true rfl) (by decide) (by decide) frOf grOf d_jdk_59_method_3_3 (pc' := 6) rfl ?_
  rintro v350 h348 Lc349 ⟨⟨⟨rfl, Kq, Eq, Fq⟩, -⟩, -⟩
  have f351 := E_o.keep Kq
  have od359 := od.keep Kq (allS g_o all0)
  have z360 := Nat.le_trans Z0 Kq.1
  have kc361 := kc0.trans Kq (allS (Or.inl (List.mem_of_getElem? (i := 0) rfl)) all0)
  show Go p l e _ _ m _ below meth c _ _ _ _ h348 _ _ (mkF m 6 #[.val (.ref o), .val (.ref mg), .val (.ref cz)] [])
  exact Go.retV K (by decide) (by decide) d_jdk_59_method_3_6 (fun _ _ _ _ => ⟨rfl, kc361, Eq, Fq⟩)
theorem ef_m_te1 (m : MethodId) (o : Addr) (mg : Addr) : entryFrame m #[(.ref o), (.ref mg)] 2 = mkF m 0 #[.val (.ref o), .val (.ref mg)] [] := by first | (simp [entryFrame, mkF, argsToLocals, Value.category]; done) | rfl
theorem d_prog_5_method_1_0 : decode prog_5_method_1_code 0 = .ok (.aload_n 0, 1) := by decide +kernel
theorem d_prog_5_method_1_1 : decode prog_5_method_1_code 1 = .ok (.aload_n 1, 1) := by decide +kernel
theorem d_prog_5_method_1_2 : decode prog_5_method_1_code 2 = .ok (.invokespecial 1, 3) := by decide +kernel
theorem d_prog_5_method_1_5 : decode prog_5_method_1_code 5 = .ok (.aload_n 0, 1) := by decide +kernel
theorem d_prog_5_method_1_6 : decode prog_5_method_1_code 6 = .ok (.iconst 0, 1) := by decide +kernel
theorem d_prog_5_method_1_7 : decode prog_5_method_1_code 7 = .ok (.putfield 7, 3) := by decide +kernel
theorem d_prog_5_method_1_10 : decode prog_5_method_1_code 10 = .ok (.return_, 1) := by decide +kernel
theorem pn_com_example_pollster_pollster_recipient_TransmitterException : plainName "com/example/pollster/pollster/recipient/TransmitterException" = true := by first | (simp [plainName, overriddenIn]; done) | decide +kernel
set_option maxRecDepth 65536 in
set_option maxHeartbeats 40000000 in
theorem m_te1 (l : Launch) (Z : State) (a0 : Array Value) (hw : ∀ d ∈ tables_1, d.before a0 Z = true) (h0 : Heap) (n0 : Nat) (Z0 : n0 ≤ h0.size) (o : Addr) (mg : Addr) (hl : l.stackTraces = true) (us ss : Addr) (SU : Sta Z Z.heap "java/lang/Throwable" "UNASSIGNED_STACK" "[Ljava/lang/StackTraceElement;" (.ref us)) (SS : Sta Z Z.heap "java/lang/Throwable" "SUPPRESSED_SENTINEL" "Ljava/util/List;" (.ref ss)) (od : Old Z n0 h0) (E_o : Exa Z h0 o "com/example/pollster/pollster/recipient/TransmitterException") (U_o : Unt h0 o) (F_b : Fld Z h0 o "java/lang/Throwable" "backtrace" "Ljava/lang/Object;" .null) (F_c : Fld Z h0 o "java/lang/Throwable" "cause" "Ljava/lang/Throwable;" .null) (F_t : Fld Z h0 o "java/lang/Throwable" "stackTrace" "[Ljava/lang/StackTraceElement;" .null) (F_u : Fld Z h0 o "java/lang/Throwable" "suppressedExceptions" "Ljava/util/List;" .null) (F_m : Fld Z h0 o "java/lang/Throwable" "detailMessage" "Ljava/lang/String;" .null) (F_s : Fld Z h0 o "com/example/pollster/pollster/recipient/TransmitterException" "status" "I" (.int (0 : Int32))) (g_o : n0 ≤ o) :
    MetK l Z [] (⟨"com/example/pollster/pollster/recipient/TransmitterException", "<init>", "(Ljava/lang/String;)V"⟩ : MethodName) prog_5_method_1_code 2 none ({ frames := 5, cells := 1, slots := 2752, locals := 72 } : Room) #[(.ref o), (.ref mg)] h0 n0 (fun v h => v = none ∧ Keep h0 h [o] ∧ Exa Z h o "com/example/pollster/pollster/recipient/TransmitterException" ∧ Fld Z h o "com/example/pollster/pollster/recipient/TransmitterException" "status" "I" (.int (0 : Int32))) := by
  refine MetK.of (plainFor_of_name pn_com_example_pollster_pollster_recipient_TransmitterException) ?_
  intro p e s m below meth c F hsh hTK hBl K
  refine Go.cast (ef_m_te1 m o mg) ?_
  have kc0 := Keep.refl h0 [o]
  refine Go.aloadN K d_prog_5_method_1_0 rfl rfl (pc' := 1) rfl ?_
  refine Go.aloadN K d_prog_5_method_1_1 rfl rfl (pc' := 2) rfl ?_
  refine Go.callC K (y := (⟨"java/lang/Exception", "<init>", "(Ljava/lang/String;)V"⟩ : MethodName)) (W := 0) (kc := 1) (nc := 2752) (a := o) rfl (mvT K.cz (hw _ (List.mem_of_getElem? (i := 36) rfl))) (mvT K.cz (hw _ (List.mem_of_getElem? (i := 37) rfl))) (mvT K.cz (hw _ (List.mem_of_getElem? (i := 40) rfl))) (by decide) ((m_ex1 l Z a0 hw h0 n0 Z0 o mg hl us ss SU SS od E_o U_o F_b F_c F_t F_u F_m F_s g_o).pays (W := 0) K.cz (hw _ (List.mem_of_getElem? (i := 40) rfl)) (hw _ (List.mem_of_getElem? (i := 39) rfl)) (by decide) (by decide) hTK hBl) rfl (argsL := [(.ref mg)]) (rest := []) (lenOf pd__28Ljava_2flang_2fString_3b_29V rfl) rfl (Nat.le_of_ble_eq_true rfl) (by decide) (by decide) frOf grOf d_prog_5_method_1_2 (pc' := 5) rfl ?_
  rintro v364 h362 Lc363 ⟨⟨⟨rfl, Kq, Eq, Fq⟩, -⟩, -⟩
  have f365 := E_o.keep Kq
  have od373 := od.keep Kq (allS g_o all0)
  have z374 := Nat.le_trans Z0 Kq.1
  have kc375 := kc0.trans Kq (allS (Or.inl (List.mem_of_getElem? (i := 0) rfl)) all0)
  show Go p l e _ _ m _ below meth c _ _ _ _ h362 _ _ (mkF m 5 #[.val (.ref o), .val (.ref mg)] [])
  refine Go.aloadN K d_prog_5_method_1_5 rfl rfl (pc' := 6) rfl ?_
  refine Go.iconst K (v := 0) d_prog_5_method_1_6 rfl (pc' := 7) rfl ?_
  refine Go.putF K (host := "") (Or.inl (hw _ (List.mem_of_getElem? (i := 84) rfl))) Via.refl Fq Eq (Or.inr ⟨(hw _ (List.mem_of_getElem? (i := 85) rfl)), rfl, rfl⟩) (hw _ (List.mem_of_getElem? (i := 31) rfl)) (ty := .int) (by decide) rfl rfl g_o d_prog_5_method_1_7 (pc' := 10) rfl ?_
  intro h376 W377 f378
  have K379 := Keep.of_wr W377
  have f380 := Eq.keep K379
  have od382 := od373.keep K379 (allS g_o all0)
  have z383 := Nat.le_trans z374 K379.1
  have kc384 := kc375.trans K379 (allS (Or.inl (List.mem_of_getElem? (i := 0) rfl)) all0)
  exact Go.retV K (by decide) (by decide) d_prog_5_method_1_10 (fun _ _ _ _ => ⟨rfl, kc384, f380, f378⟩)
theorem ef_m_te2 (m : MethodId) (o : Addr) (mg : Addr) (cz : Addr) : entryFrame m #[(.ref o), (.ref mg), (.ref cz)] 3 = mkF m 0 #[.val (.ref o), .val (.ref mg), .val (.ref cz)] [] := by first | (simp [entryFrame, mkF, argsToLocals, Value.category]; done) | rfl
theorem d_prog_5_method_2_0 : decode prog_5_method_2_code 0 = .ok (.aload_n 0, 1) := by decide +kernel
theorem d_prog_5_method_2_1 : decode prog_5_method_2_code 1 = .ok (.aload_n 1, 1) := by decide +kernel
theorem d_prog_5_method_2_2 : decode prog_5_method_2_code 2 = .ok (.aload_n 2, 1) := by decide +kernel
theorem d_prog_5_method_2_3 : decode prog_5_method_2_code 3 = .ok (.invokespecial 13, 3) := by decide +kernel
theorem d_prog_5_method_2_6 : decode prog_5_method_2_code 6 = .ok (.aload_n 0, 1) := by decide +kernel
theorem d_prog_5_method_2_7 : decode prog_5_method_2_code 7 = .ok (.iconst 0, 1) := by decide +kernel
theorem d_prog_5_method_2_8 : decode prog_5_method_2_code 8 = .ok (.putfield 7, 3) := by decide +kernel
theorem d_prog_5_method_2_11 : decode prog_5_method_2_code 11 = .ok (.return_, 1) := by decide +kernel
set_option maxRecDepth 65536 in
set_option maxHeartbeats 40000000 in
theorem m_te2 (l : Launch) (Z : State) (a0 : Array Value) (hw : ∀ d ∈ tables_1, d.before a0 Z = true) (h0 : Heap) (n0 : Nat) (Z0 : n0 ≤ h0.size) (o : Addr) (mg : Addr) (cz : Addr) (hl : l.stackTraces = true) (us ss : Addr) (SU : Sta Z Z.heap "java/lang/Throwable" "UNASSIGNED_STACK" "[Ljava/lang/StackTraceElement;" (.ref us)) (SS : Sta Z Z.heap "java/lang/Throwable" "SUPPRESSED_SENTINEL" "Ljava/util/List;" (.ref ss)) (od : Old Z n0 h0) (E_o : Exa Z h0 o "com/example/pollster/pollster/recipient/TransmitterException") (U_o : Unt h0 o) (F_b : Fld Z h0 o "java/lang/Throwable" "backtrace" "Ljava/lang/Object;" .null) (F_c : Fld Z h0 o "java/lang/Throwable" "cause" "Ljava/lang/Throwable;" .null) (F_t : Fld Z h0 o "java/lang/Throwable" "stackTrace" "[Ljava/lang/StackTraceElement;" .null) (F_u : Fld Z h0 o "java/lang/Throwable" "suppressedExceptions" "Ljava/util/List;" .null) (F_m : Fld Z h0 o "java/lang/Throwable" "detailMessage" "Ljava/lang/String;" .null) (F_s : Fld Z h0 o "com/example/pollster/pollster/recipient/TransmitterException" "status" "I" (.int (0 : Int32))) (g_o : n0 ≤ o) :
    MetK l Z [] (⟨"com/example/pollster/pollster/recipient/TransmitterException", "<init>", "(Ljava/lang/String;Ljava/lang/Throwable;)V"⟩ : MethodName) prog_5_method_2_code 3 none ({ frames := 5, cells := 1, slots := 2752, locals := 72 } : Room) #[(.ref o), (.ref mg), (.ref cz)] h0 n0 (fun v h => v = none ∧ Keep h0 h [o] ∧ Exa Z h o "com/example/pollster/pollster/recipient/TransmitterException" ∧ Fld Z h o "com/example/pollster/pollster/recipient/TransmitterException" "status" "I" (.int (0 : Int32))) := by
  refine MetK.of (plainFor_of_name pn_com_example_pollster_pollster_recipient_TransmitterException) ?_
  intro p e s m below meth c F hsh hTK hBl K
  refine Go.cast (ef_m_te2 m o mg cz) ?_
  have kc0 := Keep.refl h0 [o]
  refine Go.aloadN K d_prog_5_method_2_0 rfl rfl (pc' := 1) rfl ?_
  refine Go.aloadN K d_prog_5_method_2_1 rfl rfl (pc' := 2) rfl ?_
  refine Go.aloadN K d_prog_5_method_2_2 rfl rfl (pc' := 3) rfl ?_
  refine Go.callC K (y := (⟨"java/lang/Exception", "<init>", "(Ljava/lang/String;Ljava/lang/Throwable;)V"⟩ : MethodName)) (W := 0) (kc := 1) (nc := 2752) (a := o) rfl (mvT K.cz (hw _ (List.mem_of_getElem? (i := 126) rfl))) (mvT K.cz (hw _ (List.mem_of_getElem? (i := 127) rfl))) (mvT K.cz (hw _ (List.mem_of_getElem? (i := 129) rfl))) (by decide) ((m_ex2 l Z a0 hw h0 n0 Z0 o mg cz hl us ss SU SS od E_o U_o F_b F_c F_t F_u F_m F_s g_o).pays (W := 0) K.cz (hw _ (List.mem_of_getElem? (i := 129) rfl)) (hw _ (List.mem_of_getElem? (i := 39) rfl)) (by decide) (by decide) hTK hBl) rfl (argsL := [(.ref mg), (.ref cz)]) (rest := []) (lenOf pd__28Ljava_2flang_2fString_3bLjava_2flang_2fThrowable_3b_29V rfl) rfl (Nat.le_of_ble_eq_true rfl) (by decide) (by decide) frOf grOf d_prog_5_method_2_3 (pc' := 6) rfl ?_
  rintro v387 h385 Lc386 ⟨⟨⟨rfl, Kq, Eq, Fq⟩, -⟩, -⟩
  have f388 := E_o.keep Kq
  have od396 := od.keep Kq (allS g_o all0)
  have z397 := Nat.le_trans Z0 Kq.1
  have kc398 := kc0.trans Kq (allS (Or.inl (List.mem_of_getElem? (i := 0) rfl)) all0)
  show Go p l e _ _ m _ below meth c _ _ _ _ h385 _ _ (mkF m 6 #[.val (.ref o), .val (.ref mg), .val (.ref cz)] [])
  refine Go.aloadN K d_prog_5_method_2_6 rfl rfl (pc' := 7) rfl ?_
  refine Go.iconst K (v := 0) d_prog_5_method_2_7 rfl (pc' := 8) rfl ?_
  refine Go.putF K (host := "") (Or.inl (hw _ (List.mem_of_getElem? (i := 84) rfl))) Via.refl Fq Eq (Or.inr ⟨(hw _ (List.mem_of_getElem? (i := 85) rfl)), rfl, rfl⟩) (hw _ (List.mem_of_getElem? (i := 31) rfl)) (ty := .int) (by decide) rfl rfl g_o d_prog_5_method_2_8 (pc' := 11) rfl ?_
  intro h399 W400 f401
  have K402 := Keep.of_wr W400
  have f403 := Eq.keep K402
  have od405 := od396.keep K402 (allS g_o all0)
  have z406 := Nat.le_trans z397 K402.1
  have kc407 := kc398.trans K402 (allS (Or.inl (List.mem_of_getElem? (i := 0) rfl)) all0)
  exact Go.retV K (by decide) (by decide) d_prog_5_method_2_11 (fun _ _ _ _ => ⟨rfl, kc407, f403, f401⟩)
theorem ef_m_te3 (m : MethodId) (o : Addr) (mg : Addr) (x : Int32) : entryFrame m #[(.ref o), (.ref mg), (.int x)] 3 = mkF m 0 #[.val (.ref o), .val (.ref mg), .val (.int x)] [] := by first | (simp [entryFrame, mkF, argsToLocals, Value.category]; done) | rfl
theorem d_prog_5_method_3_0 : decode prog_5_method_3_code 0 = .ok (.aload_n 0, 1) := by decide +kernel
theorem d_prog_5_method_3_1 : decode prog_5_method_3_code 1 = .ok (.aload_n 1, 1) := by decide +kernel
theorem d_prog_5_method_3_2 : decode prog_5_method_3_code 2 = .ok (.invokespecial 1, 3) := by decide +kernel
theorem d_prog_5_method_3_5 : decode prog_5_method_3_code 5 = .ok (.aload_n 0, 1) := by decide +kernel
theorem d_prog_5_method_3_6 : decode prog_5_method_3_code 6 = .ok (.iload_n 2, 1) := by decide +kernel
theorem d_prog_5_method_3_7 : decode prog_5_method_3_code 7 = .ok (.putfield 7, 3) := by decide +kernel
theorem d_prog_5_method_3_10 : decode prog_5_method_3_code 10 = .ok (.return_, 1) := by decide +kernel
set_option maxRecDepth 65536 in
set_option maxHeartbeats 40000000 in
theorem m_te3 (l : Launch) (Z : State) (a0 : Array Value) (hw : ∀ d ∈ tables_1, d.before a0 Z = true) (h0 : Heap) (n0 : Nat) (Z0 : n0 ≤ h0.size) (o : Addr) (mg : Addr) (x : Int32) (hl : l.stackTraces = true) (us ss : Addr) (SU : Sta Z Z.heap "java/lang/Throwable" "UNASSIGNED_STACK" "[Ljava/lang/StackTraceElement;" (.ref us)) (SS : Sta Z Z.heap "java/lang/Throwable" "SUPPRESSED_SENTINEL" "Ljava/util/List;" (.ref ss)) (od : Old Z n0 h0) (E_o : Exa Z h0 o "com/example/pollster/pollster/recipient/TransmitterException") (U_o : Unt h0 o) (F_b : Fld Z h0 o "java/lang/Throwable" "backtrace" "Ljava/lang/Object;" .null) (F_c : Fld Z h0 o "java/lang/Throwable" "cause" "Ljava/lang/Throwable;" .null) (F_t : Fld Z h0 o "java/lang/Throwable" "stackTrace" "[Ljava/lang/StackTraceElement;" .null) (F_u : Fld Z h0 o "java/lang/Throwable" "suppressedExceptions" "Ljava/util/List;" .null) (F_m : Fld Z h0 o "java/lang/Throwable" "detailMessage" "Ljava/lang/String;" .null) (F_s : Fld Z h0 o "com/example/pollster/pollster/recipient/TransmitterException" "status" "I" (.int (0 : Int32))) (g_o : n0 ≤ o) :
    MetK l Z [] (⟨"com/example/pollster/pollster/recipient/TransmitterException", "<init>", "(Ljava/lang/String;I)V"⟩ : MethodName) prog_5_method_3_code 3 none ({ frames := 5, cells := 1, slots := 2752, locals := 72 } : Room) #[(.ref o), (.ref mg), (.int x)] h0 n0 (fun v h => v = none ∧ Keep h0 h [o] ∧ Exa Z h o "com/example/pollster/pollster/recipient/TransmitterException" ∧ Fld Z h o "com/example/pollster/pollster/recipient/TransmitterException" "status" "I" (.int x)) := by
  refine MetK.of (plainFor_of_name pn_com_example_pollster_pollster_recipient_TransmitterException) ?_
  intro p e s m below meth c F hsh hTK hBl K
  refine Go.cast (ef_m_te3 m o mg x) ?_
  have kc0 := Keep.refl h0 [o]
  refine Go.aloadN K d_prog_5_method_3_0 rfl rfl (pc' := 1) rfl ?_
  refine Go.aloadN K d_prog_5_method_3_1 rfl rfl (pc' := 2) rfl ?_
  refine Go.callC K (y := (⟨"java/lang/Exception", "<init>", "(Ljava/lang/String;)V"⟩ : MethodName)) (W := 0) (kc := 1) (nc := 2752) (a := o) rfl (mvT K.cz (hw _ (List.mem_of_getElem? (i := 36) rfl))) (mvT K.cz (hw _ (List.mem_of_getElem? (i := 37) rfl))) (mvT K.cz (hw _ (List.mem_of_getElem? (i := 40) rfl))) (by decide) ((m_ex1 l Z a0 hw h0 n0 Z0 o mg hl us ss SU SS od E_o U_o F_b F_c F_t F_u F_m F_s g_o).pays (W := 0) K.cz (hw _ (List.mem_of_getElem? (i := 40) rfl)) (hw _ (List.mem_of_getElem? (i := 39) rfl)) (by decide) (by decide) hTK hBl) rfl (argsL := [(.ref mg)]) (rest := []) (lenOf pd__28Ljava_2flang_2fString_3b_29V rfl) rfl (Nat.le_of_ble_eq_true rfl) (by decide) (by decide) frOf grOf d_prog_5_method_3_2 (pc' := 5) rfl ?_
  rintro v410 h408 Lc409 ⟨⟨⟨rfl, Kq, Eq, Fq⟩, -⟩, -⟩
  have f411 := E_o.keep Kq
  have od419 := od.keep Kq (allS g_o all0)
  have z420 := Nat.le_trans Z0 Kq.1
  have kc421 := kc0.trans Kq (allS (Or.inl (List.mem_of_getElem? (i := 0) rfl)) all0)
  show Go p l e _ _ m _ below meth c _ _ _ _ h408 _ _ (mkF m 5 #[.val (.ref o), .val (.ref mg), .val (.int x)] [])
  refine Go.aloadN K d_prog_5_method_3_5 rfl rfl (pc' := 6) rfl ?_
  refine Go.iloadN K d_prog_5_method_3_6 rfl (pc' := 7) rfl ?_
  refine Go.putF K (host := "") (Or.inl (hw _ (List.mem_of_getElem? (i := 84) rfl))) Via.refl Fq Eq (Or.inr ⟨(hw _ (List.mem_of_getElem? (i := 85) rfl)), rfl, rfl⟩) (hw _ (List.mem_of_getElem? (i := 31) rfl)) (ty := .int) (by decide) rfl rfl g_o d_prog_5_method_3_7 (pc' := 10) rfl ?_
  intro h422 W423 f424
  have K425 := Keep.of_wr W423
  have f426 := Eq.keep K425
  have od428 := od419.keep K425 (allS g_o all0)
  have z429 := Nat.le_trans z420 K425.1
  have kc430 := kc421.trans K425 (allS (Or.inl (List.mem_of_getElem? (i := 0) rfl)) all0)
  exact Go.retV K (by decide) (by decide) d_prog_5_method_3_10 (fun _ _ _ _ => ⟨rfl, kc430, f426, f424⟩)
theorem ef_oe (m : MethodId)  : entryFrame m #[] 0 = mkF m 0 #[] [] := by first | (simp [entryFrame, mkF, argsToLocals, Value.category]; done) | rfl
theorem d_jdk_2649_method_2_0 : decode jdk_2649_method_2_code 0 = .ok (.getstatic 17, 3) := by decide +kernel
theorem d_jdk_2649_method_2_3 : decode jdk_2649_method_2_code 3 = .ok (.areturn, 1) := by decide +kernel
theorem pn_java_util_OptionalInt : plainName "java/util/OptionalInt" = true := by first | (simp [plainName, overriddenIn]; done) | decide +kernel
set_option maxRecDepth 65536 in
set_option maxHeartbeats 40000000 in
theorem m_oe (l : Launch) (Z : State) (a0 : Array Value) (hw : ∀ d ∈ tables_1, d.before a0 Z = true) (h0 : Heap) (n0 : Nat) (Z0 : n0 ≤ h0.size) (eo : Addr) (SE : Sta Z Z.heap "java/util/OptionalInt" "EMPTY" "Ljava/util/OptionalInt;" (.ref eo)) (od : Old Z n0 h0) :
    Met l Z [] (⟨"java/util/OptionalInt", "empty", "()Ljava/util/OptionalInt;"⟩ : MethodName) jdk_2649_method_2_code 0 (some (.object "java/util/OptionalInt")) ({ frames := 0, cells := 0, slots := 0, locals := 0 } : Room) #[] h0 n0 (fun v h => v = some (.ref eo) ∧ h0 = h) := by
  refine Met.of (plainFor_of_name pn_java_util_OptionalInt) ?_
  intro p e s m below meth c F K
  refine Go.cast (ef_oe m) ?_
  refine Go.getS K (host := "") (Or.inl (hw _ (List.mem_of_getElem? (i := 95) rfl))) Via.refl (SE.ext od.2) d_jdk_2649_method_2_0 (pc' := 3) rfl ?_
  exact Go.retA K rfl rfl rfl (by decide) (by decide) d_jdk_2649_method_2_3 (fun _ _ _ _ => ⟨rfl, rfl⟩)
theorem ef_oi (m : MethodId) (o : Addr) (x : Int32) : entryFrame m #[(.ref o), (.int x)] 2 = mkF m 0 #[.val (.ref o), .val (.int x)] [] := by first | (simp [entryFrame, mkF, argsToLocals, Value.category]; done) | rfl
theorem d_jdk_2649_method_3_0 : decode jdk_2649_method_3_code 0 = .ok (.aload_n 0, 1) := by decide +kernel
theorem d_jdk_2649_method_3_1 : decode jdk_2649_method_3_code 1 = .ok (.invokespecial 1, 3) := by decide +kernel
theorem d_jdk_2649_method_3_4 : decode jdk_2649_method_3_code 4 = .ok (.aload_n 0, 1) := by decide +kernel
theorem d_jdk_2649_method_3_5 : decode jdk_2649_method_3_code 5 = .ok (.iconst 1, 1) := by decide +kernel
theorem d_jdk_2649_method_3_6 : decode jdk_2649_method_3_code 6 = .ok (.putfield 7, 3) := by decide +kernel
theorem d_jdk_2649_method_3_9 : decode jdk_2649_method_3_code 9 = .ok (.aload_n 0, 1) := by decide +kernel
theorem d_jdk_2649_method_3_10 : decode jdk_2649_method_3_code 10 = .ok (.iload_n 1, 1) := by decide +kernel
theorem d_jdk_2649_method_3_11 : decode jdk_2649_method_3_code 11 = .ok (.putfield 13, 3) := by decide +kernel
theorem d_jdk_2649_method_3_14 : decode jdk_2649_method_3_code 14 = .ok (.return_, 1) := by decide +kernel
set_option maxRecDepth 65536 in
set_option maxHeartbeats 40000000 in
theorem m_oi (l : Launch) (Z : State) (a0 : Array Value) (hw : ∀ d ∈ tables_1, d.before a0 Z = true) (h0 : Heap) (n0 : Nat) (Z0 : n0 ≤ h0.size) (o : Addr) (x : Int32) (E_o : Exa Z h0 o "java/util/OptionalInt") (F_p : Fld Z h0 o "java/util/OptionalInt" "isPresent" "Z" (.int (0 : Int32))) (F_v : Fld Z h0 o "java/util/OptionalInt" "value" "I" (.int (0 : Int32))) (g_o : n0 ≤ o) :
    Met l Z [] (⟨"java/util/OptionalInt", "<init>", "(I)V"⟩ : MethodName) jdk_2649_method_3_code 2 none ({ frames := 1, cells := 0, slots := 0, locals := 14 } : Room) #[(.ref o), (.int x)] h0 n0 (fun v h => v = none ∧ Keep h0 h [o] ∧ Exa Z h o "java/util/OptionalInt" ∧ Fld Z h o "java/util/OptionalInt" "isPresent" "Z" (.int (1 : Int32)) ∧ Fld Z h o "java/util/OptionalInt" "value" "I" (.int x)) := by
  refine Met.of (plainFor_of_name pn_java_util_OptionalInt) ?_
  intro p e s m below meth c F K
  refine Go.cast (ef_oi m o x) ?_
  have kc0 := Keep.refl h0 [o]
  refine Go.aloadN K d_jdk_2649_method_3_0 rfl rfl (pc' := 1) rfl ?_
  refine Go.initO K (hw _ (List.mem_of_getElem? (i := 115) rfl)) (hw _ (List.mem_of_getElem? (i := 12) rfl)) (hw _ (List.mem_of_getElem? (i := 13) rfl)) rfl (by decide) 0 (Nat.le_of_ble_eq_true rfl) (by decide) d_jdk_2649_method_3_1 (pc' := 4) rfl ?_
  refine Go.aloadN K d_jdk_2649_method_3_4 rfl rfl (pc' := 5) rfl ?_
  refine Go.iconst K (v := 1) d_jdk_2649_method_3_5 rfl (pc' := 6) rfl ?_
  refine Go.putFN K (hw _ (List.mem_of_getElem? (i := 101) rfl)) Via.refl F_p E_o (Or.inr ⟨(hw _ (List.mem_of_getElem? (i := 102) rfl)), rfl, rfl⟩) (hw _ (List.mem_of_getElem? (i := 110) rfl)) (ty := .boolean) (v' := (.int (1 : Int32))) (by decide) rfl rfl g_o d_jdk_2649_method_3_6 (pc' := 9) rfl ?_
  intro h431 W432 f433
  have f434 := F_v.other W432 (Or.inr (slot_ne (Or.inr (hw _ (List.mem_of_getElem? (i := 117) rfl))) (Or.inr (hw _ (List.mem_of_getElem? (i := 102) rfl))) (by decide) (t := .int) (t' := .boolean) (by decide) (by decide)))
  have K435 := Keep.of_wr W432
  have f436 := E_o.keep K435
  have z439 := Nat.le_trans Z0 K435.1
  have kc440 := kc0.trans K435 (allS (Or.inl (List.mem_of_getElem? (i := 0) rfl)) all0)
  refine Go.aloadN K d_jdk_2649_method_3_9 rfl rfl (pc' := 10) rfl ?_
  refine Go.iloadN K d_jdk_2649_method_3_10 rfl (pc' := 11) rfl ?_
  refine Go.putF K (host := "") (Or.inl (hw _ (List.mem_of_getElem? (i := 116) rfl))) Via.refl f434 f436 (Or.inr ⟨(hw _ (List.mem_of_getElem? (i := 117) rfl)), rfl, rfl⟩) (hw _ (List.mem_of_getElem? (i := 110) rfl)) (ty := .int) (by decide) rfl rfl g_o d_jdk_2649_method_3_11 (pc' := 14) rfl ?_
  intro h441 W442 f443
  have f444 := f433.other W442 (Or.inr (slot_ne (Or.inr (hw _ (List.mem_of_getElem? (i := 102) rfl))) (Or.inr (hw _ (List.mem_of_getElem? (i := 117) rfl))) (by decide) (t := .boolean) (t' := .int) (by decide) (by decide)))
  have K445 := Keep.of_wr W442
  have f446 := f436.keep K445
  have z449 := Nat.le_trans z439 K445.1
  have kc450 := kc440.trans K445 (allS (Or.inl (List.mem_of_getElem? (i := 0) rfl)) all0)
  exact Go.retV K (by decide) (by decide) d_jdk_2649_method_3_14 (fun _ _ _ _ => ⟨rfl, kc450, f446, f444, f443⟩)
theorem ef_oo (m : MethodId) (x : Int32) : entryFrame m #[(.int x)] 1 = mkF m 0 #[.val (.int x)] [] := by first | (simp [entryFrame, mkF, argsToLocals, Value.category]; done) | rfl
theorem d_jdk_2649_method_4_0 : decode jdk_2649_method_4_code 0 = .ok (.new 8, 3) := by decide +kernel
theorem d_jdk_2649_method_4_3 : decode jdk_2649_method_4_code 3 = .ok (.dup, 1) := by decide +kernel
theorem d_jdk_2649_method_4_4 : decode jdk_2649_method_4_code 4 = .ok (.iload_n 0, 1) := by decide +kernel
theorem d_jdk_2649_method_4_5 : decode jdk_2649_method_4_code 5 = .ok (.invokespecial 21, 3) := by decide +kernel
theorem pd__28I_29V : parseMethodDescriptor "(I)V" = some ⟨[.int], none⟩ := by decide +kernel
theorem d_jdk_2649_method_4_8 : decode jdk_2649_method_4_code 8 = .ok (.areturn, 1) := by decide +kernel
set_option maxRecDepth 65536 in
set_option maxHeartbeats 40000000 in
theorem m_oo (l : Launch) (Z : State) (a0 : Array Value) (hw : ∀ d ∈ tables_1, d.before a0 Z = true) (h0 : Heap) (n0 : Nat) (Z0 : n0 ≤ h0.size) (x : Int32) :
    Met l Z [] (⟨"java/util/OptionalInt", "of", "(I)Ljava/util/OptionalInt;"⟩ : MethodName) jdk_2649_method_4_code 1 (some (.object "java/util/OptionalInt")) ({ frames := 2, cells := 1, slots := 2, locals := 40 } : Room) #[(.int x)] h0 n0 (fun v h => ∃ o : Addr, v = some (.ref o) ∧ h0.size ≤ o ∧ Keep h0 h [] ∧ Exa Z h o "java/util/OptionalInt" ∧ Fld Z h o "java/util/OptionalInt" "isPresent" "Z" (.int (1 : Int32)) ∧ Fld Z h o "java/util/OptionalInt" "value" "I" (.int x)) := by
  refine Met.of (plainFor_of_name pn_java_util_OptionalInt) ?_
  intro p e s m below meth c F K
  refine Go.cast (ef_oo m x) ?_
  have kc0 := Keep.refl h0 []
  refine Go.newO K (hw _ (List.mem_of_getElem? (i := 109) rfl)) (hw _ (List.mem_of_getElem? (i := 110) rfl)) (hw _ (List.mem_of_getElem? (i := 93) rfl)) (by decide) (by decide) d_jdk_2649_method_4_0 (pc' := 3) rfl ?_
  intro h451 o eq454 E452 E_o D453
  have sz_o := Nat.le_trans kc0.1 (Nat.le_of_eq eq454.symm)
  have g_o : n0 ≤ o := Nat.le_trans Z0 (Nat.le_of_eq eq454.symm)
  have z455 := Nat.le_trans Z0 E452.1
  have kc456 := kc0.ext E452
  have f457 : Fld Z h451 o "java/util/OptionalInt" "isPresent" "Z" (.int (0 : Int32)) := D453 (Or.inr (hw _ (List.mem_of_getElem? (i := 102) rfl))) (ty := .boolean) (by decide)
  have f458 : Fld Z h451 o "java/util/OptionalInt" "value" "I" (.int (0 : Int32)) := D453 (Or.inr (hw _ (List.mem_of_getElem? (i := 117) rfl))) (ty := .int) (by decide)
  refine Go.dup K d_jdk_2649_method_4_3 rfl (pc' := 4) rfl ?_
  refine Go.iloadN K d_jdk_2649_method_4_4 rfl (pc' := 5) rfl ?_
  refine Go.callC K (y := (⟨"java/util/OptionalInt", "<init>", "(I)V"⟩ : MethodName)) (W := 1) (kc := 0) (nc := 0) (a := o) rfl (mvT K.cz (hw _ (List.mem_of_getElem? (i := 111) rfl))) (mvT K.cz (hw _ (List.mem_of_getElem? (i := 112) rfl))) (mvT K.cz (hw _ (List.mem_of_getElem? (i := 114) rfl))) (by decide) ((m_oi l Z a0 hw h451 n0 z455 o x E_o f457 f458 g_o).pays (W := 1) K.cz (hw _ (List.mem_of_getElem? (i := 114) rfl)) (hw _ (List.mem_of_getElem? (i := 93) rfl)) (by decide) (by decide)) rfl (argsL := [(.int x)]) (rest := [(.ref o)]) (lenOf pd__28I_29V rfl) rfl (Nat.le_of_ble_eq_true rfl) (by decide) (by decide) frOf grOf d_jdk_2649_method_4_5 (pc' := 8) rfl ?_
  rintro v461 h459 Lc460 ⟨⟨⟨rfl, Kq, Eq, Fp, Fv⟩, -⟩, -⟩
  have f462 := E_o.keep Kq
  have z465 := Nat.le_trans z455 Kq.1
  have kc466 := kc456.trans Kq (allS (Or.inr sz_o) all0)
  show Go p l e _ _ m _ below meth c _ _ _ _ h459 _ _ (mkF m 8 #[.val (.int x)] [(.ref o)])
  exact Go.retA K rfl rfl rfl (by decide) (by decide) d_jdk_2649_method_4_8 (fun _ _ _ _ => ⟨o, rfl, sz_o, kc466, Eq, Fp, Fv⟩)
theorem ef_op (m : MethodId) (o : Addr) : entryFrame m #[(.ref o)] 1 = mkF m 0 #[.val (.ref o)] [] := by first | (simp [entryFrame, mkF, argsToLocals, Value.category]; done) | rfl
theorem d_jdk_2649_method_6_0 : decode jdk_2649_method_6_code 0 = .ok (.aload_n 0, 1) := by decide +kernel
theorem d_jdk_2649_method_6_1 : decode jdk_2649_method_6_code 1 = .ok (.getfield 7, 3) := by decide +kernel
theorem d_jdk_2649_method_6_4 : decode jdk_2649_method_6_code 4 = .ok (.ireturn, 1) := by decide +kernel
set_option maxRecDepth 65536 in
set_option maxHeartbeats 40000000 in
theorem m_op0 (l : Launch) (Z : State) (a0 : Array Value) (hw : ∀ d ∈ tables_1, d.before a0 Z = true) (h0 : Heap) (n0 : Nat) (Z0 : n0 ≤ h0.size) (o : Addr) (E_o : Exa Z h0 o "java/util/OptionalInt") (F_p : Fld Z h0 o "java/util/OptionalInt" "isPresent" "Z" (.int (0 : Int32))) :
    Met l Z [] (⟨"java/util/OptionalInt", "isPresent", "()Z"⟩ : MethodName) jdk_2649_method_6_code 1 (some .boolean) ({ frames := 0, cells := 0, slots := 0, locals := 0 } : Room) #[(.ref o)] h0 n0 (fun v h => v = some (.int 0) ∧ h0 = h) := by
  refine Met.of (plainFor_of_name pn_java_util_OptionalInt) ?_
  intro p e s m below meth c F K
  refine Go.cast (ef_op m o) ?_
  refine Go.aloadN K d_jdk_2649_method_6_0 rfl rfl (pc' := 1) rfl ?_
  refine Go.getF K (host := "") (Or.inl (hw _ (List.mem_of_getElem? (i := 101) rfl))) Via.refl F_p d_jdk_2649_method_6_1 (pc' := 4) rfl ?_
  exact Go.retN K (by simp) (by decide) (by decide) d_jdk_2649_method_6_4 (fun _ _ _ _ => ⟨rfl, rfl⟩)
set_option maxRecDepth 65536 in
set_option maxHeartbeats 40000000 in
theorem m_op1 (l : Launch) (Z : State) (a0 : Array Value) (hw : ∀ d ∈ tables_1, d.before a0 Z = true) (h0 : Heap) (n0 : Nat) (Z0 : n0 ≤ h0.size) (o : Addr) (E_o : Exa Z h0 o "java/util/OptionalInt") (F_p : Fld Z h0 o "java/util/OptionalInt" "isPresent" "Z" (.int (1 : Int32))) :
    Met l Z [] (⟨"java/util/OptionalInt", "isPresent", "()Z"⟩ : MethodName) jdk_2649_method_6_code 1 (some .boolean) ({ frames := 0, cells := 0, slots := 0, locals := 0 } : Room) #[(.ref o)] h0 n0 (fun v h => v = some (.int 1) ∧ h0 = h) := by
  refine Met.of (plainFor_of_name pn_java_util_OptionalInt) ?_
  intro p e s m below meth c F K
  refine Go.cast (ef_op m o) ?_
  refine Go.aloadN K d_jdk_2649_method_6_0 rfl rfl (pc' := 1) rfl ?_
  refine Go.getF K (host := "") (Or.inl (hw _ (List.mem_of_getElem? (i := 101) rfl))) Via.refl F_p d_jdk_2649_method_6_1 (pc' := 4) rfl ?_
  exact Go.retN K (by simp) (by decide) (by decide) d_jdk_2649_method_6_4 (fun _ _ _ _ => ⟨rfl, rfl⟩)
theorem ef_og (m : MethodId) (o : Addr) : entryFrame m #[(.ref o)] 1 = mkF m 0 #[.val (.ref o)] [] := by first | (simp [entryFrame, mkF, argsToLocals, Value.category]; done) | rfl
theorem d_jdk_2649_method_5_0 : decode jdk_2649_method_5_code 0 = .ok (.aload_n 0, 1) := by decide +kernel
theorem d_jdk_2649_method_5_1 : decode jdk_2649_method_5_code 1 = .ok (.getfield 7, 3) := by decide +kernel
theorem d_jdk_2649_method_5_4 : decode jdk_2649_method_5_code 4 = .ok (.ifCond .ne 13, 3) := by decide +kernel
theorem d_jdk_2649_method_5_17 : decode jdk_2649_method_5_code 17 = .ok (.aload_n 0, 1) := by decide +kernel
theorem d_jdk_2649_method_5_18 : decode jdk_2649_method_5_code 18 = .ok (.getfield 13, 3) := by decide +kernel
theorem d_jdk_2649_method_5_21 : decode jdk_2649_method_5_code 21 = .ok (.ireturn, 1) := by decide +kernel
set_option maxRecDepth 65536 in
set_option maxHeartbeats 40000000 in
theorem m_og (l : Launch) (Z : State) (a0 : Array Value) (hw : ∀ d ∈ tables_1, d.before a0 Z = true) (h0 : Heap) (n0 : Nat) (Z0 : n0 ≤ h0.size) (o : Addr) (x : Int32) (E_o : Exa Z h0 o "java/util/OptionalInt") (F_p : Fld Z h0 o "java/util/OptionalInt" "isPresent" "Z" (.int (1 : Int32))) (F_v : Fld Z h0 o "java/util/OptionalInt" "value" "I" (.int x)) :
    Met l Z [] (⟨"java/util/OptionalInt", "getAsInt", "()I"⟩ : MethodName) jdk_2649_method_5_code 1 (some .int) ({ frames := 0, cells := 0, slots := 0, locals := 0 } : Room) #[(.ref o)] h0 n0 (fun v h => v = some (.int x) ∧ h0 = h) := by
  refine Met.of (plainFor_of_name pn_java_util_OptionalInt) ?_
  intro p e s m below meth c F K
  refine Go.cast (ef_og m o) ?_
  refine Go.aloadN K d_jdk_2649_method_5_0 rfl rfl (pc' := 1) rfl ?_
  refine Go.getF K (host := "") (Or.inl (hw _ (List.mem_of_getElem? (i := 101) rfl))) Via.refl F_p d_jdk_2649_method_5_1 (pc' := 4) rfl ?_
  refine Go.ifc K d_jdk_2649_method_5_4 (by decide) (pcT := 17) (pcF := 7) (by decide) rfl (fun h4 => ?_) (fun h4 => ?_)
  · replace h4 : ¬ (1 : Int32) = 0 := h4
    refine Go.aloadN K d_jdk_2649_method_5_17 rfl rfl (pc' := 18) rfl ?_
    refine Go.getF K (host := "") (Or.inl (hw _ (List.mem_of_getElem? (i := 116) rfl))) Via.refl F_v d_jdk_2649_method_5_18 (pc' := 21) rfl ?_
    exact Go.retI K (by decide) (by decide) d_jdk_2649_method_5_21 (fun _ _ _ _ => ⟨rfl, rfl⟩)
  · replace h4 : ¬ (¬ (1 : Int32) = 0) := h4
    exact absurd (by decide) h4
theorem ef_st (m : MethodId) (o : Addr) : entryFrame m #[(.ref o)] 1 = mkF m 0 #[.val (.ref o)] [] := by first | (simp [entryFrame, mkF, argsToLocals, Value.category]; done) | rfl
theorem d_prog_5_method_4_0 : decode prog_5_method_4_code 0 = .ok (.aload_n 0, 1) := by decide +kernel
theorem d_prog_5_method_4_1 : decode prog_5_method_4_code 1 = .ok (.getfield 7, 3) := by decide +kernel
theorem d_prog_5_method_4_4 : decode prog_5_method_4_code 4 = .ok (.ifCond .ne 9, 3) := by decide +kernel
theorem d_prog_5_method_4_7 : decode prog_5_method_4_code 7 = .ok (.invokestatic 16, 3) := by decide +kernel
theorem pd__28_29Ljava_2futil_2fOptionalInt_3b : parseMethodDescriptor "()Ljava/util/OptionalInt;" = some ⟨[], some (.object "java/util/OptionalInt")⟩ := by decide +kernel
theorem d_prog_5_method_4_10 : decode prog_5_method_4_code 10 = .ok (.goto 10, 3) := by decide +kernel
theorem d_prog_5_method_4_20 : decode prog_5_method_4_code 20 = .ok (.areturn, 1) := by decide +kernel
set_option maxRecDepth 65536 in
set_option maxHeartbeats 40000000 in
theorem m_st0 (l : Launch) (Z : State) (a0 : Array Value) (hw : ∀ d ∈ tables_1, d.before a0 Z = true) (h0 : Heap) (n0 : Nat) (Z0 : n0 ≤ h0.size) (o : Addr) (E_o : Exa Z h0 o "com/example/pollster/pollster/recipient/TransmitterException") (F_s : Fld Z h0 o "com/example/pollster/pollster/recipient/TransmitterException" "status" "I" (.int (0 : Int32))) (od : Old Z n0 h0) (eo : Addr) (SE : Sta Z Z.heap "java/util/OptionalInt" "EMPTY" "Ljava/util/OptionalInt;" (.ref eo)) :
    Met l Z [] (⟨"com/example/pollster/pollster/recipient/TransmitterException", "status", "()Ljava/util/OptionalInt;"⟩ : MethodName) prog_5_method_4_code 1 (some (.object "java/util/OptionalInt")) ({ frames := 1, cells := 0, slots := 0, locals := 20 } : Room) #[(.ref o)] h0 n0 (fun v h => v = some (.ref eo) ∧ h0 = h) := by
  refine Met.of (plainFor_of_name pn_com_example_pollster_pollster_recipient_TransmitterException) ?_
  intro p e s m below meth c F K
  refine Go.cast (ef_st m o) ?_
  refine Go.aloadN K d_prog_5_method_4_0 rfl rfl (pc' := 1) rfl ?_
  refine Go.getF K (host := "") (Or.inl (hw _ (List.mem_of_getElem? (i := 84) rfl))) Via.refl F_s d_prog_5_method_4_1 (pc' := 4) rfl ?_
  refine Go.ifc K d_prog_5_method_4_4 (by decide) (pcT := 13) (pcF := 7) (by decide) rfl (fun h4 => ?_) (fun h4 => ?_)
  · replace h4 : ¬ (0 : Int32) = 0 := h4
    exact absurd rfl h4
  · replace h4 : ¬ (¬ (0 : Int32) = 0) := h4
    refine Go.callS K (y := (⟨"java/util/OptionalInt", "empty", "()Ljava/util/OptionalInt;"⟩ : MethodName)) (W := 0) (kc := 0) (nc := 0) (mvT K.cz (hw _ (List.mem_of_getElem? (i := 91) rfl))) (mvT K.cz (hw _ (List.mem_of_getElem? (i := 92) rfl))) (mvT K.cz (hw _ (List.mem_of_getElem? (i := 93) rfl))) (mvT K.cz (hw _ (List.mem_of_getElem? (i := 94) rfl))) (by decide) ((m_oe l Z a0 hw h0 n0 Z0 eo SE od).pays (W := 0) K.cz (hw _ (List.mem_of_getElem? (i := 94) rfl)) (hw _ (List.mem_of_getElem? (i := 93) rfl)) (by decide) (by decide)) rfl (argsL := []) (rest := []) (lenOf pd__28_29Ljava_2futil_2fOptionalInt_3b rfl) rfl (Nat.le_of_ble_eq_true rfl) (by decide) (by decide) frOf grOf d_prog_5_method_4_7 (pc' := 10) rfl ?_
    rintro v469 h467 Lc468 ⟨⟨⟨rfl, eh⟩, -⟩, -⟩
    obtain rfl := eh
    show Go p l e _ _ m _ below meth c _ _ _ _ h0 _ _ (mkF m 10 #[.val (.ref o)] [(.ref eo)])
    refine Go.goto K d_prog_5_method_4_10 (pc' := 20) (by decide) (by decide) ?_
    exact Go.retA K rfl rfl rfl (by decide) (by decide) d_prog_5_method_4_20 (fun _ _ _ _ => ⟨rfl, rfl⟩)
theorem ef_st1 (m : MethodId) (oe : Addr) : entryFrame m #[(.ref oe)] 1 = mkF m 0 #[.val (.ref oe)] [] := by first | (simp [entryFrame, mkF, argsToLocals, Value.category]; done) | rfl
theorem d_prog_5_method_4_13 : decode prog_5_method_4_code 13 = .ok (.aload_n 0, 1) := by decide +kernel
theorem d_prog_5_method_4_14 : decode prog_5_method_4_code 14 = .ok (.getfield 7, 3) := by decide +kernel
theorem d_prog_5_method_4_17 : decode prog_5_method_4_code 17 = .ok (.invokestatic 22, 3) := by decide +kernel
theorem pd__28I_29Ljava_2futil_2fOptionalInt_3b : parseMethodDescriptor "(I)Ljava/util/OptionalInt;" = some ⟨[.int], some (.object "java/util/OptionalInt")⟩ := by decide +kernel
set_option maxRecDepth 65536 in
set_option maxHeartbeats 40000000 in
theorem m_st1 (l : Launch) (Z : State) (a0 : Array Value) (hw : ∀ d ∈ tables_1, d.before a0 Z = true) (h0 : Heap) (n0 : Nat) (Z0 : n0 ≤ h0.size) (oe : Addr) (E_o : Exa Z h0 oe "com/example/pollster/pollster/recipient/TransmitterException") (x : Int32) (hx : ¬ x = 0) (F_s : Fld Z h0 oe "com/example/pollster/pollster/recipient/TransmitterException" "status" "I" (.int x)) :
    Met l Z [] (⟨"com/example/pollster/pollster/recipient/TransmitterException", "status", "()Ljava/util/OptionalInt;"⟩ : MethodName) prog_5_method_4_code 1 (some (.object "java/util/OptionalInt")) ({ frames := 3, cells := 1, slots := 2, locals := 60 } : Room) #[(.ref oe)] h0 n0 (fun v h => ∃ o : Addr, v = some (.ref o) ∧ h0.size ≤ o ∧ Keep h0 h [] ∧ Exa Z h o "java/util/OptionalInt" ∧ Fld Z h o "java/util/OptionalInt" "isPresent" "Z" (.int (1 : Int32)) ∧ Fld Z h o "java/util/OptionalInt" "value" "I" (.int x)) := by
  refine Met.of (plainFor_of_name pn_com_example_pollster_pollster_recipient_TransmitterException) ?_
  intro p e s m below meth c F K
  refine Go.cast (ef_st1 m oe) ?_
  refine Go.aloadN K d_prog_5_method_4_0 rfl rfl (pc' := 1) rfl ?_
  refine Go.getF K (host := "") (Or.inl (hw _ (List.mem_of_getElem? (i := 84) rfl))) Via.refl F_s d_prog_5_method_4_1 (pc' := 4) rfl ?_
  refine Go.ifc K d_prog_5_method_4_4 (by decide) (pcT := 13) (pcF := 7) (by decide) rfl (fun h4 => ?_) (fun h4 => ?_)
  · replace h4 : ¬ x = 0 := h4
    refine Go.aloadN K d_prog_5_method_4_13 rfl rfl (pc' := 14) rfl ?_
    refine Go.getF K (host := "") (Or.inl (hw _ (List.mem_of_getElem? (i := 84) rfl))) Via.refl F_s d_prog_5_method_4_14 (pc' := 17) rfl ?_
    refine Go.callS K (y := (⟨"java/util/OptionalInt", "of", "(I)Ljava/util/OptionalInt;"⟩ : MethodName)) (W := 0) (kc := 1) (nc := 2) (mvT K.cz (hw _ (List.mem_of_getElem? (i := 106) rfl))) (mvT K.cz (hw _ (List.mem_of_getElem? (i := 107) rfl))) (mvT K.cz (hw _ (List.mem_of_getElem? (i := 93) rfl))) (mvT K.cz (hw _ (List.mem_of_getElem? (i := 108) rfl))) (by decide) ((m_oo l Z a0 hw h0 n0 Z0 x).pays (W := 0) K.cz (hw _ (List.mem_of_getElem? (i := 108) rfl)) (hw _ (List.mem_of_getElem? (i := 93) rfl)) (by decide) (by decide)) rfl (argsL := [(.int x)]) (rest := []) (lenOf pd__28I_29Ljava_2futil_2fOptionalInt_3b rfl) rfl (Nat.le_of_ble_eq_true rfl) (by decide) (by decide) frOf grOf d_prog_5_method_4_17 (pc' := 20) rfl ?_
    rintro v472 h470 Lc471 ⟨⟨⟨o, rfl, hle, Kq, Eq, Fp, Fv⟩, -⟩, -⟩
    show Go p l e _ _ m _ below meth c _ _ _ _ h470 _ _ (mkF m 20 #[.val (.ref oe)] [(.ref o)])
    exact Go.retA K rfl rfl rfl (by decide) (by decide) d_prog_5_method_4_20 (fun _ _ _ _ => ⟨o, rfl, hle, Kq, Eq, Fp, Fv⟩)
  · replace h4 : ¬ (¬ x = 0) := h4
    exact absurd (Decidable.not_not.mp h4) hx
theorem ef_law (m : MethodId) (p0 : Int32) (p1 : Int32) (p2 : Int32) : entryFrame m #[(.int p0), (.int p1), (.int p2)] maxLocals = mkF m 0 #[.val (.int p0), .val (.int p1), .val (.int p2), .unset, .unset, .unset, .unset, .unset, .unset] [] := by first | (simp [entryFrame, mkF, argsToLocals, Value.category, maxLocals]; done) | rfl
theorem pd__28_5bC_29V : parseMethodDescriptor "([C)V" = some ⟨[(.array .char)], none⟩ := by decide +kernel
theorem pd__28_29Z : parseMethodDescriptor "()Z" = some ⟨[], some .boolean⟩ := by decide +kernel
theorem pd__28Ljava_2flang_2fString_3bI_29V : parseMethodDescriptor "(Ljava/lang/String;I)V" = some ⟨[(.object "java/lang/String"), .int], none⟩ := by decide +kernel
theorem pd__28_29I : parseMethodDescriptor "()I" = some ⟨[], some .int⟩ := by decide +kernel
theorem pn_com_example_pollster_pollster_recipient_TransmitterExceptionStatusPinLaw : plainName "com/example/pollster/pollster/recipient/TransmitterExceptionStatusPinLaw" = true := by first | (simp [plainName, overriddenIn]; done) | decide +kernel
set_option maxRecDepth 65536 in
set_option maxHeartbeats 40000000 in
theorem m_law (l : Launch) (Z : State) (a0 : Array Value) (hw : ∀ d ∈ tables_1, d.before a0 Z = true) (h0 : Heap) (n0 : Nat) (Z0 : n0 ≤ h0.size) (p0 : Int32) (p1 : Int32) (p2 : Int32) (zc : Int32) (S1 : Sta Z Z.heap "java/lang/String" "COMPACT_STRINGS" "Z" (.int zc)) (P1 : ¬ (zc = (0 : Int32))) (eo : Addr) (SE : Sta Z Z.heap "java/util/OptionalInt" "EMPTY" "Ljava/util/OptionalInt;" (.ref eo)) (E_eo : Exa Z h0 eo "java/util/OptionalInt") (F_eo : Fld Z h0 eo "java/util/OptionalInt" "isPresent" "Z" (.int (0 : Int32))) (hl : l.stackTraces = true) (us ss : Addr) (SU : Sta Z Z.heap "java/lang/Throwable" "UNASSIGNED_STACK" "[Ljava/lang/StackTraceElement;" (.ref us)) (SS : Sta Z Z.heap "java/lang/Throwable" "SUPPRESSED_SENTINEL" "Ljava/util/List;" (.ref ss)) (od : Old Z n0 h0) :
    MetK l Z tables_1 x code maxLocals ret room_1 #[(.int p0), (.int p1), (.int p2)] h0 n0 (fun v _ => v = some (.int 1)) := by
  refine MetK.of (plainFor_of_name pn_com_example_pollster_pollster_recipient_TransmitterExceptionStatusPinLaw) ?_
  intro p e s m below meth c F hsh hTK hBl K
  have hws : ∀ d ∈ StrChars.Road.words, d.before a0 Z = true := fun d hd => hw d ((by decide +kernel : ∀ d ∈ StrChars.Road.words, d ∈ tables_1) d hd)
  refine Go.cast (ef_law m p0 p1 p2) ?_
  refine Go.iconst K (v := 1) at_0 rfl (pc' := 1) rfl ?_
  refine Go.newP K (hw _ (List.mem_of_getElem? (i := 0) rfl)) (by decide) 1 (by decide) (by decide) (by decide) (by decide) at_1 (pc' := 3) rfl ?_
  intro h473 b kA_b eq475 E474 V_b
  have ne476 : eo ≠ b := own_ne E_eo.lt (Nat.le_of_eq eq475.symm)
  have g_b : n0 ≤ b := Nat.le_trans Z0 (Nat.le_of_eq eq475.symm)
  have f479 := E_eo.ext E474
  have f480 := F_eo.ext E474
  have od481 := od.ext E474
  have z482 := Nat.le_trans Z0 E474.1
  have V483 : Arv Z h473 b kA_b .char (1 : Int32) [(.int (0 : Int32))] (.int (0 : Int32)) := V_b.pad (pad_rep [] (.int (0 : Int32)) 1)
  refine Go.dup K at_3 rfl (pc' := 4) rfl ?_
  refine Go.iconst K (v := 0) at_4 rfl (pc' := 5) rfl ?_
  refine Go.iloadN K at_5 rfl (pc' := 6) rfl ?_
  refine Go.sipush K (v := 255) at_6 rfl (pc' := 9) rfl ?_
  refine Go.iand K at_9 (pc' := 10) rfl ?_
  refine Go.i2c K at_10 (pc' := 11) rfl ?_
  refine Go.castore K V483 0 rfl (Nat.le_of_ble_eq_true rfl) ⟨by decide, by decide⟩ g_b at_11 (pc' := 12) rfl ?_
  intro h484 K485 V486
  replace V486 : Arv Z h484 b kA_b .char (1 : Int32) [(.int (nar .char ((p2 &&& (255 : Int32)).toUInt32.toUInt16.toUInt32.toInt32)))] (.int (0 : Int32)) := V486
  have f487 := f479.keep K485
  have f488 := f480.keep K485 (ninS ne476 nin0)
  have od490 := od481.keep K485 (allS g_b all0)
  have z491 := Nat.le_trans z482 K485.1
  refine Go.astoreN K at_12 rfl (Ls' := #[.val (.int p0), .val (.int p1), .val (.int p2), .val (.ref b), .unset, .unset, .unset, .unset, .unset]) rfl (pc' := 13) rfl ?_
  refine Go.newO K (hw _ (List.mem_of_getElem? (i := 1) rfl)) (hw _ (List.mem_of_getElem? (i := 2) rfl)) (hw _ (List.mem_of_getElem? (i := 3) rfl)) (by decide) (by decide) at_13 (pc' := 16) rfl ?_
  intro h492 sr eq495 E493 E_sr D494
  have ne496 : eo ≠ sr := own_ne f487.lt (Nat.le_of_eq eq495.symm)
  have ne497 : b ≠ sr := own_ne V486.lt (Nat.le_of_eq eq495.symm)
  have g_sr : n0 ≤ sr := Nat.le_trans z491 (Nat.le_of_eq eq495.symm)
  have f501 := f487.ext E493
  have f502 := f488.ext E493
  have f503 := V486.ext E493
  have od504 := od490.ext E493
  have z505 := Nat.le_trans z491 E493.1
  have f506 : Fld Z h492 sr "java/lang/String" "coder" "B" (.int (0 : Int32)) := D494 (Or.inr (hw _ (List.mem_of_getElem? (i := 27) rfl))) (ty := .byte) (by decide)
  have f507 : Fld Z h492 sr "java/lang/String" "value" "[B" .null := D494 (Or.inr (hw _ (List.mem_of_getElem? (i := 29) rfl))) (ty := (.array .byte)) (by decide)
  refine Go.dup K at_16 rfl (pc' := 17) rfl ?_
  refine Go.aloadN K at_17 rfl rfl (pc' := 18) rfl ?_
  have hp : ∀ c ∈ ([(nar .char ((p2 &&& (255 : Int32)).toUInt32.toUInt16.toUInt32.toInt32))] : List Int32), ¬ c < 0 ∧ ¬ (255 : Int32) < c := by
    intro c hc
    obtain rfl := List.mem_singleton.mp hc
    exact own_and255 p2
  refine Go.callC K (y := (⟨"java/lang/String", "<init>", "([C)V"⟩ : MethodName)) (W := 1) (kc := 1) (nc := 1) (a := sr) rfl (mvT K.cz (hw _ (List.mem_of_getElem? (i := 4) rfl))) (mvT K.cz (hw _ (List.mem_of_getElem? (i := 5) rfl))) (mvT K.cz (hw _ (List.mem_of_getElem? (i := 6) rfl))) (by decide) (paysNew (W := 1) K.cz hws (kI := 4) (hw _ (List.mem_of_getElem? (i := 2) rfl)) (cs := ([(nar .char ((p2 &&& (255 : Int32)).toUInt32.toUInt16.toUInt32.toInt32))] : List Int32)) (bs := ([(nar .char ((p2 &&& (255 : Int32)).toUInt32.toUInt16.toUInt32.toInt32))] : List Int32).map (fun c => c.toInt8.toInt32)) (n := 1) g_sr z505 E_sr f507 f506 f503 (S1.ext od504.2) P1 rfl rfl (by decide) (by decide) hp rfl (by decide) (by decide)) rfl (argsL := [(.ref b)]) (rest := [(.ref sr)]) (lenOf pd__28_5bC_29V rfl) rfl (Nat.le_of_ble_eq_true rfl) (by decide) (by decide) (fun v h' L q => q.2.1) (fun v h' L q => q.2.2.1.1) at_18 (pc' := 21) rfl ?_
  rintro v510 h508 Lc509 ⟨rfl, Nq, Kq, Eq, Cq, t, kb, ht0, ht1, htne, Vq, Aq⟩
  have f511 := f501.keep Kq
  have f512 := f502.keep Kq (ninS ne496 nin0)
  have f513 := f503.keep Kq (ninS ne497 nin0)
  have f514 := E_sr.keep Kq
  have od517 := od504.keep Kq (allS g_sr all0)
  have z518 := Nat.le_trans z505 Kq.1
  show Go p l e _ _ m _ below meth c _ _ _ _ h508 _ _ (mkF m 21 #[.val (.int p0), .val (.int p1), .val (.int p2), .val (.ref b), .unset, .unset, .unset, .unset, .unset] [(.ref sr)])
  refine Go.astore K at_21 rfl (Ls' := #[.val (.int p0), .val (.int p1), .val (.int p2), .val (.ref b), .val (.ref sr), .unset, .unset, .unset, .unset]) rfl (pc' := 23) rfl ?_
  refine Go.iloadN K at_23 rfl (pc' := 24) rfl ?_
  refine Go.iconst K (v := 3) at_24 rfl (pc' := 25) rfl ?_
  refine Go.iand K at_25 (pc' := 26) rfl ?_
  refine Go.istore K at_26 (Ls' := #[.val (.int p0), .val (.int p1), .val (.int p2), .val (.ref b), .val (.ref sr), .val (.int (p1 &&& (3 : Int32))), .unset, .unset, .unset]) rfl (pc' := 28) rfl ?_
  refine Go.iload K at_28 rfl (pc' := 30) rfl ?_
  refine Go.ifc K at_30 (by decide) (pcT := 47) (pcF := 33) (by decide) rfl (fun h30 => ?_) (fun h30 => ?_)
  · replace h30 : ¬ (p1 &&& (3 : Int32)) = 0 := h30
    refine Go.iload K at_47 rfl (pc' := 49) rfl ?_
    refine Go.iconst K (v := 1) at_49 rfl (pc' := 50) rfl ?_
    refine Go.icmp K at_50 (by decide) (pcT := 76) (pcF := 53) (by decide) rfl (fun h50 => ?_) (fun h50 => ?_)
    · replace h50 : ¬ (p1 &&& (3 : Int32)) = (1 : Int32) := h50
      refine Go.newU K (hw _ (List.mem_of_getElem? (i := 30) rfl)) (hw _ (List.mem_of_getElem? (i := 31) rfl)) (hw _ (List.mem_of_getElem? (i := 32) rfl)) (by decide) (by decide) at_76 (pc' := 79) rfl ?_
      intro h684 ea eq687 E685 E_ea D686 U_ea
      have ne688 : eo ≠ ea := own_ne f511.lt (Nat.le_of_eq eq687.symm)
      have ne689 : sr ≠ ea := own_ne f514.lt (Nat.le_of_eq eq687.symm)
      have ne690 : b ≠ ea := own_ne f513.lt (Nat.le_of_eq eq687.symm)
      have g_ea : n0 ≤ ea := Nat.le_trans z518 (Nat.le_of_eq eq687.symm)
      have f695 := f511.ext E685
      have f696 := f512.ext E685
      have f697 := f513.ext E685
      have f698 := f514.ext E685
      have od699 := od517.ext E685
      have z700 := Nat.le_trans z518 E685.1
      have f701 : Fld Z h684 ea "java/lang/Throwable" "cause" "Ljava/lang/Throwable;" .null := D686 (Or.inl (hw _ (List.mem_of_getElem? (i := 49) rfl))) (ty := (.object "java/lang/Throwable")) (by decide)
      have f702 : Fld Z h684 ea "java/lang/Throwable" "stackTrace" "[Ljava/lang/StackTraceElement;" .null := D686 (Or.inl (hw _ (List.mem_of_getElem? (i := 52) rfl))) (ty := (.array (.object "java/lang/StackTraceElement"))) (by decide)
      have f703 : Fld Z h684 ea "java/lang/Throwable" "suppressedExceptions" "Ljava/util/List;" .null := D686 (Or.inl (hw _ (List.mem_of_getElem? (i := 55) rfl))) (ty := (.object "java/util/List")) (by decide)
      have f704 : Fld Z h684 ea "java/lang/Throwable" "detailMessage" "Ljava/lang/String;" .null := D686 (Or.inl (hw _ (List.mem_of_getElem? (i := 79) rfl))) (ty := (.object "java/lang/String")) (by decide)
      have f705 : Fld Z h684 ea "java/lang/Throwable" "backtrace" "Ljava/lang/Object;" .null := D686 (Or.inl (hw _ (List.mem_of_getElem? (i := 80) rfl))) (ty := (.object "java/lang/Object")) (by decide)
      have f706 : Fld Z h684 ea "java/lang/Throwable" "depth" "I" (.int (0 : Int32)) := D686 (Or.inl (hw _ (List.mem_of_getElem? (i := 81) rfl))) (ty := .int) (by decide)
      have f707 : Fld Z h684 ea "com/example/pollster/pollster/recipient/TransmitterException" "status" "I" (.int (0 : Int32)) := D686 (Or.inr (hw _ (List.mem_of_getElem? (i := 85) rfl))) (ty := .int) (by decide)
      refine Go.dup K at_79 rfl (pc' := 80) rfl ?_
      refine Go.aload K at_80 rfl rfl (pc' := 82) rfl ?_
      refine Go.iloadN K at_82 rfl (pc' := 83) rfl ?_
      refine Go.callC K (y := (⟨"com/example/pollster/pollster/recipient/TransmitterException", "<init>", "(Ljava/lang/String;I)V"⟩ : MethodName)) (W := 1) (kc := 1) (nc := 2752) (a := ea) rfl (mvT K.cz (hw _ (List.mem_of_getElem? (i := 33) rfl))) (mvT K.cz (hw _ (List.mem_of_getElem? (i := 34) rfl))) (mvT K.cz (hw _ (List.mem_of_getElem? (i := 35) rfl))) (by decide) ((m_te3 l Z a0 hw h684 n0 z700 ea sr p0 hl us ss SU SS od699 E_ea U_ea f705 f701 f702 f703 f704 f707 g_ea).pays (W := 1) K.cz (hw _ (List.mem_of_getElem? (i := 35) rfl)) (hw _ (List.mem_of_getElem? (i := 32) rfl)) (by decide) (by decide) hTK hBl) rfl (argsL := [(.ref sr), (.int p0)]) (rest := [(.ref ea)]) (lenOf pd__28Ljava_2flang_2fString_3bI_29V rfl) rfl (Nat.le_of_ble_eq_true rfl) (by decide) (by decide) frOf grOf at_83 (pc' := 86) rfl ?_
      rintro v710 h708 Lc709 ⟨⟨⟨rfl, K_ea, E2_ea, S_ea⟩, -⟩, -⟩
      have f711 := f695.keep K_ea
      have f712 := f696.keep K_ea (ninS ne688 nin0)
      have f713 := f697.keep K_ea (ninS ne690 nin0)
      have f714 := f698.keep K_ea
      have f715 := E_ea.keep K_ea
      have od723 := od699.keep K_ea (allS g_ea all0)
      have z724 := Nat.le_trans z700 K_ea.1
      show Go p l e _ _ m _ below meth c _ _ _ _ h708 _ _ (mkF m 86 #[.val (.int p0), .val (.int p1), .val (.int p2), .val (.ref b), .val (.ref sr), .val (.int (p1 &&& (3 : Int32))), .unset, .unset, .unset] [(.ref ea)])
      refine Go.astore K at_86 rfl (Ls' := #[.val (.int p0), .val (.int p1), .val (.int p2), .val (.ref b), .val (.ref sr), .val (.int (p1 &&& (3 : Int32))), .val (.ref ea), .unset, .unset]) rfl (pc' := 88) rfl ?_
      refine Go.iload K at_88 rfl (pc' := 90) rfl ?_
      refine Go.iconst K (v := 2) at_90 rfl (pc' := 91) rfl ?_
      refine Go.icmp K at_91 (by decide) (pcT := 102) (pcF := 94) (by decide) rfl (fun h91 => ?_) (fun h91 => ?_)
      · replace h91 : (p1 &&& (3 : Int32)) < (2 : Int32) := h91
        exact absurd h91 (own_k4 _ h30 h50)
      · replace h91 : ¬ ((p1 &&& (3 : Int32)) < (2 : Int32)) := h91
        refine Go.iloadN K at_94 rfl (pc' := 95) rfl ?_
        refine Go.ifc K at_95 (by decide) (pcT := 102) (pcF := 98) (by decide) rfl (fun h95 => ?_) (fun h95 => ?_)
        · replace h95 : p0 = 0 := h95
          have S_z := S_ea
          rw [h95] at S_z
          refine Go.iconst K (v := 0) at_102 rfl (pc' := 103) rfl ?_
          refine Go.istore K at_103 (Ls' := #[.val (.int p0), .val (.int p1), .val (.int p2), .val (.ref b), .val (.ref sr), .val (.int (p1 &&& (3 : Int32))), .val (.ref ea), .val (.int (0 : Int32)), .unset]) rfl (pc' := 105) rfl ?_
          refine Go.aload K at_105 rfl rfl (pc' := 107) rfl ?_
          refine Go.callV K (y := (⟨"com/example/pollster/pollster/recipient/TransmitterException", "status", "()Ljava/util/OptionalInt;"⟩ : MethodName)) (z := (⟨"com/example/pollster/pollster/recipient/TransmitterException", "status", "()Ljava/util/OptionalInt;"⟩ : MethodName)) (W := 0) (kc := 0) (nc := 0) (a := ea) (mvT K.cz (hw _ (List.mem_of_getElem? (i := 86) rfl))) (mvT K.cz (hw _ (List.mem_of_getElem? (i := 87) rfl))) (notFace_of_selects (args := #[]) (mvT K.cz (hw _ (List.mem_of_getElem? (i := 89) rfl)))) (mvT K.cz (hw _ (List.mem_of_getElem? (i := 89) rfl))) (mvT K.cz (hw _ (List.mem_of_getElem? (i := 88) rfl))) (by decide) E2_ea ((m_st0 l Z a0 hw h708 n0 z724 ea E2_ea S_z od723 eo SE).pays (W := 0) K.cz (hw _ (List.mem_of_getElem? (i := 90) rfl)) (hw _ (List.mem_of_getElem? (i := 32) rfl)) (by decide) (by decide)) rfl (argsL := []) (rest := []) (lenOf pd__28_29Ljava_2futil_2fOptionalInt_3b rfl) rfl (Nat.le_of_ble_eq_true rfl) (by decide) (by decide) frOf grOf at_107 (pc' := 110) rfl ?_
          rintro v748 h746 Lc747 ⟨⟨⟨rfl, eh⟩, -⟩, -⟩
          obtain rfl := eh
          show Go p l e _ _ m _ below meth c _ _ _ _ h708 _ _ (mkF m 110 #[.val (.int p0), .val (.int p1), .val (.int p2), .val (.ref b), .val (.ref sr), .val (.int (p1 &&& (3 : Int32))), .val (.ref ea), .val (.int (0 : Int32)), .unset] [(.ref eo)])
          refine Go.astore K at_110 rfl (Ls' := #[.val (.int p0), .val (.int p1), .val (.int p2), .val (.ref b), .val (.ref sr), .val (.int (p1 &&& (3 : Int32))), .val (.ref ea), .val (.int (0 : Int32)), .val (.ref eo)]) rfl (pc' := 112) rfl ?_
          refine Go.aload K at_112 rfl rfl (pc' := 114) rfl ?_
          refine Go.ifnonnullR K at_114 (pc' := 119) (by decide) (by decide) ?_
          refine Go.iload K at_119 rfl (pc' := 121) rfl ?_
          refine Go.ifc K at_121 (by decide) (pcT := 138) (pcF := 124) (by decide) rfl (fun h121 => ?_) (fun h121 => ?_)
          · replace h121 : ¬ (0 : Int32) = 0 := h121
            exact absurd rfl h121
          · replace h121 : ¬ (¬ (0 : Int32) = 0) := h121
            refine Go.aload K at_124 rfl rfl (pc' := 126) rfl ?_
            refine Go.callV K (y := (⟨"java/util/OptionalInt", "isPresent", "()Z"⟩ : MethodName)) (z := (⟨"java/util/OptionalInt", "isPresent", "()Z"⟩ : MethodName)) (W := 0) (kc := 0) (nc := 0) (a := eo) (mvT K.cz (hw _ (List.mem_of_getElem? (i := 96) rfl))) (mvT K.cz (hw _ (List.mem_of_getElem? (i := 97) rfl))) (notFace_of_selects (args := #[]) (mvT K.cz (hw _ (List.mem_of_getElem? (i := 99) rfl)))) (mvT K.cz (hw _ (List.mem_of_getElem? (i := 99) rfl))) (mvT K.cz (hw _ (List.mem_of_getElem? (i := 98) rfl))) (by decide) f711 ((m_op0 l Z a0 hw h708 n0 z724 eo f711 f712).pays (W := 0) K.cz (hw _ (List.mem_of_getElem? (i := 100) rfl)) (hw _ (List.mem_of_getElem? (i := 93) rfl)) (by decide) (by decide)) rfl (argsL := []) (rest := []) (lenOf pd__28_29Z rfl) rfl (Nat.le_of_ble_eq_true rfl) (by decide) (by decide) frOf grOf at_126 (pc' := 129) rfl ?_
            rintro v751 h749 Lc750 ⟨⟨⟨rfl, eh⟩, -⟩, -⟩
            obtain rfl := eh
            show Go p l e _ _ m _ below meth c _ _ _ _ h708 _ _ (mkF m 129 #[.val (.int p0), .val (.int p1), .val (.int p2), .val (.ref b), .val (.ref sr), .val (.int (p1 &&& (3 : Int32))), .val (.ref ea), .val (.int (0 : Int32)), .val (.ref eo)] [(.int (0 : Int32))])
            refine Go.ifc K at_129 (by decide) (pcT := 136) (pcF := 132) (by decide) rfl (fun h129 => ?_) (fun h129 => ?_)
            · replace h129 : ¬ (0 : Int32) = 0 := h129
              exact absurd rfl h129
            · replace h129 : ¬ (¬ (0 : Int32) = 0) := h129
              refine Go.iconst K (v := 1) at_132 rfl (pc' := 133) rfl ?_
              refine Go.goto K at_133 (pc' := 137) (by decide) (by decide) ?_
              exact Go.retN K (by simp) (by decide) (by decide) at_137 (fun _ _ _ _ => rfl)
        · replace h95 : ¬ (p0 = 0) := h95
          have hs0 : ¬ p0 = 0 := h95
          refine Go.iconst K (v := 1) at_98 rfl (pc' := 99) rfl ?_
          refine Go.goto K at_99 (pc' := 103) (by decide) (by decide) ?_
          refine Go.istore K at_103 (Ls' := #[.val (.int p0), .val (.int p1), .val (.int p2), .val (.ref b), .val (.ref sr), .val (.int (p1 &&& (3 : Int32))), .val (.ref ea), .val (.int (1 : Int32)), .unset]) rfl (pc' := 105) rfl ?_
          refine Go.aload K at_105 rfl rfl (pc' := 107) rfl ?_
          refine Go.callV K (y := (⟨"com/example/pollster/pollster/recipient/TransmitterException", "status", "()Ljava/util/OptionalInt;"⟩ : MethodName)) (z := (⟨"com/example/pollster/pollster/recipient/TransmitterException", "status", "()Ljava/util/OptionalInt;"⟩ : MethodName)) (W := 0) (kc := 1) (nc := 2) (a := ea) (mvT K.cz (hw _ (List.mem_of_getElem? (i := 86) rfl))) (mvT K.cz (hw _ (List.mem_of_getElem? (i := 87) rfl))) (notFace_of_selects (args := #[]) (mvT K.cz (hw _ (List.mem_of_getElem? (i := 89) rfl)))) (mvT K.cz (hw _ (List.mem_of_getElem? (i := 89) rfl))) (mvT K.cz (hw _ (List.mem_of_getElem? (i := 88) rfl))) (by decide) E2_ea ((m_st1 l Z a0 hw h708 n0 z724 ea E2_ea p0 hs0 S_ea).pays (W := 0) K.cz (hw _ (List.mem_of_getElem? (i := 90) rfl)) (hw _ (List.mem_of_getElem? (i := 32) rfl)) (by decide) (by decide)) rfl (argsL := []) (rest := []) (lenOf pd__28_29Ljava_2futil_2fOptionalInt_3b rfl) rfl (Nat.le_of_ble_eq_true rfl) (by decide) (by decide) frOf grOf at_107 (pc' := 110) rfl ?_
          rintro v727 h725 Lc726 ⟨⟨⟨oi, rfl, hle_oi, K_oi, E_oi, Fp, Fv⟩, -⟩, -⟩
          have ne728 : eo ≠ oi := own_ne f711.lt hle_oi
          have ne729 : ea ≠ oi := own_ne E2_ea.lt hle_oi
          have ne730 : sr ≠ oi := own_ne f714.lt hle_oi
          have ne731 : b ≠ oi := own_ne f713.lt hle_oi
          have f732 := f711.keep K_oi
          have f733 := f712.keep K_oi nin0
          have f734 := f713.keep K_oi nin0
          have f735 := f714.keep K_oi
          have f736 := E2_ea.keep K_oi
          have f737 := S_ea.keep K_oi nin0
          have od738 := od723.keep K_oi all0
          have z739 := Nat.le_trans z724 K_oi.1
          show Go p l e _ _ m _ below meth c _ _ _ _ h725 _ _ (mkF m 110 #[.val (.int p0), .val (.int p1), .val (.int p2), .val (.ref b), .val (.ref sr), .val (.int (p1 &&& (3 : Int32))), .val (.ref ea), .val (.int (1 : Int32)), .unset] [(.ref oi)])
          refine Go.astore K at_110 rfl (Ls' := #[.val (.int p0), .val (.int p1), .val (.int p2), .val (.ref b), .val (.ref sr), .val (.int (p1 &&& (3 : Int32))), .val (.ref ea), .val (.int (1 : Int32)), .val (.ref oi)]) rfl (pc' := 112) rfl ?_
          refine Go.aload K at_112 rfl rfl (pc' := 114) rfl ?_
          refine Go.ifnonnullR K at_114 (pc' := 119) (by decide) (by decide) ?_
          refine Go.iload K at_119 rfl (pc' := 121) rfl ?_
          refine Go.ifc K at_121 (by decide) (pcT := 138) (pcF := 124) (by decide) rfl (fun h121 => ?_) (fun h121 => ?_)
          · replace h121 : ¬ (1 : Int32) = 0 := h121
            refine Go.aload K at_138 rfl rfl (pc' := 140) rfl ?_
            refine Go.callV K (y := (⟨"java/util/OptionalInt", "isPresent", "()Z"⟩ : MethodName)) (z := (⟨"java/util/OptionalInt", "isPresent", "()Z"⟩ : MethodName)) (W := 0) (kc := 0) (nc := 0) (a := oi) (mvT K.cz (hw _ (List.mem_of_getElem? (i := 96) rfl))) (mvT K.cz (hw _ (List.mem_of_getElem? (i := 97) rfl))) (notFace_of_selects (args := #[]) (mvT K.cz (hw _ (List.mem_of_getElem? (i := 99) rfl)))) (mvT K.cz (hw _ (List.mem_of_getElem? (i := 99) rfl))) (mvT K.cz (hw _ (List.mem_of_getElem? (i := 98) rfl))) (by decide) E_oi ((m_op1 l Z a0 hw h725 n0 z739 oi E_oi Fp).pays (W := 0) K.cz (hw _ (List.mem_of_getElem? (i := 100) rfl)) (hw _ (List.mem_of_getElem? (i := 93) rfl)) (by decide) (by decide)) rfl (argsL := []) (rest := []) (lenOf pd__28_29Z rfl) rfl (Nat.le_of_ble_eq_true rfl) (by decide) (by decide) frOf grOf at_140 (pc' := 143) rfl ?_
            rintro v742 h740 Lc741 ⟨⟨⟨rfl, eh⟩, -⟩, -⟩
            obtain rfl := eh
            show Go p l e _ _ m _ below meth c _ _ _ _ h725 _ _ (mkF m 143 #[.val (.int p0), .val (.int p1), .val (.int p2), .val (.ref b), .val (.ref sr), .val (.int (p1 &&& (3 : Int32))), .val (.ref ea), .val (.int (1 : Int32)), .val (.ref oi)] [(.int (1 : Int32))])
            refine Go.ifc K at_143 (by decide) (pcT := 159) (pcF := 146) (by decide) rfl (fun h143 => ?_) (fun h143 => ?_)
            · replace h143 : (1 : Int32) = 0 := h143
              exact absurd h143 (by decide)
            · replace h143 : ¬ ((1 : Int32) = 0) := h143
              refine Go.aload K at_146 rfl rfl (pc' := 148) rfl ?_
              refine Go.callV K (y := (⟨"java/util/OptionalInt", "getAsInt", "()I"⟩ : MethodName)) (z := (⟨"java/util/OptionalInt", "getAsInt", "()I"⟩ : MethodName)) (W := 0) (kc := 0) (nc := 0) (a := oi) (mvT K.cz (hw _ (List.mem_of_getElem? (i := 118) rfl))) (mvT K.cz (hw _ (List.mem_of_getElem? (i := 119) rfl))) (notFace_of_selects (args := #[]) (mvT K.cz (hw _ (List.mem_of_getElem? (i := 121) rfl)))) (mvT K.cz (hw _ (List.mem_of_getElem? (i := 121) rfl))) (mvT K.cz (hw _ (List.mem_of_getElem? (i := 120) rfl))) (by decide) E_oi ((m_og l Z a0 hw h725 n0 z739 oi p0 E_oi Fp Fv).pays (W := 0) K.cz (hw _ (List.mem_of_getElem? (i := 122) rfl)) (hw _ (List.mem_of_getElem? (i := 93) rfl)) (by decide) (by decide)) rfl (argsL := []) (rest := []) (lenOf pd__28_29I rfl) rfl (Nat.le_of_ble_eq_true rfl) (by decide) (by decide) frOf grOf at_148 (pc' := 151) rfl ?_
              rintro v745 h743 Lc744 ⟨⟨⟨rfl, eh⟩, -⟩, -⟩
              obtain rfl := eh
              show Go p l e _ _ m _ below meth c _ _ _ _ h725 _ _ (mkF m 151 #[.val (.int p0), .val (.int p1), .val (.int p2), .val (.ref b), .val (.ref sr), .val (.int (p1 &&& (3 : Int32))), .val (.ref ea), .val (.int (1 : Int32)), .val (.ref oi)] [(.int p0)])
              refine Go.iloadN K at_151 rfl (pc' := 152) rfl ?_
              refine Go.icmp K at_152 (by decide) (pcT := 159) (pcF := 155) (by decide) rfl (fun h152 => ?_) (fun h152 => ?_)
              · replace h152 : ¬ p0 = p0 := h152
                exact absurd rfl h152
              · replace h152 : ¬ (¬ p0 = p0) := h152
                refine Go.iconst K (v := 1) at_155 rfl (pc' := 156) rfl ?_
                refine Go.goto K at_156 (pc' := 160) (by decide) (by decide) ?_
                exact Go.retN K (by simp) (by decide) (by decide) at_160 (fun _ _ _ _ => rfl)
          · replace h121 : ¬ (¬ (1 : Int32) = 0) := h121
            exact absurd (by decide) h121
    · replace h50 : ¬ (¬ (p1 &&& (3 : Int32)) = (1 : Int32)) := h50
      replace h50 := Decidable.not_not.mp h50
      refine Go.newU K (hw _ (List.mem_of_getElem? (i := 30) rfl)) (hw _ (List.mem_of_getElem? (i := 31) rfl)) (hw _ (List.mem_of_getElem? (i := 32) rfl)) (by decide) (by decide) at_53 (pc' := 56) rfl ?_
      intro h566 eb eq569 E567 E_eb D568 U_eb
      have ne570 : eo ≠ eb := own_ne f511.lt (Nat.le_of_eq eq569.symm)
      have ne571 : sr ≠ eb := own_ne f514.lt (Nat.le_of_eq eq569.symm)
      have ne572 : b ≠ eb := own_ne f513.lt (Nat.le_of_eq eq569.symm)
      have g_eb : n0 ≤ eb := Nat.le_trans z518 (Nat.le_of_eq eq569.symm)
      have f577 := f511.ext E567
      have f578 := f512.ext E567
      have f579 := f513.ext E567
      have f580 := f514.ext E567
      have od581 := od517.ext E567
      have z582 := Nat.le_trans z518 E567.1
      have f583 : Fld Z h566 eb "java/lang/Throwable" "cause" "Ljava/lang/Throwable;" .null := D568 (Or.inl (hw _ (List.mem_of_getElem? (i := 49) rfl))) (ty := (.object "java/lang/Throwable")) (by decide)
      have f584 : Fld Z h566 eb "java/lang/Throwable" "stackTrace" "[Ljava/lang/StackTraceElement;" .null := D568 (Or.inl (hw _ (List.mem_of_getElem? (i := 52) rfl))) (ty := (.array (.object "java/lang/StackTraceElement"))) (by decide)
      have f585 : Fld Z h566 eb "java/lang/Throwable" "suppressedExceptions" "Ljava/util/List;" .null := D568 (Or.inl (hw _ (List.mem_of_getElem? (i := 55) rfl))) (ty := (.object "java/util/List")) (by decide)
      have f586 : Fld Z h566 eb "java/lang/Throwable" "detailMessage" "Ljava/lang/String;" .null := D568 (Or.inl (hw _ (List.mem_of_getElem? (i := 79) rfl))) (ty := (.object "java/lang/String")) (by decide)
      have f587 : Fld Z h566 eb "java/lang/Throwable" "backtrace" "Ljava/lang/Object;" .null := D568 (Or.inl (hw _ (List.mem_of_getElem? (i := 80) rfl))) (ty := (.object "java/lang/Object")) (by decide)
      have f588 : Fld Z h566 eb "java/lang/Throwable" "depth" "I" (.int (0 : Int32)) := D568 (Or.inl (hw _ (List.mem_of_getElem? (i := 81) rfl))) (ty := .int) (by decide)
      have f589 : Fld Z h566 eb "com/example/pollster/pollster/recipient/TransmitterException" "status" "I" (.int (0 : Int32)) := D568 (Or.inr (hw _ (List.mem_of_getElem? (i := 85) rfl))) (ty := .int) (by decide)
      refine Go.dup K at_56 rfl (pc' := 57) rfl ?_
      refine Go.aload K at_57 rfl rfl (pc' := 59) rfl ?_
      refine Go.newU K (hw _ (List.mem_of_getElem? (i := 30) rfl)) (hw _ (List.mem_of_getElem? (i := 31) rfl)) (hw _ (List.mem_of_getElem? (i := 32) rfl)) (by decide) (by decide) at_59 (pc' := 62) rfl ?_
      intro h590 ea eq593 E591 E_ea D592 U_ea
      have ne594 : eo ≠ ea := own_ne f577.lt (Nat.le_of_eq eq593.symm)
      have ne595 : eb ≠ ea := own_ne E_eb.lt (Nat.le_of_eq eq593.symm)
      have ne596 : sr ≠ ea := own_ne f580.lt (Nat.le_of_eq eq593.symm)
      have ne597 : b ≠ ea := own_ne f579.lt (Nat.le_of_eq eq593.symm)
      have g_ea : n0 ≤ ea := Nat.le_trans z582 (Nat.le_of_eq eq593.symm)
      have f611 := f577.ext E591
      have f612 := f578.ext E591
      have f613 := f579.ext E591
      have f614 := f580.ext E591
      have f615 := E_eb.ext E591
      have f616 := U_eb.ext E591
      have f617 := f583.ext E591
      have f618 := f584.ext E591
      have f619 := f585.ext E591
      have f620 := f586.ext E591
      have f621 := f587.ext E591
      have f622 := f588.ext E591
      have f623 := f589.ext E591
      have od624 := od581.ext E591
      have z625 := Nat.le_trans z582 E591.1
      have f626 : Fld Z h590 ea "java/lang/Throwable" "cause" "Ljava/lang/Throwable;" .null := D592 (Or.inl (hw _ (List.mem_of_getElem? (i := 49) rfl))) (ty := (.object "java/lang/Throwable")) (by decide)
      have f627 : Fld Z h590 ea "java/lang/Throwable" "stackTrace" "[Ljava/lang/StackTraceElement;" .null := D592 (Or.inl (hw _ (List.mem_of_getElem? (i := 52) rfl))) (ty := (.array (.object "java/lang/StackTraceElement"))) (by decide)
      have f628 : Fld Z h590 ea "java/lang/Throwable" "suppressedExceptions" "Ljava/util/List;" .null := D592 (Or.inl (hw _ (List.mem_of_getElem? (i := 55) rfl))) (ty := (.object "java/util/List")) (by decide)
      have f629 : Fld Z h590 ea "java/lang/Throwable" "detailMessage" "Ljava/lang/String;" .null := D592 (Or.inl (hw _ (List.mem_of_getElem? (i := 79) rfl))) (ty := (.object "java/lang/String")) (by decide)
      have f630 : Fld Z h590 ea "java/lang/Throwable" "backtrace" "Ljava/lang/Object;" .null := D592 (Or.inl (hw _ (List.mem_of_getElem? (i := 80) rfl))) (ty := (.object "java/lang/Object")) (by decide)
      have f631 : Fld Z h590 ea "java/lang/Throwable" "depth" "I" (.int (0 : Int32)) := D592 (Or.inl (hw _ (List.mem_of_getElem? (i := 81) rfl))) (ty := .int) (by decide)
      have f632 : Fld Z h590 ea "com/example/pollster/pollster/recipient/TransmitterException" "status" "I" (.int (0 : Int32)) := D592 (Or.inr (hw _ (List.mem_of_getElem? (i := 85) rfl))) (ty := .int) (by decide)
      refine Go.dup K at_62 rfl (pc' := 63) rfl ?_
      refine Go.aload K at_63 rfl rfl (pc' := 65) rfl ?_
      refine Go.callC K (y := (⟨"com/example/pollster/pollster/recipient/TransmitterException", "<init>", "(Ljava/lang/String;)V"⟩ : MethodName)) (W := 4) (kc := 1) (nc := 2752) (a := ea) rfl (mvT K.cz (hw _ (List.mem_of_getElem? (i := 103) rfl))) (mvT K.cz (hw _ (List.mem_of_getElem? (i := 104) rfl))) (mvT K.cz (hw _ (List.mem_of_getElem? (i := 105) rfl))) (by decide) ((m_te1 l Z a0 hw h590 n0 z625 ea sr  hl us ss SU SS od624 E_ea U_ea f630 f626 f627 f628 f629 f632 g_ea).pays (W := 4) K.cz (hw _ (List.mem_of_getElem? (i := 105) rfl)) (hw _ (List.mem_of_getElem? (i := 32) rfl)) (by decide) (by decide) hTK hBl) rfl (argsL := [(.ref sr)]) (rest := [(.ref ea), (.ref sr), (.ref eb), (.ref eb)]) (lenOf pd__28Ljava_2flang_2fString_3b_29V rfl) rfl (Nat.le_of_ble_eq_true rfl) (by decide) (by decide) frOf grOf at_65 (pc' := 68) rfl ?_
      rintro v635 h633 Lc634 ⟨⟨⟨rfl, K_ea, E2_ea, S_ea⟩, -⟩, -⟩
      have f636 := f611.keep K_ea
      have f637 := f612.keep K_ea (ninS ne594 nin0)
      have f638 := f613.keep K_ea (ninS ne597 nin0)
      have f639 := f614.keep K_ea
      have f640 := f615.keep K_ea
      have f641 := f616.keep K_ea (ninS ne595 nin0)
      have f642 := f617.keep K_ea (ninS ne595 nin0)
      have f643 := f618.keep K_ea (ninS ne595 nin0)
      have f644 := f619.keep K_ea (ninS ne595 nin0)
      have f645 := f620.keep K_ea (ninS ne595 nin0)
      have f646 := f621.keep K_ea (ninS ne595 nin0)
      have f647 := f622.keep K_ea (ninS ne595 nin0)
      have f648 := f623.keep K_ea (ninS ne595 nin0)
      have f649 := E_ea.keep K_ea
      have od657 := od624.keep K_ea (allS g_ea all0)
      have z658 := Nat.le_trans z625 K_ea.1
      show Go p l e _ _ m _ below meth c _ _ _ _ h633 _ _ (mkF m 68 #[.val (.int p0), .val (.int p1), .val (.int p2), .val (.ref b), .val (.ref sr), .val (.int (p1 &&& (3 : Int32))), .unset, .unset, .unset] [(.ref ea), (.ref sr), (.ref eb), (.ref eb)])
      refine Go.callC K (y := (⟨"com/example/pollster/pollster/recipient/TransmitterException", "<init>", "(Ljava/lang/String;Ljava/lang/Throwable;)V"⟩ : MethodName)) (W := 1) (kc := 1) (nc := 2752) (a := eb) rfl (mvT K.cz (hw _ (List.mem_of_getElem? (i := 123) rfl))) (mvT K.cz (hw _ (List.mem_of_getElem? (i := 124) rfl))) (mvT K.cz (hw _ (List.mem_of_getElem? (i := 125) rfl))) (by decide) ((m_te2 l Z a0 hw h633 n0 z658 eb sr ea hl us ss SU SS od657 f640 f641 f646 f642 f643 f644 f645 f648 g_eb).pays (W := 1) K.cz (hw _ (List.mem_of_getElem? (i := 125) rfl)) (hw _ (List.mem_of_getElem? (i := 32) rfl)) (by decide) (by decide) hTK hBl) rfl (argsL := [(.ref sr), (.ref ea)]) (rest := [(.ref eb)]) (lenOf pd__28Ljava_2flang_2fString_3bLjava_2flang_2fThrowable_3b_29V rfl) rfl (Nat.le_of_ble_eq_true rfl) (by decide) (by decide) frOf grOf at_68 (pc' := 71) rfl ?_
      rintro v661 h659 Lc660 ⟨⟨⟨rfl, K_eb, E2_eb, S_eb⟩, -⟩, -⟩
      have f662 := f636.keep K_eb
      have f663 := f637.keep K_eb (ninS ne570 nin0)
      have f664 := f638.keep K_eb (ninS ne572 nin0)
      have f665 := f639.keep K_eb
      have f666 := f640.keep K_eb
      have f674 := E2_ea.keep K_eb
      have f675 := S_ea.keep K_eb (ninS (Ne.symm ne595) nin0)
      have od676 := od657.keep K_eb (allS g_eb all0)
      have z677 := Nat.le_trans z658 K_eb.1
      show Go p l e _ _ m _ below meth c _ _ _ _ h659 _ _ (mkF m 71 #[.val (.int p0), .val (.int p1), .val (.int p2), .val (.ref b), .val (.ref sr), .val (.int (p1 &&& (3 : Int32))), .unset, .unset, .unset] [(.ref eb)])
      refine Go.astore K at_71 rfl (Ls' := #[.val (.int p0), .val (.int p1), .val (.int p2), .val (.ref b), .val (.ref sr), .val (.int (p1 &&& (3 : Int32))), .val (.ref eb), .unset, .unset]) rfl (pc' := 73) rfl ?_
      refine Go.goto K at_73 (pc' := 88) (by decide) (by decide) ?_
      refine Go.iload K at_88 rfl (pc' := 90) rfl ?_
      refine Go.iconst K (v := 2) at_90 rfl (pc' := 91) rfl ?_
      refine Go.icmp K at_91 (by decide) (pcT := 102) (pcF := 94) (by decide) rfl (fun h91 => ?_) (fun h91 => ?_)
      · replace h91 : (p1 &&& (3 : Int32)) < (2 : Int32) := h91
        refine Go.iconst K (v := 0) at_102 rfl (pc' := 103) rfl ?_
        refine Go.istore K at_103 (Ls' := #[.val (.int p0), .val (.int p1), .val (.int p2), .val (.ref b), .val (.ref sr), .val (.int (p1 &&& (3 : Int32))), .val (.ref eb), .val (.int (0 : Int32)), .unset]) rfl (pc' := 105) rfl ?_
        refine Go.aload K at_105 rfl rfl (pc' := 107) rfl ?_
        refine Go.callV K (y := (⟨"com/example/pollster/pollster/recipient/TransmitterException", "status", "()Ljava/util/OptionalInt;"⟩ : MethodName)) (z := (⟨"com/example/pollster/pollster/recipient/TransmitterException", "status", "()Ljava/util/OptionalInt;"⟩ : MethodName)) (W := 0) (kc := 0) (nc := 0) (a := eb) (mvT K.cz (hw _ (List.mem_of_getElem? (i := 86) rfl))) (mvT K.cz (hw _ (List.mem_of_getElem? (i := 87) rfl))) (notFace_of_selects (args := #[]) (mvT K.cz (hw _ (List.mem_of_getElem? (i := 89) rfl)))) (mvT K.cz (hw _ (List.mem_of_getElem? (i := 89) rfl))) (mvT K.cz (hw _ (List.mem_of_getElem? (i := 88) rfl))) (by decide) E2_eb ((m_st0 l Z a0 hw h659 n0 z677 eb E2_eb S_eb od676 eo SE).pays (W := 0) K.cz (hw _ (List.mem_of_getElem? (i := 90) rfl)) (hw _ (List.mem_of_getElem? (i := 32) rfl)) (by decide) (by decide)) rfl (argsL := []) (rest := []) (lenOf pd__28_29Ljava_2futil_2fOptionalInt_3b rfl) rfl (Nat.le_of_ble_eq_true rfl) (by decide) (by decide) frOf grOf at_107 (pc' := 110) rfl ?_
        rintro v680 h678 Lc679 ⟨⟨⟨rfl, eh⟩, -⟩, -⟩
        obtain rfl := eh
        show Go p l e _ _ m _ below meth c _ _ _ _ h659 _ _ (mkF m 110 #[.val (.int p0), .val (.int p1), .val (.int p2), .val (.ref b), .val (.ref sr), .val (.int (p1 &&& (3 : Int32))), .val (.ref eb), .val (.int (0 : Int32)), .unset] [(.ref eo)])
        refine Go.astore K at_110 rfl (Ls' := #[.val (.int p0), .val (.int p1), .val (.int p2), .val (.ref b), .val (.ref sr), .val (.int (p1 &&& (3 : Int32))), .val (.ref eb), .val (.int (0 : Int32)), .val (.ref eo)]) rfl (pc' := 112) rfl ?_
        refine Go.aload K at_112 rfl rfl (pc' := 114) rfl ?_
        refine Go.ifnonnullR K at_114 (pc' := 119) (by decide) (by decide) ?_
        refine Go.iload K at_119 rfl (pc' := 121) rfl ?_
        refine Go.ifc K at_121 (by decide) (pcT := 138) (pcF := 124) (by decide) rfl (fun h121 => ?_) (fun h121 => ?_)
        · replace h121 : ¬ (0 : Int32) = 0 := h121
          exact absurd rfl h121
        · replace h121 : ¬ (¬ (0 : Int32) = 0) := h121
          refine Go.aload K at_124 rfl rfl (pc' := 126) rfl ?_
          refine Go.callV K (y := (⟨"java/util/OptionalInt", "isPresent", "()Z"⟩ : MethodName)) (z := (⟨"java/util/OptionalInt", "isPresent", "()Z"⟩ : MethodName)) (W := 0) (kc := 0) (nc := 0) (a := eo) (mvT K.cz (hw _ (List.mem_of_getElem? (i := 96) rfl))) (mvT K.cz (hw _ (List.mem_of_getElem? (i := 97) rfl))) (notFace_of_selects (args := #[]) (mvT K.cz (hw _ (List.mem_of_getElem? (i := 99) rfl)))) (mvT K.cz (hw _ (List.mem_of_getElem? (i := 99) rfl))) (mvT K.cz (hw _ (List.mem_of_getElem? (i := 98) rfl))) (by decide) f662 ((m_op0 l Z a0 hw h659 n0 z677 eo f662 f663).pays (W := 0) K.cz (hw _ (List.mem_of_getElem? (i := 100) rfl)) (hw _ (List.mem_of_getElem? (i := 93) rfl)) (by decide) (by decide)) rfl (argsL := []) (rest := []) (lenOf pd__28_29Z rfl) rfl (Nat.le_of_ble_eq_true rfl) (by decide) (by decide) frOf grOf at_126 (pc' := 129) rfl ?_
          rintro v683 h681 Lc682 ⟨⟨⟨rfl, eh⟩, -⟩, -⟩
          obtain rfl := eh
          show Go p l e _ _ m _ below meth c _ _ _ _ h659 _ _ (mkF m 129 #[.val (.int p0), .val (.int p1), .val (.int p2), .val (.ref b), .val (.ref sr), .val (.int (p1 &&& (3 : Int32))), .val (.ref eb), .val (.int (0 : Int32)), .val (.ref eo)] [(.int (0 : Int32))])
          refine Go.ifc K at_129 (by decide) (pcT := 136) (pcF := 132) (by decide) rfl (fun h129 => ?_) (fun h129 => ?_)
          · replace h129 : ¬ (0 : Int32) = 0 := h129
            exact absurd rfl h129
          · replace h129 : ¬ (¬ (0 : Int32) = 0) := h129
            refine Go.iconst K (v := 1) at_132 rfl (pc' := 133) rfl ?_
            refine Go.goto K at_133 (pc' := 137) (by decide) (by decide) ?_
            exact Go.retN K (by simp) (by decide) (by decide) at_137 (fun _ _ _ _ => rfl)
      · replace h91 : ¬ ((p1 &&& (3 : Int32)) < (2 : Int32)) := h91
        exact absurd (by rw [h50]; decide) h91
  · replace h30 : ¬ (¬ (p1 &&& (3 : Int32)) = 0) := h30
    replace h30 := Decidable.not_not.mp h30
    refine Go.newU K (hw _ (List.mem_of_getElem? (i := 30) rfl)) (hw _ (List.mem_of_getElem? (i := 31) rfl)) (hw _ (List.mem_of_getElem? (i := 32) rfl)) (by decide) (by decide) at_33 (pc' := 36) rfl ?_
    intro h519 ea eq522 E520 E_ea D521 U_ea
    have ne523 : eo ≠ ea := own_ne f511.lt (Nat.le_of_eq eq522.symm)
    have ne524 : sr ≠ ea := own_ne f514.lt (Nat.le_of_eq eq522.symm)
    have ne525 : b ≠ ea := own_ne f513.lt (Nat.le_of_eq eq522.symm)
    have g_ea : n0 ≤ ea := Nat.le_trans z518 (Nat.le_of_eq eq522.symm)
    have f530 := f511.ext E520
    have f531 := f512.ext E520
    have f532 := f513.ext E520
    have f533 := f514.ext E520
    have od534 := od517.ext E520
    have z535 := Nat.le_trans z518 E520.1
    have f536 : Fld Z h519 ea "java/lang/Throwable" "cause" "Ljava/lang/Throwable;" .null := D521 (Or.inl (hw _ (List.mem_of_getElem? (i := 49) rfl))) (ty := (.object "java/lang/Throwable")) (by decide)
    have f537 : Fld Z h519 ea "java/lang/Throwable" "stackTrace" "[Ljava/lang/StackTraceElement;" .null := D521 (Or.inl (hw _ (List.mem_of_getElem? (i := 52) rfl))) (ty := (.array (.object "java/lang/StackTraceElement"))) (by decide)
    have f538 : Fld Z h519 ea "java/lang/Throwable" "suppressedExceptions" "Ljava/util/List;" .null := D521 (Or.inl (hw _ (List.mem_of_getElem? (i := 55) rfl))) (ty := (.object "java/util/List")) (by decide)
    have f539 : Fld Z h519 ea "java/lang/Throwable" "detailMessage" "Ljava/lang/String;" .null := D521 (Or.inl (hw _ (List.mem_of_getElem? (i := 79) rfl))) (ty := (.object "java/lang/String")) (by decide)
    have f540 : Fld Z h519 ea "java/lang/Throwable" "backtrace" "Ljava/lang/Object;" .null := D521 (Or.inl (hw _ (List.mem_of_getElem? (i := 80) rfl))) (ty := (.object "java/lang/Object")) (by decide)
    have f541 : Fld Z h519 ea "java/lang/Throwable" "depth" "I" (.int (0 : Int32)) := D521 (Or.inl (hw _ (List.mem_of_getElem? (i := 81) rfl))) (ty := .int) (by decide)
    have f542 : Fld Z h519 ea "com/example/pollster/pollster/recipient/TransmitterException" "status" "I" (.int (0 : Int32)) := D521 (Or.inr (hw _ (List.mem_of_getElem? (i := 85) rfl))) (ty := .int) (by decide)
    refine Go.dup K at_36 rfl (pc' := 37) rfl ?_
    refine Go.aload K at_37 rfl rfl (pc' := 39) rfl ?_
    refine Go.callC K (y := (⟨"com/example/pollster/pollster/recipient/TransmitterException", "<init>", "(Ljava/lang/String;)V"⟩ : MethodName)) (W := 1) (kc := 1) (nc := 2752) (a := ea) rfl (mvT K.cz (hw _ (List.mem_of_getElem? (i := 103) rfl))) (mvT K.cz (hw _ (List.mem_of_getElem? (i := 104) rfl))) (mvT K.cz (hw _ (List.mem_of_getElem? (i := 105) rfl))) (by decide) ((m_te1 l Z a0 hw h519 n0 z535 ea sr  hl us ss SU SS od534 E_ea U_ea f540 f536 f537 f538 f539 f542 g_ea).pays (W := 1) K.cz (hw _ (List.mem_of_getElem? (i := 105) rfl)) (hw _ (List.mem_of_getElem? (i := 32) rfl)) (by decide) (by decide) hTK hBl) rfl (argsL := [(.ref sr)]) (rest := [(.ref ea)]) (lenOf pd__28Ljava_2flang_2fString_3b_29V rfl) rfl (Nat.le_of_ble_eq_true rfl) (by decide) (by decide) frOf grOf at_39 (pc' := 42) rfl ?_
    rintro v545 h543 Lc544 ⟨⟨⟨rfl, K_ea, E2_ea, S_ea⟩, -⟩, -⟩
    have f546 := f530.keep K_ea
    have f547 := f531.keep K_ea (ninS ne523 nin0)
    have f548 := f532.keep K_ea (ninS ne525 nin0)
    have f549 := f533.keep K_ea
    have f550 := E_ea.keep K_ea
    have od558 := od534.keep K_ea (allS g_ea all0)
    have z559 := Nat.le_trans z535 K_ea.1
    show Go p l e _ _ m _ below meth c _ _ _ _ h543 _ _ (mkF m 42 #[.val (.int p0), .val (.int p1), .val (.int p2), .val (.ref b), .val (.ref sr), .val (.int (p1 &&& (3 : Int32))), .unset, .unset, .unset] [(.ref ea)])
    refine Go.astore K at_42 rfl (Ls' := #[.val (.int p0), .val (.int p1), .val (.int p2), .val (.ref b), .val (.ref sr), .val (.int (p1 &&& (3 : Int32))), .val (.ref ea), .unset, .unset]) rfl (pc' := 44) rfl ?_
    refine Go.goto K at_44 (pc' := 88) (by decide) (by decide) ?_
    refine Go.iload K at_88 rfl (pc' := 90) rfl ?_
    refine Go.iconst K (v := 2) at_90 rfl (pc' := 91) rfl ?_
    refine Go.icmp K at_91 (by decide) (pcT := 102) (pcF := 94) (by decide) rfl (fun h91 => ?_) (fun h91 => ?_)
    · replace h91 : (p1 &&& (3 : Int32)) < (2 : Int32) := h91
      refine Go.iconst K (v := 0) at_102 rfl (pc' := 103) rfl ?_
      refine Go.istore K at_103 (Ls' := #[.val (.int p0), .val (.int p1), .val (.int p2), .val (.ref b), .val (.ref sr), .val (.int (p1 &&& (3 : Int32))), .val (.ref ea), .val (.int (0 : Int32)), .unset]) rfl (pc' := 105) rfl ?_
      refine Go.aload K at_105 rfl rfl (pc' := 107) rfl ?_
      refine Go.callV K (y := (⟨"com/example/pollster/pollster/recipient/TransmitterException", "status", "()Ljava/util/OptionalInt;"⟩ : MethodName)) (z := (⟨"com/example/pollster/pollster/recipient/TransmitterException", "status", "()Ljava/util/OptionalInt;"⟩ : MethodName)) (W := 0) (kc := 0) (nc := 0) (a := ea) (mvT K.cz (hw _ (List.mem_of_getElem? (i := 86) rfl))) (mvT K.cz (hw _ (List.mem_of_getElem? (i := 87) rfl))) (notFace_of_selects (args := #[]) (mvT K.cz (hw _ (List.mem_of_getElem? (i := 89) rfl)))) (mvT K.cz (hw _ (List.mem_of_getElem? (i := 89) rfl))) (mvT K.cz (hw _ (List.mem_of_getElem? (i := 88) rfl))) (by decide) E2_ea ((m_st0 l Z a0 hw h543 n0 z559 ea E2_ea S_ea od558 eo SE).pays (W := 0) K.cz (hw _ (List.mem_of_getElem? (i := 90) rfl)) (hw _ (List.mem_of_getElem? (i := 32) rfl)) (by decide) (by decide)) rfl (argsL := []) (rest := []) (lenOf pd__28_29Ljava_2futil_2fOptionalInt_3b rfl) rfl (Nat.le_of_ble_eq_true rfl) (by decide) (by decide) frOf grOf at_107 (pc' := 110) rfl ?_
      rintro v562 h560 Lc561 ⟨⟨⟨rfl, eh⟩, -⟩, -⟩
      obtain rfl := eh
      show Go p l e _ _ m _ below meth c _ _ _ _ h543 _ _ (mkF m 110 #[.val (.int p0), .val (.int p1), .val (.int p2), .val (.ref b), .val (.ref sr), .val (.int (p1 &&& (3 : Int32))), .val (.ref ea), .val (.int (0 : Int32)), .unset] [(.ref eo)])
      refine Go.astore K at_110 rfl (Ls' := #[.val (.int p0), .val (.int p1), .val (.int p2), .val (.ref b), .val (.ref sr), .val (.int (p1 &&& (3 : Int32))), .val (.ref ea), .val (.int (0 : Int32)), .val (.ref eo)]) rfl (pc' := 112) rfl ?_
      refine Go.aload K at_112 rfl rfl (pc' := 114) rfl ?_
      refine Go.ifnonnullR K at_114 (pc' := 119) (by decide) (by decide) ?_
      refine Go.iload K at_119 rfl (pc' := 121) rfl ?_
      refine Go.ifc K at_121 (by decide) (pcT := 138) (pcF := 124) (by decide) rfl (fun h121 => ?_) (fun h121 => ?_)
      · replace h121 : ¬ (0 : Int32) = 0 := h121
        exact absurd rfl h121
      · replace h121 : ¬ (¬ (0 : Int32) = 0) := h121
        refine Go.aload K at_124 rfl rfl (pc' := 126) rfl ?_
        refine Go.callV K (y := (⟨"java/util/OptionalInt", "isPresent", "()Z"⟩ : MethodName)) (z := (⟨"java/util/OptionalInt", "isPresent", "()Z"⟩ : MethodName)) (W := 0) (kc := 0) (nc := 0) (a := eo) (mvT K.cz (hw _ (List.mem_of_getElem? (i := 96) rfl))) (mvT K.cz (hw _ (List.mem_of_getElem? (i := 97) rfl))) (notFace_of_selects (args := #[]) (mvT K.cz (hw _ (List.mem_of_getElem? (i := 99) rfl)))) (mvT K.cz (hw _ (List.mem_of_getElem? (i := 99) rfl))) (mvT K.cz (hw _ (List.mem_of_getElem? (i := 98) rfl))) (by decide) f546 ((m_op0 l Z a0 hw h543 n0 z559 eo f546 f547).pays (W := 0) K.cz (hw _ (List.mem_of_getElem? (i := 100) rfl)) (hw _ (List.mem_of_getElem? (i := 93) rfl)) (by decide) (by decide)) rfl (argsL := []) (rest := []) (lenOf pd__28_29Z rfl) rfl (Nat.le_of_ble_eq_true rfl) (by decide) (by decide) frOf grOf at_126 (pc' := 129) rfl ?_
        rintro v565 h563 Lc564 ⟨⟨⟨rfl, eh⟩, -⟩, -⟩
        obtain rfl := eh
        show Go p l e _ _ m _ below meth c _ _ _ _ h543 _ _ (mkF m 129 #[.val (.int p0), .val (.int p1), .val (.int p2), .val (.ref b), .val (.ref sr), .val (.int (p1 &&& (3 : Int32))), .val (.ref ea), .val (.int (0 : Int32)), .val (.ref eo)] [(.int (0 : Int32))])
        refine Go.ifc K at_129 (by decide) (pcT := 136) (pcF := 132) (by decide) rfl (fun h129 => ?_) (fun h129 => ?_)
        · replace h129 : ¬ (0 : Int32) = 0 := h129
          exact absurd rfl h129
        · replace h129 : ¬ (¬ (0 : Int32) = 0) := h129
          refine Go.iconst K (v := 1) at_132 rfl (pc' := 133) rfl ?_
          refine Go.goto K at_133 (pc' := 137) (by decide) (by decide) ?_
          exact Go.retN K (by simp) (by decide) (by decide) at_137 (fun _ _ _ _ => rfl)
    · replace h91 : ¬ ((p1 &&& (3 : Int32)) < (2 : Int32)) := h91
      exact absurd (by rw [h30]; decide) h91
theorem own_eqi {args : Array Value} {first s : State} {o : Option Outcome} {idx : List Nat} {t : Term} {x : Int32} (h : (Jvm.Cond.eq t (.int x)).value args first o s idx = some true) : t.eval args first o idx s = some (.int x) := by
  simp only [Cond.value, Term.eval] at h
  cases e : t.eval args first o idx s with
  | none => simp [e] at h
  | some v => cases v <;> simp [e] at h ⊢ <;> first | exact h | exact h.symm
set_option maxRecDepth 65536 in
set_option maxHeartbeats 40000000 in
theorem comes_1 {Post : Tables → Env → Array Value → State → Outcome → State → Prop} (hpost : ∀ tb e args s v u, (limb_1_1.after args s (.returned v) u = true ∧ limb_1_2.after args s (.returned v) u = true ∧ True) → FrameEnd s (.returned v) u (Jvm.fieldLocs frame_1_writes args s ++ Jvm.arrayLocs frame_1_arrays args s ++ Jvm.staticLocs frame_1_statics s) 24 11136 → Post tb e args s (.returned v) u) :
    ArmFor flags0 classFile x code maxLocals ret World_1 tables_1 room_1 Calls_1 rest_1 Pre_1 Post := by
  intro l hfl _ _ p e ha hc hk s m args below hf hA hF happ hP
  obtain ⟨hcalls, hrest, hpre⟩ := hP
  obtain ⟨-, -, -, hnamed, -, -, -, hat⟩ := (Spec.applies_iff hf).mp happ
  obtain ⟨hg, hn⟩ := and_e (Cond.before_iff.mp (show (Jvm.Cond.and given_1 narrow_1).before args s = true from hpre))
  obtain ⟨q0, r0⟩ := and_e hg
  obtain ⟨q1, r1⟩ := and_e r0
  obtain ⟨q2, r2⟩ := and_e r1
  obtain ⟨w0, w1, w2, rfl⟩ : ∃ w0 w1 w2 : Value, args = #[w0, w1, w2] := by
    have hs : args.size = 3 := by simpa [Cond.value, given_1] using q0
    obtain ⟨L⟩ := args
    match L, hs with
    | [w0, w1, w2], _ => exact ⟨w0, w1, w2, rfl⟩
  have hw := fun d (hd : d ∈ tables_1) => atoms_spec (ws := Jvm.Cond.code x code maxLocals ret :: tables_1) hat d (List.mem_cons_of_mem _ hd)
  obtain ⟨hsets, hown0⟩ := atoms_of _ (rest_1_c_eq ▸ (show rest_1_c.before _ s = true from hrest))
  have hr0 := Cond.before_iff.mp hown0
  have hfit : Fit s := fun {y c} hc i hi => by
    obtain ⟨ha, rfl⟩ := Array.getElem?_eq_some_iff.mp hc
    have q := List.all_eq_true.mp ((Array.all_eq_true_iff_forall_mem.mp hF) _ (Array.getElem_mem ha)) i (List.mem_range.mpr hi)
    simpa [Array.getElem?_eq_getElem hi] using q
  obtain ⟨i0, ei0⟩ := is_v q1
  obtain rfl : w0 = (.int i0) := Option.some.inj ei0
  obtain ⟨i1, ei1⟩ := is_v q2
  obtain rfl : w1 = (.int i1) := Option.some.inj ei1
  obtain ⟨i2, ei2⟩ := is_v r2
  obtain rfl : w2 = (.int i2) := Option.some.inj ei2
  obtain ⟨zc, ezc⟩ := is_v (Cond.before_iff.mp (hsets _ (List.mem_of_getElem? (i := 1) rfl)))
  have S1 : Sta s s.heap "java/lang/String" "COMPACT_STRINGS" "Z" (.int zc) := Sta.start ezc (Or.inl (hsets _ (List.mem_of_getElem? (i := 0) rfl)))
  have P1 : ¬ (zc = (0 : Int32)) := gotF (Cond.eq_ints ezc (Term.int_eval (0))) (not_v (Cond.before_iff.mp (hsets _ (List.mem_of_getElem? (i := 2) rfl))))
  obtain ⟨eo, e_eo⟩ := exa_v (Cond.before_iff.mp (hsets _ (List.mem_of_getElem? (i := 31) rfl)))
  have S_eo : Sta s s.heap "java/util/OptionalInt" "EMPTY" "Ljava/util/OptionalInt;" (.ref eo) := Sta.start e_eo (Or.inl (hsets _ (List.mem_of_getElem? (i := 30) rfl)))
  have E_eo : Exa s s.heap eo "java/util/OptionalInt" := Exa.start e_eo (Cond.before_iff.mp (hsets _ (List.mem_of_getElem? (i := 31) rfl)))
  have F_eo : Fld s s.heap eo "java/util/OptionalInt" "isPresent" "Z" (.int (0 : Int32)) := Fld.start ((fld_at e_eo).symm.trans (own_eqi (Cond.before_iff.mp (hsets _ (List.mem_of_getElem? (i := 32) rfl)))))
  obtain ⟨us, eus⟩ := arr_v (Cond.before_iff.mp (hsets _ (List.mem_of_getElem? (i := 17) rfl)))
  have SU : Sta s s.heap "java/lang/Throwable" "UNASSIGNED_STACK" "[Ljava/lang/StackTraceElement;" (.ref us) := Sta.start eus (Or.inl (hsets _ (List.mem_of_getElem? (i := 15) rfl)))
  obtain ⟨ss, ess⟩ := exa_v (Cond.before_iff.mp (hsets _ (List.mem_of_getElem? (i := 22) rfl)))
  have SS : Sta s s.heap "java/lang/Throwable" "SUPPRESSED_SENTINEL" "Ljava/util/List;" (.ref ss) := Sta.start ess (Or.inl (hsets _ (List.mem_of_getElem? (i := 20) rfl)))
  have hl : l.stackTraces = true := by
    have e1 : l.stackTraces = ({ launch0 with flags := l.flags } : Launch).stackTraces := rfl
    rw [e1, hfl]; decide +kernel
  obtain ⟨hTK, hBl⟩ := own_known hf hcalls.1 hcalls.2.1
  obtain ⟨n, o, h1, h2, h3, _, L, rfl, ⟨⟨rfl, N⟩, -⟩, hq⟩ := m_law l s _ hw s.heap s.heap.size (Nat.le_refl _) i0 i1 i2 zc S1 P1 eo S_eo E_eo F_eo hl us ss SU SS (Old.start s) p e ha hc hk s m _ below hf ((Spec.applies_iff_loose hf).mp happ).1 ⟨rfl, State.Warmed39.refl s, rfl⟩ ⟨hTK, hBl⟩
  refine ⟨n, _, h1, h2, h3, hpost _ _ _ _ _ _ ⟨Cond.after_iff.mpr rfl, Cond.after_iff.mpr (eq_i res_at (Term.int_eval (1)) rfl), trivial⟩ ⟨hq.1, hq.2.1, (hq.2.2.sift fun y hy => Or.inr (N y hy)).mono (by decide) (by decide)⟩⟩
theorem main_1_1 : Claimed_1_1 := comes_1 fun _ _ _ _ _ _ h hF => ⟨h.1, hF⟩
theorem main_1_2 : Claimed_1_2 := comes_1 fun _ _ _ _ _ _ h hF => ⟨h.2.1, hF⟩
end Jvm.Pilot.@@N@@
namespace Jvm.Pilot.@@N@@
open Jvm Jvm.ClassFile Sem Op Lib Jvm.Free Jvm.Stand Jvm.Pilot.@@N@@.Jvm.D
/-! MADE BY PROGRAM (witnessworld.py) out of the Statement's table words and the real class files: 36 classes; the members and pool entries that the words name. The judged class is class 1, her method 1. -/
namespace start1
open Jvm.ClassFile
def u (s : String) : CpInfo := .utf8 (stringToUtf16 s)
/-- a pool by its gaps: so many unusable entries, then the entry; so many at the end -/
def gap : Nat → List CpInfo → List CpInfo
  | 0, r => r
  | n + 1, r => .unusable :: gap n r
def poolList (es : List (Nat × CpInfo)) (last : Nat) : List CpInfo := es.foldr (fun e r => gap e.1 (e.2 :: r)) (gap last [])
def pool (es : List (Nat × CpInfo)) (last : Nat) : Array CpInfo := ⟨poolList es last⟩
def fileOf (pool : Array CpInfo) (this : Nat) (attrs : Array Attribute := #[]) (ms : Array MethodInfo := #[]) (fl : Nat := 33) (sup : Nat := 0) (ifs : Array Nat := #[]) (fds : Array FieldInfo := #[]) : ClassFile where
  minorVersion := 0
  majorVersion := 65
  constantPool := pool
  accessFlags := fl
  thisClass := this
  superClass := sup
  interfaces := ifs
  fields := fds
  methods := ms
  attributes := attrs
def plain (name : String) (sup : Option ClassId) : Class where
  name := name
  kind := .ordinary
  loader := none
  accessFlags := 33
  super := sup
  interfaces := #[]
  cf := none
  fields := #[]
  methods := #[]
  instanceTypes := #[]
  staticTypes := #[]
  resolved := #[]
  callSites := []
  init := .initialized
  statics := none
  mirror := none

def pool0 : Array CpInfo := pool [(5, u "<init>"), (0, u "()V"), (1, .class_ 10), (1, u "java/lang/Object")] 113

def k0c0 : Code := { maxStack := 0, maxLocals := 1, code := object_method_1_code, exceptionTable := #[], attributes := #[] }
def k0m0 : Method := { name := "<init>", desc := "()V", sig := { parameters := [], returnType := none }, accessFlags := 1, code := some k0c0 }
/-- java/lang/Object -/
def k0 : Class := { plain "java/lang/Object" none with
  accessFlags := 33
  interfaces := #[]
  cf := some (fileOf pool0 8 #[] #[{ accessFlags := 1, nameIndex := 5, descriptorIndex := 6, attributes := #[] }] 33 0 #[] #[])
  fields := #[]
  methods := #[k0m0]
  instanceTypes := #[]
  staticTypes := #[]
  resolved := Array.replicate 124 none
  statics := none }

def pool1 : Array CpInfo := pool [(2, .class_ 4), (1, u "java/lang/Object"), (0, u "<init>"), (0, u "()V"), (0, .class_ 8), (0, u "java/lang/String"), (0, .methodref 7 10), (0, .nameAndType 5 11), (0, u "([C)V"), (0, .class_ 13), (0, u "com/example/pollster/pollster/recipient/TransmitterException"), (0, .methodref 12 15), (0, .nameAndType 5 16), (0, u "(Ljava/lang/String;)V"), (0, .methodref 12 18), (0, .nameAndType 5 19), (0, u "(Ljava/lang/String;Ljava/lang/Throwable;)V"), (0, .methodref 12 21), (0, .nameAndType 5 22), (0, u "(Ljava/lang/String;I)V"), (0, .methodref 12 24), (0, .nameAndType 25 26), (0, u "status"), (0, u "()Ljava/util/OptionalInt;"), (0, .methodref 28 29), (0, .class_ 30), (0, .nameAndType 31 32), (0, u "java/util/OptionalInt"), (0, u "isPresent"), (0, u "()Z"), (0, .methodref 28 34), (0, .nameAndType 35 36), (0, u "getAsInt"), (0, u "()I"), (0, .class_ 38), (0, u "com/example/pollster/pollster/recipient/TransmitterExceptionStatusPinLaw"), (2, u "law"), (0, u "(III)Z")] 5

def k1m0 : Method := { name := "<init>", desc := "()V", sig := { parameters := [], returnType := none }, accessFlags := 1, code := none }
def k1c1 : Code := { maxStack := 6, maxLocals := 9, code := code, exceptionTable := #[], attributes := #[] }
def k1m1 : Method := { name := "law", desc := "(III)Z", sig := { parameters := [.int, .int, .int], returnType := some .boolean }, accessFlags := 9, code := some k1c1 }
/-- com/example/pollster/pollster/recipient/TransmitterExceptionStatusPinLaw -/
def k1 : Class := { plain "com/example/pollster/pollster/recipient/TransmitterExceptionStatusPinLaw" (some 0) with
  accessFlags := 49
  interfaces := #[]
  cf := some (fileOf pool1 37 #[] #[{ accessFlags := 1, nameIndex := 5, descriptorIndex := 6, attributes := #[] }, { accessFlags := 9, nameIndex := 41, descriptorIndex := 42, attributes := #[] }] 49 2 #[] #[])
  fields := #[]
  methods := #[k1m0, k1m1]
  instanceTypes := #[]
  staticTypes := #[]
  resolved := Array.replicate 48 none
  statics := none }

def pool2 : Array CpInfo := pool [(1, .class_ 2), (0, u "java/io/Serializable"), (0, .class_ 4), (0, u "java/lang/Object")] 2

/-- java/io/Serializable -/
def k2 : Class := { plain "java/io/Serializable" (some 0) with
  accessFlags := 1537
  interfaces := #[]
  cf := some (fileOf pool2 1 #[] #[] 1537 3 #[] #[])
  fields := #[]
  methods := #[]
  instanceTypes := #[]
  staticTypes := #[]
  resolved := Array.replicate 7 none
  statics := none }

def pool3 : Array CpInfo := pool [(1, .class_ 2), (0, u "java/lang/Comparable"), (0, .class_ 4), (0, u "java/lang/Object")] 7

/-- java/lang/Comparable -/
def k3 : Class := { plain "java/lang/Comparable" (some 0) with
  accessFlags := 1537
  interfaces := #[]
  cf := some (fileOf pool3 1 #[] #[] 1537 3 #[] #[])
  fields := #[]
  methods := #[]
  instanceTypes := #[]
  staticTypes := #[]
  resolved := Array.replicate 12 none
  statics := none }

def pool4 : Array CpInfo := pool [(2, .class_ 4), (1, u "java/lang/CharSequence"), (42, .class_ 48), (0, u "java/lang/CharSequence$1CodePointIterator"), (10, .class_ 60), (0, u "java/lang/CharSequence$1CharIterator"), (5, .class_ 67), (0, u "java/lang/Object")] 63

/-- java/lang/CharSequence -/
def k4 : Class := { plain "java/lang/CharSequence" (some 0) with
  accessFlags := 1537
  interfaces := #[]
  cf := some (fileOf pool4 2 #[.nestMembers #[47, 59]] #[] 1537 66 #[] #[])
  fields := #[]
  methods := #[]
  instanceTypes := #[]
  staticTypes := #[]
  resolved := Array.replicate 131 none
  statics := none }

def pool5 : Array CpInfo := pool [(1, .class_ 2), (0, u "java/lang/constant/Constable"), (0, .class_ 4), (0, u "java/lang/Object")] 6

/-- java/lang/constant/Constable -/
def k5 : Class := { plain "java/lang/constant/Constable" (some 0) with
  accessFlags := 1537
  interfaces := #[]
  cf := some (fileOf pool5 1 #[] #[] 1537 3 #[] #[])
  fields := #[]
  methods := #[]
  instanceTypes := #[]
  staticTypes := #[]
  resolved := Array.replicate 11 none
  statics := none }

def pool6 : Array CpInfo := pool [(1, .class_ 2), (0, u "java/lang/constant/ConstantDesc"), (0, .class_ 4), (0, u "java/lang/Object")] 32

/-- java/lang/constant/ConstantDesc -/
def k6 : Class := { plain "java/lang/constant/ConstantDesc" (some 0) with
  accessFlags := 1537
  interfaces := #[]
  cf := some (fileOf pool6 1 #[] #[] 1537 3 #[] #[])
  fields := #[]
  methods := #[]
  instanceTypes := #[]
  staticTypes := #[]
  resolved := Array.replicate 37 none
  statics := none }

def pool7 : Array CpInfo := pool [(1, .methodref 2 3), (0, .class_ 4), (0, .nameAndType 5 6), (0, u "java/lang/Object"), (0, u "<init>"), (0, u "()V"), (2, .fieldref 10 11), (0, .class_ 12), (0, .nameAndType 13 14), (0, u "java/lang/String"), (0, u "value"), (0, u "[B"), (0, .fieldref 10 16), (0, .nameAndType 17 18), (0, u "coder"), (0, u "B"), (2, u "hash"), (0, u "I"), (2, u "hashIsZero"), (0, u "Z"), (0, .methodref 10 28), (0, .nameAndType 5 29), (0, u "([CIILjava/lang/Void;)V"), (8, .fieldref 10 39), (0, .nameAndType 40 26), (0, u "COMPACT_STRINGS"), (1, .class_ 44), (1, u "java/lang/StringUTF16"), (0, u "compress"), (1, .methodref 42 48), (0, .nameAndType 49 50), (0, u "coderFromArrayLen"), (0, u "([BI)B"), (126, .methodref 42 178), (0, .nameAndType 45 179), (0, u "([CII)[B"), (395, .class_ 576), (0, u "java/lang/CharSequence"), (22, u "CASE_INSENSITIVE_ORDER"), (0, u "Ljava/util/Comparator;"), (409, u "([C)V"), (90, u "serialPersistentFields"), (0, u "[Ljava/io/ObjectStreamField;"), (0, .class_ 1104), (0, u "java/lang/String$CaseInsensitiveComparator"), (1, .class_ 1107), (0, u "java/io/Serializable"), (0, .class_ 1109), (0, u "java/lang/Comparable"), (0, .class_ 1111), (0, u "java/lang/constant/Constable"), (0, .class_ 1113), (0, u "java/lang/constant/ConstantDesc"), (2, u "serialVersionUID"), (0, u "J"), (3, u "REPL"), (0, u "C"), (2, u "LATIN1"), (1, u "UTF16")] 323

def k7m0 : Method := { name := "<init>", desc := "()V", sig := { parameters := [], returnType := none }, accessFlags := 1, code := none }
def k7c1 : Code := { maxStack := 5, maxLocals := 2, code := jdk_42_method_3_code, exceptionTable := #[], attributes := #[] }
def k7m1 : Method := { name := "<init>", desc := "([C)V", sig := { parameters := [(.array .char)], returnType := none }, accessFlags := 1, code := some k7c1 }
def k7c2 : Code := { maxStack := 4, maxLocals := 6, code := jdk_42_method_149_code, exceptionTable := #[], attributes := #[] }
def k7m2 : Method := { name := "<init>", desc := "([CIILjava/lang/Void;)V", sig := { parameters := [(.array .char), .int, .int, (.object "java/lang/Void")], returnType := none }, accessFlags := 2, code := some k7c2 }
/-- java/lang/String -/
def k7 : Class := { plain "java/lang/String" (some 0) with
  accessFlags := 49
  interfaces := #[2, 3, 4, 5, 6]
  cf := some (fileOf pool7 10 #[.nestMembers #[1103]] #[{ accessFlags := 1, nameIndex := 5, descriptorIndex := 6, attributes := #[] }, { accessFlags := 1, nameIndex := 5, descriptorIndex := 1010, attributes := #[] }, { accessFlags := 2, nameIndex := 5, descriptorIndex := 29, attributes := #[] }] 49 2 #[1106, 1108, 575, 1110, 1112] #[{ accessFlags := 18, nameIndex := 13, descriptorIndex := 14, attributes := #[] }, { accessFlags := 18, nameIndex := 17, descriptorIndex := 18, attributes := #[] }, { accessFlags := 2, nameIndex := 21, descriptorIndex := 22, attributes := #[] }, { accessFlags := 2, nameIndex := 25, descriptorIndex := 26, attributes := #[] }, { accessFlags := 26, nameIndex := 1116, descriptorIndex := 1117, attributes := #[] }, { accessFlags := 24, nameIndex := 40, descriptorIndex := 26, attributes := #[] }, { accessFlags := 26, nameIndex := 1101, descriptorIndex := 1102, attributes := #[] }, { accessFlags := 26, nameIndex := 1121, descriptorIndex := 1122, attributes := #[] }, { accessFlags := 25, nameIndex := 599, descriptorIndex := 600, attributes := #[] }, { accessFlags := 24, nameIndex := 1125, descriptorIndex := 18, attributes := #[] }, { accessFlags := 24, nameIndex := 1127, descriptorIndex := 18, attributes := #[] }])
  fields := #[{ name := "value", type := (.array .byte), accessFlags := 18, slot := 0, constantValue := 0 }, { name := "coder", type := .byte, accessFlags := 18, slot := 1, constantValue := 0 }, { name := "hash", type := .int, accessFlags := 2, slot := 2, constantValue := 0 }, { name := "hashIsZero", type := .boolean, accessFlags := 2, slot := 3, constantValue := 0 }, { name := "serialVersionUID", type := .long, accessFlags := 26, slot := 0, constantValue := 0 }, { name := "COMPACT_STRINGS", type := .boolean, accessFlags := 24, slot := 1, constantValue := 0 }, { name := "serialPersistentFields", type := (.array (.object "java/io/ObjectStreamField")), accessFlags := 26, slot := 2, constantValue := 0 }, { name := "REPL", type := .char, accessFlags := 26, slot := 3, constantValue := 0 }, { name := "CASE_INSENSITIVE_ORDER", type := (.object "java/util/Comparator"), accessFlags := 25, slot := 4, constantValue := 0 }, { name := "LATIN1", type := .byte, accessFlags := 24, slot := 5, constantValue := 0 }, { name := "UTF16", type := .byte, accessFlags := 24, slot := 6, constantValue := 0 }]
  methods := #[k7m0, k7m1, k7m2]
  instanceTypes := #[(.array .byte), .byte, .int, .boolean]
  staticTypes := #[.long, .boolean, (.array (.object "java/io/ObjectStreamField")), .char, (.object "java/util/Comparator"), .byte, .byte]
  resolved := Array.replicate 1451 none
  statics := some 0 }

def pool8 : Array CpInfo := pool [(6, .class_ 8), (1, u "java/lang/Object"), (0, u "<init>"), (0, u "()V"), (1, .class_ 14), (1, u "java/lang/StringUTF16"), (31, u "$assertionsDisabled"), (0, u "Z"), (13, u "HI_BYTE_SHIFT"), (0, u "I"), (2, u "LO_BYTE_SHIFT"), (49, .methodref 12 116), (0, .nameAndType 117 118), (0, u "compress"), (0, u "([CI[BII)I"), (3, u "([CII)[B"), (138, u "coderFromArrayLen"), (0, u "([BI)B"), (106, .class_ 371), (1, u "java/lang/StringUTF16$LinesSpliterator"), (58, u "MAX_LENGTH"), (196, .class_ 628), (0, u "java/lang/StringUTF16$CodePointsSpliterator"), (0, .class_ 630), (0, u "java/lang/StringUTF16$CharsSpliterator")] 4

def k8m0 : Method := { name := "<init>", desc := "()V", sig := { parameters := [], returnType := none }, accessFlags := 0, code := none }
def k8c1 : Code := { maxStack := 2, maxLocals := 2, code := jdk_52_method_15_code, exceptionTable := #[], attributes := #[] }
def k8m1 : Method := { name := "coderFromArrayLen", desc := "([BI)B", sig := { parameters := [(.array .byte), .int], returnType := some .byte }, accessFlags := 8, code := some k8c1 }
def k8c2 : Code := { maxStack := 5, maxLocals := 6, code := jdk_52_method_16_code, exceptionTable := #[], attributes := #[] }
def k8m2 : Method := { name := "compress", desc := "([CII)[B", sig := { parameters := [(.array .char), .int, .int], returnType := some (.array .byte) }, accessFlags := 9, code := some k8c2 }
def k8c3 : Code := { maxStack := 3, maxLocals := 7, code := jdk_52_method_21_code, exceptionTable := #[], attributes := #[] }
def k8m3 : Method := { name := "compress", desc := "([CI[BII)I", sig := { parameters := [(.array .char), .int, (.array .byte), .int, .int], returnType := some .int }, accessFlags := 9, code := some k8c3 }
/-- java/lang/StringUTF16 -/
def k8 : Class := { plain "java/lang/StringUTF16" (some 0) with
  accessFlags := 48
  interfaces := #[]
  cf := some (fileOf pool8 12 #[.nestMembers #[627, 629, 369]] #[{ accessFlags := 0, nameIndex := 9, descriptorIndex := 10, attributes := #[] }, { accessFlags := 8, nameIndex := 261, descriptorIndex := 262, attributes := #[] }, { accessFlags := 9, nameIndex := 117, descriptorIndex := 122, attributes := #[] }, { accessFlags := 9, nameIndex := 117, descriptorIndex := 118, attributes := #[] }] 48 6 #[] #[{ accessFlags := 26, nameIndex := 61, descriptorIndex := 62, attributes := #[] }, { accessFlags := 26, nameIndex := 65, descriptorIndex := 62, attributes := #[] }, { accessFlags := 24, nameIndex := 430, descriptorIndex := 62, attributes := #[] }, { accessFlags := 4120, nameIndex := 46, descriptorIndex := 47, attributes := #[] }])
  fields := #[{ name := "HI_BYTE_SHIFT", type := .int, accessFlags := 26, slot := 0, constantValue := 0 }, { name := "LO_BYTE_SHIFT", type := .int, accessFlags := 26, slot := 1, constantValue := 0 }, { name := "MAX_LENGTH", type := .int, accessFlags := 24, slot := 2, constantValue := 0 }, { name := "$assertionsDisabled", type := .boolean, accessFlags := 4120, slot := 3, constantValue := 0 }]
  methods := #[k8m0, k8m1, k8m2, k8m3]
  instanceTypes := #[]
  staticTypes := #[.int, .int, .int, .boolean]
  resolved := Array.replicate 635 none
  statics := none }

def pool9 : Array CpInfo := pool [(1, .methodref 2 3), (0, .class_ 4), (0, .nameAndType 5 6), (0, u "java/lang/Object"), (0, u "<init>"), (0, u "()V"), (0, .fieldref 8 9), (0, .class_ 10), (0, .nameAndType 11 12), (0, u "java/lang/Throwable"), (0, u "cause"), (0, u "Ljava/lang/Throwable;"), (0, .fieldref 8 14), (0, .nameAndType 15 16), (0, u "UNASSIGNED_STACK"), (0, u "[Ljava/lang/StackTraceElement;"), (0, .fieldref 8 18), (0, .nameAndType 19 16), (0, u "stackTrace"), (0, .fieldref 8 21), (0, .nameAndType 22 23), (0, u "SUPPRESSED_SENTINEL"), (0, u "Ljava/util/List;"), (0, .fieldref 8 25), (0, .nameAndType 26 23), (0, u "suppressedExceptions"), (0, .methodref 8 28), (0, .nameAndType 29 30), (0, u "fillInStackTrace"), (0, u "()Ljava/lang/Throwable;"), (0, .fieldref 8 32), (0, .nameAndType 33 34), (0, u "detailMessage"), (0, u "Ljava/lang/String;"), (28, u "(Ljava/lang/String;Ljava/lang/Throwable;)V"), (29, .class_ 94), (0, u "java/lang/Throwable$WrappedPrintStream"), (6, .class_ 103), (1, u "java/lang/Throwable$PrintStreamOrWriter"), (61, u "$assertionsDisabled"), (0, u "Z"), (26, .class_ 194), (0, u "java/lang/Throwable$WrappedPrintWriter"), (3, .fieldref 8 199), (0, .nameAndType 200 201), (0, u "backtrace"), (0, u "Ljava/lang/Object;"), (0, .methodref 8 203), (0, .nameAndType 29 204), (0, u "(I)Ljava/lang/Throwable;"), (6, u "depth"), (0, u "I"), (10, u "(Ljava/lang/String;)V"), (45, .class_ 271), (1, u "java/lang/Throwable$SentinelHolder"), (32, u "EMPTY_THROWABLE_ARRAY"), (0, u "[Ljava/lang/Throwable;"), (12, .class_ 319), (0, u "java/io/Serializable"), (0, u "serialVersionUID"), (0, u "J"), (5, u "NULL_CAUSE_MESSAGE"), (0, u "SELF_SUPPRESSION_MESSAGE"), (0, u "CAUSE_CAPTION"), (0, u "SUPPRESSED_CAPTION")] 73

def k9c0 : Code := { maxStack := 2, maxLocals := 1, code := jdk_78_method_1_code, exceptionTable := #[], attributes := #[] }
def k9m0 : Method := { name := "<init>", desc := "()V", sig := { parameters := [], returnType := none }, accessFlags := 1, code := some k9c0 }
def k9c1 : Code := { maxStack := 2, maxLocals := 2, code := jdk_78_method_2_code, exceptionTable := #[], attributes := #[] }
def k9m1 : Method := { name := "<init>", desc := "(Ljava/lang/String;)V", sig := { parameters := [(.object "java/lang/String")], returnType := none }, accessFlags := 1, code := some k9c1 }
def k9c2 : Code := { maxStack := 2, maxLocals := 3, code := jdk_78_method_3_code, exceptionTable := #[], attributes := #[] }
def k9m2 : Method := { name := "<init>", desc := "(Ljava/lang/String;Ljava/lang/Throwable;)V", sig := { parameters := [(.object "java/lang/String"), (.object "java/lang/Throwable")], returnType := none }, accessFlags := 1, code := some k9c2 }
def k9c3 : Code := { maxStack := 2, maxLocals := 1, code := jdk_78_method_18_code, exceptionTable := #[], attributes := #[] }
def k9m3 : Method := { name := "fillInStackTrace", desc := "()Ljava/lang/Throwable;", sig := { parameters := [], returnType := some (.object "java/lang/Throwable") }, accessFlags := 33, code := some k9c3 }
def k9m4 : Method := { name := "fillInStackTrace", desc := "(I)Ljava/lang/Throwable;", sig := { parameters := [.int], returnType := some (.object "java/lang/Throwable") }, accessFlags := 258, code := none }
/-- java/lang/Throwable -/
def k9 : Class := { plain "java/lang/Throwable" (some 0) with
  accessFlags := 33
  interfaces := #[2]
  cf := some (fileOf pool9 8 #[.nestMembers #[193, 93, 101, 269]] #[{ accessFlags := 1, nameIndex := 5, descriptorIndex := 6, attributes := #[] }, { accessFlags := 1, nameIndex := 5, descriptorIndex := 223, attributes := #[] }, { accessFlags := 1, nameIndex := 5, descriptorIndex := 63, attributes := #[] }, { accessFlags := 33, nameIndex := 29, descriptorIndex := 30, attributes := #[] }, { accessFlags := 258, nameIndex := 29, descriptorIndex := 204, attributes := #[] }] 33 2 #[318] #[{ accessFlags := 26, nameIndex := 320, descriptorIndex := 321, attributes := #[] }, { accessFlags := 130, nameIndex := 200, descriptorIndex := 201, attributes := #[] }, { accessFlags := 2, nameIndex := 33, descriptorIndex := 34, attributes := #[] }, { accessFlags := 26, nameIndex := 15, descriptorIndex := 16, attributes := #[] }, { accessFlags := 2, nameIndex := 11, descriptorIndex := 12, attributes := #[] }, { accessFlags := 2, nameIndex := 19, descriptorIndex := 16, attributes := #[] }, { accessFlags := 130, nameIndex := 211, descriptorIndex := 212, attributes := #[] }, { accessFlags := 26, nameIndex := 22, descriptorIndex := 23, attributes := #[] }, { accessFlags := 2, nameIndex := 26, descriptorIndex := 23, attributes := #[] }, { accessFlags := 26, nameIndex := 327, descriptorIndex := 34, attributes := #[] }, { accessFlags := 26, nameIndex := 328, descriptorIndex := 34, attributes := #[] }, { accessFlags := 26, nameIndex := 329, descriptorIndex := 34, attributes := #[] }, { accessFlags := 26, nameIndex := 330, descriptorIndex := 34, attributes := #[] }, { accessFlags := 26, nameIndex := 304, descriptorIndex := 305, attributes := #[] }, { accessFlags := 4120, nameIndex := 165, descriptorIndex := 166, attributes := #[] }])
  fields := #[{ name := "serialVersionUID", type := .long, accessFlags := 26, slot := 0, constantValue := 0 }, { name := "backtrace", type := (.object "java/lang/Object"), accessFlags := 130, slot := 0, constantValue := 0 }, { name := "detailMessage", type := (.object "java/lang/String"), accessFlags := 2, slot := 1, constantValue := 0 }, { name := "UNASSIGNED_STACK", type := (.array (.object "java/lang/StackTraceElement")), accessFlags := 26, slot := 1, constantValue := 0 }, { name := "cause", type := (.object "java/lang/Throwable"), accessFlags := 2, slot := 2, constantValue := 0 }, { name := "stackTrace", type := (.array (.object "java/lang/StackTraceElement")), accessFlags := 2, slot := 3, constantValue := 0 }, { name := "depth", type := .int, accessFlags := 130, slot := 4, constantValue := 0 }, { name := "SUPPRESSED_SENTINEL", type := (.object "java/util/List"), accessFlags := 26, slot := 2, constantValue := 0 }, { name := "suppressedExceptions", type := (.object "java/util/List"), accessFlags := 2, slot := 5, constantValue := 0 }, { name := "NULL_CAUSE_MESSAGE", type := (.object "java/lang/String"), accessFlags := 26, slot := 3, constantValue := 0 }, { name := "SELF_SUPPRESSION_MESSAGE", type := (.object "java/lang/String"), accessFlags := 26, slot := 4, constantValue := 0 }, { name := "CAUSE_CAPTION", type := (.object "java/lang/String"), accessFlags := 26, slot := 5, constantValue := 0 }, { name := "SUPPRESSED_CAPTION", type := (.object "java/lang/String"), accessFlags := 26, slot := 6, constantValue := 0 }, { name := "EMPTY_THROWABLE_ARRAY", type := (.array (.object "java/lang/Throwable")), accessFlags := 26, slot := 7, constantValue := 0 }, { name := "$assertionsDisabled", type := .boolean, accessFlags := 4120, slot := 8, constantValue := 0 }]
  methods := #[k9m0, k9m1, k9m2, k9m3, k9m4]
  instanceTypes := #[(.object "java/lang/Object"), (.object "java/lang/String"), (.object "java/lang/Throwable"), (.array (.object "java/lang/StackTraceElement")), .int, (.object "java/util/List")]
  staticTypes := #[.long, (.array (.object "java/lang/StackTraceElement")), (.object "java/util/List"), (.object "java/lang/String"), (.object "java/lang/String"), (.object "java/lang/String"), (.object "java/lang/String"), (.array (.object "java/lang/Throwable")), .boolean]
  resolved := Array.replicate 404 none
  statics := some 1 }

def pool10 : Array CpInfo := pool [(2, .class_ 4), (1, u "java/lang/Throwable"), (0, u "<init>"), (0, u "()V"), (0, .methodref 2 8), (0, .nameAndType 5 9), (0, u "(Ljava/lang/String;)V"), (0, .methodref 2 11), (0, .nameAndType 5 12), (0, u "(Ljava/lang/String;Ljava/lang/Throwable;)V"), (6, .class_ 20), (0, u "java/lang/Exception"), (0, u "serialVersionUID"), (0, u "J")] 17

def k10m0 : Method := { name := "<init>", desc := "()V", sig := { parameters := [], returnType := none }, accessFlags := 1, code := none }
def k10c1 : Code := { maxStack := 2, maxLocals := 2, code := jdk_59_method_2_code, exceptionTable := #[], attributes := #[] }
def k10m1 : Method := { name := "<init>", desc := "(Ljava/lang/String;)V", sig := { parameters := [(.object "java/lang/String")], returnType := none }, accessFlags := 1, code := some k10c1 }
def k10c2 : Code := { maxStack := 3, maxLocals := 3, code := jdk_59_method_3_code, exceptionTable := #[], attributes := #[] }
def k10m2 : Method := { name := "<init>", desc := "(Ljava/lang/String;Ljava/lang/Throwable;)V", sig := { parameters := [(.object "java/lang/String"), (.object "java/lang/Throwable")], returnType := none }, accessFlags := 1, code := some k10c2 }
/-- java/lang/Exception -/
def k10 : Class := { plain "java/lang/Exception" (some 9) with
  accessFlags := 33
  interfaces := #[]
  cf := some (fileOf pool10 19 #[] #[{ accessFlags := 1, nameIndex := 5, descriptorIndex := 6, attributes := #[] }, { accessFlags := 1, nameIndex := 5, descriptorIndex := 9, attributes := #[] }, { accessFlags := 1, nameIndex := 5, descriptorIndex := 12, attributes := #[] }] 33 2 #[] #[{ accessFlags := 24, nameIndex := 21, descriptorIndex := 22, attributes := #[] }])
  fields := #[{ name := "serialVersionUID", type := .long, accessFlags := 24, slot := 0, constantValue := 0 }]
  methods := #[k10m0, k10m1, k10m2]
  instanceTypes := #[(.object "java/lang/Object"), (.object "java/lang/String"), (.object "java/lang/Throwable"), (.array (.object "java/lang/StackTraceElement")), .int, (.object "java/util/List")]
  staticTypes := #[.long]
  resolved := Array.replicate 40 none
  statics := none }

def pool11 : Array CpInfo := pool [(1, .methodref 2 3), (0, .class_ 4), (0, .nameAndType 5 6), (0, u "java/lang/Exception"), (0, u "<init>"), (0, u "(Ljava/lang/String;)V"), (0, .fieldref 8 9), (0, .class_ 10), (0, .nameAndType 11 12), (0, u "com/example/pollster/pollster/recipient/TransmitterException"), (0, u "status"), (0, u "I"), (0, .methodref 2 14), (0, .nameAndType 5 15), (0, u "(Ljava/lang/String;Ljava/lang/Throwable;)V"), (0, .methodref 17 18), (0, .class_ 19), (0, .nameAndType 20 21), (0, u "java/util/OptionalInt"), (0, u "empty"), (0, u "()Ljava/util/OptionalInt;"), (0, .methodref 17 23), (0, .nameAndType 24 25), (0, u "of"), (0, u "(I)Ljava/util/OptionalInt;"), (0, u "serialVersionUID"), (0, u "J"), (5, u "(Ljava/lang/String;I)V")] 3

def k11c0 : Code := { maxStack := 2, maxLocals := 2, code := prog_5_method_1_code, exceptionTable := #[], attributes := #[] }
def k11m0 : Method := { name := "<init>", desc := "(Ljava/lang/String;)V", sig := { parameters := [(.object "java/lang/String")], returnType := none }, accessFlags := 1, code := some k11c0 }
def k11c1 : Code := { maxStack := 3, maxLocals := 3, code := prog_5_method_2_code, exceptionTable := #[], attributes := #[] }
def k11m1 : Method := { name := "<init>", desc := "(Ljava/lang/String;Ljava/lang/Throwable;)V", sig := { parameters := [(.object "java/lang/String"), (.object "java/lang/Throwable")], returnType := none }, accessFlags := 1, code := some k11c1 }
def k11c2 : Code := { maxStack := 2, maxLocals := 3, code := prog_5_method_3_code, exceptionTable := #[], attributes := #[] }
def k11m2 : Method := { name := "<init>", desc := "(Ljava/lang/String;I)V", sig := { parameters := [(.object "java/lang/String"), .int], returnType := none }, accessFlags := 1, code := some k11c2 }
def k11c3 : Code := { maxStack := 1, maxLocals := 1, code := prog_5_method_4_code, exceptionTable := #[], attributes := #[] }
def k11m3 : Method := { name := "status", desc := "()Ljava/util/OptionalInt;", sig := { parameters := [], returnType := some (.object "java/util/OptionalInt") }, accessFlags := 1, code := some k11c3 }
/-- com/example/pollster/pollster/recipient/TransmitterException -/
def k11 : Class := { plain "com/example/pollster/pollster/recipient/TransmitterException" (some 10) with
  accessFlags := 49
  interfaces := #[]
  cf := some (fileOf pool11 8 #[] #[{ accessFlags := 1, nameIndex := 5, descriptorIndex := 6, attributes := #[] }, { accessFlags := 1, nameIndex := 5, descriptorIndex := 15, attributes := #[] }, { accessFlags := 1, nameIndex := 5, descriptorIndex := 33, attributes := #[] }, { accessFlags := 1, nameIndex := 11, descriptorIndex := 21, attributes := #[] }] 49 2 #[] #[{ accessFlags := 26, nameIndex := 26, descriptorIndex := 27, attributes := #[] }, { accessFlags := 18, nameIndex := 11, descriptorIndex := 12, attributes := #[] }])
  fields := #[{ name := "serialVersionUID", type := .long, accessFlags := 26, slot := 0, constantValue := 0 }, { name := "status", type := .int, accessFlags := 18, slot := 6, constantValue := 0 }]
  methods := #[k11m0, k11m1, k11m2, k11m3]
  instanceTypes := #[(.object "java/lang/Object"), (.object "java/lang/String"), (.object "java/lang/Throwable"), (.array (.object "java/lang/StackTraceElement")), .int, (.object "java/util/List"), .int]
  staticTypes := #[.long]
  resolved := Array.replicate 37 none
  statics := none }

def pool12 : Array CpInfo := pool [(1, .methodref 2 3), (0, .class_ 4), (0, .nameAndType 5 6), (0, u "java/lang/Object"), (0, u "<init>"), (0, u "()V"), (0, .fieldref 8 9), (0, .class_ 10), (0, .nameAndType 11 12), (0, u "java/util/OptionalInt"), (0, u "isPresent"), (0, u "Z"), (0, .fieldref 8 14), (0, .nameAndType 15 16), (0, u "value"), (0, u "I"), (0, .fieldref 8 18), (0, .nameAndType 19 20), (0, u "EMPTY"), (0, u "Ljava/util/OptionalInt;"), (0, .methodref 8 22), (0, .nameAndType 5 23), (0, u "(I)V"), (21, u "of"), (3, u "empty"), (5, u "getAsInt"), (0, u "()I"), (39, u "()Ljava/util/OptionalInt;"), (0, u "(I)Ljava/util/OptionalInt;"), (1, u "()Z")] 36

def k12m0 : Method := { name := "<init>", desc := "()V", sig := { parameters := [], returnType := none }, accessFlags := 2, code := none }
def k12c1 : Code := { maxStack := 1, maxLocals := 0, code := jdk_2649_method_2_code, exceptionTable := #[], attributes := #[] }
def k12m1 : Method := { name := "empty", desc := "()Ljava/util/OptionalInt;", sig := { parameters := [], returnType := some (.object "java/util/OptionalInt") }, accessFlags := 9, code := some k12c1 }
def k12c2 : Code := { maxStack := 2, maxLocals := 2, code := jdk_2649_method_3_code, exceptionTable := #[], attributes := #[] }
def k12m2 : Method := { name := "<init>", desc := "(I)V", sig := { parameters := [.int], returnType := none }, accessFlags := 2, code := some k12c2 }
def k12c3 : Code := { maxStack := 3, maxLocals := 1, code := jdk_2649_method_4_code, exceptionTable := #[], attributes := #[] }
def k12m3 : Method := { name := "of", desc := "(I)Ljava/util/OptionalInt;", sig := { parameters := [.int], returnType := some (.object "java/util/OptionalInt") }, accessFlags := 9, code := some k12c3 }
def k12c4 : Code := { maxStack := 3, maxLocals := 1, code := jdk_2649_method_5_code, exceptionTable := #[], attributes := #[] }
def k12m4 : Method := { name := "getAsInt", desc := "()I", sig := { parameters := [], returnType := some .int }, accessFlags := 1, code := some k12c4 }
def k12c5 : Code := { maxStack := 1, maxLocals := 1, code := jdk_2649_method_6_code, exceptionTable := #[], attributes := #[] }
def k12m5 : Method := { name := "isPresent", desc := "()Z", sig := { parameters := [], returnType := some .boolean }, accessFlags := 1, code := some k12c5 }
/-- java/util/OptionalInt -/
def k12 : Class := { plain "java/util/OptionalInt" (some 0) with
  accessFlags := 49
  interfaces := #[]
  cf := some (fileOf pool12 8 #[] #[{ accessFlags := 2, nameIndex := 5, descriptorIndex := 6, attributes := #[] }, { accessFlags := 9, nameIndex := 49, descriptorIndex := 96, attributes := #[] }, { accessFlags := 2, nameIndex := 5, descriptorIndex := 23, attributes := #[] }, { accessFlags := 9, nameIndex := 45, descriptorIndex := 97, attributes := #[] }, { accessFlags := 1, nameIndex := 55, descriptorIndex := 56, attributes := #[] }, { accessFlags := 1, nameIndex := 11, descriptorIndex := 99, attributes := #[] }] 49 2 #[] #[{ accessFlags := 26, nameIndex := 19, descriptorIndex := 20, attributes := #[] }, { accessFlags := 18, nameIndex := 11, descriptorIndex := 12, attributes := #[] }, { accessFlags := 18, nameIndex := 15, descriptorIndex := 16, attributes := #[] }])
  fields := #[{ name := "EMPTY", type := (.object "java/util/OptionalInt"), accessFlags := 26, slot := 0, constantValue := 0 }, { name := "isPresent", type := .boolean, accessFlags := 18, slot := 0, constantValue := 0 }, { name := "value", type := .int, accessFlags := 18, slot := 1, constantValue := 0 }]
  methods := #[k12m0, k12m1, k12m2, k12m3, k12m4, k12m5]
  instanceTypes := #[.boolean, .int]
  staticTypes := #[(.object "java/util/OptionalInt")]
  resolved := Array.replicate 136 none
  statics := some 2 }

def pool13 : Array CpInfo := pool [(4, .class_ 6), (1, u "java/lang/Object"), (0, u "<init>"), (0, u "()V"), (5, .class_ 16), (1, u "java/lang/StringLatin1"), (104, u "$assertionsDisabled"), (0, u "Z"), (98, .class_ 223), (1, u "java/lang/StringLatin1$LinesSpliterator"), (166, .class_ 391), (0, u "java/lang/StringLatin1$CharsSpliterator")] 3

def k13m0 : Method := { name := "<init>", desc := "()V", sig := { parameters := [], returnType := none }, accessFlags := 0, code := none }
/-- java/lang/StringLatin1 -/
def k13 : Class := { plain "java/lang/StringLatin1" (some 0) with
  accessFlags := 48
  interfaces := #[]
  cf := some (fileOf pool13 14 #[.nestMembers #[390, 221]] #[{ accessFlags := 0, nameIndex := 7, descriptorIndex := 8, attributes := #[] }] 48 4 #[] #[{ accessFlags := 4120, nameIndex := 121, descriptorIndex := 122, attributes := #[] }])
  fields := #[{ name := "$assertionsDisabled", type := .boolean, accessFlags := 4120, slot := 0, constantValue := 0 }]
  methods := #[k13m0]
  instanceTypes := #[]
  staticTypes := #[.boolean]
  resolved := Array.replicate 395 none
  statics := none }

def pool14 : Array CpInfo := pool [(2, .class_ 4), (1, u "java/lang/Object"), (0, u "<init>"), (0, u "()V"), (17, .class_ 26), (1, u "jdk/internal/util/Preconditions"), (28, .class_ 56), (0, u "jdk/internal/util/Preconditions$4"), (57, .class_ 115), (0, u "jdk/internal/util/Preconditions$1"), (7, u "SIOOBE_FORMATTER"), (0, u "Ljava/util/function/BiFunction;"), (0, .class_ 126), (0, u "jdk/internal/util/Preconditions$2"), (3, u "AIOOBE_FORMATTER"), (0, .class_ 132), (0, u "jdk/internal/util/Preconditions$3"), (3, u "IOOBE_FORMATTER")] 57

def k14m0 : Method := { name := "<init>", desc := "()V", sig := { parameters := [], returnType := none }, accessFlags := 1, code := none }
/-- jdk/internal/util/Preconditions -/
def k14 : Class := { plain "jdk/internal/util/Preconditions" (some 0) with
  accessFlags := 33
  interfaces := #[]
  cf := some (fileOf pool14 24 #[.nestMembers #[55, 131, 125, 114]] #[{ accessFlags := 1, nameIndex := 5, descriptorIndex := 6, attributes := #[] }] 33 2 #[] #[{ accessFlags := 25, nameIndex := 123, descriptorIndex := 124, attributes := #[] }, { accessFlags := 25, nameIndex := 130, descriptorIndex := 124, attributes := #[] }, { accessFlags := 25, nameIndex := 136, descriptorIndex := 124, attributes := #[] }])
  fields := #[{ name := "SIOOBE_FORMATTER", type := (.object "java/util/function/BiFunction"), accessFlags := 25, slot := 0, constantValue := 0 }, { name := "AIOOBE_FORMATTER", type := (.object "java/util/function/BiFunction"), accessFlags := 25, slot := 1, constantValue := 0 }, { name := "IOOBE_FORMATTER", type := (.object "java/util/function/BiFunction"), accessFlags := 25, slot := 2, constantValue := 0 }]
  methods := #[k14m0]
  instanceTypes := #[]
  staticTypes := #[(.object "java/util/function/BiFunction"), (.object "java/util/function/BiFunction"), (.object "java/util/function/BiFunction")]
  resolved := Array.replicate 194 none
  statics := some 3 }

def pool15 : Array CpInfo := pool [(9, u "<init>"), (6, .class_ 18), (1, u "java/lang/Object"), (0, u "()V"), (1, .class_ 23), (1, u "jdk/internal/util/ArraysSupport"), (0, u "LOG2_ARRAY_LONG_INDEX_SCALE"), (0, u "I"), (2, u "U"), (0, u "Ljdk/internal/misc/Unsafe;"), (8, u "BIG_ENDIAN"), (0, u "Z"), (8, u "LOG2_BYTE_BIT_SIZE"), (4, u "LOG2_ARRAY_INT_INDEX_SCALE"), (54, u "JLA"), (0, u "Ljdk/internal/access/JavaLangAccess;"), (11, u "LOG2_ARRAY_BOOLEAN_INDEX_SCALE"), (9, u "LOG2_ARRAY_BYTE_INDEX_SCALE"), (5, u "LOG2_ARRAY_CHAR_INDEX_SCALE"), (5, u "LOG2_ARRAY_SHORT_INDEX_SCALE"), (18, u "LOG2_ARRAY_FLOAT_INDEX_SCALE"), (24, u "LOG2_ARRAY_DOUBLE_INDEX_SCALE"), (89, u "T_BOOLEAN"), (2, u "T_CHAR"), (1, u "T_FLOAT"), (1, u "T_DOUBLE"), (1, u "T_BYTE"), (1, u "T_SHORT"), (1, u "T_INT"), (1, u "T_LONG"), (1, u "SOFT_MAX_ARRAY_LENGTH")] 83

def k15m0 : Method := { name := "<init>", desc := "()V", sig := { parameters := [], returnType := none }, accessFlags := 2, code := none }
/-- jdk/internal/util/ArraysSupport -/
def k15 : Class := { plain "jdk/internal/util/ArraysSupport" (some 0) with
  accessFlags := 33
  interfaces := #[]
  cf := some (fileOf pool15 21 #[] #[{ accessFlags := 2, nameIndex := 9, descriptorIndex := 19, attributes := #[] }] 33 16 #[] #[{ accessFlags := 24, nameIndex := 28, descriptorIndex := 29, attributes := #[] }, { accessFlags := 26, nameIndex := 38, descriptorIndex := 39, attributes := #[] }, { accessFlags := 25, nameIndex := 121, descriptorIndex := 25, attributes := #[] }, { accessFlags := 25, nameIndex := 131, descriptorIndex := 25, attributes := #[] }, { accessFlags := 25, nameIndex := 137, descriptorIndex := 25, attributes := #[] }, { accessFlags := 25, nameIndex := 143, descriptorIndex := 25, attributes := #[] }, { accessFlags := 25, nameIndex := 53, descriptorIndex := 25, attributes := #[] }, { accessFlags := 25, nameIndex := 24, descriptorIndex := 25, attributes := #[] }, { accessFlags := 25, nameIndex := 162, descriptorIndex := 25, attributes := #[] }, { accessFlags := 25, nameIndex := 187, descriptorIndex := 25, attributes := #[] }, { accessFlags := 26, nameIndex := 48, descriptorIndex := 25, attributes := #[] }, { accessFlags := 25, nameIndex := 277, descriptorIndex := 25, attributes := #[] }, { accessFlags := 25, nameIndex := 280, descriptorIndex := 25, attributes := #[] }, { accessFlags := 25, nameIndex := 282, descriptorIndex := 25, attributes := #[] }, { accessFlags := 25, nameIndex := 284, descriptorIndex := 25, attributes := #[] }, { accessFlags := 25, nameIndex := 286, descriptorIndex := 25, attributes := #[] }, { accessFlags := 25, nameIndex := 288, descriptorIndex := 25, attributes := #[] }, { accessFlags := 25, nameIndex := 290, descriptorIndex := 25, attributes := #[] }, { accessFlags := 25, nameIndex := 292, descriptorIndex := 25, attributes := #[] }, { accessFlags := 26, nameIndex := 108, descriptorIndex := 109, attributes := #[] }, { accessFlags := 25, nameIndex := 294, descriptorIndex := 25, attributes := #[] }])
  fields := #[{ name := "U", type := (.object "jdk/internal/misc/Unsafe"), accessFlags := 24, slot := 0, constantValue := 0 }, { name := "BIG_ENDIAN", type := .boolean, accessFlags := 26, slot := 1, constantValue := 0 }, { name := "LOG2_ARRAY_BOOLEAN_INDEX_SCALE", type := .int, accessFlags := 25, slot := 2, constantValue := 0 }, { name := "LOG2_ARRAY_BYTE_INDEX_SCALE", type := .int, accessFlags := 25, slot := 3, constantValue := 0 }, { name := "LOG2_ARRAY_CHAR_INDEX_SCALE", type := .int, accessFlags := 25, slot := 4, constantValue := 0 }, { name := "LOG2_ARRAY_SHORT_INDEX_SCALE", type := .int, accessFlags := 25, slot := 5, constantValue := 0 }, { name := "LOG2_ARRAY_INT_INDEX_SCALE", type := .int, accessFlags := 25, slot := 6, constantValue := 0 }, { name := "LOG2_ARRAY_LONG_INDEX_SCALE", type := .int, accessFlags := 25, slot := 7, constantValue := 0 }, { name := "LOG2_ARRAY_FLOAT_INDEX_SCALE", type := .int, accessFlags := 25, slot := 8, constantValue := 0 }, { name := "LOG2_ARRAY_DOUBLE_INDEX_SCALE", type := .int, accessFlags := 25, slot := 9, constantValue := 0 }, { name := "LOG2_BYTE_BIT_SIZE", type := .int, accessFlags := 26, slot := 10, constantValue := 0 }, { name := "T_BOOLEAN", type := .int, accessFlags := 25, slot := 11, constantValue := 0 }, { name := "T_CHAR", type := .int, accessFlags := 25, slot := 12, constantValue := 0 }, { name := "T_FLOAT", type := .int, accessFlags := 25, slot := 13, constantValue := 0 }, { name := "T_DOUBLE", type := .int, accessFlags := 25, slot := 14, constantValue := 0 }, { name := "T_BYTE", type := .int, accessFlags := 25, slot := 15, constantValue := 0 }, { name := "T_SHORT", type := .int, accessFlags := 25, slot := 16, constantValue := 0 }, { name := "T_INT", type := .int, accessFlags := 25, slot := 17, constantValue := 0 }, { name := "T_LONG", type := .int, accessFlags := 25, slot := 18, constantValue := 0 }, { name := "JLA", type := (.object "jdk/internal/access/JavaLangAccess"), accessFlags := 26, slot := 19, constantValue := 0 }, { name := "SOFT_MAX_ARRAY_LENGTH", type := .int, accessFlags := 25, slot := 20, constantValue := 0 }]
  methods := #[k15m0]
  instanceTypes := #[]
  staticTypes := #[(.object "jdk/internal/misc/Unsafe"), .boolean, .int, .int, .int, .int, .int, .int, .int, .int, .int, .int, .int, .int, .int, .int, .int, .int, .int, (.object "jdk/internal/access/JavaLangAccess"), .int]
  resolved := Array.replicate 378 none
  statics := none }

def pool16 : Array CpInfo := pool [(2, .class_ 4), (1, u "java/lang/Object"), (0, u "<init>"), (0, u "()V"), (12, .class_ 20), (0, u "java/util/Collections"), (63, u "r"), (0, u "Ljava/util/Random;"), (80, .class_ 167), (0, u "java/util/Collections$UnmodifiableCollection"), (6, .class_ 175), (0, u "java/util/Collections$UnmodifiableSequencedCollection"), (6, .class_ 183), (0, u "java/util/Collections$UnmodifiableSet"), (6, .class_ 191), (0, u "java/util/Collections$UnmodifiableSequencedSet"), (6, .class_ 199), (0, u "java/util/Collections$UnmodifiableSortedSet"), (6, .class_ 207), (0, u "java/util/Collections$UnmodifiableNavigableSet"), (4, .class_ 213), (0, u "java/util/Collections$UnmodifiableList"), (1, .class_ 216), (0, u "java/util/Collections$UnmodifiableRandomAccessList"), (6, .class_ 224), (0, u "java/util/Collections$UnmodifiableMap"), (6, .class_ 232), (0, u "java/util/Collections$UnmodifiableSequencedMap"), (4, .class_ 238), (0, u "java/util/Collections$UnmodifiableSortedMap"), (6, .class_ 246), (0, u "java/util/Collections$UnmodifiableNavigableMap"), (3, .class_ 251), (0, u "java/util/Collections$SynchronizedCollection"), (4, .class_ 257), (0, u "java/util/Collections$SynchronizedSet"), (4, .class_ 263), (0, u "java/util/Collections$SynchronizedSortedSet"), (1, .class_ 266), (0, u "java/util/Collections$SynchronizedNavigableSet"), (1, .class_ 269), (0, u "java/util/Collections$SynchronizedRandomAccessList"), (1, .class_ 272), (0, u "java/util/Collections$SynchronizedList"), (5, .class_ 279), (0, u "java/util/Collections$SynchronizedMap"), (1, .class_ 282), (0, u "java/util/Collections$SynchronizedSortedMap"), (1, .class_ 285), (0, u "java/util/Collections$SynchronizedNavigableMap"), (1, .class_ 288), (0, u "java/util/Collections$CheckedCollection"), (11, .class_ 301), (0, u "java/util/Collections$CheckedQueue"), (3, .class_ 306), (0, u "java/util/Collections$CheckedSet"), (3, .class_ 311), (0, u "java/util/Collections$CheckedSortedSet"), (3, .class_ 316), (0, u "java/util/Collections$CheckedNavigableSet"), (3, .class_ 321), (0, u "java/util/Collections$CheckedRandomAccessList"), (3, .class_ 326), (0, u "java/util/Collections$CheckedList"), (1, .class_ 329), (0, u "java/util/Collections$CheckedMap"), (3, .class_ 334), (0, u "java/util/Collections$CheckedSortedMap"), (3, .class_ 339), (0, u "java/util/Collections$CheckedNavigableMap"), (4, .class_ 346), (1, u "java/util/Collections$EmptyIterator"), (3, .class_ 352), (1, u "java/util/Collections$EmptyListIterator"), (2, .class_ 357), (1, u "java/util/Collections$EmptyEnumeration"), (4, u "EMPTY_SET"), (0, u "Ljava/util/Set;"), (6, u "EMPTY_LIST"), (0, u "Ljava/util/List;"), (2, u "EMPTY_MAP"), (0, u "Ljava/util/Map;"), (4, .class_ 381), (0, u "java/util/Collections$SingletonSet"), (2, .class_ 385), (0, u "java/util/Collections$1"), (1, .class_ 388), (0, u "java/util/Collections$2"), (1, .class_ 391), (0, u "java/util/Collections$SingletonList"), (1, .class_ 394), (0, u "java/util/Collections$SingletonMap"), (22, .class_ 418), (0, u "java/util/Collections$CopiesList"), (4, .class_ 425), (1, u "java/util/Collections$ReverseComparator"), (8, .class_ 435), (0, u "java/util/Collections$ReverseComparator2"), (6, .class_ 443), (0, u "java/util/Collections$3"), (25, .class_ 470), (0, u "java/util/Collections$SetFromMap"), (2, .class_ 474), (0, u "java/util/Collections$SequencedSetFromMap"), (3, .class_ 479), (0, u "java/util/Collections$AsLIFOQueue"), (11, .class_ 492), (0, u "java/util/Collections$EmptySet"), (1, .class_ 495), (0, u "java/util/Collections$EmptyList"), (1, .class_ 498), (0, u "java/util/Collections$EmptyMap"), (1, u "BINARYSEARCH_THRESHOLD"), (0, u "I"), (2, u "REVERSE_THRESHOLD"), (1, u "SHUFFLE_THRESHOLD"), (1, u "FILL_THRESHOLD"), (1, u "ROTATE_THRESHOLD"), (1, u "COPY_THRESHOLD"), (1, u "REPLACEALL_THRESHOLD"), (1, u "INDEXOFSUBLIST_THRESHOLD"), (333, .class_ 851), (0, u "java/util/Collections$CheckedMap$CheckedEntrySet"), (0, .class_ 853), (0, u "java/util/Collections$CheckedMap$CheckedEntrySet$CheckedEntry"), (0, .class_ 855), (0, u "java/util/Collections$CheckedMap$CheckedEntrySet$1"), (0, .class_ 857), (0, u "java/util/Collections$CheckedList$1"), (0, .class_ 859), (0, u "java/util/Collections$CheckedCollection$1"), (0, .class_ 861), (0, u "java/util/Collections$UnmodifiableNavigableMap$EmptyNavigableMap"), (0, .class_ 863), (0, u "java/util/Collections$UnmodifiableMap$UnmodifiableEntrySet"), (0, .class_ 865), (0, u "java/util/Collections$UnmodifiableMap$UnmodifiableEntrySet$UnmodifiableEntry"), (0, .class_ 867), (0, u "java/util/Collections$UnmodifiableMap$UnmodifiableEntrySet$UnmodifiableEntrySetSpliterator"), (0, .class_ 869), (0, u "java/util/Collections$UnmodifiableMap$UnmodifiableEntrySet$1"), (0, .class_ 871), (0, u "java/util/Collections$UnmodifiableList$1"), (0, .class_ 873), (0, u "java/util/Collections$UnmodifiableNavigableSet$EmptyNavigableSet"), (0, .class_ 875), (0, u "java/util/Collections$UnmodifiableCollection$1")] 57

def k16m0 : Method := { name := "<init>", desc := "()V", sig := { parameters := [], returnType := none }, accessFlags := 2, code := none }
/-- java/util/Collections -/
def k16 : Class := { plain "java/util/Collections" (some 0) with
  accessFlags := 33
  interfaces := #[]
  cf := some (fileOf pool16 19 #[.nestMembers #[478, 473, 469, 434, 423, 417, 393, 390, 380, 497, 494, 491, 355, 350, 344, 338, 333, 328, 850, 852, 854, 320, 325, 856, 315, 310, 305, 300, 287, 858, 284, 281, 278, 268, 271, 265, 262, 256, 250, 245, 860, 237, 231, 223, 862, 864, 866, 868, 215, 212, 870, 206, 872, 198, 190, 182, 174, 166, 874, 442, 387, 384]] #[{ accessFlags := 2, nameIndex := 5, descriptorIndex := 6, attributes := #[] }] 33 2 #[] #[{ accessFlags := 26, nameIndex := 500, descriptorIndex := 501, attributes := #[] }, { accessFlags := 26, nameIndex := 504, descriptorIndex := 501, attributes := #[] }, { accessFlags := 26, nameIndex := 506, descriptorIndex := 501, attributes := #[] }, { accessFlags := 26, nameIndex := 508, descriptorIndex := 501, attributes := #[] }, { accessFlags := 26, nameIndex := 510, descriptorIndex := 501, attributes := #[] }, { accessFlags := 26, nameIndex := 512, descriptorIndex := 501, attributes := #[] }, { accessFlags := 26, nameIndex := 514, descriptorIndex := 501, attributes := #[] }, { accessFlags := 26, nameIndex := 516, descriptorIndex := 501, attributes := #[] }, { accessFlags := 10, nameIndex := 84, descriptorIndex := 85, attributes := #[] }, { accessFlags := 25, nameIndex := 362, descriptorIndex := 363, attributes := #[] }, { accessFlags := 25, nameIndex := 370, descriptorIndex := 371, attributes := #[] }, { accessFlags := 25, nameIndex := 374, descriptorIndex := 375, attributes := #[] }])
  fields := #[{ name := "BINARYSEARCH_THRESHOLD", type := .int, accessFlags := 26, slot := 0, constantValue := 0 }, { name := "REVERSE_THRESHOLD", type := .int, accessFlags := 26, slot := 1, constantValue := 0 }, { name := "SHUFFLE_THRESHOLD", type := .int, accessFlags := 26, slot := 2, constantValue := 0 }, { name := "FILL_THRESHOLD", type := .int, accessFlags := 26, slot := 3, constantValue := 0 }, { name := "ROTATE_THRESHOLD", type := .int, accessFlags := 26, slot := 4, constantValue := 0 }, { name := "COPY_THRESHOLD", type := .int, accessFlags := 26, slot := 5, constantValue := 0 }, { name := "REPLACEALL_THRESHOLD", type := .int, accessFlags := 26, slot := 6, constantValue := 0 }, { name := "INDEXOFSUBLIST_THRESHOLD", type := .int, accessFlags := 26, slot := 7, constantValue := 0 }, { name := "r", type := (.object "java/util/Random"), accessFlags := 10, slot := 8, constantValue := 0 }, { name := "EMPTY_SET", type := (.object "java/util/Set"), accessFlags := 25, slot := 9, constantValue := 0 }, { name := "EMPTY_LIST", type := (.object "java/util/List"), accessFlags := 25, slot := 10, constantValue := 0 }, { name := "EMPTY_MAP", type := (.object "java/util/Map"), accessFlags := 25, slot := 11, constantValue := 0 }]
  methods := #[k16m0]
  instanceTypes := #[]
  staticTypes := #[.int, .int, .int, .int, .int, .int, .int, .int, (.object "java/util/Random"), (.object "java/util/Set"), (.object "java/util/List"), (.object "java/util/Map")]
  resolved := Array.replicate 933 none
  statics := some 4 }

def pool17 : Array CpInfo := pool [(8, .class_ 10), (1, u "java/lang/Iterable"), (24, .class_ 36), (0, u "java/lang/Object")] 25

/-- java/lang/Iterable -/
def k17 : Class := { plain "java/lang/Iterable" (some 0) with
  accessFlags := 1537
  interfaces := #[]
  cf := some (fileOf pool17 8 #[] #[] 1537 35 #[] #[])
  fields := #[]
  methods := #[]
  instanceTypes := #[]
  staticTypes := #[]
  resolved := Array.replicate 62 none
  statics := none }

def pool18 : Array CpInfo := pool [(10, .class_ 12), (1, u "java/util/Collection"), (47, .class_ 61), (0, u "java/lang/Object"), (0, .class_ 63), (0, u "java/lang/Iterable")] 51

/-- java/util/Collection -/
def k18 : Class := { plain "java/util/Collection" (some 0) with
  accessFlags := 1537
  interfaces := #[17]
  cf := some (fileOf pool18 10 #[] #[] 1537 60 #[62] #[])
  fields := #[]
  methods := #[]
  instanceTypes := #[]
  staticTypes := #[]
  resolved := Array.replicate 115 none
  statics := none }

def pool19 : Array CpInfo := pool [(2, .class_ 4), (1, u "java/lang/Object"), (0, u "<init>"), (0, u "()V"), (1, .class_ 10), (1, u "java/util/AbstractCollection"), (66, .class_ 78), (0, u "java/util/Collection")] 81

def k19m0 : Method := { name := "<init>", desc := "()V", sig := { parameters := [], returnType := none }, accessFlags := 4, code := none }
/-- java/util/AbstractCollection -/
def k19 : Class := { plain "java/util/AbstractCollection" (some 0) with
  accessFlags := 1057
  interfaces := #[18]
  cf := some (fileOf pool19 8 #[] #[{ accessFlags := 4, nameIndex := 5, descriptorIndex := 6, attributes := #[] }] 1057 2 #[77] #[])
  fields := #[]
  methods := #[k19m0]
  instanceTypes := #[]
  staticTypes := #[]
  resolved := Array.replicate 160 none
  statics := none }

def pool20 : Array CpInfo := pool [(8, .class_ 10), (1, u "java/util/SequencedCollection"), (15, .class_ 27), (0, u "java/lang/Object"), (0, .class_ 29), (0, u "java/util/Collection")] 27

/-- java/util/SequencedCollection -/
def k20 : Class := { plain "java/util/SequencedCollection" (some 0) with
  accessFlags := 1537
  interfaces := #[18]
  cf := some (fileOf pool20 8 #[] #[] 1537 26 #[28] #[])
  fields := #[]
  methods := #[]
  instanceTypes := #[]
  staticTypes := #[]
  resolved := Array.replicate 57 none
  statics := none }

def pool21 : Array CpInfo := pool [(8, .class_ 10), (1, u "java/util/List"), (92, .class_ 104), (0, u "java/lang/Object"), (15, .class_ 121), (0, u "java/util/SequencedCollection")] 129

/-- java/util/List -/
def k21 : Class := { plain "java/util/List" (some 0) with
  accessFlags := 1537
  interfaces := #[20]
  cf := some (fileOf pool21 8 #[] #[] 1537 103 #[120] #[])
  fields := #[]
  methods := #[]
  instanceTypes := #[]
  staticTypes := #[]
  resolved := Array.replicate 251 none
  statics := none }

def pool22 : Array CpInfo := pool [(2, .class_ 4), (1, u "java/util/AbstractCollection"), (0, u "<init>"), (0, u "()V"), (1, .class_ 10), (1, u "java/util/AbstractList"), (0, u "modCount"), (0, u "I"), (64, .class_ 78), (0, u "java/util/AbstractList$Itr"), (3, .class_ 83), (0, u "java/util/AbstractList$ListItr"), (9, .class_ 94), (0, u "java/util/AbstractList$RandomAccessSubList"), (3, .class_ 99), (0, u "java/util/AbstractList$SubList"), (33, .class_ 134), (0, u "java/util/List"), (73, .class_ 209), (0, u "java/util/AbstractList$SubList$1"), (0, .class_ 211), (0, u "java/util/AbstractList$RandomAccessSpliterator")] 6

def k22m0 : Method := { name := "<init>", desc := "()V", sig := { parameters := [], returnType := none }, accessFlags := 4, code := none }
/-- java/util/AbstractList -/
def k22 : Class := { plain "java/util/AbstractList" (some 19) with
  accessFlags := 1057
  interfaces := #[21]
  cf := some (fileOf pool22 8 #[.nestMembers #[93, 98, 208, 210, 82, 77]] #[{ accessFlags := 4, nameIndex := 5, descriptorIndex := 6, attributes := #[] }] 1057 2 #[133] #[{ accessFlags := 132, nameIndex := 11, descriptorIndex := 12, attributes := #[] }])
  fields := #[{ name := "modCount", type := .int, accessFlags := 132, slot := 0, constantValue := 0 }]
  methods := #[k22m0]
  instanceTypes := #[.int]
  staticTypes := #[]
  resolved := Array.replicate 218 none
  statics := none }

def pool23 : Array CpInfo := pool [(1, .class_ 2), (0, u "java/util/RandomAccess"), (0, .class_ 4), (0, u "java/lang/Object")] 2

/-- java/util/RandomAccess -/
def k23 : Class := { plain "java/util/RandomAccess" (some 0) with
  accessFlags := 1537
  interfaces := #[]
  cf := some (fileOf pool23 1 #[] #[] 1537 3 #[] #[])
  fields := #[]
  methods := #[]
  instanceTypes := #[]
  staticTypes := #[]
  resolved := Array.replicate 7 none
  statics := none }

def pool24 : Array CpInfo := pool [(2, .class_ 4), (1, u "java/util/AbstractList"), (0, u "<init>"), (0, u "()V"), (1, .class_ 10), (1, u "java/util/Collections"), (54, .class_ 66), (0, u "java/util/Collections$EmptyList"), (0, .class_ 68), (0, u "java/util/RandomAccess"), (0, .class_ 70), (0, u "java/io/Serializable"), (0, u "serialVersionUID"), (0, u "J")] 77

def k24m0 : Method := { name := "<init>", desc := "()V", sig := { parameters := [], returnType := none }, accessFlags := 2, code := none }
/-- java/util/Collections$EmptyList -/
def k24 : Class := { plain "java/util/Collections$EmptyList" (some 22) with
  accessFlags := 32
  interfaces := #[23, 2]
  cf := some (fileOf pool24 65 #[.nestHost 8] #[{ accessFlags := 2, nameIndex := 5, descriptorIndex := 6, attributes := #[] }] 32 2 #[67, 69] #[{ accessFlags := 26, nameIndex := 71, descriptorIndex := 72, attributes := #[] }])
  fields := #[{ name := "serialVersionUID", type := .long, accessFlags := 26, slot := 0, constantValue := 0 }]
  methods := #[k24m0]
  instanceTypes := #[.int]
  staticTypes := #[.long]
  resolved := Array.replicate 150 none
  statics := none }

def pool25 : Array CpInfo := pool [(2, .class_ 4), (1, u "java/lang/StackTraceElement"), (0, u "<init>"), (2, .class_ 10), (1, u "java/lang/Object"), (0, u "()V"), (2, u "format"), (0, u "B"), (2, u "classLoaderName"), (0, u "Ljava/lang/String;"), (2, u "moduleName"), (2, u "moduleVersion"), (12, u "declaringClass"), (4, u "methodName"), (2, u "fileName"), (2, u "lineNumber"), (0, u "I"), (65, u "declaringClassObject"), (0, u "Ljava/lang/Class;"), (33, .class_ 153), (1, u "java/lang/StackTraceElement$HashedModules"), (17, .class_ 172), (0, u "java/io/Serializable"), (0, u "NATIVE_METHOD"), (1, u "UNKNOWN_SOURCE"), (2, u "BUILTIN_CLASS_LOADER"), (1, u "JDK_NON_UPGRADEABLE_MODULE"), (1, u "serialVersionUID"), (0, u "J")] 51

def k25m0 : Method := { name := "<init>", desc := "()V", sig := { parameters := [], returnType := none }, accessFlags := 2, code := none }
/-- java/lang/StackTraceElement -/
def k25 : Class := { plain "java/lang/StackTraceElement" (some 0) with
  accessFlags := 49
  interfaces := #[2]
  cf := some (fileOf pool25 2 #[.nestMembers #[151]] #[{ accessFlags := 2, nameIndex := 5, descriptorIndex := 11, attributes := #[] }] 49 8 #[171] #[{ accessFlags := 26, nameIndex := 173, descriptorIndex := 19, attributes := #[] }, { accessFlags := 26, nameIndex := 175, descriptorIndex := 19, attributes := #[] }, { accessFlags := 130, nameIndex := 116, descriptorIndex := 117, attributes := #[] }, { accessFlags := 2, nameIndex := 18, descriptorIndex := 19, attributes := #[] }, { accessFlags := 2, nameIndex := 22, descriptorIndex := 19, attributes := #[] }, { accessFlags := 2, nameIndex := 25, descriptorIndex := 19, attributes := #[] }, { accessFlags := 2, nameIndex := 38, descriptorIndex := 19, attributes := #[] }, { accessFlags := 2, nameIndex := 43, descriptorIndex := 19, attributes := #[] }, { accessFlags := 2, nameIndex := 46, descriptorIndex := 19, attributes := #[] }, { accessFlags := 2, nameIndex := 49, descriptorIndex := 50, attributes := #[] }, { accessFlags := 2, nameIndex := 14, descriptorIndex := 15, attributes := #[] }, { accessFlags := 26, nameIndex := 178, descriptorIndex := 15, attributes := #[] }, { accessFlags := 26, nameIndex := 180, descriptorIndex := 15, attributes := #[] }, { accessFlags := 26, nameIndex := 182, descriptorIndex := 183, attributes := #[] }])
  fields := #[{ name := "NATIVE_METHOD", type := (.object "java/lang/String"), accessFlags := 26, slot := 0, constantValue := 0 }, { name := "UNKNOWN_SOURCE", type := (.object "java/lang/String"), accessFlags := 26, slot := 1, constantValue := 0 }, { name := "declaringClassObject", type := (.object "java/lang/Class"), accessFlags := 130, slot := 0, constantValue := 0 }, { name := "classLoaderName", type := (.object "java/lang/String"), accessFlags := 2, slot := 1, constantValue := 0 }, { name := "moduleName", type := (.object "java/lang/String"), accessFlags := 2, slot := 2, constantValue := 0 }, { name := "moduleVersion", type := (.object "java/lang/String"), accessFlags := 2, slot := 3, constantValue := 0 }, { name := "declaringClass", type := (.object "java/lang/String"), accessFlags := 2, slot := 4, constantValue := 0 }, { name := "methodName", type := (.object "java/lang/String"), accessFlags := 2, slot := 5, constantValue := 0 }, { name := "fileName", type := (.object "java/lang/String"), accessFlags := 2, slot := 6, constantValue := 0 }, { name := "lineNumber", type := .int, accessFlags := 2, slot := 7, constantValue := 0 }, { name := "format", type := .byte, accessFlags := 2, slot := 8, constantValue := 0 }, { name := "BUILTIN_CLASS_LOADER", type := .byte, accessFlags := 26, slot := 2, constantValue := 0 }, { name := "JDK_NON_UPGRADEABLE_MODULE", type := .byte, accessFlags := 26, slot := 3, constantValue := 0 }, { name := "serialVersionUID", type := .long, accessFlags := 26, slot := 4, constantValue := 0 }]
  methods := #[k25m0]
  instanceTypes := #[(.object "java/lang/Class"), (.object "java/lang/String"), (.object "java/lang/String"), (.object "java/lang/String"), (.object "java/lang/String"), (.object "java/lang/String"), (.object "java/lang/String"), .int, .byte]
  staticTypes := #[(.object "java/lang/String"), (.object "java/lang/String"), .byte, .byte, .long]
  resolved := Array.replicate 235 none
  statics := none }

def pool26 : Array CpInfo := pool [(1, u "java/lang/Cloneable"), (0, .class_ 1), (0, u "java/lang/Object"), (0, .class_ 3)] 3

/-- java/lang/Cloneable -/
def k26 : Class := { plain "java/lang/Cloneable" (some 0) with
  accessFlags := 1537
  interfaces := #[]
  cf := some (fileOf pool26 2 #[] #[] 1537 4 #[] #[])
  fields := #[]
  methods := #[]
  instanceTypes := #[]
  staticTypes := #[]
  resolved := Array.replicate 8 none
  statics := none }

/-- the primitive byte -/
def k27 : Class := { plain "byte" none with kind := .primitive 'B', accessFlags := 0x411 }
/-- [B -/
def k28 : Class := { plain "[B" (some 0) with kind := .array 27 .byte, interfaces := #[26, 2], accessFlags := 1041 }

/-- the primitive char -/
def k29 : Class := { plain "char" none with kind := .primitive 'C', accessFlags := 0x411 }
/-- [C -/
def k30 : Class := { plain "[C" (some 0) with kind := .array 29 .char, interfaces := #[26, 2], accessFlags := 1041 }

/-- the primitive int -/
def k31 : Class := { plain "int" none with kind := .primitive 'I', accessFlags := 0x411 }
/-- [I -/
def k32 : Class := { plain "[I" (some 0) with kind := .array 31 .int, interfaces := #[26, 2], accessFlags := 1041 }

/-- [Ljava/lang/Object; -/
def k33 : Class := { plain "[Ljava/lang/Object;" (some 0) with kind := .array 0 (.object "java/lang/Object"), interfaces := #[26, 2], accessFlags := 1041 }

/-- [Ljava/lang/StackTraceElement; -/
def k34 : Class := { plain "[Ljava/lang/StackTraceElement;" (some 0) with kind := .array 25 (.object "java/lang/StackTraceElement"), interfaces := #[26, 2], accessFlags := 1041 }

/-- [Ljava/lang/Throwable; -/
def k35 : Class := { plain "[Ljava/lang/Throwable;" (some 0) with kind := .array 9 (.object "java/lang/Throwable"), interfaces := #[26, 2], accessFlags := 1041 }

def heap : Heap := #[{ cls := 7, slots := #[.long 0, .int 1, .null, .int 0, .null, .int 0, .int 0], vm := .statics 7 },
  { cls := 9, slots := #[.long 0, .ref 5, .ref 6, .null, .null, .null, .null, .ref 7, .int 1], vm := .statics 9 },
  { cls := 12, slots := #[.ref 8], vm := .statics 12 },
  { cls := 14, slots := #[.null, .null, .null], vm := .statics 14 },
  { cls := 16, slots := #[.int 0, .int 0, .int 0, .int 0, .int 0, .int 0, .int 0, .int 0, .null, .null, .ref 6, .null], vm := .statics 16 },
  { cls := 34, slots := #[], vm := .none },
  { cls := 24, slots := #[.int 0], vm := .none },
  { cls := 35, slots := #[], vm := .none },
  { cls := 12, slots := #[.int 0, .int 0], vm := .none }]
def classes : Array Class := #[k0, k1, k2, k3, k4, k5, k6, k7, k8, k9, k10, k11, k12, k13, k14, k15, k16, k17, k18, k19, k20, k21, k22, k23, k24, k25, k26, k27, k28, k29, k30, k31, k32, k33, k34, k35]
def interned : List (Array UInt16 × Addr) := []
def slotsUsed : Nat := 35
def theMethod : MethodId := ⟨1, 1⟩
def args0 : Array Value := #[.int 5, .int 3, .int 66]
def aboutOver (below : List Frame) : State where
  vm := { classes := classes, interned := interned.toArray }
  heap := heap
  slotsUsed := slotsUsed
  threads := #[{ frames := .invoking theMethod args0 :: below }]
def below0 : List Frame := [.native { method := ⟨0, 0⟩, args := #[] }]
def about1 : State := aboutOver below0
def p0 : Program := .bare "" "" ""
def e0 : Env := launch0.env 0 0 0
theorem w_frames : about1.frames = Frame.invoking theMethod args0 :: below0 := rfl
set_option maxRecDepth 65536 in
theorem w_args : argsFit about1.vm theMethod args0 = true := by decide +kernel
set_option maxRecDepth 65536 in
theorem w_heap : heapFits about1 = true := by decide +kernel
set_option maxRecDepth 65536 in
theorem w_runnable : about1.curStatus? = some .runnable := by decide +kernel
set_option maxRecDepth 65536 in
theorem w_alone : about1.alone = true := by decide +kernel
set_option maxRecDepth 65536 in
theorem w_named : about1.methodNamed? x = some theMethod := by decide +kernel
set_option maxRecDepth 65536 in
theorem w_hears : about1.hears theMethod below0 = true := by decide +kernel
set_option maxRecDepth 65536 in
theorem w_ripe : about1.ripe theMethod args0 below0 = true := by decide +kernel
theorem w_running : about1.status = .running := rfl
set_option maxRecDepth 65536 in
theorem w_room : about1.hasRoom e0.platform room_1 = true :=
  launch0.hasRoom_least _ room_1 (by decide +kernel) (by decide +kernel) (by decide +kernel) (by decide +kernel) (by decide +kernel) (by decide +kernel)
theorem allAtoms_all (ts : List Jvm.Cond) (a : Array Jvm.Value) (st : Jvm.State) : (allAtoms ts).before a st = ts.all (fun c => c.before a st) := by
  induction ts with
  | nil => rfl
  | cons c t ih =>
    show (Jvm.Cond.and c (allAtoms t)).before a st = _
    rw [Jvm.Cond.before_and, ih, List.all_cons]
def words1 : List Jvm.Cond := Jvm.Cond.code x code maxLocals ret :: tables_1
/-- a 'code' word, met by the world's own term for the bytes: nothing is compared byte by byte -/
theorem code_word {y : MethodName} {bytes : ByteArray} {mx : Nat} {rt : Option FieldType} {a : Array Value} {s : State} {m : MethodId} {meth : Method} {c : Code} (h1 : s.methodNamed? y = some m) (h2 : s.vm.method? m = some meth) (h3 : meth.code = some c) (h4 : c.code = bytes)
    (h5 : (c.maxLocals == mx && c.exceptionTable.isEmpty && decide (c.maxStack ≤ mostOperands) && decide (meth.sig.returnType = rt) && !meth.locks && decide (parseMethodDescriptor y.desc = some meth.sig)) = true) : (Jvm.Cond.code y bytes mx rt).before a s = true := by
  simp only [Bool.and_eq_true, beq_iff_eq, Bool.not_eq_true', decide_eq_true_eq] at h5
  obtain ⟨⟨⟨⟨⟨g1, g2⟩, g3⟩, g4⟩, g5⟩, g6⟩ := h5
  simp [Cond.before, Cond.holds, Cond.value, h1, h2, h3, h4, g1, g2, g3, g4, g5, g6]
def isCode : Jvm.Cond → Bool
  | .code _ _ _ _ => true
  | _ => false
theorem all_split {L : List Jvm.Cond} {P : Jvm.Cond → Bool} (h1 : L.all (fun c => isCode c || P c) = true) (h2 : ∀ c ∈ L.filter isCode, P c = true) : L.all P = true := by
  refine List.all_eq_true.mpr fun c hc => ?_
  have h := List.all_eq_true.mp h1 c hc
  rcases Bool.eq_false_or_eq_true (isCode c) with hi | hi
  · exact h2 c (List.mem_filter.mpr ⟨hc, hi⟩)
  · simpa [hi] using h
set_option maxRecDepth 65536 in
theorem w_c0 : (Jvm.Cond.code x code maxLocals ret).before args0 about1 = true := code_word (m := ⟨1, 1⟩) (meth := k1m1) (c := k1c1) (by decide +kernel) rfl rfl rfl (by decide +kernel)
set_option maxRecDepth 65536 in
theorem w_c1 : (Jvm.Cond.code ({ cls := "java/lang/String", name := "<init>", desc := "([C)V" } : Jvm.MethodName) jdk_42_method_3_code (2 : Nat) (Option.none : Option Jvm.ClassFile.FieldType)).before args0 about1 = true := code_word (m := ⟨7, 1⟩) (meth := k7m1) (c := k7c1) (by decide +kernel) rfl rfl rfl (by decide +kernel)
set_option maxRecDepth 65536 in
theorem w_c2 : (Jvm.Cond.code ({ cls := "java/lang/String", name := "<init>", desc := "([CIILjava/lang/Void;)V" } : Jvm.MethodName) jdk_42_method_149_code (6 : Nat) (Option.none : Option Jvm.ClassFile.FieldType)).before args0 about1 = true := code_word (m := ⟨7, 2⟩) (meth := k7m2) (c := k7c2) (by decide +kernel) rfl rfl rfl (by decide +kernel)
set_option maxRecDepth 65536 in
theorem w_c3 : (Jvm.Cond.code ({ cls := "java/lang/Object", name := "<init>", desc := "()V" } : Jvm.MethodName) object_method_1_code (1 : Nat) (Option.none : Option Jvm.ClassFile.FieldType)).before args0 about1 = true := code_word (m := ⟨0, 0⟩) (meth := k0m0) (c := k0c0) (by decide +kernel) rfl rfl rfl (by decide +kernel)
set_option maxRecDepth 65536 in
theorem w_c4 : (Jvm.Cond.code ({ cls := "java/lang/StringUTF16", name := "compress", desc := "([CII)[B" } : Jvm.MethodName) jdk_52_method_16_code (6 : Nat) (Option.some (Jvm.ClassFile.FieldType.array Jvm.ClassFile.FieldType.byte))).before args0 about1 = true := code_word (m := ⟨8, 2⟩) (meth := k8m2) (c := k8c2) (by decide +kernel) rfl rfl rfl (by decide +kernel)
set_option maxRecDepth 65536 in
theorem w_c5 : (Jvm.Cond.code ({ cls := "java/lang/StringUTF16", name := "compress", desc := "([CI[BII)I" } : Jvm.MethodName) jdk_52_method_21_code (7 : Nat) (Option.some Jvm.ClassFile.FieldType.int)).before args0 about1 = true := code_word (m := ⟨8, 3⟩) (meth := k8m3) (c := k8c3) (by decide +kernel) rfl rfl rfl (by decide +kernel)
set_option maxRecDepth 65536 in
theorem w_c6 : (Jvm.Cond.code ({ cls := "java/lang/StringUTF16", name := "coderFromArrayLen", desc := "([BI)B" } : Jvm.MethodName) jdk_52_method_15_code (2 : Nat) (Option.some Jvm.ClassFile.FieldType.byte)).before args0 about1 = true := code_word (m := ⟨8, 1⟩) (meth := k8m1) (c := k8c1) (by decide +kernel) rfl rfl rfl (by decide +kernel)
set_option maxRecDepth 65536 in
theorem w_c7 : (Jvm.Cond.code ({ cls := "com/example/pollster/pollster/recipient/TransmitterException", name := "<init>", desc := "(Ljava/lang/String;I)V" } : Jvm.MethodName) prog_5_method_3_code (3 : Nat) (Option.none : Option Jvm.ClassFile.FieldType)).before args0 about1 = true := code_word (m := ⟨11, 2⟩) (meth := k11m2) (c := k11c2) (by decide +kernel) rfl rfl rfl (by decide +kernel)
set_option maxRecDepth 65536 in
theorem w_c8 : (Jvm.Cond.code ({ cls := "java/lang/Exception", name := "<init>", desc := "(Ljava/lang/String;)V" } : Jvm.MethodName) jdk_59_method_2_code (2 : Nat) (Option.none : Option Jvm.ClassFile.FieldType)).before args0 about1 = true := code_word (m := ⟨10, 1⟩) (meth := k10m1) (c := k10c1) (by decide +kernel) rfl rfl rfl (by decide +kernel)
set_option maxRecDepth 65536 in
theorem w_c9 : (Jvm.Cond.code ({ cls := "java/lang/Throwable", name := "<init>", desc := "(Ljava/lang/String;)V" } : Jvm.MethodName) jdk_78_method_2_code (2 : Nat) (Option.none : Option Jvm.ClassFile.FieldType)).before args0 about1 = true := code_word (m := ⟨9, 1⟩) (meth := k9m1) (c := k9c1) (by decide +kernel) rfl rfl rfl (by decide +kernel)
set_option maxRecDepth 65536 in
theorem w_c10 : (Jvm.Cond.code ({ cls := "java/lang/Throwable", name := "<init>", desc := "()V" } : Jvm.MethodName) jdk_78_method_1_code (1 : Nat) (Option.none : Option Jvm.ClassFile.FieldType)).before args0 about1 = true := code_word (m := ⟨9, 0⟩) (meth := k9m0) (c := k9c0) (by decide +kernel) rfl rfl rfl (by decide +kernel)
set_option maxRecDepth 65536 in
theorem w_c11 : (Jvm.Cond.code ({ cls := "com/example/pollster/pollster/recipient/TransmitterException", name := "status", desc := "()Ljava/util/OptionalInt;" } : Jvm.MethodName) prog_5_method_4_code (1 : Nat) (Option.some (Jvm.ClassFile.FieldType.object "java/util/OptionalInt"))).before args0 about1 = true := code_word (m := ⟨11, 3⟩) (meth := k11m3) (c := k11c3) (by decide +kernel) rfl rfl rfl (by decide +kernel)
set_option maxRecDepth 65536 in
theorem w_c12 : (Jvm.Cond.code ({ cls := "java/util/OptionalInt", name := "empty", desc := "()Ljava/util/OptionalInt;" } : Jvm.MethodName) jdk_2649_method_2_code (0 : Nat) (Option.some (Jvm.ClassFile.FieldType.object "java/util/OptionalInt"))).before args0 about1 = true := code_word (m := ⟨12, 1⟩) (meth := k12m1) (c := k12c1) (by decide +kernel) rfl rfl rfl (by decide +kernel)
set_option maxRecDepth 65536 in
theorem w_c13 : (Jvm.Cond.code ({ cls := "java/util/OptionalInt", name := "isPresent", desc := "()Z" } : Jvm.MethodName) jdk_2649_method_6_code (1 : Nat) (Option.some Jvm.ClassFile.FieldType.boolean)).before args0 about1 = true := code_word (m := ⟨12, 5⟩) (meth := k12m5) (c := k12c5) (by decide +kernel) rfl rfl rfl (by decide +kernel)
set_option maxRecDepth 65536 in
theorem w_c14 : (Jvm.Cond.code ({ cls := "com/example/pollster/pollster/recipient/TransmitterException", name := "<init>", desc := "(Ljava/lang/String;)V" } : Jvm.MethodName) prog_5_method_1_code (2 : Nat) (Option.none : Option Jvm.ClassFile.FieldType)).before args0 about1 = true := code_word (m := ⟨11, 0⟩) (meth := k11m0) (c := k11c0) (by decide +kernel) rfl rfl rfl (by decide +kernel)
set_option maxRecDepth 65536 in
theorem w_c15 : (Jvm.Cond.code ({ cls := "java/util/OptionalInt", name := "of", desc := "(I)Ljava/util/OptionalInt;" } : Jvm.MethodName) jdk_2649_method_4_code (1 : Nat) (Option.some (Jvm.ClassFile.FieldType.object "java/util/OptionalInt"))).before args0 about1 = true := code_word (m := ⟨12, 3⟩) (meth := k12m3) (c := k12c3) (by decide +kernel) rfl rfl rfl (by decide +kernel)
set_option maxRecDepth 65536 in
theorem w_c16 : (Jvm.Cond.code ({ cls := "java/util/OptionalInt", name := "<init>", desc := "(I)V" } : Jvm.MethodName) jdk_2649_method_3_code (2 : Nat) (Option.none : Option Jvm.ClassFile.FieldType)).before args0 about1 = true := code_word (m := ⟨12, 2⟩) (meth := k12m2) (c := k12c2) (by decide +kernel) rfl rfl rfl (by decide +kernel)
set_option maxRecDepth 65536 in
theorem w_c17 : (Jvm.Cond.code ({ cls := "java/util/OptionalInt", name := "getAsInt", desc := "()I" } : Jvm.MethodName) jdk_2649_method_5_code (1 : Nat) (Option.some Jvm.ClassFile.FieldType.int)).before args0 about1 = true := code_word (m := ⟨12, 4⟩) (meth := k12m4) (c := k12c4) (by decide +kernel) rfl rfl rfl (by decide +kernel)
set_option maxRecDepth 65536 in
theorem w_c18 : (Jvm.Cond.code ({ cls := "com/example/pollster/pollster/recipient/TransmitterException", name := "<init>", desc := "(Ljava/lang/String;Ljava/lang/Throwable;)V" } : Jvm.MethodName) prog_5_method_2_code (3 : Nat) (Option.none : Option Jvm.ClassFile.FieldType)).before args0 about1 = true := code_word (m := ⟨11, 1⟩) (meth := k11m1) (c := k11c1) (by decide +kernel) rfl rfl rfl (by decide +kernel)
set_option maxRecDepth 65536 in
theorem w_c19 : (Jvm.Cond.code ({ cls := "java/lang/Exception", name := "<init>", desc := "(Ljava/lang/String;Ljava/lang/Throwable;)V" } : Jvm.MethodName) jdk_59_method_3_code (3 : Nat) (Option.none : Option Jvm.ClassFile.FieldType)).before args0 about1 = true := code_word (m := ⟨10, 2⟩) (meth := k10m2) (c := k10c2) (by decide +kernel) rfl rfl rfl (by decide +kernel)
set_option maxRecDepth 65536 in
theorem w_c20 : (Jvm.Cond.code ({ cls := "java/lang/Throwable", name := "<init>", desc := "(Ljava/lang/String;Ljava/lang/Throwable;)V" } : Jvm.MethodName) jdk_78_method_3_code (3 : Nat) (Option.none : Option Jvm.ClassFile.FieldType)).before args0 about1 = true := code_word (m := ⟨9, 2⟩) (meth := k9m2) (c := k9c2) (by decide +kernel) rfl rfl rfl (by decide +kernel)
def codes1 : List Jvm.Cond := [Jvm.Cond.code x code maxLocals ret, Jvm.Cond.code ({ cls := "java/lang/String", name := "<init>", desc := "([C)V" } : Jvm.MethodName) jdk_42_method_3_code (2 : Nat) (Option.none : Option Jvm.ClassFile.FieldType), Jvm.Cond.code ({ cls := "java/lang/String", name := "<init>", desc := "([CIILjava/lang/Void;)V" } : Jvm.MethodName) jdk_42_method_149_code (6 : Nat) (Option.none : Option Jvm.ClassFile.FieldType), Jvm.Cond.code ({ cls := "java/lang/Object", name := "<init>", desc := "()V" } : Jvm.MethodName) object_method_1_code (1 : Nat) (Option.none : Option Jvm.ClassFile.FieldType), Jvm.Cond.code ({ cls := "java/lang/StringUTF16", name := "compress", desc := "([CII)[B" } : Jvm.MethodName) jdk_52_method_16_code (6 : Nat) (Option.some (Jvm.ClassFile.FieldType.array Jvm.ClassFile.FieldType.byte)), Jvm.Cond.code ({ cls := "java/lang/StringUTF16", name := "compress", desc := "([CI[BII)I" } : Jvm.MethodName) jdk_52_method_21_code (7 : Nat) (Option.some Jvm.ClassFile.FieldType.int), Jvm.Cond.code ({ cls := "java/lang/StringUTF16", name := "coderFromArrayLen", desc := "([BI)B" } : Jvm.MethodName) jdk_52_method_15_code (2 : Nat) (Option.some Jvm.ClassFile.FieldType.byte), Jvm.Cond.code ({ cls := "com/example/pollster/pollster/recipient/TransmitterException", name := "<init>", desc := "(Ljava/lang/String;I)V" } : Jvm.MethodName) prog_5_method_3_code (3 : Nat) (Option.none : Option Jvm.ClassFile.FieldType), Jvm.Cond.code ({ cls := "java/lang/Exception", name := "<init>", desc := "(Ljava/lang/String;)V" } : Jvm.MethodName) jdk_59_method_2_code (2 : Nat) (Option.none : Option Jvm.ClassFile.FieldType), Jvm.Cond.code ({ cls := "java/lang/Throwable", name := "<init>", desc := "(Ljava/lang/String;)V" } : Jvm.MethodName) jdk_78_method_2_code (2 : Nat) (Option.none : Option Jvm.ClassFile.FieldType), Jvm.Cond.code ({ cls := "java/lang/Throwable", name := "<init>", desc := "()V" } : Jvm.MethodName) jdk_78_method_1_code (1 : Nat) (Option.none : Option Jvm.ClassFile.FieldType), Jvm.Cond.code ({ cls := "com/example/pollster/pollster/recipient/TransmitterException", name := "status", desc := "()Ljava/util/OptionalInt;" } : Jvm.MethodName) prog_5_method_4_code (1 : Nat) (Option.some (Jvm.ClassFile.FieldType.object "java/util/OptionalInt")), Jvm.Cond.code ({ cls := "java/util/OptionalInt", name := "empty", desc := "()Ljava/util/OptionalInt;" } : Jvm.MethodName) jdk_2649_method_2_code (0 : Nat) (Option.some (Jvm.ClassFile.FieldType.object "java/util/OptionalInt")), Jvm.Cond.code ({ cls := "java/util/OptionalInt", name := "isPresent", desc := "()Z" } : Jvm.MethodName) jdk_2649_method_6_code (1 : Nat) (Option.some Jvm.ClassFile.FieldType.boolean), Jvm.Cond.code ({ cls := "com/example/pollster/pollster/recipient/TransmitterException", name := "<init>", desc := "(Ljava/lang/String;)V" } : Jvm.MethodName) prog_5_method_1_code (2 : Nat) (Option.none : Option Jvm.ClassFile.FieldType), Jvm.Cond.code ({ cls := "java/util/OptionalInt", name := "of", desc := "(I)Ljava/util/OptionalInt;" } : Jvm.MethodName) jdk_2649_method_4_code (1 : Nat) (Option.some (Jvm.ClassFile.FieldType.object "java/util/OptionalInt")), Jvm.Cond.code ({ cls := "java/util/OptionalInt", name := "<init>", desc := "(I)V" } : Jvm.MethodName) jdk_2649_method_3_code (2 : Nat) (Option.none : Option Jvm.ClassFile.FieldType), Jvm.Cond.code ({ cls := "java/util/OptionalInt", name := "getAsInt", desc := "()I" } : Jvm.MethodName) jdk_2649_method_5_code (1 : Nat) (Option.some Jvm.ClassFile.FieldType.int), Jvm.Cond.code ({ cls := "com/example/pollster/pollster/recipient/TransmitterException", name := "<init>", desc := "(Ljava/lang/String;Ljava/lang/Throwable;)V" } : Jvm.MethodName) prog_5_method_2_code (3 : Nat) (Option.none : Option Jvm.ClassFile.FieldType), Jvm.Cond.code ({ cls := "java/lang/Exception", name := "<init>", desc := "(Ljava/lang/String;Ljava/lang/Throwable;)V" } : Jvm.MethodName) jdk_59_method_3_code (3 : Nat) (Option.none : Option Jvm.ClassFile.FieldType), Jvm.Cond.code ({ cls := "java/lang/Throwable", name := "<init>", desc := "(Ljava/lang/String;Ljava/lang/Throwable;)V" } : Jvm.MethodName) jdk_78_method_3_code (3 : Nat) (Option.none : Option Jvm.ClassFile.FieldType)]
set_option maxRecDepth 65536 in
theorem codes_eq : words1.filter isCode = codes1 := rfl
theorem w_codes : ∀ c ∈ words1.filter isCode, c.before args0 about1 = true := by
  rw [codes_eq]
  intro c hc
  simp only [codes1, List.mem_cons, List.not_mem_nil, or_false] at hc
  rcases hc with rfl | rfl | rfl | rfl | rfl | rfl | rfl | rfl | rfl | rfl | rfl | rfl | rfl | rfl | rfl | rfl | rfl | rfl | rfl | rfl | rfl
  · exact w_c0
  · exact w_c1
  · exact w_c2
  · exact w_c3
  · exact w_c4
  · exact w_c5
  · exact w_c6
  · exact w_c7
  · exact w_c8
  · exact w_c9
  · exact w_c10
  · exact w_c11
  · exact w_c12
  · exact w_c13
  · exact w_c14
  · exact w_c15
  · exact w_c16
  · exact w_c17
  · exact w_c18
  · exact w_c19
  · exact w_c20
set_option maxRecDepth 65536 in
theorem w_t1 : (words1.take 24).all (fun c => isCode c || c.before args0 about1) = true := by decide +kernel
set_option maxRecDepth 65536 in
theorem w_t2 : ((words1.drop 24).take 24).all (fun c => isCode c || c.before args0 about1) = true := by decide +kernel
set_option maxRecDepth 65536 in
theorem w_t3 : (((words1.drop 24).drop 24).take 24).all (fun c => isCode c || c.before args0 about1) = true := by decide +kernel
set_option maxRecDepth 65536 in
theorem w_t4 : ((((words1.drop 24).drop 24).drop 24).take 24).all (fun c => isCode c || c.before args0 about1) = true := by decide +kernel
set_option maxRecDepth 65536 in
theorem w_t5 : (((((words1.drop 24).drop 24).drop 24).drop 24).take 24).all (fun c => isCode c || c.before args0 about1) = true := by decide +kernel
set_option maxRecDepth 65536 in
theorem w_t6 : (((((words1.drop 24).drop 24).drop 24).drop 24).drop 24).all (fun c => isCode c || c.before args0 about1) = true := by decide +kernel
theorem w_tables : (allAtoms (Jvm.Cond.code x code maxLocals ret :: tables_1)).before args0 about1 = true := by
  rw [allAtoms_all]
  show words1.all (fun c => c.before args0 about1) = true
  refine all_split ?_ w_codes
  rw [← List.take_append_drop 24 words1, List.all_append, w_t1, ← List.take_append_drop 24 (words1.drop 24), List.all_append, w_t2, ← List.take_append_drop 24 ((words1.drop 24).drop 24), List.all_append, w_t3, ← List.take_append_drop 24 (((words1.drop 24).drop 24).drop 24), List.all_append, w_t4, ← List.take_append_drop 24 ((((words1.drop 24).drop 24).drop 24).drop 24), List.all_append, w_t5, w_t6]
  rfl
set_option maxRecDepth 65536 in
theorem w_rest : rest_1_c.before args0 about1 = true := by decide +kernel
set_option maxRecDepth 65536 in
theorem w_case : (Jvm.Cond.and given_1 narrow_1).before args0 about1 = true := by decide +kernel
theorem w_applies : (headSpec (Jvm.Cond.code x code maxLocals ret :: tables_1) room_1).applies x e0.platform about1 = true :=
  (Spec.applies_iff w_frames).mpr ⟨w_running, w_runnable, w_alone, w_named, w_hears, w_ripe, w_room, w_tables⟩
theorem atStart : AtStart classFile x code maxLocals ret World_1 tables_1 room_1 Calls_1 rest_1 Pre_1 launch0 p0 e0 about1 theMethod args0 below0 :=
  ⟨lists_1, trivial, launch0.admits_env _ _ _, launch0.least_env, fairChoices_fair.cas, fairChoices_fair.clock, w_frames, w_args, w_heap, w_applies, ⟨(by decide +kernel : framesKnown about1 = true), ⟨(by decide +kernel : tablesKnown about1 = true), trivial⟩⟩, w_rest, w_case⟩
end start1
theorem witness_1 : WitnessClaimed_1 := ⟨start1.p0, start1.e0, start1.about1, start1.theMethod, start1.args0, start1.below0, start1.atStart⟩
end Jvm.Pilot.@@N@@
