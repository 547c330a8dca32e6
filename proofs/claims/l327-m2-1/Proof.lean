import JvmDerived
import JvmDerived.Pilot.@@N@@Statement
import JvmDerived.Pilot.@@N@@Code
set_option linter.unusedVariables false
set_option linter.unusedSimpArgs false
namespace Jvm.Ow
open Sem ClassFile Op Lib Bundle Jvm.Stand Jvm.Free Jvm.LawKit Jvm.RoadKit
/-- what may be written: made since the case's start, and no literal's cell -/
def Own (Z : State) (EL : List (String × Nat)) (vm : Vm) (h : Heap) (W : List Nat) : Prop := ∀ x ∈ W, Z.heap.size ≤ x ∧ x < h.size ∧ Safe Z EL vm h x
theorem Own.nil {Z : State} {EL : List (String × Nat)} {vm : Vm} {h : Heap} : Own Z EL vm h [] := fun _ q => nomatch q
theorem Own.sub {Z : State} {EL : List (String × Nat)} {vm : Vm} {h : Heap} {W V : List Nat} (O : Own Z EL vm h W) (q : ∀ x ∈ V, x ∈ W) : Own Z EL vm h V := fun x hx => O x (q x hx)
theorem Own.app {Z : State} {EL : List (String × Nat)} {vm : Vm} {h : Heap} {W V : List Nat} (O : Own Z EL vm h W) (P : Own Z EL vm h V) : Own Z EL vm h (W ++ V) := fun x hx => (List.mem_append.mp hx).elim (O x) (P x)
theorem Own.r {Z : State} {EL : List (String × Nat)} {vm vm1 : Vm} {h h' : Heap} {W : List Nat} (O : Own Z EL vm h W) (A : CHr Z EL vm h vm1 h') : Own Z EL vm1 h' W := fun x hx =>
  ⟨(O x hx).1, Nat.lt_of_lt_of_le (O x hx).2.1 A.2.1, A.safe (O x hx).2.1 (O x hx).2.2⟩
theorem Own.new {Z : State} {EL : List (String × Nat)} {vm : Vm} {h h' : Heap} {W : List Nat} (O : Own Z EL vm h W) (H : CHv Z EL vm h) (E : Ext h h') (hs : Z.heap.size ≤ h.size) (hl : h.size < h'.size) : Own Z EL vm h' (h.size :: W) := fun x hx => by
  rcases List.mem_cons.mp hx with rfl | hx
  · exact ⟨hs, hl, Safe.ext E H (Safe.new (Nat.le_refl _))⟩
  · exact (O.r (CHr.ext E H)) x hx
/-- the walk's own facts, which do not change: the code, the class, the tables at the case's start -/
def Cx (p : Program) (m : MethodId) (meth : Method) (c : Code) (s : State) (Z : State) (a0 : Array Value) (EL : List (String × Nat)) (b : Bool) (own nm : String) (bytes : ByteArray) (maxL : Nat) (ret : Option FieldType) : Prop :=
  p.tables.exec = Jvm.exec ∧ c.code = bytes ∧ c.maxLocals = maxL ∧ meth.sig.returnType = ret ∧ meth.locks = false ∧ s.vm.findClass own = some m.cls ∧ Z.Warmed39 s.vm ∧ EW Z a0 EL ∧ meth.name = nm ∧ (b = false → ∀ a ∈ Bundle.stringAtoms, a.before a0 Z = true) ∧ (b = true → EL = [])
/-- a good end -/
def EndQ (R : Room) (Z : State) (EL : List (String × Nat)) (b : Bool) (Q : Option Value → Heap → List Nat → Prop) (s : State) (below : List Frame) (s2 : State) (v : Option Value) : Prop :=
  s2.status = .running ∧ Ended s2 below (.returned v) ∧ ∃ (L : List Loc) (W' : List Nat), Q v s2.heap W' ∧ Own Z EL s2.vm s2.heap W' ∧ Old Z Z.heap.size s2.heap ∧ Fr Z.heap.size L ∧ CHr Z EL s.vm s.heap s2.vm s2.heap ∧ ReturnedEndW s (.returned v) s2 L R.cells R.slots ∧ (b = true → FrameEnd s (.returned v) s2 L R.cells R.slots)
/-- from this frame over any state with this heap, the run comes to a good end -/
def WP (p : Program) (l : Launch) (e : Env) (R : Room) (s : State) (m : MethodId) (args : Array Value) (below : List Frame) (meth : Method) (c : Code) (Z : State) (EL : List (String × Nat)) (b : Bool) (Q : Option Value → Heap → List Nat → Prop)
    (pc : Nat) (L : List Slot) (st : List Value) (h : Heap) (W : List Nat) (k n : Nat) : Prop :=
  ∀ (T : State) (vm0 : Vm) (k0 : Nat) (locs : List Loc) (cells slots : Nat),
    Stand p l e R (s.setVm vm0) m args below meth c T locs cells slots → T.heap = h → s.Since vm0 k0 → k0 ≤ h.size → (b = true → vm0 = s.vm) →
    CHr Z EL s.vm s.heap vm0 h → Old Z Z.heap.size h → Own Z EL vm0 h W → Fr Z.heap.size locs → cells ≤ k → slots ≤ n →
    ∃ s2 v, Steps p.tables e below (T.setTop (mkF m pc L.toArray st)) s2 ∧ EndQ R Z EL b Q s below s2 v
section Steps
variable {p : Program} {l : Launch} {e : Env} {R : Room} {s : State} {m : MethodId} {args : Array Value} {below : List Frame} {meth : Method} {c : Code} {Z : State} {a0 : Array Value} {EL : List (String × Nat)} {b : Bool} {own nm : String} {bytes : ByteArray} {maxL : Nat} {ret : Option FieldType} {Q : Option Value → Heap → List Nat → Prop}
  {pc : Nat} {L : List Slot} {st : List Value} {h : Heap} {W : List Nat} {k n : Nat}
theorem Cx.z (C : Cx p m meth c s Z a0 EL b own nm bytes maxL ret) {vm0 : Vm} {k0 : Nat} (hS : s.Since vm0 k0) : Z.Warmed39 vm0 := State.Warmed39.trans C.2.2.2.2.2.2.1 hS.1
theorem Cx.o (C : Cx p m meth c s Z a0 EL b own nm bytes maxL ret) {vm0 : Vm} {k0 : Nat} (hS : s.Since vm0 k0) : vm0.findClass own = some m.cls := (hS.1.alike.findClass _ _).trans C.2.2.2.2.2.1
theorem Cx.ew (C : Cx p m meth c s Z a0 EL b own nm bytes maxL ret) : EW Z a0 EL := C.2.2.2.2.2.2.2.1
theorem WP.go {pc' : Nat} {L' : List Slot} {st' : List Value} (q : ∀ {T : State} {vm0 : Vm} {locs : List Loc} {cells slots : Nat}, Stand p l e R (s.setVm vm0) m args below meth c T locs cells slots → ∀ t, Steps p.tables e below (T.setTop (mkF m pc' L'.toArray st')) t → Steps p.tables e below (T.setTop (mkF m pc L.toArray st)) t)
    (hr : WP p l e R s m args below meth c Z EL b Q pc' L' st' h W k n) : WP p l e R s m args below meth c Z EL b Q pc L st h W k n := by
  intro T vm0 k0 locs cells slots X eT hS hk hb hC hO hW hF hc hn
  obtain ⟨s2, v, st, r⟩ := hr T vm0 k0 locs cells slots X eT hS hk hb hC hO hW hF hc hn
  exact ⟨s2, v, q X _ st, r⟩
theorem WP.hop {pc' : Nat} {L' : List Slot} {st' : List Value} (C : Cx p m meth c s Z a0 EL b own nm bytes maxL ret)
    (q : ∀ {T : State} {vm0 : Vm} {locs : List Loc} {cells slots : Nat}, Stand p l e R (s.setVm vm0) m args below meth c T locs cells slots → T.heap = h → Old Z Z.heap.size h → Z.Warmed39 (s.setVm vm0).vm → (s.setVm vm0).vm.findClass own = some m.cls →
      ∃ T', Stand p l e R (s.setVm vm0) m args below meth c T' locs cells slots ∧ T'.heap = h ∧ ∀ t, Steps p.tables e below (T'.setTop (mkF m pc' L'.toArray st')) t → Steps p.tables e below (T.setTop (mkF m pc L.toArray st)) t)
    (hr : WP p l e R s m args below meth c Z EL b Q pc' L' st' h W k n) : WP p l e R s m args below meth c Z EL b Q pc L st h W k n := by
  intro T vm0 k0 locs cells slots X eT hS hk hb hC hO hW hF hc hn
  obtain ⟨T', X', e', q'⟩ := q X eT hO (C.z hS) (C.o hS)
  obtain ⟨s2, v, st, r⟩ := hr T' vm0 k0 locs cells slots X' e' hS hk hb hC hO hW hF hc hn
  exact ⟨s2, v, q' _ st, r⟩
/-- a step that lays new cells and writes none -/
theorem WP.grow {pc' : Nat} {L' : List Slot} {st' : Nat → List Value} {dk dn : Nat} {F : Heap → Nat → Prop} (C : Cx p m meth c s Z a0 EL b own nm bytes maxL ret) (hc0 : k + dk ≤ R.cells) (hn0 : n + dn ≤ R.slots)
    (q : ∀ {T : State} {vm0 : Vm} {locs : List Loc} {cells slots : Nat}, Stand p l e R (s.setVm vm0) m args below meth c T locs cells slots → T.heap = h → Z.Warmed39 (s.setVm vm0).vm → (s.setVm vm0).vm.findClass own = some m.cls → cells + dk ≤ R.cells → slots + dn ≤ R.slots →
      ∃ T' h', Stand p l e R (s.setVm vm0) m args below meth c T' locs (cells + dk) (slots + dn) ∧ T'.heap = h' ∧ Ext h h' ∧ h.size < h'.size ∧ F h' h.size ∧ ∀ t, Steps p.tables e below (T'.setTop (mkF m pc' L'.toArray (st' h.size))) t → Steps p.tables e below (T.setTop (mkF m pc L.toArray st)) t)
    (hr : ∀ h' a, a = h.size → Z.heap.size ≤ a → a < h'.size → Ext h h' → F h' a → WP p l e R s m args below meth c Z EL b Q pc' L' (st' a) h' (a :: W) (k + dk) (n + dn)) : WP p l e R s m args below meth c Z EL b Q pc L st h W k n := by
  intro T vm0 k0 locs cells slots X eT hS hk hb hC hO hW hF hc hn
  obtain ⟨T', h', X', e', E, hl, f, q'⟩ := q X eT (C.z hS) (C.o hS) (by omega) (by omega)
  obtain ⟨s2, v, st, r⟩ := hr h' h.size rfl hO.2.1 hl E f T' vm0 k0 locs _ _ X' e' hS (Nat.le_trans hk E.1) hb (hC.trans (CHr.ext E hC.1)) (hO.ext E) (hW.new hC.1 E hO.2.1 hl) hF (by omega) (by omega)
  exact ⟨s2, v, q' _ st, r⟩
/-- a step that writes one place of a cell of W -/
theorem WP.write {pc' : Nat} {L' : List Slot} {st' : List Value} {a : Nat} {sl : Nat} {v : Value} (C : Cx p m meth c s Z a0 EL b own nm bytes maxL ret) (ha : a ∈ W)
    (q : ∀ {T : State} {vm0 : Vm} {locs : List Loc} {cells slots : Nat}, Stand p l e R (s.setVm vm0) m args below meth c T locs cells slots → T.heap = h → Z.Warmed39 (s.setVm vm0).vm → (s.setVm vm0).vm.findClass own = some m.cls →
      ∃ T' h', Stand p l e R (s.setVm vm0) m args below meth c T' (locs ++ [⟨a, sl⟩]) cells slots ∧ T'.heap = h' ∧ Wr h h' a sl v ∧ ∀ t, Steps p.tables e below (T'.setTop (mkF m pc' L'.toArray st')) t → Steps p.tables e below (T.setTop (mkF m pc L.toArray st)) t)
    (hr : ∀ h', Wr h h' a sl v → Keep h h' [a] → WP p l e R s m args below meth c Z EL b Q pc' L' st' h' W k n) : WP p l e R s m args below meth c Z EL b Q pc L st h W k n := by
  intro T vm0 k0 locs cells slots X eT hS hk hb hC hO hW hF hc hn
  obtain ⟨T', h', X', e', Wr', q'⟩ := q X eT (C.z hS) (C.o hS)
  have A := CHr.wr Wr' (hW a ha).2.2 hC.1
  obtain ⟨s2, v, st, r⟩ := hr h' Wr' (Keep.of_wr Wr') T' vm0 k0 _ _ _ X' e' hS (Nat.le_trans hk A.2.1) hb (hC.trans A) (hO.wr Wr' (hW a ha).1) (hW.r A) (Fr.snoc X' hF (hW a ha).1) hc hn
  exact ⟨s2, v, q' _ st, r⟩
/-- a local that one word may overwrite -/
def okS : Option Slot → Bool
  | some .unset => true
  | some (.val v) => v.category == 1
  | _ => false
theorem stoL {i : Nat} {v : Value} (hok : okS L[i]? = true) (hv : v.category = 1) : storeLocals L.toArray i v = some (L.set i (.val v)).toArray := by
  have e : L.toArray.setIfInBounds i (.val v) = (L.set i (.val v)).toArray := by simp
  cases hq : L[i]? with
  | none => rw [hq] at hok; cases hok
  | some o =>
    rw [hq] at hok
    have h1 : L.toArray[i]? = some o := by simpa using hq
    rw [← e]
    refine XS.store1 h1 ?_ hv
    cases o with
    | unset => exact Or.inl rfl
    | second => cases hok
    | val w => exact Or.inr ⟨w, rfl, by simpa [okS] using hok⟩
theorem getL {i : Nat} {o : Slot} (hl : L[i]? = some o) : L.toArray[i]? = some o := by simpa using hl
theorem iloadN (C : Cx p m meth c s Z a0 EL b own nm bytes maxL ret) {pc' : Nat} {i : Fin 4} {v : Int32} (hd : decode bytes pc = .ok (.iload_n i, 1)) (hp : pc + 1 = pc') (hl : L[i.val]? = some (.val (.int v))) (hr : WP p l e R s m args below meth c Z EL b Q pc' L (.int v :: st) h W k n) : WP p l e R s m args below meth c Z EL b Q pc L (st) h W k n := by
  subst hp; exact hr.go fun X t q => XS.iloadN X.here C.1 rfl (hb C.2.1 hd) (getL hl) q
theorem iload (C : Cx p m meth c s Z a0 EL b own nm bytes maxL ret) {pc' : Nat} {i : Nat} {v : Int32} (hd : decode bytes pc = .ok (.iload i, 2)) (hp : pc + 2 = pc') (hl : L[i]? = some (.val (.int v))) (hr : WP p l e R s m args below meth c Z EL b Q pc' L (.int v :: st) h W k n) : WP p l e R s m args below meth c Z EL b Q pc L (st) h W k n := by
  subst hp; exact hr.go fun X t q => XS.iload X.here C.1 rfl (hb C.2.1 hd) (getL hl) q
theorem aloadN (C : Cx p m meth c s Z a0 EL b own nm bytes maxL ret) {pc' : Nat} {i : Fin 4} {v : Value} (hd : decode bytes pc = .ok (.aload_n i, 1)) (hp : pc + 1 = pc') (hl : L[i.val]? = some (.val v)) (hv : v.isRef = true) (hr : WP p l e R s m args below meth c Z EL b Q pc' L (v :: st) h W k n) : WP p l e R s m args below meth c Z EL b Q pc L (st) h W k n := by
  subst hp; exact hr.go fun X t q => XS.aloadN X.here C.1 rfl (hb C.2.1 hd) (getL hl) hv q
theorem aload (C : Cx p m meth c s Z a0 EL b own nm bytes maxL ret) {pc' : Nat} {i : Nat} {v : Value} (hd : decode bytes pc = .ok (.aload i, 2)) (hp : pc + 2 = pc') (hl : L[i]? = some (.val v)) (hv : v.isRef = true) (hr : WP p l e R s m args below meth c Z EL b Q pc' L (v :: st) h W k n) : WP p l e R s m args below meth c Z EL b Q pc L (st) h W k n := by
  subst hp; exact hr.go fun X t q => XS.aload X.here C.1 rfl (hb C.2.1 hd) (getL hl) hv q
theorem lloadN (C : Cx p m meth c s Z a0 EL b own nm bytes maxL ret) {pc' : Nat} {i : Fin 4} {v : Int64} (hd : decode bytes pc = .ok (.lload_n i, 1)) (hp : pc + 1 = pc') (hl : L[i.val]? = some (.val (.long v))) (hr : WP p l e R s m args below meth c Z EL b Q pc' L (.long v :: st) h W k n) : WP p l e R s m args below meth c Z EL b Q pc L (st) h W k n := by
  subst hp; exact hr.go fun X t q => XT.lloadN X.here C.1 rfl (hb C.2.1 hd) (getL hl) q
theorem lload (C : Cx p m meth c s Z a0 EL b own nm bytes maxL ret) {pc' : Nat} {i : Nat} {v : Int64} (hd : decode bytes pc = .ok (.lload i, 2)) (hp : pc + 2 = pc') (hl : L[i]? = some (.val (.long v))) (hr : WP p l e R s m args below meth c Z EL b Q pc' L (.long v :: st) h W k n) : WP p l e R s m args below meth c Z EL b Q pc L (st) h W k n := by
  subst hp; exact hr.go fun X t q => XT.lload X.here C.1 rfl (hb C.2.1 hd) (getL hl) q
theorem aconstNull (C : Cx p m meth c s Z a0 EL b own nm bytes maxL ret) {pc' : Nat}  (hd : decode bytes pc = .ok (.aconst_null, 1)) (hp : pc + 1 = pc')  (hr : WP p l e R s m args below meth c Z EL b Q pc' L (.null :: st) h W k n) : WP p l e R s m args below meth c Z EL b Q pc L (st) h W k n := by
  subst hp; exact hr.go fun X t q => XS.aconstNull X.here C.1 rfl (hb C.2.1 hd)  q
theorem iconst (C : Cx p m meth c s Z a0 EL b own nm bytes maxL ret) {pc' : Nat} {i : Int} (v : Int32) (hd : decode bytes pc = .ok (.iconst i, 1)) (hp : pc + 1 = pc') (hv : Int32.ofInt i = v) (hr : WP p l e R s m args below meth c Z EL b Q pc' L (.int v :: st) h W k n) : WP p l e R s m args below meth c Z EL b Q pc L st h W k n := by
  subst hp hv; exact hr.go fun X t q => XS.iconst X.here C.1 rfl (hb C.2.1 hd) q
theorem bipush (C : Cx p m meth c s Z a0 EL b own nm bytes maxL ret) {pc' : Nat} {i : Int} (v : Int32) (hd : decode bytes pc = .ok (.bipush i, 2)) (hp : pc + 2 = pc') (hv : (Int8.ofInt i).toInt32 = v) (hr : WP p l e R s m args below meth c Z EL b Q pc' L (.int v :: st) h W k n) : WP p l e R s m args below meth c Z EL b Q pc L st h W k n := by
  subst hp hv; exact hr.go fun X t q => XS.bipush X.here C.1 rfl (hb C.2.1 hd) q
theorem sipush (C : Cx p m meth c s Z a0 EL b own nm bytes maxL ret) {pc' : Nat} {i : Int} (v : Int32) (hd : decode bytes pc = .ok (.sipush i, 3)) (hp : pc + 3 = pc') (hv : (Int16.ofInt i).toInt32 = v) (hr : WP p l e R s m args below meth c Z EL b Q pc' L (.int v :: st) h W k n) : WP p l e R s m args below meth c Z EL b Q pc L st h W k n := by
  subst hp hv; exact hr.go fun X t q => XS.sipush X.here C.1 rfl (hb C.2.1 hd) q
theorem lconst (C : Cx p m meth c s Z a0 EL b own nm bytes maxL ret) {pc' : Nat} {i : Fin 2} (v : Int64) (hd : decode bytes pc = .ok (.lconst i, 1)) (hp : pc + 1 = pc') (hv : Int64.ofNat i = v) (hr : WP p l e R s m args below meth c Z EL b Q pc' L (.long v :: st) h W k n) : WP p l e R s m args below meth c Z EL b Q pc L st h W k n := by
  subst hp hv; exact hr.go fun X t q => XT.lconst X.here C.1 rfl (hb C.2.1 hd) q
theorem iadd (C : Cx p m meth c s Z a0 EL b own nm bytes maxL ret) {pc' : Nat} {x y : Int32} (hd : decode bytes pc = .ok (.iadd, 1)) (hp : pc + 1 = pc')  (hr : WP p l e R s m args below meth c Z EL b Q pc' L (.int (x + y) :: st) h W k n) : WP p l e R s m args below meth c Z EL b Q pc L (.int y :: .int x :: st) h W k n := by
  subst hp; exact hr.go fun X t q => XS.iadd X.here C.1 rfl (hb C.2.1 hd) rfl q
theorem isub (C : Cx p m meth c s Z a0 EL b own nm bytes maxL ret) {pc' : Nat} {x y : Int32} (hd : decode bytes pc = .ok (.isub, 1)) (hp : pc + 1 = pc')  (hr : WP p l e R s m args below meth c Z EL b Q pc' L (.int (x - y) :: st) h W k n) : WP p l e R s m args below meth c Z EL b Q pc L (.int y :: .int x :: st) h W k n := by
  subst hp; exact hr.go fun X t q => XS.isub X.here C.1 rfl (hb C.2.1 hd) rfl q
theorem iand (C : Cx p m meth c s Z a0 EL b own nm bytes maxL ret) {pc' : Nat} {x y : Int32} (hd : decode bytes pc = .ok (.iand, 1)) (hp : pc + 1 = pc')  (hr : WP p l e R s m args below meth c Z EL b Q pc' L (.int (x &&& y) :: st) h W k n) : WP p l e R s m args below meth c Z EL b Q pc L (.int y :: .int x :: st) h W k n := by
  subst hp; exact hr.go fun X t q => XS.iand X.here C.1 rfl (hb C.2.1 hd) rfl q
theorem imul (C : Cx p m meth c s Z a0 EL b own nm bytes maxL ret) {pc' : Nat} {x y : Int32} (hd : decode bytes pc = .ok (.imul, 1)) (hp : pc + 1 = pc')  (hr : WP p l e R s m args below meth c Z EL b Q pc' L (.int (x * y) :: st) h W k n) : WP p l e R s m args below meth c Z EL b Q pc L (.int y :: .int x :: st) h W k n := by
  subst hp; exact hr.go fun X t q => XS.imul X.here C.1 rfl (hb C.2.1 hd) rfl q
theorem ior (C : Cx p m meth c s Z a0 EL b own nm bytes maxL ret) {pc' : Nat} {x y : Int32} (hd : decode bytes pc = .ok (.ior, 1)) (hp : pc + 1 = pc')  (hr : WP p l e R s m args below meth c Z EL b Q pc' L (.int (x ||| y) :: st) h W k n) : WP p l e R s m args below meth c Z EL b Q pc L (.int y :: .int x :: st) h W k n := by
  subst hp; exact hr.go fun X t q => XT.ior X.here C.1 rfl (hb C.2.1 hd) rfl q
theorem ixor (C : Cx p m meth c s Z a0 EL b own nm bytes maxL ret) {pc' : Nat} {x y : Int32} (hd : decode bytes pc = .ok (.ixor, 1)) (hp : pc + 1 = pc')  (hr : WP p l e R s m args below meth c Z EL b Q pc' L (.int (x ^^^ y) :: st) h W k n) : WP p l e R s m args below meth c Z EL b Q pc L (.int y :: .int x :: st) h W k n := by
  subst hp; exact hr.go fun X t q => XT.ixor X.here C.1 rfl (hb C.2.1 hd) rfl q
theorem ishl (C : Cx p m meth c s Z a0 EL b own nm bytes maxL ret) {pc' : Nat} {x y : Int32} (hd : decode bytes pc = .ok (.ishl, 1)) (hp : pc + 1 = pc')  (hr : WP p l e R s m args below meth c Z EL b Q pc' L (.int (x <<< (y &&& 31)) :: st) h W k n) : WP p l e R s m args below meth c Z EL b Q pc L (.int y :: .int x :: st) h W k n := by
  subst hp; exact hr.go fun X t q => XT.ishl X.here C.1 rfl (hb C.2.1 hd) rfl q
theorem ishr (C : Cx p m meth c s Z a0 EL b own nm bytes maxL ret) {pc' : Nat} {x y : Int32} (hd : decode bytes pc = .ok (.ishr, 1)) (hp : pc + 1 = pc')  (hr : WP p l e R s m args below meth c Z EL b Q pc' L (.int (x >>> (y &&& 31)) :: st) h W k n) : WP p l e R s m args below meth c Z EL b Q pc L (.int y :: .int x :: st) h W k n := by
  subst hp; exact hr.go fun X t q => XT.ishr X.here C.1 rfl (hb C.2.1 hd) rfl q
theorem iushr (C : Cx p m meth c s Z a0 EL b own nm bytes maxL ret) {pc' : Nat} {x y : Int32} (hd : decode bytes pc = .ok (.iushr, 1)) (hp : pc + 1 = pc')  (hr : WP p l e R s m args below meth c Z EL b Q pc' L (.int ((x.toUInt32 >>> (y &&& 31).toUInt32).toInt32) :: st) h W k n) : WP p l e R s m args below meth c Z EL b Q pc L (.int y :: .int x :: st) h W k n := by
  subst hp; exact hr.go fun X t q => XT.iushr X.here C.1 rfl (hb C.2.1 hd) rfl q
theorem irem (C : Cx p m meth c s Z a0 EL b own nm bytes maxL ret) {pc' : Nat} {x y : Int32} (hd : decode bytes pc = .ok (.irem, 1)) (hp : pc + 1 = pc') (hy : y ≠ 0) (hr : WP p l e R s m args below meth c Z EL b Q pc' L (.int (x % y) :: st) h W k n) : WP p l e R s m args below meth c Z EL b Q pc L (.int y :: .int x :: st) h W k n := by
  subst hp; exact hr.go fun X t q => iremM X C.1 rfl (hb C.2.1 hd) rfl hy q
theorem ineg (C : Cx p m meth c s Z a0 EL b own nm bytes maxL ret) {pc' : Nat} {x : Int32} (hd : decode bytes pc = .ok (.ineg, 1)) (hp : pc + 1 = pc')  (hr : WP p l e R s m args below meth c Z EL b Q pc' L (.int (-x) :: st) h W k n) : WP p l e R s m args below meth c Z EL b Q pc L (.int x :: st) h W k n := by
  subst hp; exact hr.go fun X t q => XS.ineg X.here C.1 rfl (hb C.2.1 hd) rfl q
theorem i2c (C : Cx p m meth c s Z a0 EL b own nm bytes maxL ret) {pc' : Nat} {x : Int32} (hd : decode bytes pc = .ok (.i2c, 1)) (hp : pc + 1 = pc')  (hr : WP p l e R s m args below meth c Z EL b Q pc' L (.int (nar .char x) :: st) h W k n) : WP p l e R s m args below meth c Z EL b Q pc L (.int x :: st) h W k n := by
  subst hp; exact hr.go fun X t q => XT.i2c X.here C.1 rfl (hb C.2.1 hd) rfl q
theorem i2b (C : Cx p m meth c s Z a0 EL b own nm bytes maxL ret) {pc' : Nat} {x : Int32} (hd : decode bytes pc = .ok (.i2b, 1)) (hp : pc + 1 = pc')  (hr : WP p l e R s m args below meth c Z EL b Q pc' L (.int (nar .byte x) :: st) h W k n) : WP p l e R s m args below meth c Z EL b Q pc L (.int x :: st) h W k n := by
  subst hp; exact hr.go fun X t q => XT.i2b X.here C.1 rfl (hb C.2.1 hd) rfl q
theorem i2l (C : Cx p m meth c s Z a0 EL b own nm bytes maxL ret) {pc' : Nat} {x : Int32} (hd : decode bytes pc = .ok (.i2l, 1)) (hp : pc + 1 = pc')  (hr : WP p l e R s m args below meth c Z EL b Q pc' L (.long x.toInt64 :: st) h W k n) : WP p l e R s m args below meth c Z EL b Q pc L (.int x :: st) h W k n := by
  subst hp; exact hr.go fun X t q => XT.i2l X.here C.1 rfl (hb C.2.1 hd) rfl q
theorem l2i (C : Cx p m meth c s Z a0 EL b own nm bytes maxL ret) {pc' : Nat} {x : Int64} (hd : decode bytes pc = .ok (.l2i, 1)) (hp : pc + 1 = pc')  (hr : WP p l e R s m args below meth c Z EL b Q pc' L (.int x.toInt32 :: st) h W k n) : WP p l e R s m args below meth c Z EL b Q pc L (.long x :: st) h W k n := by
  subst hp; exact hr.go fun X t q => XT.l2i X.here C.1 rfl (hb C.2.1 hd) rfl q
theorem land (C : Cx p m meth c s Z a0 EL b own nm bytes maxL ret) {pc' : Nat} {x y : Int64} (hd : decode bytes pc = .ok (.land, 1)) (hp : pc + 1 = pc')  (hr : WP p l e R s m args below meth c Z EL b Q pc' L (.long (x &&& y) :: st) h W k n) : WP p l e R s m args below meth c Z EL b Q pc L (.long y :: .long x :: st) h W k n := by
  subst hp; exact hr.go fun X t q => XT.land X.here C.1 rfl (hb C.2.1 hd) rfl q
theorem lushr (C : Cx p m meth c s Z a0 EL b own nm bytes maxL ret) {pc' : Nat} {x : Int64} {y : Int32} (hd : decode bytes pc = .ok (.lushr, 1)) (hp : pc + 1 = pc')  (hr : WP p l e R s m args below meth c Z EL b Q pc' L (.long (XT.ushrL x y) :: st) h W k n) : WP p l e R s m args below meth c Z EL b Q pc L (.int y :: .long x :: st) h W k n := by
  subst hp; exact hr.go fun X t q => XT.lushr X.here C.1 rfl (hb C.2.1 hd) rfl q
theorem dup (C : Cx p m meth c s Z a0 EL b own nm bytes maxL ret) {pc' : Nat} {x : Value} (hd : decode bytes pc = .ok (.dup, 1)) (hp : pc + 1 = pc') (hc : x.category = 1) (hr : WP p l e R s m args below meth c Z EL b Q pc' L (x :: x :: st) h W k n) : WP p l e R s m args below meth c Z EL b Q pc L (x :: st) h W k n := by
  subst hp; exact hr.go fun X t q => XS.dup X.here C.1 rfl (hb C.2.1 hd) rfl hc q
theorem pop (C : Cx p m meth c s Z a0 EL b own nm bytes maxL ret) {pc' : Nat} {x : Value} (hd : decode bytes pc = .ok (.pop, 1)) (hp : pc + 1 = pc') (hc : x.category = 1) (hr : WP p l e R s m args below meth c Z EL b Q pc' L (st) h W k n) : WP p l e R s m args below meth c Z EL b Q pc L (x :: st) h W k n := by
  subst hp; exact hr.go fun X t q => XT.pop X.here C.1 rfl (hb C.2.1 hd) rfl hc q
theorem dupX1 (C : Cx p m meth c s Z a0 EL b own nm bytes maxL ret) {pc' : Nat} {x y : Value} (hd : decode bytes pc = .ok (.dup_x1, 1)) (hp : pc + 1 = pc') (hc : x.category = 1) (hc' : y.category = 1) (hr : WP p l e R s m args below meth c Z EL b Q pc' L (x :: y :: x :: st) h W k n) : WP p l e R s m args below meth c Z EL b Q pc L (x :: y :: st) h W k n := by
  subst hp; exact hr.go fun X t q => XT.dupX1 X.here C.1 rfl (hb C.2.1 hd) rfl hc hc' q
theorem dup2 (C : Cx p m meth c s Z a0 EL b own nm bytes maxL ret) {pc' : Nat} {x y : Value} (hd : decode bytes pc = .ok (.dup2, 1)) (hp : pc + 1 = pc') (hc : x.category = 1) (hc' : y.category = 1) (hr : WP p l e R s m args below meth c Z EL b Q pc' L (x :: y :: x :: y :: st) h W k n) : WP p l e R s m args below meth c Z EL b Q pc L (x :: y :: st) h W k n := by
  subst hp; exact hr.go fun X t q => XT.dup2 X.here C.1 rfl (hb C.2.1 hd) rfl hc hc' q
theorem istoreN (C : Cx p m meth c s Z a0 EL b own nm bytes maxL ret) {pc' : Nat} {i : Fin 4} {x : Int32} (hd : decode bytes pc = .ok (.istore_n i, 1)) (hp : pc + 1 = pc') (hok : okS L[i.val]? = true) (hr : WP p l e R s m args below meth c Z EL b Q pc' (L.set i.val (.val (.int x))) (st) h W k n) : WP p l e R s m args below meth c Z EL b Q pc L (.int x :: st) h W k n := by
  subst hp; exact hr.go fun X t q => XS.istoreN X.here C.1 rfl (hb C.2.1 hd) rfl (stoL hok rfl) q
theorem istoreNG (C : Cx p m meth c s Z a0 EL b own nm bytes maxL ret) {pc' : Nat} {i : Fin 4} {x : Int32} (hd : decode bytes pc = .ok (.istore_n i, 1)) (hp : pc + 1 = pc') (hok : okS L[i.val]? = true) (hr : ∀ y : Int32, y = x → WP p l e R s m args below meth c Z EL b Q pc' (L.set i.val (.val (.int y))) st h W k n) : WP p l e R s m args below meth c Z EL b Q pc L (.int x :: st) h W k n := istoreN C hd hp hok (hr x rfl)
theorem istore (C : Cx p m meth c s Z a0 EL b own nm bytes maxL ret) {pc' : Nat} {i : Nat} {x : Int32} (hd : decode bytes pc = .ok (.istore i, 2)) (hp : pc + 2 = pc') (hok : okS L[i]? = true) (hr : WP p l e R s m args below meth c Z EL b Q pc' (L.set i (.val (.int x))) (st) h W k n) : WP p l e R s m args below meth c Z EL b Q pc L (.int x :: st) h W k n := by
  subst hp; exact hr.go fun X t q => XS.istore X.here C.1 rfl (hb C.2.1 hd) rfl (stoL hok rfl) q
theorem istoreG (C : Cx p m meth c s Z a0 EL b own nm bytes maxL ret) {pc' : Nat} {i : Nat} {x : Int32} (hd : decode bytes pc = .ok (.istore i, 2)) (hp : pc + 2 = pc') (hok : okS L[i]? = true) (hr : ∀ y : Int32, y = x → WP p l e R s m args below meth c Z EL b Q pc' (L.set i (.val (.int y))) st h W k n) : WP p l e R s m args below meth c Z EL b Q pc L (.int x :: st) h W k n := istore C hd hp hok (hr x rfl)
theorem astoreN (C : Cx p m meth c s Z a0 EL b own nm bytes maxL ret) {pc' : Nat} {i : Fin 4} {x : Value} (hd : decode bytes pc = .ok (.astore_n i, 1)) (hp : pc + 1 = pc') (hv : x.isRef = true) (hok : okS L[i.val]? = true) (hr : WP p l e R s m args below meth c Z EL b Q pc' (L.set i.val (.val x)) (st) h W k n) : WP p l e R s m args below meth c Z EL b Q pc L (x :: st) h W k n := by
  subst hp; exact hr.go fun X t q => XS.astoreN X.here C.1 rfl (hb C.2.1 hd) rfl hv (stoL hok (XT.cat1 hv)) q
theorem astore (C : Cx p m meth c s Z a0 EL b own nm bytes maxL ret) {pc' : Nat} {i : Nat} {x : Value} (hd : decode bytes pc = .ok (.astore i, 2)) (hp : pc + 2 = pc') (hv : x.isRef = true) (hok : okS L[i]? = true) (hr : WP p l e R s m args below meth c Z EL b Q pc' (L.set i (.val x)) (st) h W k n) : WP p l e R s m args below meth c Z EL b Q pc L (x :: st) h W k n := by
  subst hp; exact hr.go fun X t q => XS.astore X.here C.1 rfl (hb C.2.1 hd) rfl hv (stoL hok (XT.cat1 hv)) q
theorem iinc (C : Cx p m meth c s Z a0 EL b own nm bytes maxL ret) {pc' : Nat} {i : Nat} {d : Int} {x : Int32} (v : Int32) (hd : decode bytes pc = .ok (.iinc i d, 3)) (hp : pc + 3 = pc') (hv : Int32.ofInt d = v) (hl : L[i]? = some (.val (.int x))) (hr : WP p l e R s m args below meth c Z EL b Q pc' (L.set i (.val (.int (x + v)))) st h W k n) : WP p l e R s m args below meth c Z EL b Q pc L st h W k n := by
  subst hp hv; exact hr.go fun X t q => XS.iinc X.here C.1 rfl (hb C.2.1 hd) (getL hl) (stoL (by rw [hl]; rfl) rfl) q
theorem goto (C : Cx p m meth c s Z a0 EL b own nm bytes maxL ret) (pc' : Nat) {o : Int} (hd : decode bytes pc = .ok (.goto o, 3)) (ho : 0 ≤ (pc : Int) + o) (hp : ((pc : Int) + o).toNat = pc') (hr : WP p l e R s m args below meth c Z EL b Q pc' L st h W k n) : WP p l e R s m args below meth c Z EL b Q pc L st h W k n := by
  exact hr.go fun X t q => XS.goto X.here C.1 rfl (pc0 := pc) (pc' := pc') rfl (hb C.2.1 hd) ho hp q
theorem ifCY (C : Cx p m meth c s Z a0 EL b own nm bytes maxL ret) (pc' : Nat) {cd : ClassFile.Cond} {x : Int32} {o : Int} (hd : decode bytes pc = .ok (.ifCond cd o, 3))  (hc : ifCond.holds cd x = true) (ho : 0 ≤ (pc : Int) + o) (hp : ((pc : Int) + o).toNat = pc') (hr : WP p l e R s m args below meth c Z EL b Q pc' L st h W k n) : WP p l e R s m args below meth c Z EL b Q pc L (.int x :: st) h W k n := by
  exact hr.go fun X t q => XS.ifYes X.here C.1 rfl (pc0 := pc) (pc' := pc') rfl (hb C.2.1 hd) rfl hc ho hp q
theorem ifCN (C : Cx p m meth c s Z a0 EL b own nm bytes maxL ret) {pc' : Nat} {cd : ClassFile.Cond} {x : Int32} {o : Int} (hd : decode bytes pc = .ok (.ifCond cd o, 3)) (hp : pc + 3 = pc')  (hc : ifCond.holds cd x = false) (hr : WP p l e R s m args below meth c Z EL b Q pc' L st h W k n) : WP p l e R s m args below meth c Z EL b Q pc L (.int x :: st) h W k n := by
  subst hp; exact hr.go fun X t q => XS.ifNo X.here C.1 rfl (hb C.2.1 hd) rfl hc q
theorem ifC (C : Cx p m meth c s Z a0 EL b own nm bytes maxL ret) (pc1 pc2 : Nat) {cd : ClassFile.Cond} {x : Int32} {o : Int} {P : Prop} [Decidable P] (hd : decode bytes pc = .ok (.ifCond cd o, 3))  (hc : ifCond.holds cd x = decide P) (ho : 0 ≤ (pc : Int) + o) (hp : ((pc : Int) + o).toNat = pc1) (hp2 : pc + 3 = pc2) (h1 : P → WP p l e R s m args below meth c Z EL b Q pc1 L st h W k n) (h2 : ¬ P → WP p l e R s m args below meth c Z EL b Q pc2 L st h W k n) : WP p l e R s m args below meth c Z EL b Q pc L (.int x :: st) h W k n := by
  by_cases q : P
  · exact ifCY C pc1 hd (by rw [hc]; exact decide_eq_true q) ho hp (h1 q)
  · exact ifCN C hd hp2 (by rw [hc]; exact decide_eq_false q) (h2 q)
theorem icmpY (C : Cx p m meth c s Z a0 EL b own nm bytes maxL ret) (pc' : Nat) {cd : ClassFile.Cond} {x y : Int32} {o : Int} (hd : decode bytes pc = .ok (.if_icmp cd o, 3))  (hc : if_icmp.holds cd x y = true) (ho : 0 ≤ (pc : Int) + o) (hp : ((pc : Int) + o).toNat = pc') (hr : WP p l e R s m args below meth c Z EL b Q pc' L st h W k n) : WP p l e R s m args below meth c Z EL b Q pc L (.int y :: .int x :: st) h W k n := by
  exact hr.go fun X t q => XS.icmpYes X.here C.1 rfl (pc0 := pc) (pc' := pc') rfl (hb C.2.1 hd) rfl hc ho hp q
theorem icmpN (C : Cx p m meth c s Z a0 EL b own nm bytes maxL ret) {pc' : Nat} {cd : ClassFile.Cond} {x y : Int32} {o : Int} (hd : decode bytes pc = .ok (.if_icmp cd o, 3)) (hp : pc + 3 = pc')  (hc : if_icmp.holds cd x y = false) (hr : WP p l e R s m args below meth c Z EL b Q pc' L st h W k n) : WP p l e R s m args below meth c Z EL b Q pc L (.int y :: .int x :: st) h W k n := by
  subst hp; exact hr.go fun X t q => XS.icmpNo X.here C.1 rfl (hb C.2.1 hd) rfl hc q
theorem icmp (C : Cx p m meth c s Z a0 EL b own nm bytes maxL ret) (pc1 pc2 : Nat) {cd : ClassFile.Cond} {x y : Int32} {o : Int} {P : Prop} [Decidable P] (hd : decode bytes pc = .ok (.if_icmp cd o, 3))  (hc : if_icmp.holds cd x y = decide P) (ho : 0 ≤ (pc : Int) + o) (hp : ((pc : Int) + o).toNat = pc1) (hp2 : pc + 3 = pc2) (h1 : P → WP p l e R s m args below meth c Z EL b Q pc1 L st h W k n) (h2 : ¬ P → WP p l e R s m args below meth c Z EL b Q pc2 L st h W k n) : WP p l e R s m args below meth c Z EL b Q pc L (.int y :: .int x :: st) h W k n := by
  by_cases q : P
  · exact icmpY C pc1 hd (by rw [hc]; exact decide_eq_true q) ho hp (h1 q)
  · exact icmpN C hd hp2 (by rw [hc]; exact decide_eq_false q) (h2 q)
theorem acmpY (C : Cx p m meth c s Z a0 EL b own nm bytes maxL ret) (pc' : Nat) {cd : ClassFile.ACond} {x y : Value} {o : Int} (hd : decode bytes pc = .ok (.if_acmp cd o, 3)) (hx : x.isRef = true) (hy : y.isRef = true) (hc : XT.acmp cd x y = true) (ho : 0 ≤ (pc : Int) + o) (hp : ((pc : Int) + o).toNat = pc') (hr : WP p l e R s m args below meth c Z EL b Q pc' L st h W k n) : WP p l e R s m args below meth c Z EL b Q pc L (y :: x :: st) h W k n := by
  exact hr.go fun X t q => XT.acmpYes X.here C.1 rfl (pc0 := pc) (pc' := pc') rfl (hb C.2.1 hd) rfl hx hy hc ho hp q
theorem acmpN (C : Cx p m meth c s Z a0 EL b own nm bytes maxL ret) {pc' : Nat} {cd : ClassFile.ACond} {x y : Value} {o : Int} (hd : decode bytes pc = .ok (.if_acmp cd o, 3)) (hp : pc + 3 = pc') (hx : x.isRef = true) (hy : y.isRef = true) (hc : XT.acmp cd x y = false) (hr : WP p l e R s m args below meth c Z EL b Q pc' L st h W k n) : WP p l e R s m args below meth c Z EL b Q pc L (y :: x :: st) h W k n := by
  subst hp; exact hr.go fun X t q => XT.acmpNo X.here C.1 rfl (hb C.2.1 hd) rfl hx hy hc q
theorem acmp (C : Cx p m meth c s Z a0 EL b own nm bytes maxL ret) (pc1 pc2 : Nat) {cd : ClassFile.ACond} {x y : Value} {o : Int} {P : Prop} [Decidable P] (hd : decode bytes pc = .ok (.if_acmp cd o, 3)) (hx : x.isRef = true) (hy : y.isRef = true) (hc : XT.acmp cd x y = decide P) (ho : 0 ≤ (pc : Int) + o) (hp : ((pc : Int) + o).toNat = pc1) (hp2 : pc + 3 = pc2) (h1 : P → WP p l e R s m args below meth c Z EL b Q pc1 L st h W k n) (h2 : ¬ P → WP p l e R s m args below meth c Z EL b Q pc2 L st h W k n) : WP p l e R s m args below meth c Z EL b Q pc L (y :: x :: st) h W k n := by
  by_cases q : P
  · exact acmpY C pc1 hd hx hy (by rw [hc]; exact decide_eq_true q) ho hp (h1 q)
  · exact acmpN C hd hp2 hx hy (by rw [hc]; exact decide_eq_false q) (h2 q)
theorem ifnullY (C : Cx p m meth c s Z a0 EL b own nm bytes maxL ret) (pc' : Nat) {o : Int} (hd : decode bytes pc = .ok (.ifnull o, 3)) (ho : 0 ≤ (pc : Int) + o) (hp : ((pc : Int) + o).toNat = pc') (hr : WP p l e R s m args below meth c Z EL b Q pc' L st h W k n) : WP p l e R s m args below meth c Z EL b Q pc L (.null :: st) h W k n := by
  exact hr.go fun X t q => XS.ifnullYes X.here C.1 rfl (pc0 := pc) (pc' := pc') rfl (hb C.2.1 hd) rfl ho hp q
theorem ifnullN (C : Cx p m meth c s Z a0 EL b own nm bytes maxL ret) {pc' : Nat} {o : Int} {a : Nat} (hd : decode bytes pc = .ok (.ifnull o, 3)) (hp : pc + 3 = pc') (hr : WP p l e R s m args below meth c Z EL b Q pc' L st h W k n) : WP p l e R s m args below meth c Z EL b Q pc L (.ref a :: st) h W k n := by
  subst hp; exact hr.go fun X t q => XS.ifnullNo X.here C.1 rfl (hb C.2.1 hd) rfl q
theorem ifnonnullY (C : Cx p m meth c s Z a0 EL b own nm bytes maxL ret) (pc' : Nat) {o : Int} {a : Nat} (hd : decode bytes pc = .ok (.ifnonnull o, 3)) (ho : 0 ≤ (pc : Int) + o) (hp : ((pc : Int) + o).toNat = pc') (hr : WP p l e R s m args below meth c Z EL b Q pc' L st h W k n) : WP p l e R s m args below meth c Z EL b Q pc L (.ref a :: st) h W k n := by
  exact hr.go fun X t q => XT.ifnonnullYes X.here C.1 rfl (pc0 := pc) (pc' := pc') rfl (hb C.2.1 hd) rfl ho hp q
theorem ifnonnullN (C : Cx p m meth c s Z a0 EL b own nm bytes maxL ret) {pc' : Nat} {o : Int} (hd : decode bytes pc = .ok (.ifnonnull o, 3)) (hp : pc + 3 = pc') (hr : WP p l e R s m args below meth c Z EL b Q pc' L st h W k n) : WP p l e R s m args below meth c Z EL b Q pc L (.null :: st) h W k n := by
  subst hp; exact hr.go fun X t q => XT.ifnonnullNo X.here C.1 rfl (hb C.2.1 hd) rfl q
theorem ldcI (C : Cx p m meth c s Z a0 EL b own nm bytes maxL ret) {pc' : Nat} {index : Nat} {v : Int32} (w : (Cond.constant own index v).before a0 Z = true) (hd : decode bytes pc = .ok (.ldc index, 2)) (hp : pc + 2 = pc') (hr : WP p l e R s m args below meth c Z EL b Q pc' L (.int v :: st) h W k n) : WP p l e R s m args below meth c Z EL b Q pc L st h W k n := by
  subst hp; exact hr.hop C fun X eT _ hZ ho => ⟨_, X, eT, fun t q => X.ldcI C.1 ho (mv hZ w) rfl (hb C.2.1 hd) q⟩
/-! fields, statics, casts -/
theorem getF (C : Cx p m meth c s Z a0 EL b own nm bytes maxL ret) {pc' : Nat} {f O d : String} {index : Nat} {a : Nat} {v : Value} (w : (Cond.fieldLink own index O f d).before a0 Z = true) (F : Fld Z h a O f d v) (hd : decode bytes pc = .ok (.getfield index, 3)) (hp : pc + 3 = pc')
    (hr : WP p l e R s m args below meth c Z EL b Q pc' L (v :: st) h W k n) : WP p l e R s m args below meth c Z EL b Q pc L (.ref a :: st) h W k n := by
  subst hp
  exact hr.hop C fun X eT _ hZ ho => RoadKit.getF X C.1 hZ ho (host := "") (Or.inl w) Via.refl eT F (g := mkF m pc L.toArray (.ref a :: st)) rfl rfl (hb C.2.1 hd)
theorem getFV (C : Cx p m meth c s Z a0 EL b own nm bytes maxL ret) {pc' : Nat} {f R0 O d : String} {index : Nat} {a : Nat} {v : Value} (w : (Cond.fieldLink own index R0 f d).before a0 Z = true) (via : Via Z R0 O f d) (F : Fld Z h a O f d v) (hd : decode bytes pc = .ok (.getfield index, 3)) (hp : pc + 3 = pc')
    (hr : WP p l e R s m args below meth c Z EL b Q pc' L (v :: st) h W k n) : WP p l e R s m args below meth c Z EL b Q pc L (.ref a :: st) h W k n := by
  subst hp
  exact hr.hop C fun X eT _ hZ ho => RoadKit.getF X C.1 hZ ho (host := "") (Or.inl w) via eT F (g := mkF m pc L.toArray (.ref a :: st)) rfl rfl (hb C.2.1 hd)
theorem getS (C : Cx p m meth c s Z a0 EL b own nm bytes maxL ret) {pc' : Nat} {f O d : String} {index : Nat} {v : Value} (w : (Cond.fieldLink own index O f d).before a0 Z = true) (F : Sta Z Z.heap O f d v) (hd : decode bytes pc = .ok (.getstatic index, 3)) (hp : pc + 3 = pc')
    (hr : WP p l e R s m args below meth c Z EL b Q pc' L (v :: st) h W k n) : WP p l e R s m args below meth c Z EL b Q pc L st h W k n := by
  subst hp
  exact hr.hop C fun X eT hO hZ ho => RoadKit.getS X C.1 hZ (host := "") ho w Via.refl eT (F.ext hO.2) (g := mkF m pc L.toArray st) rfl (hb C.2.1 hd)
theorem castY (C : Cx p m meth c s Z a0 EL b own nm bytes maxL ret) {pc' : Nat} {K : String} {index : Nat} {a : Nat} (w : (Cond.classLink own index K).before a0 Z = true) (F : Ins Z h a K true) (hd : decode bytes pc = .ok (.checkcast index, 3)) (hp : pc + 3 = pc')
    (hr : WP p l e R s m args below meth c Z EL b Q pc' L (.ref a :: st) h W k n) : WP p l e R s m args below meth c Z EL b Q pc L (.ref a :: st) h W k n := by
  subst hp
  exact hr.hop C fun X eT _ hZ ho => RoadKit.castY X C.1 hZ ho w eT F (g := mkF m pc L.toArray (.ref a :: st)) rfl rfl (hb C.2.1 hd)
theorem instY (C : Cx p m meth c s Z a0 EL b own nm bytes maxL ret) {pc' : Nat} {K : String} {index : Nat} {a : Nat} (w : (Cond.classLink own index K).before a0 Z = true) (F : Ins Z h a K true) (hd : decode bytes pc = .ok (.instanceof index, 3)) (hp : pc + 3 = pc')
    (hr : WP p l e R s m args below meth c Z EL b Q pc' L (.int 1 :: st) h W k n) : WP p l e R s m args below meth c Z EL b Q pc L (.ref a :: st) h W k n := by
  subst hp
  exact hr.hop C fun X eT _ hZ ho => RoadKit.instY X C.1 hZ ho w eT F (g := mkF m pc L.toArray (.ref a :: st)) rfl rfl (hb C.2.1 hd)
theorem initO (C : Cx p m meth c s Z a0 EL b own nm bytes maxL ret) {pc' : Nat} {index : Nat} {a : Nat} (w1 : (Cond.methodLink own index Lib.objectInit).before a0 Z = true) (w2 : (Cond.instanceMethod Lib.objectInit).before a0 Z = true) (w3 : (Cond.code Lib.objectInit ⟨#[0xb1]⟩ 1 none).before a0 Z = true)
    (hd : decode bytes pc = .ok (.invokespecial index, 3)) (hp : pc + 3 = pc') (hsz : L.length = maxL) (hf : 1 ≤ R.frames) (hl : (st.map fun v => v.category).sum + 12 ≤ R.locals)
    (hr : WP p l e R s m args below meth c Z EL b Q pc' L st h W k n) : WP p l e R s m args below meth c Z EL b Q pc L (.ref a :: st) h W k n := by
  subst hp
  exact hr.hop C fun X eT _ hZ ho => RoadKit.initO X C.1 hZ ho w1 w2 w3 eT (g := mkF m pc L.toArray (.ref a :: st)) rfl (by rw [C.2.2.1, ← hsz]; simp) rfl (hb C.2.1 hd) hf (W := (st.map fun v => v.category).sum) (by show 2 * 0 + _ ≤ _; omega) hl
/-! new -/
theorem newO (C : Cx p m meth c s Z a0 EL b own nm bytes maxL ret) {pc' : Nat} {K : String} {index sz : Nat} (w : (Cond.classLink own index K).before a0 Z = true) (wi : (Cond.instantiable K sz).before a0 Z = true) (wz : (Cond.initialized K).before a0 Z = true) (hd : decode bytes pc = .ok (.new index, 3)) (hp : pc + 3 = pc') (hc : k + 1 ≤ R.cells) (hn : n + sz ≤ R.slots)
    (hr : ∀ h' a, a = h.size → Z.heap.size ≤ a → a < h'.size → Ext h h' → (Exa Z h' a K ∧ ∀ {O f d : String} {ty : FieldType}, Laid Z a0 K O f d → parseFieldDescriptor d = some ty → Fld Z h' a O f d (defaultValue ty)) → WP p l e R s m args below meth c Z EL b Q pc' L (.ref a :: st) h' (a :: W) (k + 1) (n + sz)) :
    WP p l e R s m args below meth c Z EL b Q pc L st h W k n := by
  subst hp
  refine WP.grow (F := fun h' a => Exa Z h' a K ∧ ∀ {O f d : String} {ty : FieldType}, Laid Z a0 K O f d → parseFieldDescriptor d = some ty → Fld Z h' a O f d (defaultValue ty)) (st' := fun a => .ref a :: st) C hc hn (fun X eT hZ ho h1 h2 => ?_) hr
  obtain ⟨T', h', X', e', E, A, D, -, q⟩ := RoadKit.newO X C.1 hZ ho w wi wz eT (g := mkF m pc L.toArray st) rfl (hb C.2.1 hd) h1 h2
  exact ⟨T', h', X', e', E, A.lt, ⟨A, D⟩, q⟩
/-- an array of ints (or bytes, chars ..) with these components -/
def ArI (Z : State) (h : Heap) (a : Nat) (ty : FieldType) (xs : List Int32) : Prop := (∃ kc, Arv Z h a kc ty (Int32.ofNat xs.length) (xs.map Value.int) (.int 0)) ∧ xs.length < 2 ^ 31
theorem ArI.lt {h : Heap} {a : Nat} {ty : FieldType} {xs : List Int32} (A : ArI Z h a ty xs) : a < h.size := by obtain ⟨⟨_, A⟩, _⟩ := A; exact A.lt
theorem ArI.ext {h h' : Heap} {a : Nat} {ty : FieldType} {xs : List Int32} (A : ArI Z h a ty xs) (E : Ext h h') : ArI Z h' a ty xs := by obtain ⟨⟨k, A⟩, q⟩ := A; exact ⟨⟨k, A.ext E⟩, q⟩
theorem ArI.keep {h h' : Heap} {a : Nat} {ty : FieldType} {xs : List Int32} {ws : List Nat} (A : ArI Z h a ty xs) (K : Keep h h' ws) (hn : a ∉ ws) : ArI Z h' a ty xs := by obtain ⟨⟨k, A⟩, q⟩ := A; exact ⟨⟨k, A.keep K hn⟩, q⟩
theorem ofNat_clamp {i : Nat} (hi : i < 2 ^ 31) : (Int32.ofNat i).toNatClampNeg = i := clamp_of rfl hi
theorem idx_ok {j : Int32} {i : Nat} (hj : j.toInt = (i : Int)) : ¬ j < 0 ∧ j.toNatClampNeg = i := by
  refine ⟨fun q => ?_, ?_⟩
  · rw [Int32.lt_iff_toInt_lt, hj, Int32.toInt_zero] at q; omega
  · show j.toInt.toNat = i; rw [hj]; rfl
theorem ArI.fit {h : Heap} {a : Nat} {ty : FieldType} {xs : List Int32} (A : ArI Z h a ty xs) {i : Nat} (hi : i < xs.length) : fits ty (.int (xs.getD i 0)) = true := by
  obtain ⟨⟨k, cl, A, q1, S, q3, H, G⟩, q⟩ := A
  have := G i (by rw [S, ofNat_clamp q]; exact hi)
  simpa [List.getD_eq_getElem?_getD, hi] using this
theorem ArI.cell {h : Heap} {a : Nat} {ty : FieldType} {xs : List Int32} (A : ArI Z h a ty xs) : ∃ cl : Cell, Arr Z h a cl ty ∧ cl.slots.size = xs.length ∧ ∀ {j : Int32} {i : Nat}, j.toInt = (i : Int) → i < xs.length → ¬ (j < 0 ∨ cl.slots.size ≤ j.toNatClampNeg) ∧ cl.slots[j.toNatClampNeg]? = some (.int (xs.getD i 0)) := by
  obtain ⟨⟨k, cl, A, q1, S, q3, H, G⟩, q⟩ := A
  rw [ofNat_clamp q] at S
  refine ⟨cl, A, S, fun {j i} hj hi => ?_⟩
  obtain ⟨h1, h2⟩ := idx_ok hj
  refine ⟨fun q => q.elim h1 (fun q => by omega), ?_⟩
  rw [h2, H i (by omega)]
  simp [List.getD_eq_getElem?_getD, hi]
theorem newarr (C : Cx p m meth c s Z a0 EL b own nm bytes maxL ret) {pc' : Nat} {aty : ArrayType} {ty : FieldType} {z : Int32} {cap : Nat} (hty : newarray.typeOf aty = ty) (hdv : defaultValue ty = .int 0) (w : (Cond.arrayClass ty).before a0 Z = true) (hd : decode bytes pc = .ok (.newarray aty, 2)) (hp : pc + 2 = pc') (hz : z = Int32.ofNat cap) (hcap : cap * 8 ≤ 536870912) (hc : k + 1 ≤ R.cells) (hn : n + cap ≤ R.slots)
    (hr : ∀ h' a, a = h.size → Z.heap.size ≤ a → a < h'.size → Ext h h' → ArI Z h' a ty (List.replicate cap 0) → WP p l e R s m args below meth c Z EL b Q pc' L (.ref a :: st) h' (a :: W) (k + 1) (n + cap)) :
    WP p l e R s m args below meth c Z EL b Q pc L (.int z :: st) h W k n := by
  subst hp hz hty
  have hb31 : cap < 2 ^ 31 := by omega
  refine WP.grow (F := fun h' a => ArI Z h' a (newarray.typeOf aty) (List.replicate cap 0)) (st' := fun a => .ref a :: st) C hc hn (fun X eT hZ ho h1 h2 => ?_) hr
  have hneg : ¬ Int32.ofNat cap < 0 := fun q => by
    rw [Int32.lt_iff_toInt_lt, toInt_of rfl hb31, Int32.toInt_zero] at q; omega
  obtain ⟨T', h', kA, X', e', E, A, q⟩ := RoadKit.newP X C.1 hZ w eT (g := mkF m pc L.toArray (.int (Int32.ofNat cap) :: st)) rfl (hb C.2.1 hd) rfl hneg (cap := cap) (by rw [ofNat_clamp hb31]; exact Nat.le_refl _) hcap h1 h2
  refine ⟨T', h', X', e', E, A.lt, ?_, q⟩
  have A' := Arv.new A hneg
  rw [hdv] at A'
  have A2 := A'.pad (vs' := (List.replicate cap (0 : Int32)).map Value.int) (by
    intro i
    have := pad_rep [] (.int (0 : Int32)) cap i
    simpa [List.map_replicate] using this)
  exact ⟨⟨kA, by simpa using A2⟩, by simpa using hb31⟩
/-! arrays -/
theorem arrlen (C : Cx p m meth c s Z a0 EL b own nm bytes maxL ret) {pc' : Nat} {a : Nat} {ty : FieldType} {xs : List Int32} (A : ArI Z h a ty xs) (hd : decode bytes pc = .ok (.arraylength, 1)) (hp : pc + 1 = pc')
    (hr : WP p l e R s m args below meth c Z EL b Q pc' L (.int (Int32.ofNat xs.length) :: st) h W k n) : WP p l e R s m args below meth c Z EL b Q pc L (.ref a :: st) h W k n := by
  subst hp
  obtain ⟨cl, A, S, -⟩ := A.cell
  have e : cl.slots.size.toInt32 = Int32.ofNat xs.length := by rw [S]
  rw [← e] at hr
  exact hr.hop C fun X eT _ hZ ho => ⟨_, X, eT, fun t q => X.arraylength C.1 (by rw [eT]; exact A.1) (State.isArrayOf_alike hZ.alike A.2.1) (g := mkF m pc L.toArray (.ref a :: st)) rfl rfl (hb C.2.1 hd) t q⟩
theorem caload (C : Cx p m meth c s Z a0 EL b own nm bytes maxL ret) {pc' : Nat} {a : Nat} {xs : List Int32} {j : Int32} {i : Nat} (A : ArI Z h a .char xs) (hj : j.toInt = (i : Int)) (hi : i < xs.length) (hd : decode bytes pc = .ok (.caload, 1)) (hp : pc + 1 = pc')
    (hr : WP p l e R s m args below meth c Z EL b Q pc' L (.int (xs.getD i 0) :: st) h W k n) : WP p l e R s m args below meth c Z EL b Q pc L (.int j :: .ref a :: st) h W k n := by
  subst hp
  obtain ⟨cl, A, S, G⟩ := A.cell
  obtain ⟨h1, h2⟩ := G hj hi
  exact hr.hop C fun X eT _ hZ ho => ⟨_, X, eT, fun t q => X.caload C.1 (by rw [eT]; exact A.1) (State.isArrayOf_alike hZ.alike A.2.1) A.2.2 h1 h2 (g := mkF m pc L.toArray (.int j :: .ref a :: st)) rfl rfl (hb C.2.1 hd) t q⟩
theorem baload (C : Cx p m meth c s Z a0 EL b own nm bytes maxL ret) {pc' : Nat} {a : Nat} {xs : List Int32} {j : Int32} {i : Nat} (A : ArI Z h a .byte xs) (hj : j.toInt = (i : Int)) (hi : i < xs.length) (hd : decode bytes pc = .ok (.baload, 1)) (hp : pc + 1 = pc')
    (hr : WP p l e R s m args below meth c Z EL b Q pc' L (.int (xs.getD i 0) :: st) h W k n) : WP p l e R s m args below meth c Z EL b Q pc L (.int j :: .ref a :: st) h W k n := by
  subst hp
  obtain ⟨cl, A, S, G⟩ := A.cell
  obtain ⟨h1, h2⟩ := G hj hi
  exact hr.hop C fun X eT _ hZ ho => ⟨_, X, eT, fun t q => X.baloadBytes C.1 (by rw [eT]; exact A.1) (State.isArrayOf_alike hZ.alike A.2.1) A.2.2 h1 h2 (g := mkF m pc L.toArray (.int j :: .ref a :: st)) rfl rfl (hb C.2.1 hd) t q⟩
theorem iaload (C : Cx p m meth c s Z a0 EL b own nm bytes maxL ret) {pc' : Nat} {a : Nat} {xs : List Int32} {j : Int32} {i : Nat} (A : ArI Z h a .int xs) (hj : j.toInt = (i : Int)) (hi : i < xs.length) (hd : decode bytes pc = .ok (.iaload, 1)) (hp : pc + 1 = pc')
    (hr : WP p l e R s m args below meth c Z EL b Q pc' L (.int (xs.getD i 0) :: st) h W k n) : WP p l e R s m args below meth c Z EL b Q pc L (.int j :: .ref a :: st) h W k n := by
  subst hp
  obtain ⟨cl, A, S, G⟩ := A.cell
  obtain ⟨h1, h2⟩ := G hj hi
  exact hr.hop C fun X eT _ hZ ho => ⟨_, X, eT, fun t q => X.iaload C.1 (by rw [eT]; exact A.1) (State.isArrayOf_alike hZ.alike A.2.1) A.2.2 h1 h2 (g := mkF m pc L.toArray (.int j :: .ref a :: st)) rfl rfl (hb C.2.1 hd) t q⟩
theorem ArI.set {h h' : Heap} {a : Nat} {ty : FieldType} {xs : List Int32} {j : Int32} {i : Nat} {x : Int32} (A : ArI Z h a ty xs) (hj : j.toInt = (i : Int)) (hi : i < xs.length) (hx : fits ty (.int x) = true) (Wr' : Wr h h' a j.toNatClampNeg (.int x)) : ArI Z h' a ty (xs.set i x) := by
  obtain ⟨⟨kc, cl, A, q1, S, q3, H, G⟩, q⟩ := A
  obtain ⟨h1, h2⟩ := idx_ok hj
  have := Arv.set A q1 S q3 H G hx Wr' i h2 (by simpa using hi)
  exact ⟨⟨kc, by simpa [List.map_set] using this⟩, by simpa using q⟩
theorem castore (C : Cx p m meth c s Z a0 EL b own nm bytes maxL ret) {pc' : Nat} {a : Nat} {xs : List Int32} {j x : Int32} {i : Nat} (A : ArI Z h a .char xs) (hj : j.toInt = (i : Int)) (hi : i < xs.length) (ha : a ∈ W) (hd : decode bytes pc = .ok (.castore, 1)) (hp : pc + 1 = pc')
    (hr : ∀ h', Keep h h' [a] → ArI Z h' a .char (xs.set i (nar .char x)) → WP p l e R s m args below meth c Z EL b Q pc' L st h' W k n) : WP p l e R s m args below meth c Z EL b Q pc L (.int x :: .int j :: .ref a :: st) h W k n := by
  subst hp
  obtain ⟨cl, B, S, G⟩ := A.cell
  refine WP.write C ha (fun X eT hZ ho => RoadKit.stC X C.1 hZ eT B (G hj hi).1 (g := mkF m pc L.toArray (.int x :: .int j :: .ref a :: st)) rfl rfl (hb C.2.1 hd)) fun h' w K => hr h' K (A.set hj hi (fits_nar_char _) w)
theorem bastore (C : Cx p m meth c s Z a0 EL b own nm bytes maxL ret) {pc' : Nat} {a : Nat} {xs : List Int32} {j x : Int32} {i : Nat} (A : ArI Z h a .byte xs) (hj : j.toInt = (i : Int)) (hi : i < xs.length) (ha : a ∈ W) (hd : decode bytes pc = .ok (.bastore, 1)) (hp : pc + 1 = pc')
    (hr : ∀ h', Keep h h' [a] → ArI Z h' a .byte (xs.set i (nar .byte x)) → WP p l e R s m args below meth c Z EL b Q pc' L st h' W k n) : WP p l e R s m args below meth c Z EL b Q pc L (.int x :: .int j :: .ref a :: st) h W k n := by
  subst hp
  obtain ⟨cl, B, S, G⟩ := A.cell
  refine WP.write C ha (fun X eT hZ ho => RoadKit.stB X C.1 hZ eT B (G hj hi).1 (g := mkF m pc L.toArray (.int x :: .int j :: .ref a :: st)) rfl rfl (hb C.2.1 hd)) fun h' w K => hr h' K (A.set hj hi (fits_nar_byte _) w)
theorem putF (C : Cx p m meth c s Z a0 EL b own nm bytes maxL ret) {pc' : Nat} {f O d K : String} {index kk : Nat} {ty : FieldType} {a : Nat} {v old : Value} (w : (Cond.fieldLink own index O f d).before a0 Z = true) (F : Fld Z h a O f d old) (E : Exa Z h a K) (ly : (Cond.lays K O f d).before a0 Z = true ∨ ((Cond.laysFinal K O f d).before a0 Z = true ∧ own = O ∧ nm = "<init>")) (wi : (Cond.instantiable K kk).before a0 Z = true)
    (hty : parseFieldDescriptor d = some ty) (hnr : narrow ty v = v) (hft : fits ty v = true) (ha : a ∈ W) (hd : decode bytes pc = .ok (.putfield index, 3)) (hp : pc + 3 = pc')
    (hr : ∀ h', Wr h h' a (Jvm.RoadKit.slotOf Z O f d) v → Keep h h' [a] → Fld Z h' a O f d v → WP p l e R s m args below meth c Z EL b Q pc' L st h' W k n) : WP p l e R s m args below meth c Z EL b Q pc L (v :: .ref a :: st) h W k n := by
  subst hp
  refine WP.write C ha (fun X eT hZ ho => RoadKit.putF X C.1 hZ ho (host := "") (Or.inl w) Via.refl eT F E (ly.imp id fun q => ⟨q.1, q.2.1, by rw [C.2.2.2.2.2.2.2.2.1]; exact q.2.2⟩) wi hty hnr hft (g := mkF m pc L.toArray (v :: .ref a :: st)) rfl rfl (hb C.2.1 hd)) fun h' w' K' => hr h' w' K' (F.same w')
/-! ldc of a String constant of EL -/
theorem ldcS (C : Cx p m meth c s Z a0 EL b own nm bytes maxL ret) (hbf : b = false) {pc' : Nat} {text : String} {index N : Nat} {xs : List Int32} (w : (Cond.stringLink own index text).before a0 Z = true) (hmem : (own, index) ∈ EL)
    (ht : (∀ ch ∈ text.toList, ch.toNat < 256) ∧ text.toList.map (fun ch => Value.int (Jvm.Lit.byteI ch.toNat.toUInt16)) = xs.map Value.int) (hlen : xs.length < 2 ^ 31)
    (hd : decode bytes pc = .ok (.ldc index, 2)) (hp : pc + 2 = pc') (hN : 4 * text.toList.length ≤ N) (hbig : N ≤ 536870912) (hc0 : k + 2 ≤ R.cells) (hn0 : n + (N + 4) ≤ R.slots)
    (hr : ∀ h' a d, Ext h h' → Exa Z h' a "java/lang/String" → Fld Z h' a "java/lang/String" "coder" "B" (.int 0) → Fld Z h' a "java/lang/String" "value" "[B" (.ref d) → ArI Z h' d .byte xs → (∀ x ∈ W, x ≠ a ∧ x ≠ d) → WP p l e R s m args below meth c Z EL b Q pc' L (.ref a :: st) h' W (k + 2) (n + (N + 4))) :
    WP p l e R s m args below meth c Z EL b Q pc L st h W k n := by
  subst hp
  intro T vm0 k0 locs cells slots X eT hS hk hb' hC hO hW hF hc hn
  obtain ⟨a, T', h', k1, d, kd, X', e', E, hS', hk', hZ', ho', A, Fc, Fv, V, -, -, hCH, -, hne, q⟩ := ldcCH (z := Int32.ofNat xs.length) X C.1 (C.z hS) (C.o hS) w (C.2.2.2.2.2.2.2.2.2.1 hbf) eT hS hk C.ew hmem hC.1 ht
    (fun q => by rw [Int32.lt_iff_toInt_lt, toInt_of rfl hlen, Int32.toInt_zero] at q; omega) (by rw [ofNat_clamp hlen]; simp) (g := mkF m pc L.toArray st) rfl (hb C.2.1 hd) hN hbig (by omega) (by omega)
  have hW' := hW.r hCH
  obtain ⟨s2, v, st, r⟩ := hr h' a d E A Fc Fv ⟨⟨kd, V⟩, hlen⟩ (fun x hx => hne x (hW' x hx).2.2) T' T'.vm k1 locs _ _ X' e' hS' hk' (fun q => by rw [hbf] at q; cases q) (hC.trans hCH) (hO.ext E) hW' hF (by omega) (by omega)
  exact ⟨s2, v, q _ st, r⟩
/-- ldc of any String constant: which object, not what it says -/
theorem ldcO (C : Cx p m meth c s Z a0 EL b own nm bytes maxL ret) (hbf : b = false) {pc' : Nat} {text : String} {index N : Nat} (w : (Cond.stringLink own index text).before a0 Z = true)
    (hd : decode bytes pc = .ok (.ldc index, 2)) (hp : pc + 2 = pc') (hN : 4 * text.toList.length ≤ N) (hbig : N ≤ 536870912) (hc0 : k + 2 ≤ R.cells) (hn0 : n + (N + 4) ≤ R.slots)
    (hr : ∀ h' a, Ext h h' → WP p l e R s m args below meth c Z EL b Q pc' L (.ref a :: st) h' W (k + 2) (n + (N + 4))) :
    WP p l e R s m args below meth c Z EL b Q pc L st h W k n := by
  subst hp
  intro T vm0 k0 locs cells slots X eT hS hk hb' hC hO hW hF hc hn
  obtain ⟨a, T', h', k1, X', e', E, hS', hk', hZ', ho', hCH, -, q⟩ := ldcOH X C.1 (C.z hS) (C.o hS) w (C.2.2.2.2.2.2.2.2.2.1 hbf) eT hS hk C.ew hC.1 (g := mkF m pc L.toArray st) rfl (hb C.2.1 hd) hN hbig (by omega) (by omega)
  obtain ⟨s2, v, st, r⟩ := hr h' a E T' T'.vm k1 locs _ _ X' e' hS' hk' (fun q => by rw [hbf] at q; cases q) (hC.trans hCH) (hO.ext E) (hW.r hCH) hF (by omega) (by omega)
  exact ⟨s2, v, q _ st, r⟩
/-! returns -/
theorem retW (C : Cx p m meth c s Z a0 EL b own nm bytes maxL ret) {v : Option Value} (hv : ret = none → v = none) (hk : k ≤ R.cells) (hn : n ≤ R.slots) {W' : List Nat} (hsub : ∀ x ∈ W', x ∈ W) (hQ : Q v h W')
    (q : ∀ {T : State} {vm0 : Vm} {locs : List Loc} {cells slots : Nat}, Stand p l e R (s.setVm vm0) m args below meth c T locs cells slots → ∀ {fs : List Frame}, (∀ (f : JFrame) (acts : List Action), f.method = m → f.locked = none → f.entered = [] → (doReturn e (T.setTop f) acts v).1 = T.setFrames fs) → Steps p.tables e below (T.setTop (mkF m pc L.toArray st)) (T.setFrames fs)) :
    WP p l e R s m args below meth c Z EL b Q pc L st h W k n := by
  intro T vm0 k0 locs cells slots X eT hS hk0 hb' hC hO hW hF hc hn'
  obtain ⟨fs, h1, h2, h3, hW1, hs⟩ := X.leave (v := v) (fun q => hv (by rw [← C.2.2.2.1]; exact q)) C.2.2.2.2.1
  obtain ⟨x1, x2, x3⟩ := hS.ended (U := T.setFrames fs) hW1 (by show k0 ≤ T.heap.size; rw [eT]; exact hk0) hs
  have hA := CHv.at X (C.z hS) C.ew hC.1
  refine ⟨T.setFrames fs, v, q X h1, h2, h3, locs, W', ?_, ?_, ?_, hF, ?_, ⟨⟨v, rfl⟩, x1, x2, x3.mono (by omega) (by omega)⟩, fun hbt => ?_⟩
  · show Q v T.heap W'; rw [eT]; exact hQ
  · show Own Z EL T.vm T.heap W'; rw [eT]; exact (hW.sub hsub).r hA
  · show Old Z Z.heap.size T.heap; rw [eT]; exact hO
  · show CHr Z EL s.vm s.heap T.vm T.heap; rw [eT]; exact hC.trans hA
  · obtain rfl := hb' hbt
    exact ⟨⟨v, rfl⟩, hW1, State.sameButNew.mono hs (by omega) (by omega)⟩
theorem retN (C : Cx p m meth c s Z a0 EL b own nm bytes maxL ret) {t : FieldType} {z : Int32} (hret : ret = some t) (ht : t = .boolean ∨ t = .byte ∨ t = .char ∨ t = .short) (hd : decode bytes pc = .ok (.ireturn, 1)) (hk : k ≤ R.cells) (hn : n ≤ R.slots) (W' : List Nat) (hsub : ∀ x ∈ W', x ∈ W) (hQ : Q (some (.int (nar t z))) h W') :
    WP p l e R s m args below meth c Z EL b Q pc L (.int z :: st) h W k n := by
  subst hret
  exact retW C (fun q => nomatch q) hk hn hsub hQ fun X _ h1 => RoadKit.retN X C.1 C.2.2.2.1 ht (hb C.2.1 hd) h1
theorem retV (C : Cx p m meth c s Z a0 EL b own nm bytes maxL ret) (hret : ret = none) (hd : decode bytes pc = .ok (.return_, 1)) (hk : k ≤ R.cells) (hn : n ≤ R.slots) (W' : List Nat) (hsub : ∀ x ∈ W', x ∈ W) (hQ : Q none h W') :
    WP p l e R s m args below meth c Z EL b Q pc L [] h W k n := by
  subst hret
  exact retW C (fun _ => rfl) hk hn hsub hQ fun X _ h1 => X.returnOut C.1 C.2.2.2.1 (hb C.2.1 hd) h1
theorem retI (C : Cx p m meth c s Z a0 EL b own nm bytes maxL ret) {z : Int32} (hret : ret = some .int) (hd : decode bytes pc = .ok (.ireturn, 1)) (hk : k ≤ R.cells) (hn : n ≤ R.slots) (W' : List Nat) (hsub : ∀ x ∈ W', x ∈ W) (hQ : Q (some (.int z)) h W') :
    WP p l e R s m args below meth c Z EL b Q pc L (.int z :: st) h W k n := by
  subst hret
  exact retW C (fun q => nomatch q) hk hn hsub hQ fun X _ h1 => RoadKit.retOut X C.1 (t := .int) C.2.2.2.1 rfl (Or.inl ⟨rfl, Or.inl rfl, z, rfl⟩) (hb C.2.1 hd) h1
theorem retA (C : Cx p m meth c s Z a0 EL b own nm bytes maxL ret) {t : FieldType} {v : Value} (hret : ret = some t) (ht : t.isReference = true) (hv : v.isRef = true) (hd : decode bytes pc = .ok (.areturn, 1)) (hk : k ≤ R.cells) (hn : n ≤ R.slots) (W' : List Nat) (hsub : ∀ x ∈ W', x ∈ W) (hQ : Q (some v) h W') :
    WP p l e R s m args below meth c Z EL b Q pc L (v :: st) h W k n := by
  subst hret
  exact retW C (fun q => nomatch q) hk hn hsub hQ fun X _ h1 => RoadKit.retOut X C.1 (t := t) C.2.2.2.1 (by cases t <;> cases v <;> first | rfl | (cases ht; done) | (cases hv; done)) (Or.inr (Or.inr (Or.inr (Or.inr ⟨rfl, ht, hv⟩)))) (hb C.2.1 hd) h1
end Steps
/-! contracts and calls -/
section Calls
variable {p : Program} {l : Launch} {e : Env} {R : Room} {s : State} {m : MethodId} {args : Array Value} {below : List Frame} {meth : Method} {c : Code} {Z : State} {a0 : Array Value} {EL : List (String × Nat)} {b : Bool} {own nm : String} {bytes : ByteArray} {maxL : Nat} {ret : Option FieldType} {Q : Option Value → Heap → List Nat → Prop}
  {pc : Nat} {L : List Slot} {st : List Value} {h : Heap} {W : List Nat} {k n : Nat}
/-- a method's contract: called with these arguments over this heap it returns, and Q says what it returned, the heap it left, and which cells may be written besides -/
def Con (l : Launch) (Z : State) (EL : List (String × Nat)) (b : Bool) (y : MethodName) (bytes : ByteArray) (maxL : Nat) (ret : Option FieldType) (ws : List Jvm.Cond) (rm : Room) (as' : Array Value) (h : Heap) (W : List Nat) (Q : Option Value → Heap → List Nat → Prop) : Prop :=
  MetFree l y (head1 (Cond.code y bytes maxL ret :: ws) rm) (fun a U => a = as' ∧ Z.Warmed39 U.vm ∧ U.heap = h ∧ CHv Z EL U.vm h ∧ Old Z Z.heap.size h ∧ Own Z EL U.vm h W) (fun _ _ _ _ _ => True)
    (fun _ U o U' => ∃ v L, o = .returned v ∧ (∃ W', Q v U'.heap W' ∧ Own Z EL U'.vm U'.heap W' ∧ Old Z Z.heap.size U'.heap ∧ Fr Z.heap.size L) ∧ CHr Z EL U.vm U.heap U'.vm U'.heap ∧ ReturnedEndW U o U' L rm.cells rm.slots ∧ (b = true → FrameEnd U o U' L rm.cells rm.slots))
theorem Con.intro {y : MethodName} {ws : List Jvm.Cond} {rm : Room} {as' : Array Value} (hpn : plainFor y = true) (hEL : EW Z a0 EL) (hS : b = false → ∀ a ∈ Bundle.stringAtoms, a.before a0 Z = true) (hB : b = true → EL = []) (L : List Slot) (hE : argsToLocals as' maxL = L.toArray)
    (H : ∀ (p : Program) (e : Env) (s : State) (m : MethodId) (below : List Frame) (meth : Method) (c : Code), Cx p m meth c s Z a0 EL b y.cls y.name bytes maxL ret → Old Z Z.heap.size h → WP p l e rm s m as' below meth c Z EL b Q 0 L [] h W 0 0) :
    Con l Z EL b y bytes maxL ret ws rm as' h W Q := by
  refine MetFree.of_bodySF hpn hisR ?_
  intro p e s m args below meth c s₁ Bd hml hP hK
  obtain ⟨rfl, hZ, hh, hC, hO, hW⟩ := hP
  have hnm := (name_of_methodNamed Bd.named Bd.method).1
  have X0 : Stand p l e rm s m args below meth c s₁ [] 0 0 := Stand.of_body Bd
  have e0 : s₁.heap = h := by rw [← hh, Bd.state]; rfl
  obtain ⟨s2, v, q, r1, r2, L', W', r3, r4, r5, r6, r7, r8, r9⟩ := H p e s m below meth c ⟨Bd.exec, Bd.bytes, hml, Bd.returns, Bd.notSynchronized, findClass_of_methodNamed Bd.named, hZ, hEL, hnm, hS, hB⟩ hO s₁ s.vm 0 [] 0 0 X0 e0 ((State.WarmedH.refl s).since 0) (Nat.zero_le _) (fun _ => rfl)
    (by rw [hh]; exact CHr.refl hC) hO hW (Fr.nil _) (Nat.le_refl _) (Nat.le_refl _)
  have he : entryFrame m args maxL = mkF m 0 L.toArray [] := by unfold entryFrame; rw [hE]
  exact ⟨s2, _, castTop he q, r1, r2, v, L', rfl, ⟨W', r3, r4, r5, r6⟩, r7, r8, r9⟩
/-- a contract used where less is asked, or more is known -/
theorem Con.mono {y : MethodName} {ws : List Jvm.Cond} {rm : Room} {as' : Array Value} {Q' : Option Value → Heap → List Nat → Prop} (M : Con l Z EL b y bytes maxL ret ws rm as' h W Q) (q : ∀ v h' W', Q v h' W' → Q' v h' W') : Con l Z EL b y bytes maxL ret ws rm as' h W Q' := by
  intro p e h1 h2 h3 s m args below hf ha hP hK
  obtain ⟨n, o, x1, x2, x3, v, L, x4, ⟨W', x5, x6⟩, x7⟩ := M p e h1 h2 h3 s m args below hf ha hP hK
  exact ⟨n, o, x1, x2, x3, v, L, x4, ⟨W', q _ _ _ x5, x6⟩, x7⟩
/-- what stands behind a call -/
def Post (Z : State) (EL : List (String × Nat)) (vm0 : Vm) (h : Heap) (rm : Room) (Q : Option Value → Heap → List Nat → Prop) (A : Pt) (v : Option Value) (B : Pt) : Prop :=
  ∃ (L : List Loc) (W' : List Nat), Q v B.U.heap W' ∧ Own Z EL B.U.vm B.U.heap W' ∧ Old Z Z.heap.size B.U.heap ∧ Fr Z.heap.size L ∧ B.locs = A.locs ++ L ∧ B.cells = A.cells + rm.cells ∧ B.slots = A.slots + rm.slots ∧ CHr Z EL vm0 h B.U.vm B.U.heap
theorem Con.backS {y : MethodName} {rm : Room} {as' : Array Value} {len Wt : Nat} {vm0 : Vm} (M : Con l Z EL b y bytes maxL ret [] rm as' h W Q) (hZ : Z.Warmed39 vm0) (wc : (Cond.code y bytes maxL ret).before a0 Z = true) (wz : (Cond.initialized y.cls).before a0 Z = true) (hf : rm.frames + 1 ≤ R.frames) (hl : Wt + (maxL + 11) + rm.locals ≤ R.locals)
    (hEL : EW Z a0 EL) (H : CHv Z EL vm0 h) (hO : Old Z Z.heap.size h) (hW : Own Z EL vm0 h W) :
    BackS l R p e below (s.setVm vm0) args y len Wt (fun A a => a = as' ∧ A.U.heap = h ∧ A.cells + rm.cells ≤ R.cells ∧ A.slots + rm.slots ≤ R.slots) (fun A _ v B => Post Z EL vm0 h rm Q A v B) :=
  BackS.of_freeW (bytes := bytes) (maxL := maxL) (ret := ret) (E := fun _ first o t L kk nn => kk = rm.cells ∧ nn = rm.slots ∧ (∃ v, o = .returned v ∧ ∃ W', Q v t.heap W' ∧ Own Z EL t.vm t.heap W' ∧ Old Z Z.heap.size t.heap ∧ Fr Z.heap.size L) ∧ CHr Z EL first.vm first.heap t.vm t.heap) M hf hl
    (fun m meth c A a Y hp => have hU : Z.Warmed39 A.U.vm := wtrans (s := s.setVm vm0) hZ Y.warmed
      ⟨by show (Cond.and _ .tt).before a A.U = true; rw [Cond.before_and, mv hU wc]; rfl, mv hU wc, mv hU wz, hp.2.2.1, hp.2.2.2⟩)
    (fun m meth c A a g mk Y hp => ⟨hp.1, wtrans (s := s.setVm vm0) hZ Y.warmed, hp.2.1, (CHv.at Y hZ hEL H).1, hO, (show Own Z EL A.U.vm h W from hW.r (CHv.at Y hZ hEL H))⟩) (fun _ _ _ _ _ _ _ _ _ => trivial)
    (fun _ _ _ _ ⟨v, L, h1, ⟨W', h2⟩, h3, h4, _⟩ => ⟨L, _, _, h4, rfl, rfl, ⟨v, h1, W', h2⟩, h3⟩)
    (fun m meth c A a g mk v t L kk nn Y hp _ _ ⟨e1, e2, ⟨v', e3, W', e4, e5, e6, e7⟩, e8⟩ => by
      cases e3; subst e1 e2
      refine ⟨L, W', e4, e5, e6, e7, rfl, rfl, rfl, ?_⟩
      have e9 : CHr Z EL A.U.vm A.U.heap t.vm t.heap := e8
      rw [hp.2.1] at e9
      exact (CHv.at Y hZ hEL H).trans e9)
theorem Con.back {y : MethodName} {rm : Room} {as' : Array Value} {len Wt : Nat} {vm0 : Vm} (M : Con l Z [] true y bytes maxL ret [] rm as' h W Q) (hZ : Z.Warmed39 vm0) (wc : (Cond.code y bytes maxL ret).before a0 Z = true) (wz : (Cond.initialized y.cls).before a0 Z = true) (hf : rm.frames + 1 ≤ R.frames) (hl : Wt + (maxL + 11) + rm.locals ≤ R.locals)
    (H : CHv Z [] vm0 h) (hO : Old Z Z.heap.size h) (hW : Own Z [] vm0 h W) :
    Back l R p e below (s.setVm vm0) args y len Wt (fun A a => a = as' ∧ A.U.heap = h ∧ A.cells + rm.cells ≤ R.cells ∧ A.slots + rm.slots ≤ R.slots) (fun A _ v B => Post Z [] vm0 h rm Q A v B) :=
  Back.of_free (bytes := bytes) (maxL := maxL) (ret := ret) (E := fun _ first o t L kk nn => kk = rm.cells ∧ nn = rm.slots ∧ (∃ v, o = .returned v ∧ ∃ W', Q v t.heap W' ∧ Own Z [] t.vm t.heap W' ∧ Old Z Z.heap.size t.heap ∧ Fr Z.heap.size L) ∧ CHr Z [] first.vm first.heap t.vm t.heap) M hf hl
    (fun m meth c A a Y hp => have hU : Z.Warmed39 A.U.vm := wtrans (s := s.setVm vm0) hZ Y.warmed
      ⟨by show (Cond.and _ .tt).before a A.U = true; rw [Cond.before_and, mv hU wc]; rfl, mv hU wc, mv hU wz, hp.2.2.1, hp.2.2.2⟩)
    (fun m meth c A a g mk Y hp => ⟨hp.1, wtrans (s := s.setVm vm0) hZ Y.warmed, hp.2.1, (CHv.at Y hZ (EW.nil (a0 := a0)) H).1, hO, (show Own Z [] A.U.vm h W from hW.r (CHv.at Y hZ (EW.nil (a0 := a0)) H))⟩) (fun _ _ _ _ _ _ _ _ _ => trivial)
    (fun _ _ _ _ ⟨v, L, h1, ⟨W', h2⟩, h3, _, h5⟩ => ⟨L, _, _, h5 rfl, rfl, rfl, ⟨v, h1, W', h2⟩, h3⟩)
    (fun m meth c A a g mk v t L kk nn Y hp _ _ ⟨e1, e2, ⟨v', e3, W', e4, e5, e6, e7⟩, e8⟩ => by
      cases e3; subst e1 e2
      refine ⟨L, W', e4, e5, e6, e7, rfl, rfl, rfl, ?_⟩
      have e9 : CHr Z [] A.U.vm A.U.heap t.vm t.heap := e8
      rw [hp.2.1] at e9
      exact (CHv.at Y hZ (EW.nil (a0 := a0)) H).trans e9)
theorem chr_nil {vm vm1 vm2 : Vm} {h h' : Heap} (A : CHr Z [] vm h vm1 h') : CHr Z [] vm h vm2 h' := ⟨(fun _ hp => nomatch hp), A.2.1, fun y q => by obtain ⟨_, hp, _⟩ := q; cases hp⟩
theorem own_nil {vm vm2 : Vm} {h : Heap} (A : Own Z [] vm h W) : Own Z [] vm2 h W := fun x hx => ⟨(A x hx).1, (A x hx).2.1, fun q => by obtain ⟨_, hp, _⟩ := q; cases hp⟩
theorem WP.wk {V : List Nat} (hsub : ∀ x ∈ V, x ∈ W) (hr : WP p l e R s m args below meth c Z EL b Q pc L st h V k n) : WP p l e R s m args below meth c Z EL b Q pc L st h W k n :=
  fun T vm0 k0 locs cells slots X eT hS hk hb' hC hO hW hF hc hn => hr T vm0 k0 locs cells slots X eT hS hk hb' hC hO (hW.sub hsub) hF hc hn
theorem WP.room {k' n' : Nat} (hk' : k ≤ k') (hn' : n ≤ n') (hr : WP p l e R s m args below meth c Z EL b Q pc L st h W k' n') : WP p l e R s m args below meth c Z EL b Q pc L st h W k n :=
  fun T vm0 k0 locs cells slots X eT hS hk hb' hC hO hW hF hc hn => hr T vm0 k0 locs cells slots X eT hS hk hb' hC hO hW hF (Nat.le_trans hc hk') (Nat.le_trans hn hn')
/-- the way on behind a call -/
theorem WP.after {rm : Room} {Q' : Option Value → Heap → List Nat → Prop} {pc' : Nat} {rest : List Value} {V : List Nat} (C : Cx p m meth c s Z a0 EL b own nm bytes maxL ret) (hc0 : k + rm.cells ≤ R.cells) (hn0 : n + rm.slots ≤ R.slots)
    (hr : ∀ v h' W', Q' v h' W' → h.size ≤ h'.size → WP p l e R s m args below meth c Z EL b Q pc' L (v.toList ++ rest) h' (W' ++ W) (k + rm.cells) (n + rm.slots))
    {T : State} {vm0 : Vm} {k0 : Nat} {locs : List Loc} {cells slots : Nat} (eT : T.heap = h) (hS : s.Since vm0 k0) (hk : k0 ≤ h.size) (hb' : b = true → vm0 = s.vm) (hC : CHr Z EL s.vm s.heap vm0 h) (hW : Own Z EL vm0 h W) (hF : Fr Z.heap.size locs) (hc : cells ≤ k) (hn : slots ≤ n)
    {v : Option Value} {vm1 vm2 : Vm} {B : Pt} (X' : Stand p l e R (s.setVm vm2) m args below meth c B.U B.locs B.cells B.slots) (hS' : (s.setVm vm0).Since vm2 B.U.heap.size) (hv : (b = false ∧ vm2 = B.U.vm) ∨ (b = true ∧ vm2 = vm0)) (hg : T.heap.size ≤ B.U.heap.size)
    (P : Post Z EL vm0 h rm Q' ⟨T.setVm vm1, locs, cells, slots⟩ v B) :
    ∃ s2 v2, Steps p.tables e below (B.U.setTop (mkF m pc' L.toArray (v.toList ++ rest))) s2 ∧ EndQ R Z EL b Q s below s2 v2 := by
  obtain ⟨L1, W', q1, q2, q3, q4, q5, q6, q7, q8⟩ := P
  rw [eT] at hg
  have hF' : Fr Z.heap.size B.locs := by rw [q5]; exact hF.app q4
  have hcc : B.cells ≤ k + rm.cells := by rw [q6]; show cells + rm.cells ≤ _; omega
  have hnn : B.slots ≤ n + rm.slots := by rw [q7]; show slots + rm.slots ≤ _; omega
  rcases hv with ⟨rfl, rfl⟩ | ⟨rfl, rfl⟩
  · exact hr v _ W' q1 hg B.U B.U.vm B.U.heap.size _ _ _ X' rfl (hS.trans hS' (Nat.le_trans hk hg)) (Nat.le_refl _) (fun q => nomatch q) (hC.trans q8) q3 (q2.app (hW.r q8)) hF' hcc hnn
  · obtain rfl := C.2.2.2.2.2.2.2.2.2.2 rfl
    exact hr v _ W' q1 hg B.U vm2 k0 _ _ _ X' rfl hS (Nat.le_trans hk hg) hb' (chr_nil (hC.trans q8)) q3 (own_nil (q2.app (hW.r q8))) hF' hcc hnn
theorem callSW (C : Cx p m meth c s Z a0 EL b own nm bytes maxL ret) {pc' index : Nat} {y : MethodName} {ybytes : ByteArray} {ymax : Nat} {yret : Option FieldType} {rm : Room} {V : List Nat} {Q' : Option Value → Heap → List Nat → Prop} {argsL rest : List Value} {ps : List FieldType} {pr : Option FieldType} {Wt : Nat}
    (w1 : (Cond.methodLink own index y).before a0 Z = true) (w2 : (Cond.static y).before a0 Z = true) (w3 : (Cond.initialized y.cls).before a0 Z = true) (w4 : (Cond.code y ybytes ymax yret).before a0 Z = true) (hy : y.cls ≠ "java/lang/invoke/MethodHandle" ∧ y.cls ≠ "java/lang/invoke/VarHandle")
    (M : Con l Z EL b y ybytes ymax yret [] rm argsL.toArray h V Q') (hV : ∀ x ∈ V, x ∈ W) (hpd : parseMethodDescriptor y.desc = some ⟨ps, pr⟩) (hal : argsL.length = ps.length) (hst : st = argsL.reverse ++ rest) (hsz : L.length = maxL)
    (hd : decode bytes pc = .ok (.invokestatic index, 3)) (hp : pc + 3 = pc') (hWt : (rest.map fun v => v.category).sum ≤ Wt) (hf : rm.frames + 1 ≤ R.frames) (hl : Wt + (ymax + 11) + rm.locals ≤ R.locals) (hc0 : k + rm.cells ≤ R.cells) (hn0 : n + rm.slots ≤ R.slots)
    (hr : ∀ v h' W', Q' v h' W' → h.size ≤ h'.size → WP p l e R s m args below meth c Z EL b Q pc' L (v.toList ++ rest) h' (W' ++ W) (k + rm.cells) (n + rm.slots)) :
    WP p l e R s m args below meth c Z EL b Q pc L st h W k n := by
  subst hp hst
  intro T vm0 k0 locs cells slots X eT hS hk hb' hC hO hW hF hc hn
  have hZ0 : Z.Warmed39 (s.setVm vm0).vm := C.z hS
  have hsz' : (mkF m pc L.toArray (argsL.reverse ++ rest)).locals.size = c.maxLocals := by rw [C.2.2.1, ← hsz]; simp
  cases b with
  | false =>
    obtain ⟨v, vm1, B, -, X', hS', hg, P, q⟩ := callSS X C.1 (C.o hS) (mv hZ0 w1) (mv hZ0 w2) (mv hZ0 w3) (mv hZ0 w4) hy (M.backS (W := V) hZ0 w4 w3 hf hl C.ew hC.1 hO (hW.sub hV)) (g := mkF m pc L.toArray (argsL.reverse ++ rest)) rfl hsz' (lenOf hpd hal) rfl (by show 2 * 0 + _ ≤ _; omega) (hb C.2.1 hd) (fun _ _ => ⟨rfl, eT, by show cells + _ ≤ _; omega, by show slots + _ ≤ _; omega⟩)
    obtain ⟨s2, v2, q2, r⟩ := WP.after (V := V) C hc0 hn0 hr eT hS hk hb' hC hW hF hc hn X' hS' (Or.inl ⟨rfl, rfl⟩) hg P
    exact ⟨s2, v2, q.trans q2, r⟩
  | true =>
    obtain rfl := C.2.2.2.2.2.2.2.2.2.2 rfl
    obtain ⟨v, vm1, B, -, X', P, q⟩ := LawKit.callS X C.1 (C.o hS) (mv hZ0 w1) (mv hZ0 w2) (mv hZ0 w3) (mv hZ0 w4) hy (M.back (W := V) hZ0 w4 w3 hf hl hC.1 hO (hW.sub hV)) (g := mkF m pc L.toArray (argsL.reverse ++ rest)) rfl hsz' (lenOf hpd hal) rfl (by show 2 * 0 + _ ≤ _; omega) (hb C.2.1 hd) (fun _ _ => ⟨rfl, eT, by show cells + _ ≤ _; omega, by show slots + _ ≤ _; omega⟩)
    have hg : T.heap.size ≤ B.U.heap.size := by obtain ⟨_, _, _, _, _, _, _, _, _, q8⟩ := P; rw [eT]; exact q8.2.1
    obtain ⟨s2, v2, q2, r⟩ := WP.after (V := V) C hc0 hn0 hr eT hS hk hb' hC hW hF hc hn X' ((State.WarmedH.refl _).since _) (Or.inr ⟨rfl, rfl⟩) hg P
    exact ⟨s2, v2, q _ q2, r⟩
theorem callS (C : Cx p m meth c s Z a0 EL b own nm bytes maxL ret) {pc' index : Nat} {y : MethodName} {ybytes : ByteArray} {ymax : Nat} {yret : Option FieldType} {rm : Room} {V : List Nat} {Q' : Option Value → Heap → List Nat → Prop} {argsL rest : List Value} {ps : List FieldType} {pr : Option FieldType} {Wt : Nat}
    (w1 : (Cond.methodLink own index y).before a0 Z = true) (w2 : (Cond.static y).before a0 Z = true) (w3 : (Cond.initialized y.cls).before a0 Z = true) (w4 : (Cond.code y ybytes ymax yret).before a0 Z = true) (hy : y.cls ≠ "java/lang/invoke/MethodHandle" ∧ y.cls ≠ "java/lang/invoke/VarHandle")
    (M : Con l Z EL b y ybytes ymax yret [] rm argsL.toArray h V Q') (hV : ∀ x ∈ V, x ∈ W) (hpd : parseMethodDescriptor y.desc = some ⟨ps, pr⟩) (hal : argsL.length = ps.length) (hst : st = argsL.reverse ++ rest) (hsz : L.length = maxL)
    (hd : decode bytes pc = .ok (.invokestatic index, 3)) (hp : pc + 3 = pc') (hWt : (rest.map fun v => v.category).sum ≤ Wt) (hf : rm.frames + 1 ≤ R.frames) (hl : Wt + (ymax + 11) + rm.locals ≤ R.locals) (hc0 : k + rm.cells ≤ R.cells) (hn0 : n + rm.slots ≤ R.slots)
    (hr : ∀ v h' W', Q' v h' W' → h.size ≤ h'.size → WP p l e R s m args below meth c Z EL b Q pc' L (v.toList ++ rest) h' W (k + rm.cells) (n + rm.slots)) :
    WP p l e R s m args below meth c Z EL b Q pc L st h W k n :=
  callSW C w1 w2 w3 w4 hy M hV hpd hal hst hsz hd hp hWt hf hl hc0 hn0 fun v h' W' q g => (hr v h' W' q g).wk fun x hx => List.mem_append_right _ hx
theorem callIW (C : Cx p m meth c s Z a0 EL b own nm bytes maxL ret) {pc' index : Nat} {y : MethodName} {ybytes : ByteArray} {ymax : Nat} {rm : Room} {V : List Nat} {Q' : Option Value → Heap → List Nat → Prop} {a : Nat} {argsL rest : List Value} {ps : List FieldType} {pr : Option FieldType} {Wt : Nat} (hy1 : y.name = "<init>")
    (w1 : (Cond.methodLink own index y).before a0 Z = true) (w2 : (Cond.instanceMethod y).before a0 Z = true) (w3 : (Cond.initialized y.cls).before a0 Z = true) (w4 : (Cond.code y ybytes ymax none).before a0 Z = true) (hy : y.cls ≠ "java/lang/invoke/MethodHandle" ∧ y.cls ≠ "java/lang/invoke/VarHandle")
    (M : Con l Z EL b y ybytes ymax none [] rm (.ref a :: argsL).toArray h V Q') (hV : ∀ x ∈ V, x ∈ W) (hpd : parseMethodDescriptor y.desc = some ⟨ps, pr⟩) (hal : argsL.length = ps.length) (hst : st = argsL.reverse ++ .ref a :: rest) (hsz : L.length = maxL)
    (hd : decode bytes pc = .ok (.invokespecial index, 3)) (hp : pc + 3 = pc') (hWt : (rest.map fun v => v.category).sum ≤ Wt) (hf : rm.frames + 1 ≤ R.frames) (hl : Wt + (ymax + 11) + rm.locals ≤ R.locals) (hc0 : k + rm.cells ≤ R.cells) (hn0 : n + rm.slots ≤ R.slots)
    (hr : ∀ v h' W', Q' v h' W' → h.size ≤ h'.size → WP p l e R s m args below meth c Z EL b Q pc' L (v.toList ++ rest) h' (W' ++ W) (k + rm.cells) (n + rm.slots)) :
    WP p l e R s m args below meth c Z EL b Q pc L st h W k n := by
  subst hp hst
  intro T vm0 k0 locs cells slots X eT hS hk hb' hC hO hW hF hc hn
  have hZ0 : Z.Warmed39 (s.setVm vm0).vm := C.z hS
  have hsz' : (mkF m pc L.toArray (argsL.reverse ++ .ref a :: rest)).locals.size = c.maxLocals := by rw [C.2.2.1, ← hsz]; simp
  cases b with
  | false =>
    obtain ⟨v, vm1, B, -, X', hS', hg, P, q⟩ := X.specialBackS C.1 hy1 (C.o hS) (mv hZ0 w1) (mv hZ0 w2) (mv hZ0 w4) hy (M.backS (W := V) hZ0 w4 w3 hf hl C.ew hC.1 hO (hW.sub hV)) (g := mkF m pc L.toArray (argsL.reverse ++ .ref a :: rest)) rfl hsz' (Steps.refl _) (lenOf hpd hal) rfl (by show 2 * 0 + _ ≤ _; omega) (hb C.2.1 hd) (fun _ _ => ⟨rfl, eT, by show cells + _ ≤ _; omega, by show slots + _ ≤ _; omega⟩)
    obtain ⟨s2, v2, q2, r⟩ := WP.after (V := V) C hc0 hn0 hr eT hS hk hb' hC hW hF hc hn X' hS' (Or.inl ⟨rfl, rfl⟩) hg P
    exact ⟨s2, v2, q.trans q2, r⟩
  | true =>
    obtain rfl := C.2.2.2.2.2.2.2.2.2.2 rfl
    obtain ⟨v, vm1, B, -, X', P, q⟩ := X.specialBack C.1 hy1 (C.o hS) (mv hZ0 w1) (mv hZ0 w2) (mv hZ0 w4) hy (M.back (W := V) hZ0 w4 w3 hf hl hC.1 hO (hW.sub hV)) (g := mkF m pc L.toArray (argsL.reverse ++ .ref a :: rest)) rfl hsz' (Steps.refl _) (lenOf hpd hal) rfl (by show 2 * 0 + _ ≤ _; omega) (hb C.2.1 hd) (fun _ _ => ⟨rfl, eT, by show cells + _ ≤ _; omega, by show slots + _ ≤ _; omega⟩)
    have hg : T.heap.size ≤ B.U.heap.size := by obtain ⟨_, _, _, _, _, _, _, _, _, q8⟩ := P; rw [eT]; exact q8.2.1
    obtain ⟨s2, v2, q2, r⟩ := WP.after (V := V) C hc0 hn0 hr eT hS hk hb' hC hW hF hc hn X' ((State.WarmedH.refl _).since _) (Or.inr ⟨rfl, rfl⟩) hg P
    exact ⟨s2, v2, q.trans q2, r⟩
theorem callI (C : Cx p m meth c s Z a0 EL b own nm bytes maxL ret) {pc' index : Nat} {y : MethodName} {ybytes : ByteArray} {ymax : Nat} {rm : Room} {V : List Nat} {Q' : Option Value → Heap → List Nat → Prop} {a : Nat} {argsL rest : List Value} {ps : List FieldType} {pr : Option FieldType} {Wt : Nat} (hy1 : y.name = "<init>")
    (w1 : (Cond.methodLink own index y).before a0 Z = true) (w2 : (Cond.instanceMethod y).before a0 Z = true) (w3 : (Cond.initialized y.cls).before a0 Z = true) (w4 : (Cond.code y ybytes ymax none).before a0 Z = true) (hy : y.cls ≠ "java/lang/invoke/MethodHandle" ∧ y.cls ≠ "java/lang/invoke/VarHandle")
    (M : Con l Z EL b y ybytes ymax none [] rm (.ref a :: argsL).toArray h V Q') (hV : ∀ x ∈ V, x ∈ W) (hpd : parseMethodDescriptor y.desc = some ⟨ps, pr⟩) (hal : argsL.length = ps.length) (hst : st = argsL.reverse ++ .ref a :: rest) (hsz : L.length = maxL)
    (hd : decode bytes pc = .ok (.invokespecial index, 3)) (hp : pc + 3 = pc') (hWt : (rest.map fun v => v.category).sum ≤ Wt) (hf : rm.frames + 1 ≤ R.frames) (hl : Wt + (ymax + 11) + rm.locals ≤ R.locals) (hc0 : k + rm.cells ≤ R.cells) (hn0 : n + rm.slots ≤ R.slots)
    (hr : ∀ v h' W', Q' v h' W' → h.size ≤ h'.size → WP p l e R s m args below meth c Z EL b Q pc' L (v.toList ++ rest) h' W (k + rm.cells) (n + rm.slots)) :
    WP p l e R s m args below meth c Z EL b Q pc L st h W k n :=
  callIW C hy1 w1 w2 w3 w4 hy M hV hpd hal hst hsz hd hp hWt hf hl hc0 hn0 fun v h' W' q g => (hr v h' W' q g).wk fun x hx => List.mem_append_right _ hx
theorem callVW (C : Cx p m meth c s Z a0 EL b own nm bytes maxL ret) {pc' index : Nat} {K : String} {y z : MethodName} {ybytes : ByteArray} {ymax : Nat} {yret : Option FieldType} {rm : Room} {V : List Nat} {Q' : Option Value → Heap → List Nat → Prop} {a : Nat} {argsL rest : List Value} {ps : List FieldType} {pr : Option FieldType} {Wt : Nat}
    (w1 : (Cond.methodLink own index y).before a0 Z = true) (w2 : (Cond.declares y).before a0 Z = true) (wf : (Cond.selects y.cls y y).before a0 Z = true) (w5 : (Cond.selects K y z).before a0 Z = true) (w6 : (Cond.instanceMethod z).before a0 Z = true) (w3 : (Cond.initialized z.cls).before a0 Z = true) (w4 : (Cond.code z ybytes ymax yret).before a0 Z = true) (hy : y.cls ≠ "java/lang/invoke/MethodHandle" ∧ y.cls ≠ "java/lang/invoke/VarHandle")
    (E : Exa Z h a K) (M : Con l Z EL b z ybytes ymax yret [] rm (.ref a :: argsL).toArray h V Q') (hV : ∀ x ∈ V, x ∈ W) (hpd : parseMethodDescriptor y.desc = some ⟨ps, pr⟩) (hal : argsL.length = ps.length) (hst : st = argsL.reverse ++ .ref a :: rest) (hsz : L.length = maxL)
    (hd : decode bytes pc = .ok (.invokevirtual index, 3)) (hp : pc + 3 = pc') (hWt : (rest.map fun v => v.category).sum ≤ Wt) (hf : rm.frames + 1 ≤ R.frames) (hl : Wt + (ymax + 11) + rm.locals ≤ R.locals) (hc0 : k + rm.cells ≤ R.cells) (hn0 : n + rm.slots ≤ R.slots)
    (hr : ∀ v h' W', Q' v h' W' → h.size ≤ h'.size → WP p l e R s m args below meth c Z EL b Q pc' L (v.toList ++ rest) h' (W' ++ W) (k + rm.cells) (n + rm.slots)) :
    WP p l e R s m args below meth c Z EL b Q pc L st h W k n := by
  subst hp hst
  intro T vm0 k0 locs cells slots X eT hS hk hb' hC hO hW hF hc hn
  have hZ0 : Z.Warmed39 (s.setVm vm0).vm := C.z hS
  have hsz' : (mkF m pc L.toArray (argsL.reverse ++ .ref a :: rest)).locals.size = c.maxLocals := by rw [C.2.2.1, ← hsz]; simp
  obtain ⟨cB, kB, qa, qb, qc⟩ := isOf hZ0 eT E
  have hnf : NotFace (s.setVm vm0) y := notFace_of_selects (args := #[]) (mv hZ0 wf)
  cases b with
  | false =>
    obtain ⟨v, vm1, B, -, X', hS', hg, P, q⟩ := X.virtualBackS C.1 (C.o hS) (mv hZ0 w1) (mv hZ0 w2) hnf (mv hZ0 w5) (mv hZ0 w6) hy (M.backS (W := V) hZ0 w4 w3 hf hl C.ew hC.1 hO (hW.sub hV)) qa qc (g := mkF m pc L.toArray (argsL.reverse ++ .ref a :: rest)) rfl hsz' (Steps.refl _) (lenOf hpd hal) rfl (by show 2 * 0 + _ ≤ _; omega) (hb C.2.1 hd) (fun _ _ => ⟨rfl, eT, by show cells + _ ≤ _; omega, by show slots + _ ≤ _; omega⟩)
    obtain ⟨s2, v2, q2, r⟩ := WP.after (V := V) C hc0 hn0 hr eT hS hk hb' hC hW hF hc hn X' hS' (Or.inl ⟨rfl, rfl⟩) hg P
    exact ⟨s2, v2, q.trans q2, r⟩
  | true =>
    obtain rfl := C.2.2.2.2.2.2.2.2.2.2 rfl
    obtain ⟨v, vm1, B, -, X', P, q⟩ := X.virtualBack C.1 (C.o hS) (mv hZ0 w1) (mv hZ0 w2) hnf (mv hZ0 w5) (mv hZ0 w6) hy (M.back (W := V) hZ0 w4 w3 hf hl hC.1 hO (hW.sub hV)) qa qc (g := mkF m pc L.toArray (argsL.reverse ++ .ref a :: rest)) rfl hsz' (Steps.refl _) (lenOf hpd hal) rfl (by show 2 * 0 + _ ≤ _; omega) (hb C.2.1 hd) (fun _ _ => ⟨rfl, eT, by show cells + _ ≤ _; omega, by show slots + _ ≤ _; omega⟩)
    have hg : T.heap.size ≤ B.U.heap.size := by obtain ⟨_, _, _, _, _, _, _, _, _, q8⟩ := P; rw [eT]; exact q8.2.1
    obtain ⟨s2, v2, q2, r⟩ := WP.after (V := V) C hc0 hn0 hr eT hS hk hb' hC hW hF hc hn X' ((State.WarmedH.refl _).since _) (Or.inr ⟨rfl, rfl⟩) hg P
    exact ⟨s2, v2, q.trans q2, r⟩
theorem callV (C : Cx p m meth c s Z a0 EL b own nm bytes maxL ret) {pc' index : Nat} {K : String} {y z : MethodName} {ybytes : ByteArray} {ymax : Nat} {yret : Option FieldType} {rm : Room} {V : List Nat} {Q' : Option Value → Heap → List Nat → Prop} {a : Nat} {argsL rest : List Value} {ps : List FieldType} {pr : Option FieldType} {Wt : Nat}
    (w1 : (Cond.methodLink own index y).before a0 Z = true) (w2 : (Cond.declares y).before a0 Z = true) (wf : (Cond.selects y.cls y y).before a0 Z = true) (w5 : (Cond.selects K y z).before a0 Z = true) (w6 : (Cond.instanceMethod z).before a0 Z = true) (w3 : (Cond.initialized z.cls).before a0 Z = true) (w4 : (Cond.code z ybytes ymax yret).before a0 Z = true) (hy : y.cls ≠ "java/lang/invoke/MethodHandle" ∧ y.cls ≠ "java/lang/invoke/VarHandle")
    (E : Exa Z h a K) (M : Con l Z EL b z ybytes ymax yret [] rm (.ref a :: argsL).toArray h V Q') (hV : ∀ x ∈ V, x ∈ W) (hpd : parseMethodDescriptor y.desc = some ⟨ps, pr⟩) (hal : argsL.length = ps.length) (hst : st = argsL.reverse ++ .ref a :: rest) (hsz : L.length = maxL)
    (hd : decode bytes pc = .ok (.invokevirtual index, 3)) (hp : pc + 3 = pc') (hWt : (rest.map fun v => v.category).sum ≤ Wt) (hf : rm.frames + 1 ≤ R.frames) (hl : Wt + (ymax + 11) + rm.locals ≤ R.locals) (hc0 : k + rm.cells ≤ R.cells) (hn0 : n + rm.slots ≤ R.slots)
    (hr : ∀ v h' W', Q' v h' W' → h.size ≤ h'.size → WP p l e R s m args below meth c Z EL b Q pc' L (v.toList ++ rest) h' W (k + rm.cells) (n + rm.slots)) :
    WP p l e R s m args below meth c Z EL b Q pc L st h W k n :=
  callVW C w1 w2 wf w5 w6 w3 w4 hy E M hV hpd hal hst hsz hd hp hWt hf hl hc0 hn0 fun v h' W' q g => (hr v h' W' q g).wk fun x hx => List.mem_append_right _ hx
end Calls
end Jvm.Ow
namespace Jvm.Ow
open Sem ClassFile Op Lib Bundle Jvm.Stand Jvm.Free Jvm.LawKit Jvm.RoadKit
theorem room_le {s : State} {pl : Platform} {r r' : Room} (h : s.hasRoom pl r' = true) (h1 : r.frames ≤ r'.frames) (h2 : r.cells ≤ r'.cells) (h3 : r.slots ≤ r'.slots) (h4 : r.locals ≤ r'.locals) : s.hasRoom pl r = true := by
  exact State.hasRoom_ride (by omega) (by omega) rfl rfl (by omega) (by omega) (State.hasRoom_slotsTrue h) h
/-- a contract with more room than it asks -/
theorem Con.rm {l : Launch} {Z : State} {EL : List (String × Nat)} {b : Bool} {y : MethodName} {bytes : ByteArray} {maxL : Nat} {ret : Option FieldType} {ws : List Jvm.Cond} {rm rm' : Room} {as' : Array Value} {h : Heap} {W : List Nat} {Q : Option Value → Heap → List Nat → Prop}
    (M : Con l Z EL b y bytes maxL ret ws rm as' h W Q) (h1 : rm.frames ≤ rm'.frames) (h2 : rm.cells ≤ rm'.cells) (h3 : rm.slots ≤ rm'.slots) (h4 : rm.locals ≤ rm'.locals) : Con l Z EL b y bytes maxL ret ws rm' as' h W Q := by
  intro p e a1 a2 a3 s m args below hf ha hP hK
  obtain ⟨q1, q2, q3, q4, q5, q6, q7, q8⟩ := (Spec.appliesLoose_iff hf).mp ha
  obtain ⟨n, o, x1, x2, x3, v, L, x4, x5, x6, x7, x8⟩ := M p e a1 a2 a3 s m args below hf ((Spec.appliesLoose_iff hf).mpr ⟨q1, q2, q3, q4, q5, q6, room_le q7 h1 h2 h3 h4, q8⟩) hP hK
  exact ⟨n, o, x1, x2, x3, v, L, x4, x5, x6, ⟨x7.1, x7.2.1, x7.2.2.1, State.sameButNew.mono x7.2.2.2 h2 h3⟩, fun hb => ⟨(x8 hb).1, (x8 hb).2.1, State.sameButNew.mono (x8 hb).2.2 h2 h3⟩⟩
end Jvm.Ow
namespace Jvm.Ow
open Sem ClassFile Op Lib
theorem locals_all {vs : List Value} {n : Nat} {L : List Slot} (hc : ∀ v ∈ vs, ¬ v.category = 2) (hL : vs.map Slot.val ++ List.replicate (n - vs.length) .unset = L) : argsToLocals vs.toArray n = L.toArray := by
  subst hL
  have f : ∀ (ws : List Value) (acc : Array Slot), (∀ v ∈ ws, ¬ v.category = 2) → ws.foldl (fun acc v => if v.category = 2 then (acc.push (.val v)).push .second else acc.push (.val v)) acc = acc ++ (ws.map Slot.val).toArray := by
    intro ws
    induction ws with
    | nil => intro acc _; simp
    | cons w ws ih => intro acc h; rw [List.foldl_cons, if_neg (h w (by simp)), ih _ (fun v hv => h v (by simp [hv]))]; simp
  unfold argsToLocals
  have e := f vs #[] hc
  simp only [List.size_toArray, List.foldl_toArray']
  rw [e]
  simp
end Jvm.Ow
namespace Jvm.Ow
open Sem ClassFile Op Lib Bundle Jvm.Stand Jvm.Free Jvm.LawKit Jvm.RoadKit
/-! branches, said as plain propositions -/
theorem dec_of {P : Prop} [Decidable P] {x : Bool} (h1 : P → x = true) (h2 : ¬ P → x = false) : x = decide P := by
  by_cases q : P
  · rw [h1 q, decide_eq_true q]
  · rw [h2 q, decide_eq_false q]
theorem hEq (x : Int32) : ifCond.holds .eq x = decide (x = 0) := dec_of XT.i0_eq_t XT.i0_eq_f
theorem hNe (x : Int32) : ifCond.holds .ne x = decide (¬ x = 0) := dec_of XT.i0_ne_t (fun q => XT.i0_ne_f (Decidable.not_not.mp q))
theorem hLt (x : Int32) : ifCond.holds .lt x = decide (x < 0) := dec_of XT.i0_lt_t XT.i0_lt_f
theorem hGe (x : Int32) : ifCond.holds .ge x = decide (¬ x < 0) := dec_of XT.i0_ge_t (fun q => XT.i0_ge_f (Decidable.not_not.mp q))
theorem hGt (x : Int32) : ifCond.holds .gt x = decide (0 < x) := dec_of XT.i0_gt_t XT.i0_gt_f
theorem hLe (x : Int32) : ifCond.holds .le x = decide (¬ 0 < x) := dec_of XT.i0_le_t (fun q => XT.i0_le_f (Decidable.not_not.mp q))
theorem kEq (x y : Int32) : if_icmp.holds .eq x y = decide (x = y) := dec_of XT.ii_eq_t XT.ii_eq_f
theorem kNe (x y : Int32) : if_icmp.holds .ne x y = decide (¬ x = y) := dec_of XT.ii_ne_t (fun q => XT.ii_ne_f (Decidable.not_not.mp q))
theorem kLt (x y : Int32) : if_icmp.holds .lt x y = decide (x < y) := dec_of XT.ii_lt_t XT.ii_lt_f
theorem kGe (x y : Int32) : if_icmp.holds .ge x y = decide (¬ x < y) := dec_of XT.ii_ge_t (fun q => XT.ii_ge_f (Decidable.not_not.mp q))
theorem kGt (x y : Int32) : if_icmp.holds .gt x y = decide (y < x) := dec_of XT.ii_gt_t XT.ii_gt_f
theorem kLe (x y : Int32) : if_icmp.holds .le x y = decide (¬ y < x) := dec_of XT.ii_le_t (fun q => XT.ii_le_f (Decidable.not_not.mp q))
theorem aEq (x y : Value) : XT.acmp .eq x y = decide (x = y) := rfl
theorem aNe (x y : Value) : XT.acmp .ne x y = decide (¬ x = y) := rfl
/-! numbers -/
theorem nar_char (x : Int32) : (nar .char x).toInt = x.toInt % 65536 := by
  have := c_i2c x
  show x.toUInt32.toUInt16.toUInt32.toInt32.toInt = _
  omega
theorem nar_byte (x : Int32) : ((nar .byte x).toInt - x.toInt) % 256 = 0 ∧ -128 ≤ (nar .byte x).toInt ∧ (nar .byte x).toInt < 128 := c_i2b x
theorem i32_ext {x y : Int32} (q : x.toInt = y.toInt) : x = y := Int32.toInt_inj.mp q
theorem nar_char_id {x : Int32} (h0 : 0 ≤ x.toInt) (h1 : x.toInt < 65536) : nar .char x = x := i32_ext (by rw [nar_char]; omega)
theorem nar_byte_inj {x y : Int32} (hx : 0 ≤ x.toInt ∧ x.toInt < 256) (hy : 0 ≤ y.toInt ∧ y.toInt < 256) (q : nar .byte x = nar .byte y) : x = y := by
  have h1 := nar_byte x; have h2 := nar_byte y; rw [q] at h1
  exact i32_ext (by omega)
theorem lt32 {x y : Int32} : x < y ↔ x.toInt < y.toInt := Int32.lt_iff_toInt_lt
theorem ofNat_toInt {i : Nat} (hi : i < 2 ^ 31) : (Int32.ofNat i).toInt = (i : Int) := toInt_of rfl hi
theorem ofNat_inj {i j : Nat} (hi : i < 2 ^ 31) (hj : j < 2 ^ 31) (q : Int32.ofNat i = Int32.ofNat j) : i = j := by
  have h1 := ofNat_toInt hi; have h2 := ofNat_toInt hj; rw [q] at h1; omega
/-- the part of a heap fact that a later heap keeps -/
theorem nin1 {x y : Nat} (q : x ≠ y) : x ∉ [y] := fun z => q (List.mem_singleton.mp z)
theorem Keep.z {h h' : Heap} (E : Ext h h') : Keep h h' [] := (Keep.refl h []).ext E
/-! a String of Latin-1 signs -/
def StrL (Z : State) (h : Heap) (a d : Nat) (cs : List Int32) : Prop :=
  Exa Z h a "java/lang/String" ∧ Fld Z h a "java/lang/String" "value" "[B" (.ref d) ∧ Fld Z h a "java/lang/String" "coder" "B" (.int 0) ∧ ArI Z h d .byte (cs.map (nar .byte)) ∧ ∀ c ∈ cs, 0 ≤ c.toInt ∧ c.toInt < 256
theorem StrL.keep {Z : State} {h h' : Heap} {a d : Nat} {cs : List Int32} {ws : List Nat} (S : StrL Z h a d cs) (K : Keep h h' ws) (ha : a ∉ ws) (hd : d ∉ ws) : StrL Z h' a d cs :=
  ⟨S.1.keep K, S.2.1.keep K ha, S.2.2.1.keep K ha, S.2.2.2.1.keep K hd, S.2.2.2.2⟩
theorem StrL.ext {Z : State} {h h' : Heap} {a d : Nat} {cs : List Int32} (S : StrL Z h a d cs) (E : Ext h h') : StrL Z h' a d cs := S.keep (Keep.z E) nin0 nin0
theorem StrL.lt {Z : State} {h : Heap} {a d : Nat} {cs : List Int32} (S : StrL Z h a d cs) : a < h.size ∧ d < h.size := ⟨S.1.lt, S.2.2.2.1.lt⟩
theorem StrL.len {Z : State} {h : Heap} {a d : Nat} {cs : List Int32} (S : StrL Z h a d cs) : cs.length < 2 ^ 31 := by simpa using S.2.2.2.1.2
/-- how many signs from the left are Latin-1 -/
def lead (xs : List Int32) : Nat := (xs.takeWhile fun x => decide (x.toInt < 256)).length
theorem lead_le (xs : List Int32) : lead xs ≤ xs.length := by
  induction xs with
  | nil => simp [lead]
  | cons x xs ih =>
    unfold lead at ih ⊢
    by_cases q : x.toInt < 256
    · simp [q]; exact ih
    · simp [q]
theorem lead_all {xs : List Int32} (q : ∀ x ∈ xs, x.toInt < 256) : lead xs = xs.length := by
  induction xs with
  | nil => rfl
  | cons x xs ih =>
    unfold lead at ih ⊢
    have h1 := q x (by simp)
    have h2 := ih fun y hy => q y (by simp [hy])
    simp [h1, h2]
theorem lead_at {xs : List Int32} {i : Nat} (hi : i < xs.length) (q : ∀ j, j < i → (xs.getD j 0).toInt < 256) (r : ¬ (xs.getD i 0).toInt < 256) : lead xs = i := by
  induction xs generalizing i with
  | nil => simp at hi
  | cons x xs ih =>
    unfold lead at ih ⊢
    cases i with
    | zero => simp at r ⊢; simp [show ¬ x.toInt < 256 by omega]
    | succ i =>
      have h0 := q 0 (by omega)
      simp at h0 hi r
      have := ih hi (fun j hj => by have := q (j + 1) (by omega); simpa using this) (by simpa using r)
      simp [h0, this]
theorem take_snoc {xs : List Int32} {i : Nat} (hi : i < xs.length) : xs.take (i + 1) = xs.take i ++ [xs.getD i 0] := by rw [List.take_add_one]; simp [hi]
theorem take_step {xs : List Int32} {i r : Nat} (hi : i < xs.length) (f : Int32 → Int32) : (((xs.take i).map f) ++ List.replicate (r + 1) (0 : Int32)).set i (f (xs.getD i 0)) = ((xs.take (i + 1)).map f) ++ List.replicate r 0 := by
  have h1 : ((xs.take i).map f).length = i := by simp; omega
  rw [List.set_append_right _ _ (by omega), h1, Nat.sub_self, List.replicate_succ, List.set_cons_zero, take_snoc hi, List.map_append, List.append_assoc]
  rfl
end Jvm.Ow
namespace Jvm.Ow
open Sem ClassFile Op Lib Bundle Jvm.Stand Jvm.Free Jvm.LawKit Jvm.RoadKit
theorem cat_ref (a : Nat) : (Value.ref a).category = 1 := rfl
theorem cat_int (x : Int32) : (Value.int x).category = 1 := rfl
theorem cat_null : Value.null.category = 1 := rfl
theorem narO {v : Value} (hv : v.isRef = true) {t : String} : narrow (.object t) v = v := by cases v <;> first | rfl | (cases hv; done)
theorem fitO {v : Value} (hv : v.isRef = true) {t : String} : fits (.object t) v = true := by cases v <;> first | rfl | (cases hv; done)
theorem narZ {x : Int32} (hx : x = 0 ∨ x = 1) : narrow .boolean (.int x) = .int x := by rcases hx with rfl | rfl <;> rfl
theorem fitZ {x : Int32} (hx : x = 0 ∨ x = 1) : fits .boolean (.int x) = true := by rcases hx with rfl | rfl <;> rfl
theorem nar01 {x : Int32} (hx : x = 0 ∨ x = 1) : nar .boolean x = x := by rcases hx with rfl | rfl <;> rfl
end Jvm.Ow
namespace Jvm.Ow
open Sem ClassFile Op Lib Bundle Jvm.Stand Jvm.Free Jvm.LawKit Jvm.RoadKit
/-- what indexOf says: the first place at or behind i that holds ch, or -1 -/
def Idx (cs : List Int32) (ch : Int32) (i : Nat) (v : Int32) : Prop :=
  (∃ j, i ≤ j ∧ j < cs.length ∧ cs.getD j 0 = ch ∧ (∀ k, i ≤ k → k < j → ¬ cs.getD k 0 = ch) ∧ v = Int32.ofNat j) ∨ ((∀ k, i ≤ k → k < cs.length → ¬ cs.getD k 0 = ch) ∧ v = -1)
theorem getD_mem {cs : List Int32} {i : Nat} (hi : i < cs.length) : cs.getD i 0 ∈ cs := by
  rw [List.getD_eq_getElem?_getD, List.getElem?_eq_getElem hi]; exact List.getElem_mem hi
theorem map_getD {cs : List Int32} {i : Nat} {f : Int32 → Int32} (hi : i < cs.length) : (cs.map f).getD i 0 = f (cs.getD i 0) := by
  simp [List.getD_eq_getElem?_getD, hi]
theorem zero_toInt : ((0 : Int32)).toInt = 0 := rfl
end Jvm.Ow
namespace Jvm.Ow
open Sem ClassFile Op Lib Bundle Jvm.Stand Jvm.Free Jvm.LawKit Jvm.RoadKit
theorem Idx.one {cs : List Int32} {ch : Int32} {i : Nat} {v w : Int32} (A : Idx cs ch i v) (B : Idx cs ch i w) : v = w := by
  rcases A with ⟨j, a1, a2, a3, a4, rfl⟩ | ⟨a1, rfl⟩ <;> rcases B with ⟨k, b1, b2, b3, b4, rfl⟩ | ⟨b1, rfl⟩
  · rcases Nat.lt_trichotomy j k with q | q | q
    · exact absurd a3 (b4 j a1 q)
    · rw [q]
    · exact absurd b3 (a4 k b1 q)
  · exact absurd a3 (b1 j a1 a2)
  · exact absurd b3 (a1 k b1 b2)
  · rfl
theorem charR (x : Int32) : 0 ≤ (nar .char x).toInt ∧ (nar .char x).toInt < 65536 := by rw [nar_char]; omega
end Jvm.Ow
namespace Jvm.Ow
open Sem ClassFile Op Lib Bundle Jvm.Stand Jvm.Free Jvm.LawKit Jvm.RoadKit
/-- a static that the sheet's words give a value -/
theorem staEq {s : State} {args : Array Value} {C n d : String} {x : Int32} (w1 : (Cond.initializedFor C n d).before args s = true) (w2 : (Cond.eq (Term.static C n d) (Term.int x)).before args s = true) : Sta s s.heap C n d (.int x) := by
  have q := Cond.before_iff.mp w2
  obtain ⟨u, v, h1, h2, k1, k2⟩ := cmp_v (Or.inl q)
  have h3 : (Term.int x).eval args s none [] s = some (.int x) := Term.int_eval x
  obtain rfl : v = .int x := Option.some.inj (h2.symm.trans h3)
  obtain ⟨z, rfl⟩ := k2
  obtain rfl := gotT (Cond.eq_ints h1 h3) q
  exact Sta.start h1 (Or.inl w1)
end Jvm.Ow
namespace Jvm.Ow
open Sem ClassFile Op Lib Bundle Jvm.Stand Jvm.Free Jvm.LawKit Jvm.RoadKit
section Copy
variable {p : Program} {l : Launch} {e : Env} {R : Room} {s : State} {m : MethodId} {args : Array Value} {below : List Frame} {meth : Method} {c : Code} {Z : State} {a0 : Array Value} {EL : List (String × Nat)} {b : Bool} {own nm : String} {bytes : ByteArray} {maxL : Nat} {ret : Option FieldType} {Q : Option Value → Heap → List Nat → Prop}
  {pc : Nat} {L : List Slot} {st : List Value} {h : Heap} {W : List Nat} {k n : Nat}
theorem stretch_eq (xs : List Int32) (i q : Nat) (h : i + q ≤ xs.length) : (List.range q).map (fun t => (xs.map Value.int).getD (i + t) (.int 0)) = ((xs.drop i).take q).map Value.int := by
  apply List.ext_getElem
  · simp; omega
  · intro t h1 h2
    simp at h1 h2
    simp [List.getD_eq_getElem?_getD, show i + t < xs.length by omega]
theorem acopy (C : Cx p m meth c s Z a0 EL b own nm bytes maxL ret) {pc' index : Nat} {x y : Nat} {ty : FieldType} {xs ys : List Int32} {sp dp nn : Int32} {i j q : Nat}
    (w1 : (Cond.methodLink own index Jvm.Stand.acN).before a0 Z = true) (w2 : (Cond.native Jvm.Stand.acN).before a0 Z = true) (w3 : (Cond.static Jvm.Stand.acN).before a0 Z = true) (w4 : (Cond.initialized "java/lang/System").before a0 Z = true)
    (A : ArI Z h x ty xs) (B : ArI Z h y ty ys) (hk : refKind ty = false) (hi : sp.toInt = (i : Int)) (hj : dp.toInt = (j : Int)) (hq : nn.toInt = (q : Int)) (h4 : i + q ≤ xs.length) (h5 : j + q ≤ ys.length) (hyW : y ∈ W)
    (hd : decode bytes pc = .ok (.invokestatic index, 3)) (hp : pc + 3 = pc') (hsz : L.length = maxL) (hf : 1 ≤ R.frames) {Wt : Nat} (hWt : (st.map fun v => v.category).sum ≤ Wt) (hlo : Wt + (nativeFrameWords "java/lang/System" "arraycopy" 5 + 11) ≤ R.locals)
    (hr : ∀ h', Keep h h' [y] → ArI Z h' y ty (ys.take j ++ (xs.drop i).take q ++ ys.drop (j + q)) → WP p l e R s m args below meth c Z EL b Q pc' L st h' W k n) :
    WP p l e R s m args below meth c Z EL b Q pc L (.int nn :: .int dp :: .ref y :: .int sp :: .ref x :: st) h W k n := by
  subst hp
  intro T vm0 k0 locs cells slots X eT hS hk0 hb' hC hO hW hF hc hn
  obtain ⟨⟨ka, Av⟩, la⟩ := A
  obtain ⟨⟨kb, Bv⟩, lb⟩ := B
  obtain ⟨i1, i2⟩ := idx_ok hi
  obtain ⟨j1, j2⟩ := idx_ok hj
  obtain ⟨q1, q2⟩ := idx_ok hq
  have hsz' : (mkF m pc L.toArray (.int nn :: .int dp :: .ref y :: .int sp :: .ref x :: st)).locals.size = c.maxLocals := by rw [C.2.2.1, ← hsz]; simp
  obtain ⟨T', h', L', X', e', N', K', B', go⟩ := cpA X C.1 (C.z hS) (C.o hS) w1 w2 w3 w4 eT Av Bv (us := ((xs.drop i).take q).map Value.int) (Or.inl ⟨rfl, hk⟩) i1 j1 q1 (by rw [i2, q2, ofNat_clamp la]; exact h4) (by rw [j2, q2, ofNat_clamp lb]; exact h5)
    (by rw [i2, q2]; exact (stretch_eq xs i q h4).symm) (by rw [j2, q2]; simpa using h5) hF (hW y hyW).1 (g := mkF m pc L.toArray (.int nn :: .int dp :: .ref y :: .int sp :: .ref x :: st)) rfl hsz' rfl (hb C.2.1 hd) hf (W := Wt) (by show 2 * 0 + _ ≤ _; omega) hlo
  have hl : (ys.take j ++ (xs.drop i).take q ++ ys.drop (j + q)).length = ys.length := by simp; omega
  have A' := CHr.keep K' (fun z hz => by rw [List.mem_singleton.mp hz]; exact (hW y hyW).2.2) hC.1
  have hO' := hO.keep K' (fun z hz => by rw [List.mem_singleton.mp hz]; exact (hW y hyW).1)
  obtain ⟨s2, v, st2, r⟩ := hr h' K' ⟨⟨kb, by rw [hl]; rw [j2, q2] at B'; simpa [List.map_append, List.map_take, List.map_drop] using B'⟩, by rw [hl]; exact lb⟩ T' vm0 k0 L' cells slots X' e' hS (Nat.le_trans hk0 K'.1) hb' (hC.trans A') hO' (hW.r A') N' hc hn
  exact ⟨s2, v, go _ st2, r⟩
end Copy
end Jvm.Ow
namespace Jvm.Ow
open Sem ClassFile Op Lib Bundle Jvm.Stand Jvm.Free Jvm.LawKit Jvm.RoadKit
theorem eq32 {x y : Int32} : x = y ↔ x.toInt = y.toInt := ⟨fun q => by rw [q], i32_ext⟩
theorem ArI.same_len {Z : State} {h : Heap} {a : Nat} {ty ty' : FieldType} {xs ys : List Int32} (A : ArI Z h a ty xs) (B : ArI Z h a ty' ys) : xs.length = ys.length := by
  obtain ⟨c1, A1, s1, -⟩ := A.cell
  obtain ⟨c2, A2, s2, -⟩ := B.cell
  have := A1.1.symm.trans A2.1
  cases this
  omega
/-- the capital letters of Latin-1 -/
def upp (c : Int32) : Prop := (65 ≤ c.toInt ∧ c.toInt ≤ 90) ∨ (192 ≤ c.toInt ∧ c.toInt ≤ 222 ∧ ¬ c.toInt = 215)
instance (c : Int32) : Decidable (upp c) := by unfold upp; infer_instance
def low (c : Int32) : Int32 := if upp c then c + 32 else c
/-- CharacterDataLatin1.toLowerCase, as its body reckons -/
def clo (c : Int32) : Int32 := if ¬ c < 65 then (if ¬ 122 < (c ||| 32) then (c ||| 32) else if (c ||| 32) < 224 then c else if 254 < (c ||| 32) then c else if (c ||| 32) = 247 then c else (c ||| 32)) else c
theorem clo_low0 : ∀ n : Fin 256, clo (Int32.ofNat n.val) = low (Int32.ofNat n.val) := by decide +kernel
theorem of_range {c : Int32} (h0 : 0 ≤ c.toInt) (h1 : c.toInt < 256) : ∃ n : Fin 256, c = Int32.ofNat n.val := by
  refine ⟨⟨c.toInt.toNat, by omega⟩, i32_ext ?_⟩
  rw [ofNat_toInt (by show c.toInt.toNat < 2 ^ 31; omega)]
  show c.toInt = ((c.toInt.toNat : Nat) : Int)
  omega
theorem clo_low {c : Int32} (h0 : 0 ≤ c.toInt) (h1 : c.toInt < 256) : clo c = low c := by
  obtain ⟨n, rfl⟩ := of_range h0 h1; exact clo_low0 n
theorem add32v {c : Int32} (h0 : 0 ≤ c.toInt) (h1 : c.toInt < 256) : (c + 32).toInt = c.toInt + 32 := by
  have h := c_iadd c 32
  have r := rng32 (c + 32)
  have e : ((32 : Int32)).toInt = 32 := rfl
  rw [e] at h; omega
theorem low_rng {c : Int32} (h0 : 0 ≤ c.toInt) (h1 : c.toInt < 256) : 0 ≤ (low c).toInt ∧ (low c).toInt < 256 := by
  unfold low
  by_cases q : upp c
  · rw [if_pos q, add32v h0 h1]; unfold upp at q; omega
  · rw [if_neg q]; exact ⟨h0, h1⟩
theorem byte_back {c : Int32} (h0 : 0 ≤ c.toInt) (h1 : c.toInt < 256) : nar .byte c &&& 255 = c := by
  apply i32_ext
  have h := c_mask (nar .byte c) 255 8 (by decide) (by decide)
  have b := nar_byte c
  have e : ((2 ^ 8 : Nat) : Int) = 256 := rfl
  rw [h, e]; omega
theorem getD_rng {cs : List Int32} {i : Nat} {P : Int32 → Prop} (h : ∀ c ∈ cs, P c) (hi : i < cs.length) : P (cs.getD i 0) := h _ (by rw [List.getD_eq_getElem?_getD, List.getElem?_eq_getElem hi]; exact List.getElem_mem hi)
theorem map_id_of {cs : List Int32} {f : Int32 → Int32} (h : ∀ j, j < cs.length → f (cs.getD j 0) = cs.getD j 0) : cs.map f = cs := by
  apply List.ext_getElem (by simp)
  intro j h1 h2
  have := h j h2
  simpa [List.getD_eq_getElem?_getD, h2] using this
theorem take_map_id {cs : List Int32} {f : Int32 → Int32} {i : Nat} (hi : i ≤ cs.length) (h : ∀ j, j < i → f (cs.getD j 0) = cs.getD j 0) : (cs.map f).take i = cs.take i := by
  apply List.ext_getElem (by simp)
  intro j h1 h2
  simp at h1 h2
  have := h j (by omega)
  simpa [List.getD_eq_getElem?_getD, show j < cs.length by omega] using this
theorem nar_byte_nar' (x : Int32) : nar .byte (nar .byte x) = nar .byte x := i32_ext (by have h1 := nar_byte (nar .byte x); have h2 := nar_byte x; omega)
theorem mask255 (x : Int32) : 0 ≤ (nar .char (x &&& 255)).toInt ∧ (nar .char (x &&& 255)).toInt < 256 := by
  have h := c_mask x 255 8 (by decide) (by decide)
  rw [nar_char, h]
  omega
theorem and3 (x : Int32) : ∃ i : Nat, i ≤ 3 ∧ x &&& 3 = Int32.ofNat i := by
  have h := c_mask x 3 2 (by decide) (by decide)
  refine ⟨(x.toInt % 4).toNat, by omega, i32_ext ?_⟩
  rw [h, ofNat_toInt (by omega)]
  have : ((2 ^ 2 : Nat) : Int) = 4 := by decide
  omega
theorem ArI.ne0 {Z : State} {h : Heap} {a b : Nat} {ty ty' : FieldType} {xs : List Int32} {c : Cell} (A : Arr Z h a c ty) (h0 : c.slots.size = 0) (B : ArI Z h b ty' xs) (hx : 0 < xs.length) : a ≠ b := fun q => by
  subst q
  obtain ⟨c2, A2, s2, -⟩ := B.cell
  have := A.1.symm.trans A2.1
  cases this
  omega
end Jvm.Ow
namespace Jvm.Pilot.@@N@@
open Jvm Jvm.ClassFile Sem Op Lib Jvm.Free Jvm.Stand Jvm.LawKit Jvm.RoadKit Bundle Jvm.Pilot.@@N@@.Jvm.D
theorem pd_0 : parseMethodDescriptor "([CI[BII)I" = some ⟨[(.array .char), .int, (.array .byte), .int, .int], (some .int)⟩ := by decide +kernel
theorem pd_1 : parseMethodDescriptor "([CII)[B" = some ⟨[(.array .char), .int, .int], (some (.array .byte))⟩ := by decide +kernel
theorem pd_2 : parseMethodDescriptor "([BI)B" = some ⟨[(.array .byte), .int], (some .byte)⟩ := by decide +kernel
theorem pd_3 : parseMethodDescriptor "([CIILjava/lang/Void;)V" = some ⟨[(.array .char), .int, .int, (.object "java/lang/Void")], none⟩ := by decide +kernel
theorem pd_4 : parseMethodDescriptor "([B[B)Z" = some ⟨[(.array .byte), (.array .byte)], (some .boolean)⟩ := by decide +kernel
theorem pd_5 : parseMethodDescriptor "()Ljava/lang/String;" = some ⟨[], (some (.object "java/lang/String"))⟩ := by decide +kernel
theorem pd_6 : parseMethodDescriptor "([BB)V" = some ⟨[(.array .byte), .byte], none⟩ := by decide +kernel
theorem pd_7 : parseMethodDescriptor "(I)I" = some ⟨[.int], (some .int)⟩ := by decide +kernel
theorem pd_8 : parseMethodDescriptor "(I)Z" = some ⟨[.int], (some .boolean)⟩ := by decide +kernel
theorem pd_9 : parseMethodDescriptor "()Z" = some ⟨[], (some .boolean)⟩ := by decide +kernel
theorem pd_10 : parseMethodDescriptor "(Ljava/lang/String;[BLjava/util/Locale;)Ljava/lang/String;" = some ⟨[(.object "java/lang/String"), (.array .byte), (.object "java/util/Locale")], (some (.object "java/lang/String"))⟩ := by decide +kernel
theorem pd_11 : parseMethodDescriptor "(C)Z" = some ⟨[.char], (some .boolean)⟩ := by decide +kernel
theorem pd_12 : parseMethodDescriptor "(C)C" = some ⟨[.char], (some .char)⟩ := by decide +kernel
theorem pd_13 : parseMethodDescriptor "([C)V" = some ⟨[(.array .char)], none⟩ := by decide +kernel
theorem pd_14 : parseMethodDescriptor "()V" = some ⟨[], none⟩ := by decide +kernel
theorem pd_15 : parseMethodDescriptor "(Ljava/lang/Object;)Z" = some ⟨[(.object "java/lang/Object")], (some .boolean)⟩ := by decide +kernel
theorem pd_16 : parseMethodDescriptor "(Ljava/util/Locale;)Ljava/lang/String;" = some ⟨[(.object "java/util/Locale")], (some (.object "java/lang/String"))⟩ := by decide +kernel
theorem pd_17 : parseMethodDescriptor "(CCI)C" = some ⟨[.char, .char, .int], (some .char)⟩ := by decide +kernel
theorem pd_18 : parseMethodDescriptor "(ICCC)Ljava/lang/String;" = some ⟨[.int, .char, .char, .char], (some (.object "java/lang/String"))⟩ := by decide +kernel
theorem pd_19 : parseMethodDescriptor "(Ljava/lang/String;Ljava/lang/String;)V" = some ⟨[(.object "java/lang/String"), (.object "java/lang/String")], none⟩ := by decide +kernel
theorem pd_20 : parseMethodDescriptor "(Ljava/lang/String;)Z" = some ⟨[(.object "java/lang/String")], (some .boolean)⟩ := by decide +kernel
theorem pd_21 : parseMethodDescriptor "(CCII)Z" = some ⟨[.char, .char, .int, .int], (some .boolean)⟩ := by decide +kernel
theorem pn_0 : plainFor (⟨"java/lang/StringUTF16", "compress", "([CI[BII)I"⟩ : MethodName) = true := by decide +kernel
theorem pn_1 : plainFor (⟨"java/lang/StringUTF16", "compress", "([CII)[B"⟩ : MethodName) = true := by decide +kernel
theorem pn_2 : plainFor (⟨"java/lang/StringUTF16", "coderFromArrayLen", "([BI)B"⟩ : MethodName) = true := by decide +kernel
theorem pn_3 : plainFor (⟨"java/lang/String", "<init>", "([CIILjava/lang/Void;)V"⟩ : MethodName) = true := by decide +kernel
theorem pn_4 : plainFor (⟨"java/lang/String", "<init>", "([C)V"⟩ : MethodName) = true := by decide +kernel
theorem pn_5 : plainFor (⟨"java/lang/StringLatin1", "equals", "([B[B)Z"⟩ : MethodName) = true := by decide +kernel
theorem pn_6 : plainFor (⟨"java/lang/String", "equals", "(Ljava/lang/Object;)Z"⟩ : MethodName) = true := by decide +kernel
theorem pn_7 : plainFor (⟨"java/lang/StringLatin1", "canEncode", "(I)Z"⟩ : MethodName) = true := by decide +kernel
theorem pn_8 : plainFor (⟨"java/lang/String", "isLatin1", "()Z"⟩ : MethodName) = true := by decide +kernel
theorem pn_9 : plainFor (⟨"java/lang/CharacterDataLatin1", "toLowerCase", "(I)I"⟩ : MethodName) = true := by decide +kernel
theorem pn_10 : plainFor (⟨"sun/util/locale/BaseLocale", "getLanguage", "()Ljava/lang/String;"⟩ : MethodName) = true := by decide +kernel
theorem pn_11 : plainFor (⟨"java/util/Locale", "getLanguage", "()Ljava/lang/String;"⟩ : MethodName) = true := by decide +kernel
theorem pn_12 : plainFor (⟨"java/lang/String", "<init>", "([BB)V"⟩ : MethodName) = true := by decide +kernel
theorem pn_13 : plainFor (⟨"java/lang/StringLatin1", "toLowerCase", "(Ljava/lang/String;[BLjava/util/Locale;)Ljava/lang/String;"⟩ : MethodName) = true := by decide +kernel
theorem pn_14 : plainFor (⟨"java/lang/String", "toLowerCase", "(Ljava/util/Locale;)Ljava/lang/String;"⟩ : MethodName) = true := by decide +kernel
theorem pn_15 : plainFor (⟨"org/wardchain/web/AuthorizationHeaderHasSchemePinLaw", "isUpper", "(C)Z"⟩ : MethodName) = true := by decide +kernel
theorem pn_16 : plainFor (⟨"org/wardchain/web/AuthorizationHeaderHasSchemePinLaw", "isLower", "(C)Z"⟩ : MethodName) = true := by decide +kernel
theorem pn_17 : plainFor (⟨"org/wardchain/web/AuthorizationHeaderHasSchemePinLaw", "lower", "(C)C"⟩ : MethodName) = true := by decide +kernel
theorem pn_18 : plainFor (⟨"org/wardchain/web/AuthorizationHeaderHasSchemePinLaw", "flip", "(C)C"⟩ : MethodName) = true := by decide +kernel
theorem pn_19 : plainFor (⟨"org/wardchain/web/AuthorizationHeaderHasSchemePinLaw", "pick", "(CCI)C"⟩ : MethodName) = true := by decide +kernel
theorem pn_20 : plainFor (⟨"org/wardchain/web/AuthorizationHeaderHasSchemePinLaw", "same", "(CCII)Z"⟩ : MethodName) = true := by decide +kernel
theorem pn_21 : plainFor (⟨"org/wardchain/web/AuthorizationHeaderHasSchemePinLaw", "mk", "(ICCC)Ljava/lang/String;"⟩ : MethodName) = true := by decide +kernel
theorem pn_22 : plainFor (⟨"java/lang/Record", "<init>", "()V"⟩ : MethodName) = true := by decide +kernel
theorem pn_23 : plainFor (⟨"org/wardchain/web/AuthorizationHeader", "<init>", "(Ljava/lang/String;Ljava/lang/String;)V"⟩ : MethodName) = true := by decide +kernel
theorem pn_24 : plainFor (⟨"org/wardchain/web/AuthorizationHeader", "hasScheme", "(Ljava/lang/String;)Z"⟩ : MethodName) = true := by decide +kernel
theorem pn_25 : plainFor (⟨"org/wardchain/web/AuthorizationHeaderHasSchemePinLaw", "law", "(III)Z"⟩ : MethodName) = true := by decide +kernel
theorem dCL_3 : decode jdk_52_method_21_code 3 = .ok (.iload 5, 2) := by decide +kernel
theorem dCL_5 : decode jdk_52_method_21_code 5 = .ok (.iload 4, 2) := by decide +kernel
theorem dCL_7 : decode jdk_52_method_21_code 7 = .ok (.if_icmp .ge 37, 3) := by decide +kernel
theorem dCL_44 : decode jdk_52_method_21_code 44 = .ok (.iload 4, 2) := by decide +kernel
theorem dCL_46 : decode jdk_52_method_21_code 46 = .ok (.ireturn, 1) := by decide +kernel
theorem dCL_10 : decode jdk_52_method_21_code 10 = .ok (.aload_n 0, 1) := by decide +kernel
theorem dCL_11 : decode jdk_52_method_21_code 11 = .ok (.iload_n 1, 1) := by decide +kernel
theorem dCL_12 : decode jdk_52_method_21_code 12 = .ok (.caload, 1) := by decide +kernel
theorem dCL_13 : decode jdk_52_method_21_code 13 = .ok (.istore 6, 2) := by decide +kernel
theorem dCL_15 : decode jdk_52_method_21_code 15 = .ok (.iload 6, 2) := by decide +kernel
theorem dCL_17 : decode jdk_52_method_21_code 17 = .ok (.sipush 255, 3) := by decide +kernel
theorem dCL_20 : decode jdk_52_method_21_code 20 = .ok (.if_icmp .le 6, 3) := by decide +kernel
theorem dCL_26 : decode jdk_52_method_21_code 26 = .ok (.aload_n 2, 1) := by decide +kernel
theorem dCL_27 : decode jdk_52_method_21_code 27 = .ok (.iload_n 3, 1) := by decide +kernel
theorem dCL_28 : decode jdk_52_method_21_code 28 = .ok (.iload 6, 2) := by decide +kernel
theorem dCL_30 : decode jdk_52_method_21_code 30 = .ok (.i2b, 1) := by decide +kernel
theorem dCL_31 : decode jdk_52_method_21_code 31 = .ok (.bastore, 1) := by decide +kernel
theorem dCL_32 : decode jdk_52_method_21_code 32 = .ok (.iinc 1 1, 3) := by decide +kernel
theorem dCL_35 : decode jdk_52_method_21_code 35 = .ok (.iinc 3 1, 3) := by decide +kernel
theorem dCL_38 : decode jdk_52_method_21_code 38 = .ok (.iinc 5 1, 3) := by decide +kernel
theorem dCL_41 : decode jdk_52_method_21_code 41 = .ok (.goto (-38), 3) := by decide +kernel
theorem dCL_23 : decode jdk_52_method_21_code 23 = .ok (.iload 5, 2) := by decide +kernel
theorem dCL_25 : decode jdk_52_method_21_code 25 = .ok (.ireturn, 1) := by decide +kernel
theorem dCL_0 : decode jdk_52_method_21_code 0 = .ok (.iconst 0, 1) := by decide +kernel
theorem dCL_1 : decode jdk_52_method_21_code 1 = .ok (.istore 5, 2) := by decide +kernel
theorem dCM_0 : decode jdk_52_method_16_code 0 = .ok (.iload_n 2, 1) := by decide +kernel
theorem dCM_1 : decode jdk_52_method_16_code 1 = .ok (.newarray .byte, 2) := by decide +kernel
theorem dCM_3 : decode jdk_52_method_16_code 3 = .ok (.astore_n 3, 1) := by decide +kernel
theorem dCM_4 : decode jdk_52_method_16_code 4 = .ok (.aload_n 0, 1) := by decide +kernel
theorem dCM_5 : decode jdk_52_method_16_code 5 = .ok (.iload_n 1, 1) := by decide +kernel
theorem dCM_6 : decode jdk_52_method_16_code 6 = .ok (.aload_n 3, 1) := by decide +kernel
theorem dCM_7 : decode jdk_52_method_16_code 7 = .ok (.iconst 0, 1) := by decide +kernel
theorem dCM_8 : decode jdk_52_method_16_code 8 = .ok (.iload_n 2, 1) := by decide +kernel
theorem dCM_9 : decode jdk_52_method_16_code 9 = .ok (.invokestatic 115, 3) := by decide +kernel
theorem dCM_12 : decode jdk_52_method_16_code 12 = .ok (.istore 4, 2) := by decide +kernel
theorem dCM_14 : decode jdk_52_method_16_code 14 = .ok (.iload 4, 2) := by decide +kernel
theorem dCM_16 : decode jdk_52_method_16_code 16 = .ok (.iload_n 2, 1) := by decide +kernel
theorem dCM_17 : decode jdk_52_method_16_code 17 = .ok (.if_icmp .eq 40, 3) := by decide +kernel
theorem dCM_57 : decode jdk_52_method_16_code 57 = .ok (.aload_n 3, 1) := by decide +kernel
theorem dCM_58 : decode jdk_52_method_16_code 58 = .ok (.areturn, 1) := by decide +kernel
theorem dCF_0 : decode jdk_52_method_15_code 0 = .ok (.iload_n 1, 1) := by decide +kernel
theorem dCF_1 : decode jdk_52_method_15_code 1 = .ok (.aload_n 0, 1) := by decide +kernel
theorem dCF_2 : decode jdk_52_method_15_code 2 = .ok (.arraylength, 1) := by decide +kernel
theorem dCF_3 : decode jdk_52_method_15_code 3 = .ok (.isub, 1) := by decide +kernel
theorem dCF_4 : decode jdk_52_method_15_code 4 = .ok (.bipush 31, 2) := by decide +kernel
theorem dCF_6 : decode jdk_52_method_15_code 6 = .ok (.iushr, 1) := by decide +kernel
theorem dCF_7 : decode jdk_52_method_15_code 7 = .ok (.i2b, 1) := by decide +kernel
theorem dCF_8 : decode jdk_52_method_15_code 8 = .ok (.ireturn, 1) := by decide +kernel
theorem dI1_0 : decode jdk_42_method_149_code 0 = .ok (.aload_n 0, 1) := by decide +kernel
theorem dI1_1 : decode jdk_42_method_149_code 1 = .ok (.invokespecial 1, 3) := by decide +kernel
theorem dI1_4 : decode jdk_42_method_149_code 4 = .ok (.iload_n 3, 1) := by decide +kernel
theorem dI1_5 : decode jdk_42_method_149_code 5 = .ok (.ifCond .ne 22, 3) := by decide +kernel
theorem dI1_27 : decode jdk_42_method_149_code 27 = .ok (.getstatic 38, 3) := by decide +kernel
theorem dI1_30 : decode jdk_42_method_149_code 30 = .ok (.ifCond .eq 28, 3) := by decide +kernel
theorem dI1_33 : decode jdk_42_method_149_code 33 = .ok (.aload_n 1, 1) := by decide +kernel
theorem dI1_34 : decode jdk_42_method_149_code 34 = .ok (.iload_n 2, 1) := by decide +kernel
theorem dI1_35 : decode jdk_42_method_149_code 35 = .ok (.iload_n 3, 1) := by decide +kernel
theorem dI1_36 : decode jdk_42_method_149_code 36 = .ok (.invokestatic 177, 3) := by decide +kernel
theorem dI1_39 : decode jdk_42_method_149_code 39 = .ok (.astore 5, 2) := by decide +kernel
theorem dI1_41 : decode jdk_42_method_149_code 41 = .ok (.aload_n 0, 1) := by decide +kernel
theorem dI1_42 : decode jdk_42_method_149_code 42 = .ok (.aload 5, 2) := by decide +kernel
theorem dI1_44 : decode jdk_42_method_149_code 44 = .ok (.iload_n 3, 1) := by decide +kernel
theorem dI1_45 : decode jdk_42_method_149_code 45 = .ok (.invokestatic 47, 3) := by decide +kernel
theorem dI1_48 : decode jdk_42_method_149_code 48 = .ok (.putfield 15, 3) := by decide +kernel
theorem dI1_51 : decode jdk_42_method_149_code 51 = .ok (.aload_n 0, 1) := by decide +kernel
theorem dI1_52 : decode jdk_42_method_149_code 52 = .ok (.aload 5, 2) := by decide +kernel
theorem dI1_54 : decode jdk_42_method_149_code 54 = .ok (.putfield 9, 3) := by decide +kernel
theorem dI1_57 : decode jdk_42_method_149_code 57 = .ok (.return_, 1) := by decide +kernel
theorem dI0_0 : decode jdk_42_method_3_code 0 = .ok (.aload_n 0, 1) := by decide +kernel
theorem dI0_1 : decode jdk_42_method_3_code 1 = .ok (.aload_n 1, 1) := by decide +kernel
theorem dI0_2 : decode jdk_42_method_3_code 2 = .ok (.iconst 0, 1) := by decide +kernel
theorem dI0_3 : decode jdk_42_method_3_code 3 = .ok (.aload_n 1, 1) := by decide +kernel
theorem dI0_4 : decode jdk_42_method_3_code 4 = .ok (.arraylength, 1) := by decide +kernel
theorem dI0_5 : decode jdk_42_method_3_code 5 = .ok (.aconst_null, 1) := by decide +kernel
theorem dI0_6 : decode jdk_42_method_3_code 6 = .ok (.invokespecial 27, 3) := by decide +kernel
theorem dI0_9 : decode jdk_42_method_3_code 9 = .ok (.return_, 1) := by decide +kernel
theorem dI1_8 : decode jdk_42_method_149_code 8 = .ok (.aload_n 0, 1) := by decide +kernel
theorem dI1_9 : decode jdk_42_method_149_code 9 = .ok (.ldc 7, 2) := by decide +kernel
theorem dI1_11 : decode jdk_42_method_149_code 11 = .ok (.getfield 9, 3) := by decide +kernel
theorem dI1_14 : decode jdk_42_method_149_code 14 = .ok (.putfield 9, 3) := by decide +kernel
theorem dI1_17 : decode jdk_42_method_149_code 17 = .ok (.aload_n 0, 1) := by decide +kernel
theorem dI1_18 : decode jdk_42_method_149_code 18 = .ok (.ldc 7, 2) := by decide +kernel
theorem dI1_20 : decode jdk_42_method_149_code 20 = .ok (.getfield 15, 3) := by decide +kernel
theorem dI1_23 : decode jdk_42_method_149_code 23 = .ok (.putfield 15, 3) := by decide +kernel
theorem dI1_26 : decode jdk_42_method_149_code 26 = .ok (.return_, 1) := by decide +kernel
theorem dLE_0 : decode jdk_43_method_13_code 0 = .ok (.aload_n 0, 1) := by decide +kernel
theorem dLE_1 : decode jdk_43_method_13_code 1 = .ok (.arraylength, 1) := by decide +kernel
theorem dLE_2 : decode jdk_43_method_13_code 2 = .ok (.aload_n 1, 1) := by decide +kernel
theorem dLE_3 : decode jdk_43_method_13_code 3 = .ok (.arraylength, 1) := by decide +kernel
theorem dLE_4 : decode jdk_43_method_13_code 4 = .ok (.if_icmp .ne 30, 3) := by decide +kernel
theorem dLE_34 : decode jdk_43_method_13_code 34 = .ok (.iconst 0, 1) := by decide +kernel
theorem dLE_35 : decode jdk_43_method_13_code 35 = .ok (.ireturn, 1) := by decide +kernel
theorem dLE_7 : decode jdk_43_method_13_code 7 = .ok (.iconst 0, 1) := by decide +kernel
theorem dLE_8 : decode jdk_43_method_13_code 8 = .ok (.istore_n 2, 1) := by decide +kernel
theorem dLE_9 : decode jdk_43_method_13_code 9 = .ok (.iload_n 2, 1) := by decide +kernel
theorem dLE_10 : decode jdk_43_method_13_code 10 = .ok (.aload_n 0, 1) := by decide +kernel
theorem dLE_11 : decode jdk_43_method_13_code 11 = .ok (.arraylength, 1) := by decide +kernel
theorem dLE_12 : decode jdk_43_method_13_code 12 = .ok (.if_icmp .ge 20, 3) := by decide +kernel
theorem dLE_32 : decode jdk_43_method_13_code 32 = .ok (.iconst 1, 1) := by decide +kernel
theorem dLE_33 : decode jdk_43_method_13_code 33 = .ok (.ireturn, 1) := by decide +kernel
theorem dLE_15 : decode jdk_43_method_13_code 15 = .ok (.aload_n 0, 1) := by decide +kernel
theorem dLE_16 : decode jdk_43_method_13_code 16 = .ok (.iload_n 2, 1) := by decide +kernel
theorem dLE_17 : decode jdk_43_method_13_code 17 = .ok (.baload, 1) := by decide +kernel
theorem dLE_18 : decode jdk_43_method_13_code 18 = .ok (.aload_n 1, 1) := by decide +kernel
theorem dLE_19 : decode jdk_43_method_13_code 19 = .ok (.iload_n 2, 1) := by decide +kernel
theorem dLE_20 : decode jdk_43_method_13_code 20 = .ok (.baload, 1) := by decide +kernel
theorem dLE_21 : decode jdk_43_method_13_code 21 = .ok (.if_icmp .eq 5, 3) := by decide +kernel
theorem dLE_26 : decode jdk_43_method_13_code 26 = .ok (.iinc 2 1, 3) := by decide +kernel
theorem dLE_29 : decode jdk_43_method_13_code 29 = .ok (.goto (-20), 3) := by decide +kernel
theorem dLE_24 : decode jdk_43_method_13_code 24 = .ok (.iconst 0, 1) := by decide +kernel
theorem dLE_25 : decode jdk_43_method_13_code 25 = .ok (.ireturn, 1) := by decide +kernel
theorem dEQ_0 : decode jdk_42_method_66_code 0 = .ok (.aload_n 0, 1) := by decide +kernel
theorem dEQ_1 : decode jdk_42_method_66_code 1 = .ok (.aload_n 1, 1) := by decide +kernel
theorem dEQ_2 : decode jdk_42_method_66_code 2 = .ok (.if_acmp .ne 5, 3) := by decide +kernel
theorem dEQ_7 : decode jdk_42_method_66_code 7 = .ok (.aload_n 1, 1) := by decide +kernel
theorem dEQ_8 : decode jdk_42_method_66_code 8 = .ok (.instanceof 10, 3) := by decide +kernel
theorem dEQ_11 : decode jdk_42_method_66_code 11 = .ok (.ifCond .eq 43, 3) := by decide +kernel
theorem dEQ_14 : decode jdk_42_method_66_code 14 = .ok (.aload_n 1, 1) := by decide +kernel
theorem dEQ_15 : decode jdk_42_method_66_code 15 = .ok (.checkcast 10, 3) := by decide +kernel
theorem dEQ_18 : decode jdk_42_method_66_code 18 = .ok (.astore_n 2, 1) := by decide +kernel
theorem dEQ_19 : decode jdk_42_method_66_code 19 = .ok (.getstatic 38, 3) := by decide +kernel
theorem dEQ_22 : decode jdk_42_method_66_code 22 = .ok (.ifCond .eq 14, 3) := by decide +kernel
theorem dEQ_25 : decode jdk_42_method_66_code 25 = .ok (.aload_n 0, 1) := by decide +kernel
theorem dEQ_26 : decode jdk_42_method_66_code 26 = .ok (.getfield 15, 3) := by decide +kernel
theorem dEQ_29 : decode jdk_42_method_66_code 29 = .ok (.aload_n 2, 1) := by decide +kernel
theorem dEQ_30 : decode jdk_42_method_66_code 30 = .ok (.getfield 15, 3) := by decide +kernel
theorem dEQ_33 : decode jdk_42_method_66_code 33 = .ok (.if_icmp .ne 21, 3) := by decide +kernel
theorem dEQ_36 : decode jdk_42_method_66_code 36 = .ok (.aload_n 0, 1) := by decide +kernel
theorem dEQ_37 : decode jdk_42_method_66_code 37 = .ok (.getfield 9, 3) := by decide +kernel
theorem dEQ_40 : decode jdk_42_method_66_code 40 = .ok (.aload_n 2, 1) := by decide +kernel
theorem dEQ_41 : decode jdk_42_method_66_code 41 = .ok (.getfield 9, 3) := by decide +kernel
theorem dEQ_44 : decode jdk_42_method_66_code 44 = .ok (.invokestatic 541, 3) := by decide +kernel
theorem dEQ_47 : decode jdk_42_method_66_code 47 = .ok (.ifCond .eq 7, 3) := by decide +kernel
theorem dEQ_50 : decode jdk_42_method_66_code 50 = .ok (.iconst 1, 1) := by decide +kernel
theorem dEQ_51 : decode jdk_42_method_66_code 51 = .ok (.goto 4, 3) := by decide +kernel
theorem dEQ_55 : decode jdk_42_method_66_code 55 = .ok (.ireturn, 1) := by decide +kernel
theorem dEQ_54 : decode jdk_42_method_66_code 54 = .ok (.iconst 0, 1) := by decide +kernel
theorem dCE_0 : decode jdk_43_method_4_code 0 = .ok (.iload_n 0, 1) := by decide +kernel
theorem dCE_1 : decode jdk_43_method_4_code 1 = .ok (.ifCond .lt 14, 3) := by decide +kernel
theorem dCE_4 : decode jdk_43_method_4_code 4 = .ok (.iload_n 0, 1) := by decide +kernel
theorem dCE_5 : decode jdk_43_method_4_code 5 = .ok (.sipush 255, 3) := by decide +kernel
theorem dCE_8 : decode jdk_43_method_4_code 8 = .ok (.if_icmp .gt 7, 3) := by decide +kernel
theorem dCE_15 : decode jdk_43_method_4_code 15 = .ok (.iconst 0, 1) := by decide +kernel
theorem dCE_16 : decode jdk_43_method_4_code 16 = .ok (.ireturn, 1) := by decide +kernel
theorem dCE_11 : decode jdk_43_method_4_code 11 = .ok (.iconst 1, 1) := by decide +kernel
theorem dCE_12 : decode jdk_43_method_4_code 12 = .ok (.goto 4, 3) := by decide +kernel
theorem dIL_0 : decode jdk_42_method_154_code 0 = .ok (.getstatic 38, 3) := by decide +kernel
theorem dIL_3 : decode jdk_42_method_154_code 3 = .ok (.ifCond .eq 14, 3) := by decide +kernel
theorem dIL_6 : decode jdk_42_method_154_code 6 = .ok (.aload_n 0, 1) := by decide +kernel
theorem dIL_7 : decode jdk_42_method_154_code 7 = .ok (.getfield 15, 3) := by decide +kernel
theorem dIL_10 : decode jdk_42_method_154_code 10 = .ok (.ifCond .ne 7, 3) := by decide +kernel
theorem dIL_17 : decode jdk_42_method_154_code 17 = .ok (.iconst 0, 1) := by decide +kernel
theorem dIL_18 : decode jdk_42_method_154_code 18 = .ok (.ireturn, 1) := by decide +kernel
theorem dIL_13 : decode jdk_42_method_154_code 13 = .ok (.iconst 1, 1) := by decide +kernel
theorem dIL_14 : decode jdk_42_method_154_code 14 = .ok (.goto 4, 3) := by decide +kernel
theorem dCD_0 : decode jdk_116_method_20_code 0 = .ok (.iload_n 1, 1) := by decide +kernel
theorem dCD_1 : decode jdk_116_method_20_code 1 = .ok (.bipush 65, 2) := by decide +kernel
theorem dCD_3 : decode jdk_116_method_20_code 3 = .ok (.if_icmp .ge 5, 3) := by decide +kernel
theorem dCD_8 : decode jdk_116_method_20_code 8 = .ok (.iload_n 1, 1) := by decide +kernel
theorem dCD_9 : decode jdk_116_method_20_code 9 = .ok (.bipush 32, 2) := by decide +kernel
theorem dCD_11 : decode jdk_116_method_20_code 11 = .ok (.ior, 1) := by decide +kernel
theorem dCD_12 : decode jdk_116_method_20_code 12 = .ok (.istore_n 2, 1) := by decide +kernel
theorem dCD_13 : decode jdk_116_method_20_code 13 = .ok (.iload_n 2, 1) := by decide +kernel
theorem dCD_14 : decode jdk_116_method_20_code 14 = .ok (.bipush 122, 2) := by decide +kernel
theorem dCD_16 : decode jdk_116_method_20_code 16 = .ok (.if_icmp .le 24, 3) := by decide +kernel
theorem dCD_40 : decode jdk_116_method_20_code 40 = .ok (.iload_n 2, 1) := by decide +kernel
theorem dCD_41 : decode jdk_116_method_20_code 41 = .ok (.ireturn, 1) := by decide +kernel
theorem dCD_19 : decode jdk_116_method_20_code 19 = .ok (.iload_n 2, 1) := by decide +kernel
theorem dCD_20 : decode jdk_116_method_20_code 20 = .ok (.sipush 224, 3) := by decide +kernel
theorem dCD_23 : decode jdk_116_method_20_code 23 = .ok (.if_icmp .lt 19, 3) := by decide +kernel
theorem dCD_42 : decode jdk_116_method_20_code 42 = .ok (.iload_n 1, 1) := by decide +kernel
theorem dCD_43 : decode jdk_116_method_20_code 43 = .ok (.ireturn, 1) := by decide +kernel
theorem dCD_26 : decode jdk_116_method_20_code 26 = .ok (.iload_n 2, 1) := by decide +kernel
theorem dCD_27 : decode jdk_116_method_20_code 27 = .ok (.sipush 254, 3) := by decide +kernel
theorem dCD_30 : decode jdk_116_method_20_code 30 = .ok (.if_icmp .gt 12, 3) := by decide +kernel
theorem dCD_33 : decode jdk_116_method_20_code 33 = .ok (.iload_n 2, 1) := by decide +kernel
theorem dCD_34 : decode jdk_116_method_20_code 34 = .ok (.sipush 247, 3) := by decide +kernel
theorem dCD_37 : decode jdk_116_method_20_code 37 = .ok (.if_icmp .eq 5, 3) := by decide +kernel
theorem dCD_6 : decode jdk_116_method_20_code 6 = .ok (.iload_n 1, 1) := by decide +kernel
theorem dCD_7 : decode jdk_116_method_20_code 7 = .ok (.ireturn, 1) := by decide +kernel
theorem dBG_0 : decode jdk_3003_method_5_code 0 = .ok (.aload_n 0, 1) := by decide +kernel
theorem dBG_1 : decode jdk_3003_method_5_code 1 = .ok (.getfield 19, 3) := by decide +kernel
theorem dBG_4 : decode jdk_3003_method_5_code 4 = .ok (.areturn, 1) := by decide +kernel
theorem dLG_0 : decode jdk_2628_method_27_code 0 = .ok (.aload_n 0, 1) := by decide +kernel
theorem dLG_1 : decode jdk_2628_method_27_code 1 = .ok (.getfield 28, 3) := by decide +kernel
theorem dLG_4 : decode jdk_2628_method_27_code 4 = .ok (.invokevirtual 293, 3) := by decide +kernel
theorem dLG_7 : decode jdk_2628_method_27_code 7 = .ok (.areturn, 1) := by decide +kernel
theorem dBI_0 : decode jdk_42_method_151_code 0 = .ok (.aload_n 0, 1) := by decide +kernel
theorem dBI_1 : decode jdk_42_method_151_code 1 = .ok (.invokespecial 1, 3) := by decide +kernel
theorem dBI_4 : decode jdk_42_method_151_code 4 = .ok (.aload_n 0, 1) := by decide +kernel
theorem dBI_5 : decode jdk_42_method_151_code 5 = .ok (.aload_n 1, 1) := by decide +kernel
theorem dBI_6 : decode jdk_42_method_151_code 6 = .ok (.putfield 9, 3) := by decide +kernel
theorem dBI_9 : decode jdk_42_method_151_code 9 = .ok (.aload_n 0, 1) := by decide +kernel
theorem dBI_10 : decode jdk_42_method_151_code 10 = .ok (.iload_n 2, 1) := by decide +kernel
theorem dBI_11 : decode jdk_42_method_151_code 11 = .ok (.putfield 15, 3) := by decide +kernel
theorem dBI_14 : decode jdk_42_method_151_code 14 = .ok (.return_, 1) := by decide +kernel
theorem dSL_0 : decode jdk_43_method_32_code 0 = .ok (.aload_n 2, 1) := by decide +kernel
theorem dSL_1 : decode jdk_43_method_32_code 1 = .ok (.ifnonnull 11, 3) := by decide +kernel
theorem dSL_12 : decode jdk_43_method_32_code 12 = .ok (.aload_n 1, 1) := by decide +kernel
theorem dSL_13 : decode jdk_43_method_32_code 13 = .ok (.arraylength, 1) := by decide +kernel
theorem dSL_55 : decode jdk_43_method_32_code 55 = .ok (.iload_n 3, 1) := by decide +kernel
theorem dSL_56 : decode jdk_43_method_32_code 56 = .ok (.iload 4, 2) := by decide +kernel
theorem dSL_58 : decode jdk_43_method_32_code 58 = .ok (.if_icmp .ne 5, 3) := by decide +kernel
theorem dSL_61 : decode jdk_43_method_32_code 61 = .ok (.aload_n 0, 1) := by decide +kernel
theorem dSL_62 : decode jdk_43_method_32_code 62 = .ok (.areturn, 1) := by decide +kernel
theorem dSL_63 : decode jdk_43_method_32_code 63 = .ok (.aload_n 2, 1) := by decide +kernel
theorem dSL_64 : decode jdk_43_method_32_code 64 = .ok (.invokevirtual 162, 3) := by decide +kernel
theorem dSL_67 : decode jdk_43_method_32_code 67 = .ok (.astore 5, 2) := by decide +kernel
theorem dSL_69 : decode jdk_43_method_32_code 69 = .ok (.aload 5, 2) := by decide +kernel
theorem dSL_71 : decode jdk_43_method_32_code 71 = .ok (.ldc 168, 2) := by decide +kernel
theorem dSL_73 : decode jdk_43_method_32_code 73 = .ok (.if_acmp .eq 17, 3) := by decide +kernel
theorem dSL_76 : decode jdk_43_method_32_code 76 = .ok (.aload 5, 2) := by decide +kernel
theorem dSL_78 : decode jdk_43_method_32_code 78 = .ok (.ldc 170, 2) := by decide +kernel
theorem dSL_80 : decode jdk_43_method_32_code 80 = .ok (.if_acmp .eq 10, 3) := by decide +kernel
theorem dSL_83 : decode jdk_43_method_32_code 83 = .ok (.aload 5, 2) := by decide +kernel
theorem dSL_85 : decode jdk_43_method_32_code 85 = .ok (.ldc 172, 2) := by decide +kernel
theorem dSL_87 : decode jdk_43_method_32_code 87 = .ok (.if_acmp .ne 12, 3) := by decide +kernel
theorem dSL_99 : decode jdk_43_method_32_code 99 = .ok (.iload 4, 2) := by decide +kernel
theorem dSL_101 : decode jdk_43_method_32_code 101 = .ok (.newarray .byte, 2) := by decide +kernel
theorem dSL_103 : decode jdk_43_method_32_code 103 = .ok (.astore 6, 2) := by decide +kernel
theorem dSL_105 : decode jdk_43_method_32_code 105 = .ok (.aload_n 1, 1) := by decide +kernel
theorem dSL_106 : decode jdk_43_method_32_code 106 = .ok (.iconst 0, 1) := by decide +kernel
theorem dSL_107 : decode jdk_43_method_32_code 107 = .ok (.aload 6, 2) := by decide +kernel
theorem dSL_109 : decode jdk_43_method_32_code 109 = .ok (.iconst 0, 1) := by decide +kernel
theorem dSL_110 : decode jdk_43_method_32_code 110 = .ok (.iload_n 3, 1) := by decide +kernel
theorem dSL_111 : decode jdk_43_method_32_code 111 = .ok (.invokestatic 28, 3) := by decide +kernel
theorem dSL_114 : decode jdk_43_method_32_code 114 = .ok (.iload_n 3, 1) := by decide +kernel
theorem dSL_115 : decode jdk_43_method_32_code 115 = .ok (.istore 7, 2) := by decide +kernel
theorem dSL_117 : decode jdk_43_method_32_code 117 = .ok (.iload 7, 2) := by decide +kernel
theorem dSL_119 : decode jdk_43_method_32_code 119 = .ok (.iload 4, 2) := by decide +kernel
theorem dSL_121 : decode jdk_43_method_32_code 121 = .ok (.if_icmp .ge 54, 3) := by decide +kernel
theorem dSL_175 : decode jdk_43_method_32_code 175 = .ok (.new 1, 3) := by decide +kernel
theorem dSL_178 : decode jdk_43_method_32_code 178 = .ok (.dup, 1) := by decide +kernel
theorem dSL_179 : decode jdk_43_method_32_code 179 = .ok (.aload 6, 2) := by decide +kernel
theorem dSL_181 : decode jdk_43_method_32_code 181 = .ok (.iconst 0, 1) := by decide +kernel
theorem dSL_182 : decode jdk_43_method_32_code 182 = .ok (.invokespecial 112, 3) := by decide +kernel
theorem dSL_185 : decode jdk_43_method_32_code 185 = .ok (.areturn, 1) := by decide +kernel
theorem dSL_124 : decode jdk_43_method_32_code 124 = .ok (.aload_n 1, 1) := by decide +kernel
theorem dSL_125 : decode jdk_43_method_32_code 125 = .ok (.iload 7, 2) := by decide +kernel
theorem dSL_127 : decode jdk_43_method_32_code 127 = .ok (.baload, 1) := by decide +kernel
theorem dSL_128 : decode jdk_43_method_32_code 128 = .ok (.sipush 255, 3) := by decide +kernel
theorem dSL_131 : decode jdk_43_method_32_code 131 = .ok (.iand, 1) := by decide +kernel
theorem dSL_132 : decode jdk_43_method_32_code 132 = .ok (.istore 8, 2) := by decide +kernel
theorem dSL_134 : decode jdk_43_method_32_code 134 = .ok (.getstatic 66, 3) := by decide +kernel
theorem dSL_137 : decode jdk_43_method_32_code 137 = .ok (.iload 8, 2) := by decide +kernel
theorem dSL_139 : decode jdk_43_method_32_code 139 = .ok (.invokevirtual 160, 3) := by decide +kernel
theorem dSL_142 : decode jdk_43_method_32_code 142 = .ok (.istore 8, 2) := by decide +kernel
theorem dSL_144 : decode jdk_43_method_32_code 144 = .ok (.iload 8, 2) := by decide +kernel
theorem dSL_146 : decode jdk_43_method_32_code 146 = .ok (.invokestatic 88, 3) := by decide +kernel
theorem dSL_149 : decode jdk_43_method_32_code 149 = .ok (.ifCond .ne 12, 3) := by decide +kernel
theorem dSL_161 : decode jdk_43_method_32_code 161 = .ok (.aload 6, 2) := by decide +kernel
theorem dSL_163 : decode jdk_43_method_32_code 163 = .ok (.iload 7, 2) := by decide +kernel
theorem dSL_165 : decode jdk_43_method_32_code 165 = .ok (.iload 8, 2) := by decide +kernel
theorem dSL_167 : decode jdk_43_method_32_code 167 = .ok (.i2b, 1) := by decide +kernel
theorem dSL_168 : decode jdk_43_method_32_code 168 = .ok (.bastore, 1) := by decide +kernel
theorem dSL_169 : decode jdk_43_method_32_code 169 = .ok (.iinc 7 1, 3) := by decide +kernel
theorem dSL_172 : decode jdk_43_method_32_code 172 = .ok (.goto (-55), 3) := by decide +kernel
theorem dSL_18 : decode jdk_43_method_32_code 18 = .ok (.iload_n 3, 1) := by decide +kernel
theorem dSL_19 : decode jdk_43_method_32_code 19 = .ok (.iload 4, 2) := by decide +kernel
theorem dSL_21 : decode jdk_43_method_32_code 21 = .ok (.if_icmp .ge 34, 3) := by decide +kernel
theorem dSL_24 : decode jdk_43_method_32_code 24 = .ok (.aload_n 1, 1) := by decide +kernel
theorem dSL_25 : decode jdk_43_method_32_code 25 = .ok (.iload_n 3, 1) := by decide +kernel
theorem dSL_26 : decode jdk_43_method_32_code 26 = .ok (.baload, 1) := by decide +kernel
theorem dSL_27 : decode jdk_43_method_32_code 27 = .ok (.sipush 255, 3) := by decide +kernel
theorem dSL_30 : decode jdk_43_method_32_code 30 = .ok (.iand, 1) := by decide +kernel
theorem dSL_31 : decode jdk_43_method_32_code 31 = .ok (.istore 5, 2) := by decide +kernel
theorem dSL_33 : decode jdk_43_method_32_code 33 = .ok (.iload 5, 2) := by decide +kernel
theorem dSL_35 : decode jdk_43_method_32_code 35 = .ok (.getstatic 66, 3) := by decide +kernel
theorem dSL_38 : decode jdk_43_method_32_code 38 = .ok (.iload 5, 2) := by decide +kernel
theorem dSL_40 : decode jdk_43_method_32_code 40 = .ok (.invokevirtual 160, 3) := by decide +kernel
theorem dSL_43 : decode jdk_43_method_32_code 43 = .ok (.if_icmp .eq 6, 3) := by decide +kernel
theorem dSL_49 : decode jdk_43_method_32_code 49 = .ok (.iinc 3 1, 3) := by decide +kernel
theorem dSL_52 : decode jdk_43_method_32_code 52 = .ok (.goto (-34), 3) := by decide +kernel
theorem dSL_46 : decode jdk_43_method_32_code 46 = .ok (.goto 9, 3) := by decide +kernel
theorem dSL_14 : decode jdk_43_method_32_code 14 = .ok (.istore 4, 2) := by decide +kernel
theorem dSL_16 : decode jdk_43_method_32_code 16 = .ok (.iconst 0, 1) := by decide +kernel
theorem dSL_17 : decode jdk_43_method_32_code 17 = .ok (.istore_n 3, 1) := by decide +kernel
theorem dTL_0 : decode jdk_42_method_109_code 0 = .ok (.aload_n 0, 1) := by decide +kernel
theorem dTL_1 : decode jdk_42_method_109_code 1 = .ok (.invokevirtual 492, 3) := by decide +kernel
theorem dTL_4 : decode jdk_42_method_109_code 4 = .ok (.ifCond .eq 15, 3) := by decide +kernel
theorem dTL_7 : decode jdk_42_method_109_code 7 = .ok (.aload_n 0, 1) := by decide +kernel
theorem dTL_8 : decode jdk_42_method_109_code 8 = .ok (.aload_n 0, 1) := by decide +kernel
theorem dTL_9 : decode jdk_42_method_109_code 9 = .ok (.getfield 9, 3) := by decide +kernel
theorem dTL_12 : decode jdk_42_method_109_code 12 = .ok (.aload_n 1, 1) := by decide +kernel
theorem dTL_13 : decode jdk_42_method_109_code 13 = .ok (.invokestatic 839, 3) := by decide +kernel
theorem dTL_16 : decode jdk_42_method_109_code 16 = .ok (.goto 12, 3) := by decide +kernel
theorem dTL_28 : decode jdk_42_method_109_code 28 = .ok (.areturn, 1) := by decide +kernel
theorem dIU_0 : decode method_4_code 0 = .ok (.iload_n 0, 1) := by decide +kernel
theorem dIU_1 : decode method_4_code 1 = .ok (.bipush 65, 2) := by decide +kernel
theorem dIU_3 : decode method_4_code 3 = .ok (.if_icmp .lt 9, 3) := by decide +kernel
theorem dIU_12 : decode method_4_code 12 = .ok (.iload_n 0, 1) := by decide +kernel
theorem dIU_13 : decode method_4_code 13 = .ok (.sipush 192, 3) := by decide +kernel
theorem dIU_16 : decode method_4_code 16 = .ok (.if_icmp .lt 21, 3) := by decide +kernel
theorem dIU_37 : decode method_4_code 37 = .ok (.iconst 0, 1) := by decide +kernel
theorem dIU_38 : decode method_4_code 38 = .ok (.ireturn, 1) := by decide +kernel
theorem dIU_19 : decode method_4_code 19 = .ok (.iload_n 0, 1) := by decide +kernel
theorem dIU_20 : decode method_4_code 20 = .ok (.sipush 222, 3) := by decide +kernel
theorem dIU_23 : decode method_4_code 23 = .ok (.if_icmp .gt 14, 3) := by decide +kernel
theorem dIU_26 : decode method_4_code 26 = .ok (.iload_n 0, 1) := by decide +kernel
theorem dIU_27 : decode method_4_code 27 = .ok (.sipush 215, 3) := by decide +kernel
theorem dIU_30 : decode method_4_code 30 = .ok (.if_icmp .eq 7, 3) := by decide +kernel
theorem dIU_33 : decode method_4_code 33 = .ok (.iconst 1, 1) := by decide +kernel
theorem dIU_34 : decode method_4_code 34 = .ok (.goto 4, 3) := by decide +kernel
theorem dIU_6 : decode method_4_code 6 = .ok (.iload_n 0, 1) := by decide +kernel
theorem dIU_7 : decode method_4_code 7 = .ok (.bipush 90, 2) := by decide +kernel
theorem dIU_9 : decode method_4_code 9 = .ok (.if_icmp .le 24, 3) := by decide +kernel
theorem dIO_0 : decode method_5_code 0 = .ok (.iload_n 0, 1) := by decide +kernel
theorem dIO_1 : decode method_5_code 1 = .ok (.bipush 97, 2) := by decide +kernel
theorem dIO_3 : decode method_5_code 3 = .ok (.if_icmp .lt 9, 3) := by decide +kernel
theorem dIO_12 : decode method_5_code 12 = .ok (.iload_n 0, 1) := by decide +kernel
theorem dIO_13 : decode method_5_code 13 = .ok (.sipush 224, 3) := by decide +kernel
theorem dIO_16 : decode method_5_code 16 = .ok (.if_icmp .lt 21, 3) := by decide +kernel
theorem dIO_37 : decode method_5_code 37 = .ok (.iconst 0, 1) := by decide +kernel
theorem dIO_38 : decode method_5_code 38 = .ok (.ireturn, 1) := by decide +kernel
theorem dIO_19 : decode method_5_code 19 = .ok (.iload_n 0, 1) := by decide +kernel
theorem dIO_20 : decode method_5_code 20 = .ok (.sipush 254, 3) := by decide +kernel
theorem dIO_23 : decode method_5_code 23 = .ok (.if_icmp .gt 14, 3) := by decide +kernel
theorem dIO_26 : decode method_5_code 26 = .ok (.iload_n 0, 1) := by decide +kernel
theorem dIO_27 : decode method_5_code 27 = .ok (.sipush 247, 3) := by decide +kernel
theorem dIO_30 : decode method_5_code 30 = .ok (.if_icmp .eq 7, 3) := by decide +kernel
theorem dIO_33 : decode method_5_code 33 = .ok (.iconst 1, 1) := by decide +kernel
theorem dIO_34 : decode method_5_code 34 = .ok (.goto 4, 3) := by decide +kernel
theorem dIO_6 : decode method_5_code 6 = .ok (.iload_n 0, 1) := by decide +kernel
theorem dIO_7 : decode method_5_code 7 = .ok (.bipush 122, 2) := by decide +kernel
theorem dIO_9 : decode method_5_code 9 = .ok (.if_icmp .le 24, 3) := by decide +kernel
theorem dLO_0 : decode method_6_code 0 = .ok (.iload_n 0, 1) := by decide +kernel
theorem dLO_1 : decode method_6_code 1 = .ok (.invokestatic 36, 3) := by decide +kernel
theorem dLO_4 : decode method_6_code 4 = .ok (.ifCond .eq 9, 3) := by decide +kernel
theorem dLO_7 : decode method_6_code 7 = .ok (.iload_n 0, 1) := by decide +kernel
theorem dLO_8 : decode method_6_code 8 = .ok (.bipush 32, 2) := by decide +kernel
theorem dLO_10 : decode method_6_code 10 = .ok (.iadd, 1) := by decide +kernel
theorem dLO_11 : decode method_6_code 11 = .ok (.i2c, 1) := by decide +kernel
theorem dLO_12 : decode method_6_code 12 = .ok (.ireturn, 1) := by decide +kernel
theorem dLO_13 : decode method_6_code 13 = .ok (.iload_n 0, 1) := by decide +kernel
theorem dLO_14 : decode method_6_code 14 = .ok (.ireturn, 1) := by decide +kernel
theorem dFP_0 : decode method_7_code 0 = .ok (.iload_n 0, 1) := by decide +kernel
theorem dFP_1 : decode method_7_code 1 = .ok (.invokestatic 36, 3) := by decide +kernel
theorem dFP_4 : decode method_7_code 4 = .ok (.ifCond .eq 9, 3) := by decide +kernel
theorem dFP_7 : decode method_7_code 7 = .ok (.iload_n 0, 1) := by decide +kernel
theorem dFP_8 : decode method_7_code 8 = .ok (.bipush 32, 2) := by decide +kernel
theorem dFP_10 : decode method_7_code 10 = .ok (.iadd, 1) := by decide +kernel
theorem dFP_11 : decode method_7_code 11 = .ok (.i2c, 1) := by decide +kernel
theorem dFP_12 : decode method_7_code 12 = .ok (.ireturn, 1) := by decide +kernel
theorem dFP_13 : decode method_7_code 13 = .ok (.iload_n 0, 1) := by decide +kernel
theorem dFP_14 : decode method_7_code 14 = .ok (.invokestatic 40, 3) := by decide +kernel
theorem dFP_17 : decode method_7_code 17 = .ok (.ifCond .eq 9, 3) := by decide +kernel
theorem dFP_20 : decode method_7_code 20 = .ok (.iload_n 0, 1) := by decide +kernel
theorem dFP_21 : decode method_7_code 21 = .ok (.bipush 32, 2) := by decide +kernel
theorem dFP_23 : decode method_7_code 23 = .ok (.isub, 1) := by decide +kernel
theorem dFP_24 : decode method_7_code 24 = .ok (.i2c, 1) := by decide +kernel
theorem dFP_25 : decode method_7_code 25 = .ok (.ireturn, 1) := by decide +kernel
theorem dFP_26 : decode method_7_code 26 = .ok (.iload_n 0, 1) := by decide +kernel
theorem dFP_27 : decode method_7_code 27 = .ok (.ireturn, 1) := by decide +kernel
theorem dPK_0 : decode method_8_code 0 = .ok (.iload_n 2, 1) := by decide +kernel
theorem dPK_1 : decode method_8_code 1 = .ok (.ifCond .ne 5, 3) := by decide +kernel
theorem dPK_6 : decode method_8_code 6 = .ok (.iload_n 2, 1) := by decide +kernel
theorem dPK_7 : decode method_8_code 7 = .ok (.iconst 1, 1) := by decide +kernel
theorem dPK_8 : decode method_8_code 8 = .ok (.if_icmp .ne 8, 3) := by decide +kernel
theorem dPK_16 : decode method_8_code 16 = .ok (.iload_n 1, 1) := by decide +kernel
theorem dPK_17 : decode method_8_code 17 = .ok (.ireturn, 1) := by decide +kernel
theorem dPK_11 : decode method_8_code 11 = .ok (.iload_n 0, 1) := by decide +kernel
theorem dPK_12 : decode method_8_code 12 = .ok (.invokestatic 43, 3) := by decide +kernel
theorem dPK_15 : decode method_8_code 15 = .ok (.ireturn, 1) := by decide +kernel
theorem dPK_4 : decode method_8_code 4 = .ok (.iload_n 0, 1) := by decide +kernel
theorem dPK_5 : decode method_8_code 5 = .ok (.ireturn, 1) := by decide +kernel
theorem dSM_0 : decode method_3_code 0 = .ok (.iload_n 2, 1) := by decide +kernel
theorem dSM_1 : decode method_3_code 1 = .ok (.iload_n 3, 1) := by decide +kernel
theorem dSM_2 : decode method_3_code 2 = .ok (.if_icmp .ge 14, 3) := by decide +kernel
theorem dSM_16 : decode method_3_code 16 = .ok (.iconst 1, 1) := by decide +kernel
theorem dSM_17 : decode method_3_code 17 = .ok (.goto 4, 3) := by decide +kernel
theorem dSM_21 : decode method_3_code 21 = .ok (.ireturn, 1) := by decide +kernel
theorem dSM_5 : decode method_3_code 5 = .ok (.iload_n 0, 1) := by decide +kernel
theorem dSM_6 : decode method_3_code 6 = .ok (.invokestatic 32, 3) := by decide +kernel
theorem dSM_9 : decode method_3_code 9 = .ok (.iload_n 1, 1) := by decide +kernel
theorem dSM_10 : decode method_3_code 10 = .ok (.invokestatic 32, 3) := by decide +kernel
theorem dSM_13 : decode method_3_code 13 = .ok (.if_icmp .ne 7, 3) := by decide +kernel
theorem dSM_20 : decode method_3_code 20 = .ok (.iconst 0, 1) := by decide +kernel
theorem dMK_0 : decode method_9_code 0 = .ok (.iload_n 0, 1) := by decide +kernel
theorem dMK_1 : decode method_9_code 1 = .ok (.ifCond .ne 14, 3) := by decide +kernel
theorem dMK_4 : decode method_9_code 4 = .ok (.new 46, 3) := by decide +kernel
theorem dMK_7 : decode method_9_code 7 = .ok (.dup, 1) := by decide +kernel
theorem dMK_8 : decode method_9_code 8 = .ok (.iconst 0, 1) := by decide +kernel
theorem dMK_9 : decode method_9_code 9 = .ok (.newarray .char, 2) := by decide +kernel
theorem dMK_11 : decode method_9_code 11 = .ok (.invokespecial 48, 3) := by decide +kernel
theorem dMK_14 : decode method_9_code 14 = .ok (.areturn, 1) := by decide +kernel
theorem dMK_15 : decode method_9_code 15 = .ok (.iload_n 0, 1) := by decide +kernel
theorem dMK_16 : decode method_9_code 16 = .ok (.iconst 1, 1) := by decide +kernel
theorem dMK_17 : decode method_9_code 17 = .ok (.if_icmp .ne 18, 3) := by decide +kernel
theorem dMK_20 : decode method_9_code 20 = .ok (.new 46, 3) := by decide +kernel
theorem dMK_23 : decode method_9_code 23 = .ok (.dup, 1) := by decide +kernel
theorem dMK_24 : decode method_9_code 24 = .ok (.iconst 1, 1) := by decide +kernel
theorem dMK_25 : decode method_9_code 25 = .ok (.newarray .char, 2) := by decide +kernel
theorem dMK_27 : decode method_9_code 27 = .ok (.dup, 1) := by decide +kernel
theorem dMK_28 : decode method_9_code 28 = .ok (.iconst 0, 1) := by decide +kernel
theorem dMK_29 : decode method_9_code 29 = .ok (.iload_n 1, 1) := by decide +kernel
theorem dMK_30 : decode method_9_code 30 = .ok (.castore, 1) := by decide +kernel
theorem dMK_31 : decode method_9_code 31 = .ok (.invokespecial 48, 3) := by decide +kernel
theorem dMK_34 : decode method_9_code 34 = .ok (.areturn, 1) := by decide +kernel
theorem dMK_35 : decode method_9_code 35 = .ok (.iload_n 0, 1) := by decide +kernel
theorem dMK_36 : decode method_9_code 36 = .ok (.iconst 2, 1) := by decide +kernel
theorem dMK_37 : decode method_9_code 37 = .ok (.if_icmp .ne 22, 3) := by decide +kernel
theorem dMK_40 : decode method_9_code 40 = .ok (.new 46, 3) := by decide +kernel
theorem dMK_43 : decode method_9_code 43 = .ok (.dup, 1) := by decide +kernel
theorem dMK_44 : decode method_9_code 44 = .ok (.iconst 2, 1) := by decide +kernel
theorem dMK_45 : decode method_9_code 45 = .ok (.newarray .char, 2) := by decide +kernel
theorem dMK_47 : decode method_9_code 47 = .ok (.dup, 1) := by decide +kernel
theorem dMK_48 : decode method_9_code 48 = .ok (.iconst 0, 1) := by decide +kernel
theorem dMK_49 : decode method_9_code 49 = .ok (.iload_n 1, 1) := by decide +kernel
theorem dMK_50 : decode method_9_code 50 = .ok (.castore, 1) := by decide +kernel
theorem dMK_51 : decode method_9_code 51 = .ok (.dup, 1) := by decide +kernel
theorem dMK_52 : decode method_9_code 52 = .ok (.iconst 1, 1) := by decide +kernel
theorem dMK_53 : decode method_9_code 53 = .ok (.iload_n 2, 1) := by decide +kernel
theorem dMK_54 : decode method_9_code 54 = .ok (.castore, 1) := by decide +kernel
theorem dMK_55 : decode method_9_code 55 = .ok (.invokespecial 48, 3) := by decide +kernel
theorem dMK_58 : decode method_9_code 58 = .ok (.areturn, 1) := by decide +kernel
theorem dMK_59 : decode method_9_code 59 = .ok (.new 46, 3) := by decide +kernel
theorem dMK_62 : decode method_9_code 62 = .ok (.dup, 1) := by decide +kernel
theorem dMK_63 : decode method_9_code 63 = .ok (.iconst 3, 1) := by decide +kernel
theorem dMK_64 : decode method_9_code 64 = .ok (.newarray .char, 2) := by decide +kernel
theorem dMK_66 : decode method_9_code 66 = .ok (.dup, 1) := by decide +kernel
theorem dMK_67 : decode method_9_code 67 = .ok (.iconst 0, 1) := by decide +kernel
theorem dMK_68 : decode method_9_code 68 = .ok (.iload_n 1, 1) := by decide +kernel
theorem dMK_69 : decode method_9_code 69 = .ok (.castore, 1) := by decide +kernel
theorem dMK_70 : decode method_9_code 70 = .ok (.dup, 1) := by decide +kernel
theorem dMK_71 : decode method_9_code 71 = .ok (.iconst 1, 1) := by decide +kernel
theorem dMK_72 : decode method_9_code 72 = .ok (.iload_n 2, 1) := by decide +kernel
theorem dMK_73 : decode method_9_code 73 = .ok (.castore, 1) := by decide +kernel
theorem dMK_74 : decode method_9_code 74 = .ok (.dup, 1) := by decide +kernel
theorem dMK_75 : decode method_9_code 75 = .ok (.iconst 2, 1) := by decide +kernel
theorem dMK_76 : decode method_9_code 76 = .ok (.iload_n 3, 1) := by decide +kernel
theorem dMK_77 : decode method_9_code 77 = .ok (.castore, 1) := by decide +kernel
theorem dMK_78 : decode method_9_code 78 = .ok (.invokespecial 48, 3) := by decide +kernel
theorem dMK_81 : decode method_9_code 81 = .ok (.areturn, 1) := by decide +kernel
theorem dRI_0 : decode jdk_30_method_1_code 0 = .ok (.aload_n 0, 1) := by decide +kernel
theorem dRI_1 : decode jdk_30_method_1_code 1 = .ok (.invokespecial 1, 3) := by decide +kernel
theorem dRI_4 : decode jdk_30_method_1_code 4 = .ok (.return_, 1) := by decide +kernel
theorem dAI_0 : decode prog_65_method_1_code 0 = .ok (.aload_n 0, 1) := by decide +kernel
theorem dAI_1 : decode prog_65_method_1_code 1 = .ok (.invokespecial 1, 3) := by decide +kernel
theorem dAI_4 : decode prog_65_method_1_code 4 = .ok (.aload_n 0, 1) := by decide +kernel
theorem dAI_5 : decode prog_65_method_1_code 5 = .ok (.aload_n 1, 1) := by decide +kernel
theorem dAI_6 : decode prog_65_method_1_code 6 = .ok (.putfield 7, 3) := by decide +kernel
theorem dAI_9 : decode prog_65_method_1_code 9 = .ok (.aload_n 0, 1) := by decide +kernel
theorem dAI_10 : decode prog_65_method_1_code 10 = .ok (.aload_n 2, 1) := by decide +kernel
theorem dAI_11 : decode prog_65_method_1_code 11 = .ok (.putfield 13, 3) := by decide +kernel
theorem dAI_14 : decode prog_65_method_1_code 14 = .ok (.return_, 1) := by decide +kernel
theorem dHS_0 : decode prog_65_method_3_code 0 = .ok (.aload_n 0, 1) := by decide +kernel
theorem dHS_1 : decode prog_65_method_3_code 1 = .ok (.getfield 7, 3) := by decide +kernel
theorem dHS_4 : decode prog_65_method_3_code 4 = .ok (.aload_n 1, 1) := by decide +kernel
theorem dHS_5 : decode prog_65_method_3_code 5 = .ok (.invokevirtual 38, 3) := by decide +kernel
theorem dHS_8 : decode prog_65_method_3_code 8 = .ok (.ifCond .ne 26, 3) := by decide +kernel
theorem dHS_34 : decode prog_65_method_3_code 34 = .ok (.iconst 1, 1) := by decide +kernel
theorem dHS_35 : decode prog_65_method_3_code 35 = .ok (.goto 4, 3) := by decide +kernel
theorem dHS_39 : decode prog_65_method_3_code 39 = .ok (.ireturn, 1) := by decide +kernel
theorem dHS_11 : decode prog_65_method_3_code 11 = .ok (.aload_n 0, 1) := by decide +kernel
theorem dHS_12 : decode prog_65_method_3_code 12 = .ok (.getfield 7, 3) := by decide +kernel
theorem dHS_15 : decode prog_65_method_3_code 15 = .ok (.getstatic 42, 3) := by decide +kernel
theorem dHS_18 : decode prog_65_method_3_code 18 = .ok (.invokevirtual 48, 3) := by decide +kernel
theorem dHS_21 : decode prog_65_method_3_code 21 = .ok (.aload_n 1, 1) := by decide +kernel
theorem dHS_22 : decode prog_65_method_3_code 22 = .ok (.getstatic 42, 3) := by decide +kernel
theorem dHS_25 : decode prog_65_method_3_code 25 = .ok (.invokevirtual 48, 3) := by decide +kernel
theorem dHS_28 : decode prog_65_method_3_code 28 = .ok (.invokevirtual 38, 3) := by decide +kernel
theorem dHS_31 : decode prog_65_method_3_code 31 = .ok (.ifCond .eq 7, 3) := by decide +kernel
theorem dHS_38 : decode prog_65_method_3_code 38 = .ok (.iconst 0, 1) := by decide +kernel
theorem tw0 {Z : State} {a0 : Array Value} (hw : ∀ d ∈ tables_1, d.before a0 Z = true) : (Jvm.Cond.methodLink "org/wardchain/web/AuthorizationHeaderHasSchemePinLaw" (7 : Nat) ({ cls := "org/wardchain/web/AuthorizationHeaderHasSchemePinLaw", name := "pick", desc := "(CCI)C" } : Jvm.MethodName)).before a0 Z = true := hw _ (List.mem_of_getElem? (i := 0) rfl)
theorem tw1 {Z : State} {a0 : Array Value} (hw : ∀ d ∈ tables_1, d.before a0 Z = true) : (Jvm.Cond.static ({ cls := "org/wardchain/web/AuthorizationHeaderHasSchemePinLaw", name := "pick", desc := "(CCI)C" } : Jvm.MethodName)).before a0 Z = true := hw _ (List.mem_of_getElem? (i := 1) rfl)
theorem tw2 {Z : State} {a0 : Array Value} (hw : ∀ d ∈ tables_1, d.before a0 Z = true) : (Jvm.Cond.initialized "org/wardchain/web/AuthorizationHeaderHasSchemePinLaw").before a0 Z = true := hw _ (List.mem_of_getElem? (i := 2) rfl)
theorem tw3 {Z : State} {a0 : Array Value} (hw : ∀ d ∈ tables_1, d.before a0 Z = true) : (Jvm.Cond.code ({ cls := "org/wardchain/web/AuthorizationHeaderHasSchemePinLaw", name := "pick", desc := "(CCI)C" } : Jvm.MethodName) method_8_code (3 : Nat) (Option.some Jvm.ClassFile.FieldType.char)).before a0 Z = true := hw _ (List.mem_of_getElem? (i := 3) rfl)
theorem tw4 {Z : State} {a0 : Array Value} (hw : ∀ d ∈ tables_1, d.before a0 Z = true) : (Jvm.Cond.methodLink "org/wardchain/web/AuthorizationHeaderHasSchemePinLaw" (13 : Nat) ({ cls := "org/wardchain/web/AuthorizationHeaderHasSchemePinLaw", name := "mk", desc := "(ICCC)Ljava/lang/String;" } : Jvm.MethodName)).before a0 Z = true := hw _ (List.mem_of_getElem? (i := 4) rfl)
theorem tw5 {Z : State} {a0 : Array Value} (hw : ∀ d ∈ tables_1, d.before a0 Z = true) : (Jvm.Cond.static ({ cls := "org/wardchain/web/AuthorizationHeaderHasSchemePinLaw", name := "mk", desc := "(ICCC)Ljava/lang/String;" } : Jvm.MethodName)).before a0 Z = true := hw _ (List.mem_of_getElem? (i := 5) rfl)
theorem tw6 {Z : State} {a0 : Array Value} (hw : ∀ d ∈ tables_1, d.before a0 Z = true) : (Jvm.Cond.code ({ cls := "org/wardchain/web/AuthorizationHeaderHasSchemePinLaw", name := "mk", desc := "(ICCC)Ljava/lang/String;" } : Jvm.MethodName) method_9_code (4 : Nat) (Option.some (Jvm.ClassFile.FieldType.object "java/lang/String"))).before a0 Z = true := hw _ (List.mem_of_getElem? (i := 6) rfl)
theorem tw7 {Z : State} {a0 : Array Value} (hw : ∀ d ∈ tables_1, d.before a0 Z = true) : (Jvm.Cond.classLink "org/wardchain/web/AuthorizationHeaderHasSchemePinLaw" (46 : Nat) "java/lang/String").before a0 Z = true := hw _ (List.mem_of_getElem? (i := 7) rfl)
theorem tw8 {Z : State} {a0 : Array Value} (hw : ∀ d ∈ tables_1, d.before a0 Z = true) : (Jvm.Cond.instantiable "java/lang/String" (4 : Nat)).before a0 Z = true := hw _ (List.mem_of_getElem? (i := 8) rfl)
theorem tw9 {Z : State} {a0 : Array Value} (hw : ∀ d ∈ tables_1, d.before a0 Z = true) : (Jvm.Cond.initialized "java/lang/String").before a0 Z = true := hw _ (List.mem_of_getElem? (i := 9) rfl)
theorem tw10 {Z : State} {a0 : Array Value} (hw : ∀ d ∈ tables_1, d.before a0 Z = true) : (Jvm.Cond.arrayClass Jvm.ClassFile.FieldType.char).before a0 Z = true := hw _ (List.mem_of_getElem? (i := 10) rfl)
theorem tw11 {Z : State} {a0 : Array Value} (hw : ∀ d ∈ tables_1, d.before a0 Z = true) : (Jvm.Cond.methodLink "org/wardchain/web/AuthorizationHeaderHasSchemePinLaw" (48 : Nat) ({ cls := "java/lang/String", name := "<init>", desc := "([C)V" } : Jvm.MethodName)).before a0 Z = true := hw _ (List.mem_of_getElem? (i := 11) rfl)
theorem tw12 {Z : State} {a0 : Array Value} (hw : ∀ d ∈ tables_1, d.before a0 Z = true) : (Jvm.Cond.instanceMethod ({ cls := "java/lang/String", name := "<init>", desc := "([C)V" } : Jvm.MethodName)).before a0 Z = true := hw _ (List.mem_of_getElem? (i := 12) rfl)
theorem tw13 {Z : State} {a0 : Array Value} (hw : ∀ d ∈ tables_1, d.before a0 Z = true) : (Jvm.Cond.code ({ cls := "java/lang/String", name := "<init>", desc := "([C)V" } : Jvm.MethodName) jdk_42_method_3_code (2 : Nat) (Option.none : Option Jvm.ClassFile.FieldType)).before a0 Z = true := hw _ (List.mem_of_getElem? (i := 13) rfl)
theorem tw14 {Z : State} {a0 : Array Value} (hw : ∀ d ∈ tables_1, d.before a0 Z = true) : (Jvm.Cond.methodLink "java/lang/String" (27 : Nat) ({ cls := "java/lang/String", name := "<init>", desc := "([CIILjava/lang/Void;)V" } : Jvm.MethodName)).before a0 Z = true := hw _ (List.mem_of_getElem? (i := 14) rfl)
theorem tw15 {Z : State} {a0 : Array Value} (hw : ∀ d ∈ tables_1, d.before a0 Z = true) : (Jvm.Cond.instanceMethod ({ cls := "java/lang/String", name := "<init>", desc := "([CIILjava/lang/Void;)V" } : Jvm.MethodName)).before a0 Z = true := hw _ (List.mem_of_getElem? (i := 15) rfl)
theorem tw17 {Z : State} {a0 : Array Value} (hw : ∀ d ∈ tables_1, d.before a0 Z = true) : (Jvm.Cond.code ({ cls := "java/lang/String", name := "<init>", desc := "([CIILjava/lang/Void;)V" } : Jvm.MethodName) jdk_42_method_149_code (6 : Nat) (Option.none : Option Jvm.ClassFile.FieldType)).before a0 Z = true := hw _ (List.mem_of_getElem? (i := 17) rfl)
theorem tw18 {Z : State} {a0 : Array Value} (hw : ∀ d ∈ tables_1, d.before a0 Z = true) : (Jvm.Cond.methodLink "java/lang/String" (1 : Nat) ({ cls := "java/lang/Object", name := "<init>", desc := "()V" } : Jvm.MethodName)).before a0 Z = true := hw _ (List.mem_of_getElem? (i := 18) rfl)
theorem tw19 {Z : State} {a0 : Array Value} (hw : ∀ d ∈ tables_1, d.before a0 Z = true) : (Jvm.Cond.instanceMethod ({ cls := "java/lang/Object", name := "<init>", desc := "()V" } : Jvm.MethodName)).before a0 Z = true := hw _ (List.mem_of_getElem? (i := 19) rfl)
theorem tw20 {Z : State} {a0 : Array Value} (hw : ∀ d ∈ tables_1, d.before a0 Z = true) : (Jvm.Cond.code ({ cls := "java/lang/Object", name := "<init>", desc := "()V" } : Jvm.MethodName) object_method_1_code (1 : Nat) (Option.none : Option Jvm.ClassFile.FieldType)).before a0 Z = true := hw _ (List.mem_of_getElem? (i := 20) rfl)
theorem tw21 {Z : State} {a0 : Array Value} (hw : ∀ d ∈ tables_1, d.before a0 Z = true) : (Jvm.Cond.fieldLink "java/lang/String" (38 : Nat) "java/lang/String" "COMPACT_STRINGS" "Z").before a0 Z = true := hw _ (List.mem_of_getElem? (i := 21) rfl)
theorem tw22 {Z : State} {a0 : Array Value} (hw : ∀ d ∈ tables_1, d.before a0 Z = true) : (Jvm.Cond.methodLink "java/lang/String" (177 : Nat) ({ cls := "java/lang/StringUTF16", name := "compress", desc := "([CII)[B" } : Jvm.MethodName)).before a0 Z = true := hw _ (List.mem_of_getElem? (i := 22) rfl)
theorem tw23 {Z : State} {a0 : Array Value} (hw : ∀ d ∈ tables_1, d.before a0 Z = true) : (Jvm.Cond.static ({ cls := "java/lang/StringUTF16", name := "compress", desc := "([CII)[B" } : Jvm.MethodName)).before a0 Z = true := hw _ (List.mem_of_getElem? (i := 23) rfl)
theorem tw24 {Z : State} {a0 : Array Value} (hw : ∀ d ∈ tables_1, d.before a0 Z = true) : (Jvm.Cond.initialized "java/lang/StringUTF16").before a0 Z = true := hw _ (List.mem_of_getElem? (i := 24) rfl)
theorem tw25 {Z : State} {a0 : Array Value} (hw : ∀ d ∈ tables_1, d.before a0 Z = true) : (Jvm.Cond.code ({ cls := "java/lang/StringUTF16", name := "compress", desc := "([CII)[B" } : Jvm.MethodName) jdk_52_method_16_code (6 : Nat) (Option.some (Jvm.ClassFile.FieldType.array Jvm.ClassFile.FieldType.byte))).before a0 Z = true := hw _ (List.mem_of_getElem? (i := 25) rfl)
theorem tw26 {Z : State} {a0 : Array Value} (hw : ∀ d ∈ tables_1, d.before a0 Z = true) : (Jvm.Cond.arrayClass Jvm.ClassFile.FieldType.byte).before a0 Z = true := hw _ (List.mem_of_getElem? (i := 26) rfl)
theorem tw27 {Z : State} {a0 : Array Value} (hw : ∀ d ∈ tables_1, d.before a0 Z = true) : (Jvm.Cond.methodLink "java/lang/StringUTF16" (115 : Nat) ({ cls := "java/lang/StringUTF16", name := "compress", desc := "([CI[BII)I" } : Jvm.MethodName)).before a0 Z = true := hw _ (List.mem_of_getElem? (i := 27) rfl)
theorem tw28 {Z : State} {a0 : Array Value} (hw : ∀ d ∈ tables_1, d.before a0 Z = true) : (Jvm.Cond.static ({ cls := "java/lang/StringUTF16", name := "compress", desc := "([CI[BII)I" } : Jvm.MethodName)).before a0 Z = true := hw _ (List.mem_of_getElem? (i := 28) rfl)
theorem tw29 {Z : State} {a0 : Array Value} (hw : ∀ d ∈ tables_1, d.before a0 Z = true) : (Jvm.Cond.code ({ cls := "java/lang/StringUTF16", name := "compress", desc := "([CI[BII)I" } : Jvm.MethodName) jdk_52_method_21_code (7 : Nat) (Option.some Jvm.ClassFile.FieldType.int)).before a0 Z = true := hw _ (List.mem_of_getElem? (i := 29) rfl)
theorem tw30 {Z : State} {a0 : Array Value} (hw : ∀ d ∈ tables_1, d.before a0 Z = true) : (Jvm.Cond.methodLink "java/lang/String" (47 : Nat) ({ cls := "java/lang/StringUTF16", name := "coderFromArrayLen", desc := "([BI)B" } : Jvm.MethodName)).before a0 Z = true := hw _ (List.mem_of_getElem? (i := 30) rfl)
theorem tw31 {Z : State} {a0 : Array Value} (hw : ∀ d ∈ tables_1, d.before a0 Z = true) : (Jvm.Cond.static ({ cls := "java/lang/StringUTF16", name := "coderFromArrayLen", desc := "([BI)B" } : Jvm.MethodName)).before a0 Z = true := hw _ (List.mem_of_getElem? (i := 31) rfl)
theorem tw32 {Z : State} {a0 : Array Value} (hw : ∀ d ∈ tables_1, d.before a0 Z = true) : (Jvm.Cond.code ({ cls := "java/lang/StringUTF16", name := "coderFromArrayLen", desc := "([BI)B" } : Jvm.MethodName) jdk_52_method_15_code (2 : Nat) (Option.some Jvm.ClassFile.FieldType.byte)).before a0 Z = true := hw _ (List.mem_of_getElem? (i := 32) rfl)
theorem tw33 {Z : State} {a0 : Array Value} (hw : ∀ d ∈ tables_1, d.before a0 Z = true) : (Jvm.Cond.fieldLink "java/lang/String" (15 : Nat) "java/lang/String" "coder" "B").before a0 Z = true := hw _ (List.mem_of_getElem? (i := 33) rfl)
theorem tw34 {Z : State} {a0 : Array Value} (hw : ∀ d ∈ tables_1, d.before a0 Z = true) : (Jvm.Cond.laysFinal "java/lang/String" "java/lang/String" "coder" "B").before a0 Z = true := hw _ (List.mem_of_getElem? (i := 34) rfl)
theorem tw35 {Z : State} {a0 : Array Value} (hw : ∀ d ∈ tables_1, d.before a0 Z = true) : (Jvm.Cond.fieldLink "java/lang/String" (9 : Nat) "java/lang/String" "value" "[B").before a0 Z = true := hw _ (List.mem_of_getElem? (i := 35) rfl)
theorem tw36 {Z : State} {a0 : Array Value} (hw : ∀ d ∈ tables_1, d.before a0 Z = true) : (Jvm.Cond.laysFinal "java/lang/String" "java/lang/String" "value" "[B").before a0 Z = true := hw _ (List.mem_of_getElem? (i := 36) rfl)
theorem tw37 {Z : State} {a0 : Array Value} (hw : ∀ d ∈ tables_1, d.before a0 Z = true) : (Jvm.Cond.stringLink "java/lang/String" (7 : Nat) "").before a0 Z = true := hw _ (List.mem_of_getElem? (i := 37) rfl)
theorem tw40 {Z : State} {a0 : Array Value} (hw : ∀ d ∈ tables_1, d.before a0 Z = true) : (Jvm.Cond.classLink "org/wardchain/web/AuthorizationHeaderHasSchemePinLaw" (17 : Nat) "org/wardchain/web/AuthorizationHeader").before a0 Z = true := hw _ (List.mem_of_getElem? (i := 40) rfl)
theorem tw41 {Z : State} {a0 : Array Value} (hw : ∀ d ∈ tables_1, d.before a0 Z = true) : (Jvm.Cond.instantiable "org/wardchain/web/AuthorizationHeader" (2 : Nat)).before a0 Z = true := hw _ (List.mem_of_getElem? (i := 41) rfl)
theorem tw42 {Z : State} {a0 : Array Value} (hw : ∀ d ∈ tables_1, d.before a0 Z = true) : (Jvm.Cond.initialized "org/wardchain/web/AuthorizationHeader").before a0 Z = true := hw _ (List.mem_of_getElem? (i := 42) rfl)
theorem tw43 {Z : State} {a0 : Array Value} (hw : ∀ d ∈ tables_1, d.before a0 Z = true) : (Jvm.Cond.stringLink "org/wardchain/web/AuthorizationHeaderHasSchemePinLaw" (19 : Nat) "").before a0 Z = true := hw _ (List.mem_of_getElem? (i := 43) rfl)
theorem tw44 {Z : State} {a0 : Array Value} (hw : ∀ d ∈ tables_1, d.before a0 Z = true) : (Jvm.Cond.methodLink "org/wardchain/web/AuthorizationHeaderHasSchemePinLaw" (21 : Nat) ({ cls := "org/wardchain/web/AuthorizationHeader", name := "<init>", desc := "(Ljava/lang/String;Ljava/lang/String;)V" } : Jvm.MethodName)).before a0 Z = true := hw _ (List.mem_of_getElem? (i := 44) rfl)
theorem tw45 {Z : State} {a0 : Array Value} (hw : ∀ d ∈ tables_1, d.before a0 Z = true) : (Jvm.Cond.instanceMethod ({ cls := "org/wardchain/web/AuthorizationHeader", name := "<init>", desc := "(Ljava/lang/String;Ljava/lang/String;)V" } : Jvm.MethodName)).before a0 Z = true := hw _ (List.mem_of_getElem? (i := 45) rfl)
theorem tw46 {Z : State} {a0 : Array Value} (hw : ∀ d ∈ tables_1, d.before a0 Z = true) : (Jvm.Cond.code ({ cls := "org/wardchain/web/AuthorizationHeader", name := "<init>", desc := "(Ljava/lang/String;Ljava/lang/String;)V" } : Jvm.MethodName) prog_65_method_1_code (3 : Nat) (Option.none : Option Jvm.ClassFile.FieldType)).before a0 Z = true := hw _ (List.mem_of_getElem? (i := 46) rfl)
theorem tw47 {Z : State} {a0 : Array Value} (hw : ∀ d ∈ tables_1, d.before a0 Z = true) : (Jvm.Cond.methodLink "org/wardchain/web/AuthorizationHeader" (1 : Nat) ({ cls := "java/lang/Record", name := "<init>", desc := "()V" } : Jvm.MethodName)).before a0 Z = true := hw _ (List.mem_of_getElem? (i := 47) rfl)
theorem tw48 {Z : State} {a0 : Array Value} (hw : ∀ d ∈ tables_1, d.before a0 Z = true) : (Jvm.Cond.instanceMethod ({ cls := "java/lang/Record", name := "<init>", desc := "()V" } : Jvm.MethodName)).before a0 Z = true := hw _ (List.mem_of_getElem? (i := 48) rfl)
theorem tw50 {Z : State} {a0 : Array Value} (hw : ∀ d ∈ tables_1, d.before a0 Z = true) : (Jvm.Cond.initialized "java/lang/Record").before a0 Z = true := hw _ (List.mem_of_getElem? (i := 50) rfl)
theorem tw51 {Z : State} {a0 : Array Value} (hw : ∀ d ∈ tables_1, d.before a0 Z = true) : (Jvm.Cond.code ({ cls := "java/lang/Record", name := "<init>", desc := "()V" } : Jvm.MethodName) jdk_30_method_1_code (1 : Nat) (Option.none : Option Jvm.ClassFile.FieldType)).before a0 Z = true := hw _ (List.mem_of_getElem? (i := 51) rfl)
theorem tw52 {Z : State} {a0 : Array Value} (hw : ∀ d ∈ tables_1, d.before a0 Z = true) : (Jvm.Cond.methodLink "java/lang/Record" (1 : Nat) ({ cls := "java/lang/Object", name := "<init>", desc := "()V" } : Jvm.MethodName)).before a0 Z = true := hw _ (List.mem_of_getElem? (i := 52) rfl)
theorem tw53 {Z : State} {a0 : Array Value} (hw : ∀ d ∈ tables_1, d.before a0 Z = true) : (Jvm.Cond.fieldLink "org/wardchain/web/AuthorizationHeader" (7 : Nat) "org/wardchain/web/AuthorizationHeader" "scheme" "Ljava/lang/String;").before a0 Z = true := hw _ (List.mem_of_getElem? (i := 53) rfl)
theorem tw54 {Z : State} {a0 : Array Value} (hw : ∀ d ∈ tables_1, d.before a0 Z = true) : (Jvm.Cond.laysFinal "org/wardchain/web/AuthorizationHeader" "org/wardchain/web/AuthorizationHeader" "scheme" "Ljava/lang/String;").before a0 Z = true := hw _ (List.mem_of_getElem? (i := 54) rfl)
theorem tw55 {Z : State} {a0 : Array Value} (hw : ∀ d ∈ tables_1, d.before a0 Z = true) : (Jvm.Cond.fieldLink "org/wardchain/web/AuthorizationHeader" (13 : Nat) "org/wardchain/web/AuthorizationHeader" "credentials" "Ljava/lang/String;").before a0 Z = true := hw _ (List.mem_of_getElem? (i := 55) rfl)
theorem tw56 {Z : State} {a0 : Array Value} (hw : ∀ d ∈ tables_1, d.before a0 Z = true) : (Jvm.Cond.laysFinal "org/wardchain/web/AuthorizationHeader" "org/wardchain/web/AuthorizationHeader" "credentials" "Ljava/lang/String;").before a0 Z = true := hw _ (List.mem_of_getElem? (i := 56) rfl)
theorem tw57 {Z : State} {a0 : Array Value} (hw : ∀ d ∈ tables_1, d.before a0 Z = true) : (Jvm.Cond.methodLink "org/wardchain/web/AuthorizationHeaderHasSchemePinLaw" (24 : Nat) ({ cls := "org/wardchain/web/AuthorizationHeader", name := "hasScheme", desc := "(Ljava/lang/String;)Z" } : Jvm.MethodName)).before a0 Z = true := hw _ (List.mem_of_getElem? (i := 57) rfl)
theorem tw58 {Z : State} {a0 : Array Value} (hw : ∀ d ∈ tables_1, d.before a0 Z = true) : (Jvm.Cond.declares ({ cls := "org/wardchain/web/AuthorizationHeader", name := "hasScheme", desc := "(Ljava/lang/String;)Z" } : Jvm.MethodName)).before a0 Z = true := hw _ (List.mem_of_getElem? (i := 58) rfl)
theorem tw59 {Z : State} {a0 : Array Value} (hw : ∀ d ∈ tables_1, d.before a0 Z = true) : (Jvm.Cond.instanceMethod ({ cls := "org/wardchain/web/AuthorizationHeader", name := "hasScheme", desc := "(Ljava/lang/String;)Z" } : Jvm.MethodName)).before a0 Z = true := hw _ (List.mem_of_getElem? (i := 59) rfl)
theorem tw60 {Z : State} {a0 : Array Value} (hw : ∀ d ∈ tables_1, d.before a0 Z = true) : (Jvm.Cond.selects "org/wardchain/web/AuthorizationHeader" ({ cls := "org/wardchain/web/AuthorizationHeader", name := "hasScheme", desc := "(Ljava/lang/String;)Z" } : Jvm.MethodName) ({ cls := "org/wardchain/web/AuthorizationHeader", name := "hasScheme", desc := "(Ljava/lang/String;)Z" } : Jvm.MethodName)).before a0 Z = true := hw _ (List.mem_of_getElem? (i := 60) rfl)
theorem tw61 {Z : State} {a0 : Array Value} (hw : ∀ d ∈ tables_1, d.before a0 Z = true) : (Jvm.Cond.code ({ cls := "org/wardchain/web/AuthorizationHeader", name := "hasScheme", desc := "(Ljava/lang/String;)Z" } : Jvm.MethodName) prog_65_method_3_code (2 : Nat) (Option.some Jvm.ClassFile.FieldType.boolean)).before a0 Z = true := hw _ (List.mem_of_getElem? (i := 61) rfl)
theorem tw62 {Z : State} {a0 : Array Value} (hw : ∀ d ∈ tables_1, d.before a0 Z = true) : (Jvm.Cond.methodLink "org/wardchain/web/AuthorizationHeader" (38 : Nat) ({ cls := "java/lang/String", name := "equals", desc := "(Ljava/lang/Object;)Z" } : Jvm.MethodName)).before a0 Z = true := hw _ (List.mem_of_getElem? (i := 62) rfl)
theorem tw63 {Z : State} {a0 : Array Value} (hw : ∀ d ∈ tables_1, d.before a0 Z = true) : (Jvm.Cond.declares ({ cls := "java/lang/String", name := "equals", desc := "(Ljava/lang/Object;)Z" } : Jvm.MethodName)).before a0 Z = true := hw _ (List.mem_of_getElem? (i := 63) rfl)
theorem tw64 {Z : State} {a0 : Array Value} (hw : ∀ d ∈ tables_1, d.before a0 Z = true) : (Jvm.Cond.instanceMethod ({ cls := "java/lang/String", name := "equals", desc := "(Ljava/lang/Object;)Z" } : Jvm.MethodName)).before a0 Z = true := hw _ (List.mem_of_getElem? (i := 64) rfl)
theorem tw65 {Z : State} {a0 : Array Value} (hw : ∀ d ∈ tables_1, d.before a0 Z = true) : (Jvm.Cond.selects "java/lang/String" ({ cls := "java/lang/String", name := "equals", desc := "(Ljava/lang/Object;)Z" } : Jvm.MethodName) ({ cls := "java/lang/String", name := "equals", desc := "(Ljava/lang/Object;)Z" } : Jvm.MethodName)).before a0 Z = true := hw _ (List.mem_of_getElem? (i := 65) rfl)
theorem tw66 {Z : State} {a0 : Array Value} (hw : ∀ d ∈ tables_1, d.before a0 Z = true) : (Jvm.Cond.code ({ cls := "java/lang/String", name := "equals", desc := "(Ljava/lang/Object;)Z" } : Jvm.MethodName) jdk_42_method_66_code (3 : Nat) (Option.some Jvm.ClassFile.FieldType.boolean)).before a0 Z = true := hw _ (List.mem_of_getElem? (i := 66) rfl)
theorem tw67 {Z : State} {a0 : Array Value} (hw : ∀ d ∈ tables_1, d.before a0 Z = true) : (Jvm.Cond.classLink "java/lang/String" (10 : Nat) "java/lang/String").before a0 Z = true := hw _ (List.mem_of_getElem? (i := 67) rfl)
theorem tw68 {Z : State} {a0 : Array Value} (hw : ∀ d ∈ tables_1, d.before a0 Z = true) : (Jvm.Cond.methodLink "java/lang/String" (541 : Nat) ({ cls := "java/lang/StringLatin1", name := "equals", desc := "([B[B)Z" } : Jvm.MethodName)).before a0 Z = true := hw _ (List.mem_of_getElem? (i := 68) rfl)
theorem tw69 {Z : State} {a0 : Array Value} (hw : ∀ d ∈ tables_1, d.before a0 Z = true) : (Jvm.Cond.static ({ cls := "java/lang/StringLatin1", name := "equals", desc := "([B[B)Z" } : Jvm.MethodName)).before a0 Z = true := hw _ (List.mem_of_getElem? (i := 69) rfl)
theorem tw70 {Z : State} {a0 : Array Value} (hw : ∀ d ∈ tables_1, d.before a0 Z = true) : (Jvm.Cond.initialized "java/lang/StringLatin1").before a0 Z = true := hw _ (List.mem_of_getElem? (i := 70) rfl)
theorem tw71 {Z : State} {a0 : Array Value} (hw : ∀ d ∈ tables_1, d.before a0 Z = true) : (Jvm.Cond.code ({ cls := "java/lang/StringLatin1", name := "equals", desc := "([B[B)Z" } : Jvm.MethodName) jdk_43_method_13_code (3 : Nat) (Option.some Jvm.ClassFile.FieldType.boolean)).before a0 Z = true := hw _ (List.mem_of_getElem? (i := 71) rfl)
theorem tw72 {Z : State} {a0 : Array Value} (hw : ∀ d ∈ tables_1, d.before a0 Z = true) : (Jvm.Cond.fieldLink "org/wardchain/web/AuthorizationHeader" (42 : Nat) "java/util/Locale" "ROOT" "Ljava/util/Locale;").before a0 Z = true := hw _ (List.mem_of_getElem? (i := 72) rfl)
theorem tw73 {Z : State} {a0 : Array Value} (hw : ∀ d ∈ tables_1, d.before a0 Z = true) : (Jvm.Cond.initialized "java/util/Locale").before a0 Z = true := hw _ (List.mem_of_getElem? (i := 73) rfl)
theorem tw74 {Z : State} {a0 : Array Value} (hw : ∀ d ∈ tables_1, d.before a0 Z = true) : (Jvm.Cond.methodLink "org/wardchain/web/AuthorizationHeader" (48 : Nat) ({ cls := "java/lang/String", name := "toLowerCase", desc := "(Ljava/util/Locale;)Ljava/lang/String;" } : Jvm.MethodName)).before a0 Z = true := hw _ (List.mem_of_getElem? (i := 74) rfl)
theorem tw75 {Z : State} {a0 : Array Value} (hw : ∀ d ∈ tables_1, d.before a0 Z = true) : (Jvm.Cond.declares ({ cls := "java/lang/String", name := "toLowerCase", desc := "(Ljava/util/Locale;)Ljava/lang/String;" } : Jvm.MethodName)).before a0 Z = true := hw _ (List.mem_of_getElem? (i := 75) rfl)
theorem tw76 {Z : State} {a0 : Array Value} (hw : ∀ d ∈ tables_1, d.before a0 Z = true) : (Jvm.Cond.instanceMethod ({ cls := "java/lang/String", name := "toLowerCase", desc := "(Ljava/util/Locale;)Ljava/lang/String;" } : Jvm.MethodName)).before a0 Z = true := hw _ (List.mem_of_getElem? (i := 76) rfl)
theorem tw77 {Z : State} {a0 : Array Value} (hw : ∀ d ∈ tables_1, d.before a0 Z = true) : (Jvm.Cond.selects "java/lang/String" ({ cls := "java/lang/String", name := "toLowerCase", desc := "(Ljava/util/Locale;)Ljava/lang/String;" } : Jvm.MethodName) ({ cls := "java/lang/String", name := "toLowerCase", desc := "(Ljava/util/Locale;)Ljava/lang/String;" } : Jvm.MethodName)).before a0 Z = true := hw _ (List.mem_of_getElem? (i := 77) rfl)
theorem tw78 {Z : State} {a0 : Array Value} (hw : ∀ d ∈ tables_1, d.before a0 Z = true) : (Jvm.Cond.code ({ cls := "java/lang/String", name := "toLowerCase", desc := "(Ljava/util/Locale;)Ljava/lang/String;" } : Jvm.MethodName) jdk_42_method_109_code (2 : Nat) (Option.some (Jvm.ClassFile.FieldType.object "java/lang/String"))).before a0 Z = true := hw _ (List.mem_of_getElem? (i := 78) rfl)
theorem tw79 {Z : State} {a0 : Array Value} (hw : ∀ d ∈ tables_1, d.before a0 Z = true) : (Jvm.Cond.methodLink "java/lang/String" (492 : Nat) ({ cls := "java/lang/String", name := "isLatin1", desc := "()Z" } : Jvm.MethodName)).before a0 Z = true := hw _ (List.mem_of_getElem? (i := 79) rfl)
theorem tw80 {Z : State} {a0 : Array Value} (hw : ∀ d ∈ tables_1, d.before a0 Z = true) : (Jvm.Cond.declares ({ cls := "java/lang/String", name := "isLatin1", desc := "()Z" } : Jvm.MethodName)).before a0 Z = true := hw _ (List.mem_of_getElem? (i := 80) rfl)
theorem tw81 {Z : State} {a0 : Array Value} (hw : ∀ d ∈ tables_1, d.before a0 Z = true) : (Jvm.Cond.instanceMethod ({ cls := "java/lang/String", name := "isLatin1", desc := "()Z" } : Jvm.MethodName)).before a0 Z = true := hw _ (List.mem_of_getElem? (i := 81) rfl)
theorem tw82 {Z : State} {a0 : Array Value} (hw : ∀ d ∈ tables_1, d.before a0 Z = true) : (Jvm.Cond.selects "java/lang/String" ({ cls := "java/lang/String", name := "isLatin1", desc := "()Z" } : Jvm.MethodName) ({ cls := "java/lang/String", name := "isLatin1", desc := "()Z" } : Jvm.MethodName)).before a0 Z = true := hw _ (List.mem_of_getElem? (i := 82) rfl)
theorem tw83 {Z : State} {a0 : Array Value} (hw : ∀ d ∈ tables_1, d.before a0 Z = true) : (Jvm.Cond.code ({ cls := "java/lang/String", name := "isLatin1", desc := "()Z" } : Jvm.MethodName) jdk_42_method_154_code (1 : Nat) (Option.some Jvm.ClassFile.FieldType.boolean)).before a0 Z = true := hw _ (List.mem_of_getElem? (i := 83) rfl)
theorem tw84 {Z : State} {a0 : Array Value} (hw : ∀ d ∈ tables_1, d.before a0 Z = true) : (Jvm.Cond.methodLink "java/lang/String" (839 : Nat) ({ cls := "java/lang/StringLatin1", name := "toLowerCase", desc := "(Ljava/lang/String;[BLjava/util/Locale;)Ljava/lang/String;" } : Jvm.MethodName)).before a0 Z = true := hw _ (List.mem_of_getElem? (i := 84) rfl)
theorem tw85 {Z : State} {a0 : Array Value} (hw : ∀ d ∈ tables_1, d.before a0 Z = true) : (Jvm.Cond.static ({ cls := "java/lang/StringLatin1", name := "toLowerCase", desc := "(Ljava/lang/String;[BLjava/util/Locale;)Ljava/lang/String;" } : Jvm.MethodName)).before a0 Z = true := hw _ (List.mem_of_getElem? (i := 85) rfl)
theorem tw86 {Z : State} {a0 : Array Value} (hw : ∀ d ∈ tables_1, d.before a0 Z = true) : (Jvm.Cond.code ({ cls := "java/lang/StringLatin1", name := "toLowerCase", desc := "(Ljava/lang/String;[BLjava/util/Locale;)Ljava/lang/String;" } : Jvm.MethodName) jdk_43_method_32_code (9 : Nat) (Option.some (Jvm.ClassFile.FieldType.object "java/lang/String"))).before a0 Z = true := hw _ (List.mem_of_getElem? (i := 86) rfl)
theorem tw87 {Z : State} {a0 : Array Value} (hw : ∀ d ∈ tables_1, d.before a0 Z = true) : (Jvm.Cond.fieldLink "java/lang/StringLatin1" (66 : Nat) "java/lang/CharacterDataLatin1" "instance" "Ljava/lang/CharacterDataLatin1;").before a0 Z = true := hw _ (List.mem_of_getElem? (i := 87) rfl)
theorem tw88 {Z : State} {a0 : Array Value} (hw : ∀ d ∈ tables_1, d.before a0 Z = true) : (Jvm.Cond.initialized "java/lang/CharacterDataLatin1").before a0 Z = true := hw _ (List.mem_of_getElem? (i := 88) rfl)
theorem tw89 {Z : State} {a0 : Array Value} (hw : ∀ d ∈ tables_1, d.before a0 Z = true) : (Jvm.Cond.methodLink "java/lang/StringLatin1" (160 : Nat) ({ cls := "java/lang/CharacterDataLatin1", name := "toLowerCase", desc := "(I)I" } : Jvm.MethodName)).before a0 Z = true := hw _ (List.mem_of_getElem? (i := 89) rfl)
theorem tw90 {Z : State} {a0 : Array Value} (hw : ∀ d ∈ tables_1, d.before a0 Z = true) : (Jvm.Cond.declares ({ cls := "java/lang/CharacterDataLatin1", name := "toLowerCase", desc := "(I)I" } : Jvm.MethodName)).before a0 Z = true := hw _ (List.mem_of_getElem? (i := 90) rfl)
theorem tw91 {Z : State} {a0 : Array Value} (hw : ∀ d ∈ tables_1, d.before a0 Z = true) : (Jvm.Cond.instanceMethod ({ cls := "java/lang/CharacterDataLatin1", name := "toLowerCase", desc := "(I)I" } : Jvm.MethodName)).before a0 Z = true := hw _ (List.mem_of_getElem? (i := 91) rfl)
theorem tw92 {Z : State} {a0 : Array Value} (hw : ∀ d ∈ tables_1, d.before a0 Z = true) : (Jvm.Cond.selects "java/lang/CharacterDataLatin1" ({ cls := "java/lang/CharacterDataLatin1", name := "toLowerCase", desc := "(I)I" } : Jvm.MethodName) ({ cls := "java/lang/CharacterDataLatin1", name := "toLowerCase", desc := "(I)I" } : Jvm.MethodName)).before a0 Z = true := hw _ (List.mem_of_getElem? (i := 92) rfl)
theorem tw93 {Z : State} {a0 : Array Value} (hw : ∀ d ∈ tables_1, d.before a0 Z = true) : (Jvm.Cond.code ({ cls := "java/lang/CharacterDataLatin1", name := "toLowerCase", desc := "(I)I" } : Jvm.MethodName) jdk_116_method_20_code (3 : Nat) (Option.some Jvm.ClassFile.FieldType.int)).before a0 Z = true := hw _ (List.mem_of_getElem? (i := 93) rfl)
theorem tw94 {Z : State} {a0 : Array Value} (hw : ∀ d ∈ tables_1, d.before a0 Z = true) : (Jvm.Cond.methodLink "org/wardchain/web/AuthorizationHeaderHasSchemePinLaw" (43 : Nat) ({ cls := "org/wardchain/web/AuthorizationHeaderHasSchemePinLaw", name := "flip", desc := "(C)C" } : Jvm.MethodName)).before a0 Z = true := hw _ (List.mem_of_getElem? (i := 94) rfl)
theorem tw95 {Z : State} {a0 : Array Value} (hw : ∀ d ∈ tables_1, d.before a0 Z = true) : (Jvm.Cond.static ({ cls := "org/wardchain/web/AuthorizationHeaderHasSchemePinLaw", name := "flip", desc := "(C)C" } : Jvm.MethodName)).before a0 Z = true := hw _ (List.mem_of_getElem? (i := 95) rfl)
theorem tw96 {Z : State} {a0 : Array Value} (hw : ∀ d ∈ tables_1, d.before a0 Z = true) : (Jvm.Cond.code ({ cls := "org/wardchain/web/AuthorizationHeaderHasSchemePinLaw", name := "flip", desc := "(C)C" } : Jvm.MethodName) method_7_code (1 : Nat) (Option.some Jvm.ClassFile.FieldType.char)).before a0 Z = true := hw _ (List.mem_of_getElem? (i := 96) rfl)
theorem tw97 {Z : State} {a0 : Array Value} (hw : ∀ d ∈ tables_1, d.before a0 Z = true) : (Jvm.Cond.methodLink "org/wardchain/web/AuthorizationHeaderHasSchemePinLaw" (36 : Nat) ({ cls := "org/wardchain/web/AuthorizationHeaderHasSchemePinLaw", name := "isUpper", desc := "(C)Z" } : Jvm.MethodName)).before a0 Z = true := hw _ (List.mem_of_getElem? (i := 97) rfl)
theorem tw98 {Z : State} {a0 : Array Value} (hw : ∀ d ∈ tables_1, d.before a0 Z = true) : (Jvm.Cond.static ({ cls := "org/wardchain/web/AuthorizationHeaderHasSchemePinLaw", name := "isUpper", desc := "(C)Z" } : Jvm.MethodName)).before a0 Z = true := hw _ (List.mem_of_getElem? (i := 98) rfl)
theorem tw99 {Z : State} {a0 : Array Value} (hw : ∀ d ∈ tables_1, d.before a0 Z = true) : (Jvm.Cond.code ({ cls := "org/wardchain/web/AuthorizationHeaderHasSchemePinLaw", name := "isUpper", desc := "(C)Z" } : Jvm.MethodName) method_4_code (1 : Nat) (Option.some Jvm.ClassFile.FieldType.boolean)).before a0 Z = true := hw _ (List.mem_of_getElem? (i := 99) rfl)
theorem tw100 {Z : State} {a0 : Array Value} (hw : ∀ d ∈ tables_1, d.before a0 Z = true) : (Jvm.Cond.methodLink "org/wardchain/web/AuthorizationHeaderHasSchemePinLaw" (40 : Nat) ({ cls := "org/wardchain/web/AuthorizationHeaderHasSchemePinLaw", name := "isLower", desc := "(C)Z" } : Jvm.MethodName)).before a0 Z = true := hw _ (List.mem_of_getElem? (i := 100) rfl)
theorem tw101 {Z : State} {a0 : Array Value} (hw : ∀ d ∈ tables_1, d.before a0 Z = true) : (Jvm.Cond.static ({ cls := "org/wardchain/web/AuthorizationHeaderHasSchemePinLaw", name := "isLower", desc := "(C)Z" } : Jvm.MethodName)).before a0 Z = true := hw _ (List.mem_of_getElem? (i := 101) rfl)
theorem tw102 {Z : State} {a0 : Array Value} (hw : ∀ d ∈ tables_1, d.before a0 Z = true) : (Jvm.Cond.code ({ cls := "org/wardchain/web/AuthorizationHeaderHasSchemePinLaw", name := "isLower", desc := "(C)Z" } : Jvm.MethodName) method_5_code (1 : Nat) (Option.some Jvm.ClassFile.FieldType.boolean)).before a0 Z = true := hw _ (List.mem_of_getElem? (i := 102) rfl)
theorem tw103 {Z : State} {a0 : Array Value} (hw : ∀ d ∈ tables_1, d.before a0 Z = true) : (Jvm.Cond.methodLink "org/wardchain/web/AuthorizationHeaderHasSchemePinLaw" (28 : Nat) ({ cls := "org/wardchain/web/AuthorizationHeaderHasSchemePinLaw", name := "same", desc := "(CCII)Z" } : Jvm.MethodName)).before a0 Z = true := hw _ (List.mem_of_getElem? (i := 103) rfl)
theorem tw104 {Z : State} {a0 : Array Value} (hw : ∀ d ∈ tables_1, d.before a0 Z = true) : (Jvm.Cond.static ({ cls := "org/wardchain/web/AuthorizationHeaderHasSchemePinLaw", name := "same", desc := "(CCII)Z" } : Jvm.MethodName)).before a0 Z = true := hw _ (List.mem_of_getElem? (i := 104) rfl)
theorem tw105 {Z : State} {a0 : Array Value} (hw : ∀ d ∈ tables_1, d.before a0 Z = true) : (Jvm.Cond.code ({ cls := "org/wardchain/web/AuthorizationHeaderHasSchemePinLaw", name := "same", desc := "(CCII)Z" } : Jvm.MethodName) method_3_code (4 : Nat) (Option.some Jvm.ClassFile.FieldType.boolean)).before a0 Z = true := hw _ (List.mem_of_getElem? (i := 105) rfl)
theorem tw106 {Z : State} {a0 : Array Value} (hw : ∀ d ∈ tables_1, d.before a0 Z = true) : (Jvm.Cond.methodLink "org/wardchain/web/AuthorizationHeaderHasSchemePinLaw" (32 : Nat) ({ cls := "org/wardchain/web/AuthorizationHeaderHasSchemePinLaw", name := "lower", desc := "(C)C" } : Jvm.MethodName)).before a0 Z = true := hw _ (List.mem_of_getElem? (i := 106) rfl)
theorem tw107 {Z : State} {a0 : Array Value} (hw : ∀ d ∈ tables_1, d.before a0 Z = true) : (Jvm.Cond.static ({ cls := "org/wardchain/web/AuthorizationHeaderHasSchemePinLaw", name := "lower", desc := "(C)C" } : Jvm.MethodName)).before a0 Z = true := hw _ (List.mem_of_getElem? (i := 107) rfl)
theorem tw108 {Z : State} {a0 : Array Value} (hw : ∀ d ∈ tables_1, d.before a0 Z = true) : (Jvm.Cond.code ({ cls := "org/wardchain/web/AuthorizationHeaderHasSchemePinLaw", name := "lower", desc := "(C)C" } : Jvm.MethodName) method_6_code (1 : Nat) (Option.some Jvm.ClassFile.FieldType.char)).before a0 Z = true := hw _ (List.mem_of_getElem? (i := 108) rfl)
theorem tw109 {Z : State} {a0 : Array Value} (hw : ∀ d ∈ tables_1, d.before a0 Z = true) : (Jvm.Cond.methodLink "java/lang/StringLatin1" (162 : Nat) ({ cls := "java/util/Locale", name := "getLanguage", desc := "()Ljava/lang/String;" } : Jvm.MethodName)).before a0 Z = true := hw _ (List.mem_of_getElem? (i := 109) rfl)
theorem tw110 {Z : State} {a0 : Array Value} (hw : ∀ d ∈ tables_1, d.before a0 Z = true) : (Jvm.Cond.declares ({ cls := "java/util/Locale", name := "getLanguage", desc := "()Ljava/lang/String;" } : Jvm.MethodName)).before a0 Z = true := hw _ (List.mem_of_getElem? (i := 110) rfl)
theorem tw111 {Z : State} {a0 : Array Value} (hw : ∀ d ∈ tables_1, d.before a0 Z = true) : (Jvm.Cond.instanceMethod ({ cls := "java/util/Locale", name := "getLanguage", desc := "()Ljava/lang/String;" } : Jvm.MethodName)).before a0 Z = true := hw _ (List.mem_of_getElem? (i := 111) rfl)
theorem tw112 {Z : State} {a0 : Array Value} (hw : ∀ d ∈ tables_1, d.before a0 Z = true) : (Jvm.Cond.selects "java/util/Locale" ({ cls := "java/util/Locale", name := "getLanguage", desc := "()Ljava/lang/String;" } : Jvm.MethodName) ({ cls := "java/util/Locale", name := "getLanguage", desc := "()Ljava/lang/String;" } : Jvm.MethodName)).before a0 Z = true := hw _ (List.mem_of_getElem? (i := 112) rfl)
theorem tw113 {Z : State} {a0 : Array Value} (hw : ∀ d ∈ tables_1, d.before a0 Z = true) : (Jvm.Cond.code ({ cls := "java/util/Locale", name := "getLanguage", desc := "()Ljava/lang/String;" } : Jvm.MethodName) jdk_2628_method_27_code (1 : Nat) (Option.some (Jvm.ClassFile.FieldType.object "java/lang/String"))).before a0 Z = true := hw _ (List.mem_of_getElem? (i := 113) rfl)
theorem tw114 {Z : State} {a0 : Array Value} (hw : ∀ d ∈ tables_1, d.before a0 Z = true) : (Jvm.Cond.fieldLink "java/util/Locale" (28 : Nat) "java/util/Locale" "baseLocale" "Lsun/util/locale/BaseLocale;").before a0 Z = true := hw _ (List.mem_of_getElem? (i := 114) rfl)
theorem tw116 {Z : State} {a0 : Array Value} (hw : ∀ d ∈ tables_1, d.before a0 Z = true) : (Jvm.Cond.methodLink "java/util/Locale" (293 : Nat) ({ cls := "sun/util/locale/BaseLocale", name := "getLanguage", desc := "()Ljava/lang/String;" } : Jvm.MethodName)).before a0 Z = true := hw _ (List.mem_of_getElem? (i := 116) rfl)
theorem tw117 {Z : State} {a0 : Array Value} (hw : ∀ d ∈ tables_1, d.before a0 Z = true) : (Jvm.Cond.declares ({ cls := "sun/util/locale/BaseLocale", name := "getLanguage", desc := "()Ljava/lang/String;" } : Jvm.MethodName)).before a0 Z = true := hw _ (List.mem_of_getElem? (i := 117) rfl)
theorem tw118 {Z : State} {a0 : Array Value} (hw : ∀ d ∈ tables_1, d.before a0 Z = true) : (Jvm.Cond.instanceMethod ({ cls := "sun/util/locale/BaseLocale", name := "getLanguage", desc := "()Ljava/lang/String;" } : Jvm.MethodName)).before a0 Z = true := hw _ (List.mem_of_getElem? (i := 118) rfl)
theorem tw119 {Z : State} {a0 : Array Value} (hw : ∀ d ∈ tables_1, d.before a0 Z = true) : (Jvm.Cond.selects "sun/util/locale/BaseLocale" ({ cls := "sun/util/locale/BaseLocale", name := "getLanguage", desc := "()Ljava/lang/String;" } : Jvm.MethodName) ({ cls := "sun/util/locale/BaseLocale", name := "getLanguage", desc := "()Ljava/lang/String;" } : Jvm.MethodName)).before a0 Z = true := hw _ (List.mem_of_getElem? (i := 119) rfl)
theorem tw120 {Z : State} {a0 : Array Value} (hw : ∀ d ∈ tables_1, d.before a0 Z = true) : (Jvm.Cond.initialized "sun/util/locale/BaseLocale").before a0 Z = true := hw _ (List.mem_of_getElem? (i := 120) rfl)
theorem tw121 {Z : State} {a0 : Array Value} (hw : ∀ d ∈ tables_1, d.before a0 Z = true) : (Jvm.Cond.code ({ cls := "sun/util/locale/BaseLocale", name := "getLanguage", desc := "()Ljava/lang/String;" } : Jvm.MethodName) jdk_3003_method_5_code (1 : Nat) (Option.some (Jvm.ClassFile.FieldType.object "java/lang/String"))).before a0 Z = true := hw _ (List.mem_of_getElem? (i := 121) rfl)
theorem tw122 {Z : State} {a0 : Array Value} (hw : ∀ d ∈ tables_1, d.before a0 Z = true) : (Jvm.Cond.fieldLink "sun/util/locale/BaseLocale" (19 : Nat) "sun/util/locale/BaseLocale" "language" "Ljava/lang/String;").before a0 Z = true := hw _ (List.mem_of_getElem? (i := 122) rfl)
theorem tw124 {Z : State} {a0 : Array Value} (hw : ∀ d ∈ tables_1, d.before a0 Z = true) : (Jvm.Cond.stringLink "java/lang/StringLatin1" (168 : Nat) "tr").before a0 Z = true := hw _ (List.mem_of_getElem? (i := 124) rfl)
theorem tw125 {Z : State} {a0 : Array Value} (hw : ∀ d ∈ tables_1, d.before a0 Z = true) : (Jvm.Cond.stringLink "java/lang/StringLatin1" (170 : Nat) "az").before a0 Z = true := hw _ (List.mem_of_getElem? (i := 125) rfl)
theorem tw126 {Z : State} {a0 : Array Value} (hw : ∀ d ∈ tables_1, d.before a0 Z = true) : (Jvm.Cond.stringLink "java/lang/StringLatin1" (172 : Nat) "lt").before a0 Z = true := hw _ (List.mem_of_getElem? (i := 126) rfl)
theorem tw127 {Z : State} {a0 : Array Value} (hw : ∀ d ∈ tables_1, d.before a0 Z = true) : (Jvm.Cond.methodLink "java/lang/StringLatin1" (28 : Nat) ({ cls := "java/lang/System", name := "arraycopy", desc := "(Ljava/lang/Object;ILjava/lang/Object;II)V" } : Jvm.MethodName)).before a0 Z = true := hw _ (List.mem_of_getElem? (i := 127) rfl)
theorem tw128 {Z : State} {a0 : Array Value} (hw : ∀ d ∈ tables_1, d.before a0 Z = true) : (Jvm.Cond.static ({ cls := "java/lang/System", name := "arraycopy", desc := "(Ljava/lang/Object;ILjava/lang/Object;II)V" } : Jvm.MethodName)).before a0 Z = true := hw _ (List.mem_of_getElem? (i := 128) rfl)
theorem tw129 {Z : State} {a0 : Array Value} (hw : ∀ d ∈ tables_1, d.before a0 Z = true) : (Jvm.Cond.initialized "java/lang/System").before a0 Z = true := hw _ (List.mem_of_getElem? (i := 129) rfl)
theorem tw130 {Z : State} {a0 : Array Value} (hw : ∀ d ∈ tables_1, d.before a0 Z = true) : (Jvm.Cond.native ({ cls := "java/lang/System", name := "arraycopy", desc := "(Ljava/lang/Object;ILjava/lang/Object;II)V" } : Jvm.MethodName)).before a0 Z = true := hw _ (List.mem_of_getElem? (i := 130) rfl)
theorem tw131 {Z : State} {a0 : Array Value} (hw : ∀ d ∈ tables_1, d.before a0 Z = true) : (Jvm.Cond.methodLink "java/lang/StringLatin1" (88 : Nat) ({ cls := "java/lang/StringLatin1", name := "canEncode", desc := "(I)Z" } : Jvm.MethodName)).before a0 Z = true := hw _ (List.mem_of_getElem? (i := 131) rfl)
theorem tw132 {Z : State} {a0 : Array Value} (hw : ∀ d ∈ tables_1, d.before a0 Z = true) : (Jvm.Cond.static ({ cls := "java/lang/StringLatin1", name := "canEncode", desc := "(I)Z" } : Jvm.MethodName)).before a0 Z = true := hw _ (List.mem_of_getElem? (i := 132) rfl)
theorem tw133 {Z : State} {a0 : Array Value} (hw : ∀ d ∈ tables_1, d.before a0 Z = true) : (Jvm.Cond.code ({ cls := "java/lang/StringLatin1", name := "canEncode", desc := "(I)Z" } : Jvm.MethodName) jdk_43_method_4_code (1 : Nat) (Option.some Jvm.ClassFile.FieldType.boolean)).before a0 Z = true := hw _ (List.mem_of_getElem? (i := 133) rfl)
theorem tw134 {Z : State} {a0 : Array Value} (hw : ∀ d ∈ tables_1, d.before a0 Z = true) : (Jvm.Cond.classLink "java/lang/StringLatin1" (1 : Nat) "java/lang/String").before a0 Z = true := hw _ (List.mem_of_getElem? (i := 134) rfl)
theorem tw135 {Z : State} {a0 : Array Value} (hw : ∀ d ∈ tables_1, d.before a0 Z = true) : (Jvm.Cond.methodLink "java/lang/StringLatin1" (112 : Nat) ({ cls := "java/lang/String", name := "<init>", desc := "([BB)V" } : Jvm.MethodName)).before a0 Z = true := hw _ (List.mem_of_getElem? (i := 135) rfl)
theorem tw136 {Z : State} {a0 : Array Value} (hw : ∀ d ∈ tables_1, d.before a0 Z = true) : (Jvm.Cond.instanceMethod ({ cls := "java/lang/String", name := "<init>", desc := "([BB)V" } : Jvm.MethodName)).before a0 Z = true := hw _ (List.mem_of_getElem? (i := 136) rfl)
theorem tw137 {Z : State} {a0 : Array Value} (hw : ∀ d ∈ tables_1, d.before a0 Z = true) : (Jvm.Cond.code ({ cls := "java/lang/String", name := "<init>", desc := "([BB)V" } : Jvm.MethodName) jdk_42_method_151_code (3 : Nat) (Option.none : Option Jvm.ClassFile.FieldType)).before a0 Z = true := hw _ (List.mem_of_getElem? (i := 137) rfl)
open Jvm.Ow (ArI WP Con)
abbrev EL1 : List (String × Nat) := consts_1
abbrev bb : Bool := false
/-- Locale.ROOT and what it holds -/
def LocOk (Z : State) (lc bl lg lv : Nat) : Prop := Sta Z Z.heap "java/util/Locale" "ROOT" "Ljava/util/Locale;" (.ref lc) ∧ Exa Z Z.heap lc "java/util/Locale" ∧ Fld Z Z.heap lc "java/util/Locale" "baseLocale" "Lsun/util/locale/BaseLocale;" (.ref bl) ∧ Exa Z Z.heap bl "sun/util/locale/BaseLocale" ∧ Fld Z Z.heap bl "sun/util/locale/BaseLocale" "language" "Ljava/lang/String;" (.ref lg) ∧ Fld Z Z.heap lg "java/lang/String" "value" "[B" (.ref lv) ∧ ∃ c : Cell, Arr Z Z.heap lv c .byte ∧ c.slots.size = 0
abbrev tRoot : Term := Term.static "java/util/Locale" "ROOT" "Ljava/util/Locale;"
abbrev tBase : Term := Term.field tRoot "java/util/Locale" "baseLocale" "Lsun/util/locale/BaseLocale;"
abbrev tLang : Term := Term.field tBase "sun/util/locale/BaseLocale" "language" "Ljava/lang/String;"
abbrev tLval : Term := Term.field tLang "java/lang/String" "value" "[B"
theorem len_if {t : Term} {args : Array Value} {s : State} {x : Addr} {cl : Cell} (ht : t.eval args s none [] s = some (.ref x)) (ha : s.arrayAt? x = some cl) : (Term.length t).eval args s none [] s = (if cl.slots.size < 2 ^ 31 then some (.int cl.slots.size.toInt32) else none) := by simp [Term.eval, ht, ha]
theorem LocOk.start {Z : State} {a0 : Array Value} (h0 : (Cond.initializedFor "java/util/Locale" "ROOT" "Ljava/util/Locale;").before a0 Z = true) (h1 : (Cond.exactly tRoot "java/util/Locale").before a0 Z = true) (h2 : (Cond.exactly tBase "sun/util/locale/BaseLocale").before a0 Z = true) (h3 : (Cond.exactly tLang "java/lang/String").before a0 Z = true) (h4 : (Cond.arrayOf tLval .byte).before a0 Z = true) (h5 : (Cond.eq (Term.length tLval) (Term.int 0)).before a0 Z = true) : ∃ lc bl lg lv : Nat, LocOk Z lc bl lg lv := by
  obtain ⟨lc, e1⟩ := exa_v (Cond.before_iff.mp h1)
  obtain ⟨bl, e2⟩ := exa_v (Cond.before_iff.mp h2)
  obtain ⟨lg, e3⟩ := exa_v (Cond.before_iff.mp h3)
  obtain ⟨lv, e4⟩ := arr_v (Cond.before_iff.mp h4)
  obtain ⟨c, A⟩ := Arr.start e4 (Cond.before_iff.mp h4)
  refine ⟨lc, bl, lg, lv, Sta.start e1 (Or.inl h0), Exa.start e1 (Cond.before_iff.mp h1), Fld.start ((fld_at e1).symm.trans e2), Exa.start e2 (Cond.before_iff.mp h2), Fld.start ((fld_at e2).symm.trans e3), Fld.start ((fld_at e3).symm.trans e4), c, A, ?_⟩
  have e5 := eqv_i (Term.int_eval (0)) (Cond.before_iff.mp h5)
  have e6 := A.fin (Vm.Alike.refl _)
  have e7 : (if c.slots.size < 2 ^ 31 then some (Value.int c.slots.size.toInt32) else none) = some (.int 0) := by
    exact (len_if e4 e6).symm.trans e5
  split at e7
  · rename_i hl
    have e8 : c.slots.size.toInt32 = 0 := by injection e7 with e7; injection e7
    have e9 := len_toInt hl
    rw [e8] at e9
    have : ((0 : Int32)).toInt = 0 := rfl
    omega
  · cases e7
def CdOk (Z : State) (ci : Nat) : Prop := Sta Z Z.heap "java/lang/CharacterDataLatin1" "instance" "Ljava/lang/CharacterDataLatin1;" (.ref ci) ∧ Exa Z Z.heap ci "java/lang/CharacterDataLatin1"
theorem CdOk.start {Z : State} {a0 : Array Value} (h0 : (Cond.initializedFor "java/lang/CharacterDataLatin1" "instance" "Ljava/lang/CharacterDataLatin1;").before a0 Z = true) (h1 : (Cond.exactly (Term.static "java/lang/CharacterDataLatin1" "instance" "Ljava/lang/CharacterDataLatin1;") "java/lang/CharacterDataLatin1").before a0 Z = true) : ∃ ci : Nat, CdOk Z ci := by
  obtain ⟨ci, e1⟩ := exa_v (Cond.before_iff.mp h1)
  exact ⟨ci, Sta.start e1 (Or.inl h0), Exa.start e1 (Cond.before_iff.mp h1)⟩

def Glob (Z : State) (a0 : Array Value) : Prop := (∀ d ∈ tables_1, d.before a0 Z = true) ∧ (∃ cv : Int32, ¬ cv = 0 ∧ Sta Z Z.heap "java/lang/String" "COMPACT_STRINGS" "Z" (.int cv)) ∧ (∃ lc bl lg lv : Nat, LocOk Z lc bl lg lv) ∧ (∃ ci : Nat, CdOk Z ci)
theorem ewG {Z : State} {a0 : Array Value} (G : Glob Z a0) : EW Z a0 EL1 := EW.cons (tw37 G.1) (by decide) (EW.cons (tw124 G.1) (by decide) (EW.cons (tw125 G.1) (by decide) (EW.cons (tw126 G.1) (by decide) (EW.cons (tw43 G.1) (by decide) EW.nil))))
theorem saG {Z : State} {a0 : Array Value} (G : Glob Z a0) : bb = false → ∀ a ∈ Bundle.stringAtoms, a.before a0 Z = true := fun _ a ha => G.1 a ((by decide +kernel : ∀ a ∈ Bundle.stringAtoms, a ∈ tables_1) a ha)
theorem bbG : bb = true → EL1 = [] := fun q => nomatch q
section StrL
variable {l : Launch} {Z : State} {a0 : Array Value}
abbrev rm0 : Room := { frames := 0, cells := 0, slots := 0, locals := 0 }
set_option maxHeartbeats 4000000 in
theorem con_CL (G : Glob Z a0) (x y : Nat) (xs : List Int32) (h : Heap) (W : List Nat) (X : ArI Z h x .char xs) (Y : ArI Z h y .byte (List.replicate xs.length 0)) (hy : y ∈ W) (hxy : x ≠ y) :
    Ow.Con l Z EL1 bb (⟨"java/lang/StringUTF16", "compress", "([CI[BII)I"⟩ : MethodName) jdk_52_method_21_code 7 (Option.some Jvm.ClassFile.FieldType.int) [] rm0 #[.ref x, .int 0, .ref y, .int 0, .int (Int32.ofNat xs.length)] h W
      (fun v h' W' => v = some (.int (Int32.ofNat (Ow.lead xs))) ∧ Keep h h' [y] ∧ (Ow.lead xs = xs.length → ArI Z h' y .byte (xs.map (nar .byte)))) := by
  refine Ow.Con.intro (a0 := a0) pn_0 (ewG G) (saG G) bbG [.val (.ref x), .val (.int 0), .val (.ref y), .val (.int 0), .val (.int (Int32.ofNat xs.length)), .unset, .unset] (by first | exact Ow.locals_all (by simp [Value.category]) rfl | rfl | (simp [argsToLocals, Value.category]; done)) ?_
  intro p e s m below meth c C hO
  have hN : xs.length < 2 ^ 31 := X.2
  have loop : ∀ (r i : Nat) (h1 : Heap) (o6 : Slot), i + r = xs.length → (∀ j, j < i → (xs.getD j 0).toInt < 256) → Keep h h1 [y] → ArI Z h1 y .byte ((xs.take i).map (nar .byte) ++ List.replicate r 0) → Ow.okS (some o6) = true →
      Ow.WP p l e rm0 s m #[.ref x, .int 0, .ref y, .int 0, .int (Int32.ofNat xs.length)] below meth c Z EL1 bb (fun v h' W' => v = some (.int (Int32.ofNat (Ow.lead xs))) ∧ Keep h h' [y] ∧ (Ow.lead xs = xs.length → ArI Z h' y .byte (xs.map (nar .byte))))
        3 [.val (.ref x), .val (.int (Int32.ofNat i)), .val (.ref y), .val (.int (Int32.ofNat i)), .val (.int (Int32.ofNat xs.length)), .val (.int (Int32.ofNat i)), o6] [] h1 W 0 0 := by
    intro r
    induction r with
    | zero =>
      intro i h1 o6 hi hq K V ho6
      obtain rfl : i = xs.length := by omega
      refine Ow.iload C dCL_3 (pc' := 5) rfl rfl ?_
      refine Ow.iload C dCL_5 (pc' := 7) rfl rfl ?_
      refine Ow.icmpY C 44 dCL_7 (XT.ii_ge_t (by rw [Ow.lt32]; omega)) (by decide) (by decide) ?_
      refine Ow.iload C dCL_44 (pc' := 46) rfl rfl ?_
      have hl : Ow.lead xs = xs.length := Ow.lead_all fun z hz => by
        obtain ⟨j, hj, rfl⟩ := List.mem_iff_getElem.mp hz
        have := hq j hj
        simpa [List.getD_eq_getElem?_getD, hj] using this
      refine Ow.retI C rfl dCL_46 (by first | decide | (dsimp only; omega) | (simp [Value.category]; done) | (simp [Value.category]; omega)) (by first | decide | (dsimp only; omega) | (simp [Value.category]; done) | (simp [Value.category]; omega)) [] (by simp) ⟨by rw [hl], K, fun _ => by simpa using V⟩
    | succ r ih =>
      intro i h1 o6 hi hq K V ho6
      have hlt : i < xs.length := by omega
      have X1 := X.keep K (Ow.nin1 hxy)
      refine Ow.iload C dCL_3 (pc' := 5) rfl rfl ?_
      refine Ow.iload C dCL_5 (pc' := 7) rfl rfl ?_
      refine Ow.icmpN C dCL_7 (pc' := 10) rfl (XT.ii_ge_f (by rw [Ow.lt32, Ow.ofNat_toInt (by omega), Ow.ofNat_toInt hN]; omega)) ?_
      refine Ow.aloadN C dCL_10 (pc' := 11) rfl rfl rfl ?_
      refine Ow.iloadN C dCL_11 (pc' := 12) rfl rfl ?_
      refine Ow.caload C X1 (i := i) (Ow.ofNat_toInt (by omega)) hlt dCL_12 (pc' := 13) rfl ?_
      refine Ow.istore C dCL_13 (pc' := 15) rfl ho6 ?_
      dsimp only [List.set]
      refine Ow.iload C dCL_15 (pc' := 17) rfl rfl ?_
      refine Ow.sipush C (255 : Int32) dCL_17 (pc' := 20) rfl rfl ?_
      refine Ow.icmp C 26 23 dCL_20 (Ow.kLe _ _) (by decide) (by decide) rfl (fun hc => ?_) (fun hc => ?_)
      · have hc' : (xs.getD i 0).toInt < 256 := by rw [Ow.lt32] at hc; have : ((255 : Int32)).toInt = 255 := rfl; omega
        refine Ow.aloadN C dCL_26 (pc' := 27) rfl rfl rfl ?_
        refine Ow.iloadN C dCL_27 (pc' := 28) rfl rfl ?_
        refine Ow.iload C dCL_28 (pc' := 30) rfl rfl ?_
        refine Ow.i2b C dCL_30 (pc' := 31) rfl ?_
        refine Ow.bastore C V (i := i) (Ow.ofNat_toInt (by omega)) (by simp; omega) hy dCL_31 (pc' := 32) rfl (fun h2 K2 V2 => ?_)
        rw [show nar .byte (nar .byte (xs.getD i 0)) = nar .byte (xs.getD i 0) from Ow.i32_ext (by have h1 := Ow.nar_byte (nar .byte (xs.getD i 0)); have h2 := Ow.nar_byte (xs.getD i 0); omega)] at V2
        rw [Ow.take_step hlt] at V2
        refine Ow.iinc C (1 : Int32) dCL_32 (pc' := 35) rfl rfl rfl ?_
        dsimp only [List.set]
        refine Ow.iinc C (1 : Int32) dCL_35 (pc' := 38) rfl rfl rfl ?_
        dsimp only [List.set]
        refine Ow.iinc C (1 : Int32) dCL_38 (pc' := 41) rfl rfl rfl ?_
        dsimp only [List.set]
        refine Ow.goto C 3 dCL_41 (by decide) (by decide) ?_
        rw [← inc_ofNat]
        exact ih (i + 1) h2 _ (by omega) (fun j hj => by
          rcases Nat.lt_succ_iff_lt_or_eq.mp hj with q | rfl
          · exact hq j q
          · exact hc') (K.trans K2 (fun x hx => Or.inl hx)) V2 rfl
      · have hc' : ¬ (xs.getD i 0).toInt < 256 := by rw [Ow.lt32] at hc; have : ((255 : Int32)).toInt = 255 := rfl; omega
        refine Ow.iload C dCL_23 (pc' := 25) rfl rfl ?_
        have hl := Ow.lead_at hlt hq hc'
        refine Ow.retI C rfl dCL_25 (by first | decide | (dsimp only; omega) | (simp [Value.category]; done) | (simp [Value.category]; omega)) (by first | decide | (dsimp only; omega) | (simp [Value.category]; done) | (simp [Value.category]; omega)) [] (by simp) ⟨by rw [hl], K, fun q => by omega⟩
  refine Ow.iconst C (0 : Int32) dCL_0 (pc' := 1) rfl rfl ?_
  refine Ow.istore C dCL_1 (pc' := 3) rfl rfl ?_
  dsimp only [List.set]
  exact loop xs.length 0 h .unset (by omega) (fun j hj => by omega) (Keep.refl _ _) (by simpa using Y) rfl
abbrev rmCM (B : Nat) : Room := { frames := 1, cells := 1, slots := B, locals := 18 }
set_option maxHeartbeats 4000000 in
theorem con_CM (G : Glob Z a0) (B : Nat) (x : Nat) (xs : List Int32) (h : Heap) (W : List Nat) (X : ArI Z h x .char xs) (hL : ∀ z ∈ xs, 0 ≤ z.toInt ∧ z.toInt < 256) (hB : xs.length ≤ B) (hB2 : B ≤ 4000) :
    Ow.Con l Z EL1 bb (⟨"java/lang/StringUTF16", "compress", "([CII)[B"⟩ : MethodName) jdk_52_method_16_code 6 (Option.some (Jvm.ClassFile.FieldType.array Jvm.ClassFile.FieldType.byte)) [] (rmCM B) #[.ref x, .int 0, .int (Int32.ofNat xs.length)] h W
      (fun v h' W' => ∃ y : Nat, v = some (.ref y) ∧ h.size ≤ y ∧ Keep h h' [] ∧ ArI Z h' y .byte (xs.map (nar .byte))) := by
  refine Ow.Con.intro (a0 := a0) pn_1 (ewG G) (saG G) bbG [.val (.ref x), .val (.int 0), .val (.int (Int32.ofNat xs.length)), .unset, .unset, .unset] (by first | exact Ow.locals_all (by simp [Value.category]) rfl | rfl | (simp [argsToLocals, Value.category]; done)) ?_
  intro p e s m below meth c C hO
  have hx : x < h.size := X.lt
  refine Ow.iloadN C dCM_0 (pc' := 1) rfl rfl ?_
  refine Ow.newarr C (ty := .byte) (cap := xs.length) rfl rfl (tw26 G.1) dCM_1 (pc' := 3) rfl rfl (by omega) (by dsimp only; omega) (by dsimp only; omega) (fun h1 a1 s1 z1 l1 E1 V1 => ?_)
  refine Ow.astoreN C dCM_3 (pc' := 4) rfl rfl rfl ?_
  dsimp only [List.set]
  refine Ow.aloadN C dCM_4 (pc' := 5) rfl rfl rfl ?_
  refine Ow.iloadN C dCM_5 (pc' := 6) rfl rfl ?_
  refine Ow.aloadN C dCM_6 (pc' := 7) rfl rfl rfl ?_
  refine Ow.iconst C (0 : Int32) dCM_7 (pc' := 8) rfl rfl ?_
  refine Ow.iloadN C dCM_8 (pc' := 9) rfl rfl ?_
  refine Ow.callS C (tw27 G.1) (tw28 G.1) (tw24 G.1) (tw29 G.1) (by decide) (con_CL G x a1 xs h1 (a1 :: W) (X.ext E1) V1 (by simp) (by omega)) (fun _ q => q) pd_0 rfl rfl rfl dCM_9 (pc' := 12) rfl (Wt := 0) (Nat.le_refl _) (by first | decide | (dsimp only; omega) | (simp [Value.category]; done) | (simp [Value.category]; omega)) (by first | decide | (dsimp only; omega) | (simp [Value.category]; done) | (simp [Value.category]; omega)) (by first | decide | (dsimp only; omega) | (simp [Value.category]; done) | (simp [Value.category]; omega)) (by first | decide | (dsimp only; omega) | (simp [Value.category]; done) | (simp [Value.category]; omega)) (fun v2 h2 W2 ⟨e2, K2, V2⟩ s2 => ?_)
  subst e2
  have hl : Ow.lead xs = xs.length := Ow.lead_all fun z hz => (hL z hz).2
  rw [hl]
  dsimp only [Option.toList, List.cons_append, List.nil_append]
  refine Ow.istore C dCM_12 (pc' := 14) rfl rfl ?_
  dsimp only [List.set]
  refine Ow.iload C dCM_14 (pc' := 16) rfl rfl ?_
  refine Ow.iloadN C dCM_16 (pc' := 17) rfl rfl ?_
  refine Ow.icmpY C 57 dCM_17 (XT.ii_eq_t rfl) (by decide) (by decide) ?_
  refine Ow.aloadN C dCM_57 (pc' := 58) rfl rfl rfl ?_
  refine Ow.retA C rfl rfl rfl dCM_58 (by first | decide | (dsimp only; omega) | (simp [Value.category]; done) | (simp [Value.category]; omega)) (by first | decide | (dsimp only; omega) | (simp [Value.category]; done) | (simp [Value.category]; omega)) [] (by simp) ⟨a1, rfl, by omega, (Ow.Keep.z E1).trans K2 (fun z hz => Or.inr (by rw [List.mem_singleton.mp hz]; omega)), V2 hl⟩
theorem con_CF (G : Glob Z a0) (y : Nat) (ty : FieldType) (ys : List Int32) (N : Nat) (h : Heap) (W : List Nat) (Y : ArI Z h y ty ys) :
    Ow.Con l Z EL1 bb (⟨"java/lang/StringUTF16", "coderFromArrayLen", "([BI)B"⟩ : MethodName) jdk_52_method_15_code 2 (Option.some Jvm.ClassFile.FieldType.byte) [] rm0 #[.ref y, .int (Int32.ofNat N)] h W
      (fun v h' W' => v = some (.int (nar .byte (nar .byte (((Int32.ofNat N - Int32.ofNat ys.length).toUInt32 >>> ((31 : Int32) &&& 31).toUInt32).toInt32)))) ∧ h' = h) := by
  refine Ow.Con.intro (a0 := a0) pn_2 (ewG G) (saG G) bbG [.val (.ref y), .val (.int (Int32.ofNat N))] (by first | exact Ow.locals_all (by simp [Value.category]) rfl | rfl | (simp [argsToLocals, Value.category]; done)) ?_
  intro p e s m below meth c C hO
  refine Ow.iloadN C dCF_0 (pc' := 1) rfl rfl ?_
  refine Ow.aloadN C dCF_1 (pc' := 2) rfl rfl rfl ?_
  refine Ow.arrlen C Y dCF_2 (pc' := 3) rfl ?_
  refine Ow.isub C dCF_3 (pc' := 4) rfl ?_
  refine Ow.bipush C (31 : Int32) dCF_4 (pc' := 6) rfl rfl ?_
  refine Ow.iushr C dCF_6 (pc' := 7) rfl ?_
  refine Ow.i2b C dCF_7 (pc' := 8) rfl ?_
  refine Ow.retN C (t := .byte) rfl (by simp) dCF_8 (by first | decide | (dsimp only; omega) | (simp [Value.category]; done) | (simp [Value.category]; omega)) (by first | decide | (dsimp only; omega) | (simp [Value.category]; done) | (simp [Value.category]; omega)) [] (by simp) ⟨rfl, rfl⟩
theorem cf_lat (N : Nat) : nar .byte (nar .byte (((Int32.ofNat N - Int32.ofNat N).toUInt32 >>> ((31 : Int32) &&& 31).toUInt32).toInt32)) = 0 := by
  rw [Int32.sub_self]; decide
abbrev rmI1 (B : Nat) : Room := { frames := 2, cells := 1, slots := B, locals := 35 }
set_option maxHeartbeats 4000000 in
theorem con_I1 (G : Glob Z a0) (B : Nat) (a x : Nat) (xs : List Int32) (h : Heap) (W : List Nat) (ov oc : Value) (A : Exa Z h a "java/lang/String") (Fv : Fld Z h a "java/lang/String" "value" "[B" ov) (Fc : Fld Z h a "java/lang/String" "coder" "B" oc) (ha : a ∈ W) (X : ArI Z h x .char xs) (h0 : 0 < xs.length) (hL : ∀ z ∈ xs, 0 ≤ z.toInt ∧ z.toInt < 256) (hB : xs.length ≤ B) (hB2 : B ≤ 4000) :
    Ow.Con l Z EL1 bb (⟨"java/lang/String", "<init>", "([CIILjava/lang/Void;)V"⟩ : MethodName) jdk_42_method_149_code 6 (Option.none : Option Jvm.ClassFile.FieldType) [] (rmI1 B) #[.ref a, .ref x, .int 0, .int (Int32.ofNat xs.length), .null] h W
      (fun v h' W' => v = none ∧ ∃ d : Nat, Ow.StrL Z h' a d xs ∧ Keep h h' [a] ∧ h.size ≤ d) := by
  obtain ⟨cv, hcv, hst⟩ := G.2.1
  refine Ow.Con.intro (a0 := a0) pn_3 (ewG G) (saG G) bbG [.val (.ref a), .val (.ref x), .val (.int 0), .val (.int (Int32.ofNat xs.length)), .val .null, .unset] (by first | exact Ow.locals_all (by simp [Value.category]) rfl | rfl | (simp [argsToLocals, Value.category]; done)) ?_
  intro p e s m below meth c C hO
  have hN : xs.length < 2 ^ 31 := X.2
  have haL : a < h.size := A.lt
  refine Ow.aloadN C dI1_0 (pc' := 1) rfl rfl rfl ?_
  refine Ow.initO C (tw18 G.1) (tw19 G.1) (tw20 G.1) dI1_1 (pc' := 4) rfl rfl (by first | decide | (dsimp only; omega) | (simp [Value.category]; done) | (simp [Value.category]; omega)) (by first | decide | (dsimp only; omega) | (simp [Value.category]; done) | (simp [Value.category]; omega)) ?_
  refine Ow.iloadN C dI1_4 (pc' := 5) rfl rfl ?_
  refine Ow.ifCY C 27 dI1_5 (XT.i0_ne_t (fun q => by have := Ow.ofNat_toInt hN; rw [q] at this; have e0 : ((0 : Int32)).toInt = 0 := rfl; omega)) (by decide) (by decide) ?_
  refine Ow.getS C (tw21 G.1) hst dI1_27 (pc' := 30) rfl ?_
  refine Ow.ifCN C dI1_30 (pc' := 33) rfl (XT.i0_eq_f hcv) ?_
  refine Ow.aloadN C dI1_33 (pc' := 34) rfl rfl rfl ?_
  refine Ow.iloadN C dI1_34 (pc' := 35) rfl rfl ?_
  refine Ow.iloadN C dI1_35 (pc' := 36) rfl rfl ?_
  refine Ow.callS C (tw22 G.1) (tw23 G.1) (tw24 G.1) (tw25 G.1) (by decide) (con_CM G B x xs h W X hL hB hB2) (fun _ q => q) pd_1 rfl rfl rfl dI1_36 (pc' := 39) rfl (Wt := 0) (Nat.le_refl _) (by first | decide | (dsimp only; omega) | (simp [Value.category]; done) | (simp [Value.category]; omega)) (by first | decide | (dsimp only; omega) | (simp [Value.category]; done) | (simp [Value.category]; omega)) (by first | decide | (dsimp only; omega) | (simp [Value.category]; done) | (simp [Value.category]; omega)) (by first | decide | (dsimp only; omega) | (simp [Value.category]; done) | (simp [Value.category]; omega)) (fun v2 h2 W2 ⟨d, e2, hd, K2, V2⟩ s2 => ?_)
  subst e2
  dsimp only [Option.toList, List.cons_append, List.nil_append]
  refine Ow.astore C dI1_39 (pc' := 41) rfl rfl rfl ?_
  dsimp only [List.set]
  refine Ow.aloadN C dI1_41 (pc' := 42) rfl rfl rfl ?_
  refine Ow.aload C dI1_42 (pc' := 44) rfl rfl rfl ?_
  refine Ow.iloadN C dI1_44 (pc' := 45) rfl rfl ?_
  refine Ow.callS C (tw30 G.1) (tw31 G.1) (tw24 G.1) (tw32 G.1) (by decide) (con_CF G d .byte (xs.map (nar .byte)) xs.length h2 W V2) (fun _ q => q) pd_2 rfl rfl rfl dI1_45 (pc' := 48) rfl (Wt := 1) (Nat.le_refl _) (by first | decide | (dsimp only; omega) | (simp [Value.category]; done) | (simp [Value.category]; omega)) (by first | decide | (dsimp only; omega) | (simp [Value.category]; done) | (simp [Value.category]; omega)) (by first | decide | (dsimp only; omega) | (simp [Value.category]; done) | (simp [Value.category]; omega)) (by first | decide | (dsimp only; omega) | (simp [Value.category]; done) | (simp [Value.category]; omega)) (fun v3 h3 W3 ⟨e3, e3'⟩ s3 => ?_)
  subst e3 e3'
  rw [List.length_map, cf_lat]
  dsimp only [Option.toList, List.cons_append, List.nil_append]
  have A2 := A.keep K2
  have Fc2 := Fc.keep K2 nin0
  have Fv2 := Fv.keep K2 nin0
  refine Ow.putF C (tw33 G.1) Fc2 A2 (Or.inr ⟨(tw34 G.1), rfl, rfl⟩) (tw8 G.1) (ty := .byte) (by decide) rfl rfl (by first | assumption | (simp; done) | (simp [*]; done)) dI1_48 (pc' := 51) rfl (fun h4 w4 K4 Fc4 => ?_)
  have Fv4 := Fv2.other w4 (Or.inr (slot_ne (Or.inr (tw36 G.1)) (Or.inr (tw34 G.1)) (by decide) (t := .array .byte) (t' := .byte) (by decide) (by decide)))
  have A4 := A2.keep K4
  have V4 := V2.keep K4 (Ow.nin1 (by omega))
  refine Ow.aloadN C dI1_51 (pc' := 52) rfl rfl rfl ?_
  refine Ow.aload C dI1_52 (pc' := 54) rfl rfl rfl ?_
  refine Ow.putF C (tw35 G.1) Fv4 A4 (Or.inr ⟨(tw36 G.1), rfl, rfl⟩) (tw8 G.1) (ty := (.array .byte)) (by decide) rfl rfl (by first | assumption | (simp; done) | (simp [*]; done)) dI1_54 (pc' := 57) rfl (fun h5 w5 K5 Fv5 => ?_)
  have Fc5 := Fc4.other w5 (Or.inr (slot_ne (Or.inr (tw34 G.1)) (Or.inr (tw36 G.1)) (by decide) (t := .byte) (t' := .array .byte) (by decide) (by decide)))
  have V5 := V4.keep K5 (Ow.nin1 (by omega))
  refine Ow.retV C rfl dI1_57 (by first | decide | (dsimp only; omega) | (simp [Value.category]; done) | (simp [Value.category]; omega)) (by first | decide | (dsimp only; omega) | (simp [Value.category]; done) | (simp [Value.category]; omega)) [] (by simp) ⟨rfl, d, ⟨A4.keep K5, Fv5, Fc5, V5, hL⟩, (((Keep.refl h [a]).trans K2 (fun z hz => by cases hz)).trans K4 (fun z hz => Or.inl hz)).trans K5 (fun z hz => Or.inl hz), hd⟩
abbrev rmI0 (B : Nat) : Room := { frames := 3, cells := 1, slots := B, locals := 52 }
set_option maxHeartbeats 4000000 in
theorem con_I0 (G : Glob Z a0) (B : Nat) (a x : Nat) (xs : List Int32) (h : Heap) (W : List Nat) (ov oc : Value) (A : Exa Z h a "java/lang/String") (Fv : Fld Z h a "java/lang/String" "value" "[B" ov) (Fc : Fld Z h a "java/lang/String" "coder" "B" oc) (ha : a ∈ W) (X : ArI Z h x .char xs) (h0 : 0 < xs.length) (hL : ∀ z ∈ xs, 0 ≤ z.toInt ∧ z.toInt < 256) (hB : xs.length ≤ B) (hB2 : B ≤ 4000) :
    Ow.Con l Z EL1 bb (⟨"java/lang/String", "<init>", "([C)V"⟩ : MethodName) jdk_42_method_3_code 2 (Option.none : Option Jvm.ClassFile.FieldType) [] (rmI0 B) #[.ref a, .ref x] h W
      (fun v h' W' => v = none ∧ ∃ d : Nat, Ow.StrL Z h' a d xs ∧ Keep h h' [a] ∧ h.size ≤ d) := by
  refine Ow.Con.intro (a0 := a0) pn_4 (ewG G) (saG G) bbG [.val (.ref a), .val (.ref x)] (by first | exact Ow.locals_all (by simp [Value.category]) rfl | rfl | (simp [argsToLocals, Value.category]; done)) ?_
  intro p e s m below meth c C hO
  refine Ow.aloadN C dI0_0 (pc' := 1) rfl rfl rfl ?_
  refine Ow.aloadN C dI0_1 (pc' := 2) rfl rfl rfl ?_
  refine Ow.iconst C (0 : Int32) dI0_2 (pc' := 3) rfl rfl ?_
  refine Ow.aloadN C dI0_3 (pc' := 4) rfl rfl rfl ?_
  refine Ow.arrlen C X dI0_4 (pc' := 5) rfl ?_
  refine Ow.aconstNull C dI0_5 (pc' := 6) rfl ?_
  refine Ow.callI C rfl (tw14 G.1) (tw15 G.1) (tw9 G.1) (tw17 G.1) (by decide) (con_I1 G B a x xs h W ov oc A Fv Fc ha X h0 hL hB hB2) (fun _ q => q) pd_3 rfl rfl rfl dI0_6 (pc' := 9) rfl (Wt := 0) (Nat.le_refl _) (by first | decide | (dsimp only; omega) | (simp [Value.category]; done) | (simp [Value.category]; omega)) (by first | decide | (dsimp only; omega) | (simp [Value.category]; done) | (simp [Value.category]; omega)) (by first | decide | (dsimp only; omega) | (simp [Value.category]; done) | (simp [Value.category]; omega)) (by first | decide | (dsimp only; omega) | (simp [Value.category]; done) | (simp [Value.category]; omega)) (fun v2 h2 W2 ⟨e2, d, S2, K2, hd⟩ s2 => ?_)
  subst e2
  dsimp only [Option.toList, List.cons_append, List.nil_append]
  refine Ow.retV C rfl dI0_9 (by first | decide | (dsimp only; omega) | (simp [Value.category]; done) | (simp [Value.category]; omega)) (by first | decide | (dsimp only; omega) | (simp [Value.category]; done) | (simp [Value.category]; omega)) [] (by simp) ⟨rfl, d, S2, K2, hd⟩
end StrL

section StrE0
variable {l : Launch} {Z : State} {a0 : Array Value}
abbrev rmI1e : Room := { frames := 1, cells := 4, slots := 8, locals := 12 }
set_option maxHeartbeats 4000000 in
theorem con_I1e (G : Glob Z a0) (a x : Nat) (h : Heap) (W : List Nat) (ov oc : Value) (A : Exa Z h a "java/lang/String") (Fv : Fld Z h a "java/lang/String" "value" "[B" ov) (Fc : Fld Z h a "java/lang/String" "coder" "B" oc) (ha : a ∈ W) :
    Ow.Con l Z EL1 bb (⟨"java/lang/String", "<init>", "([CIILjava/lang/Void;)V"⟩ : MethodName) jdk_42_method_149_code 6 (Option.none : Option Jvm.ClassFile.FieldType) [] rmI1e #[.ref a, .ref x, .int 0, .int 0, .null] h W
      (fun v h' W' => v = none ∧ ∃ d : Nat, Ow.StrL Z h' a d [] ∧ Keep h h' [a] ∧ True) := by
  refine Ow.Con.intro (a0 := a0) pn_3 (ewG G) (saG G) bbG [.val (.ref a), .val (.ref x), .val (.int 0), .val (.int 0), .val .null, .unset] (by first | exact Ow.locals_all (by simp [Value.category]) rfl | rfl | (simp [argsToLocals, Value.category]; done)) ?_
  intro p e s m below meth c C hO
  refine Ow.aloadN C dI1_0 (pc' := 1) rfl rfl rfl ?_
  refine Ow.initO C (tw18 G.1) (tw19 G.1) (tw20 G.1) dI1_1 (pc' := 4) rfl rfl (by first | decide | (dsimp only; omega) | (simp [Value.category]; done) | (simp [Value.category]; omega)) (by first | decide | (dsimp only; omega) | (simp [Value.category]; done) | (simp [Value.category]; omega)) ?_
  refine Ow.iloadN C dI1_4 (pc' := 5) rfl rfl ?_
  refine Ow.ifCN C dI1_5 (pc' := 8) rfl (XT.i0_ne_f rfl) ?_
  refine Ow.aloadN C dI1_8 (pc' := 9) rfl rfl rfl ?_
  refine Ow.ldcS C rfl (N := 0) (xs := []) (tw37 G.1) (by decide) (by decide) (by decide) dI1_9 (pc' := 11) rfl (by decide) (by decide) (by first | decide | (dsimp only; omega) | (simp [Value.category]; done) | (simp [Value.category]; omega)) (by first | decide | (dsimp only; omega) | (simp [Value.category]; done) | (simp [Value.category]; omega)) (fun h1 b1 d1 E1 B1 Bc1 Bv1 D1 n1 => ?_)
  have K1 := Ow.Keep.z E1
  refine Ow.getF C (tw35 G.1) Bv1 dI1_11 (pc' := 14) rfl ?_
  refine Ow.putF C (tw35 G.1) (Fv.ext E1) (A.ext E1) (Or.inr ⟨(tw36 G.1), rfl, rfl⟩) (tw8 G.1) (ty := (.array .byte)) (by decide) rfl rfl (by first | assumption | (simp; done) | (simp [*]; done)) dI1_14 (pc' := 17) rfl (fun h2 w2 K2 Fv2 => ?_)
  have Fc2 := (Fc.ext E1).other w2 (Or.inr (slot_ne (Or.inr (tw34 G.1)) (Or.inr (tw36 G.1)) (by decide) (t := .byte) (t' := .array .byte) (by decide) (by decide)))
  have A2 := (A.ext E1).keep K2
  have D2 := D1.keep K2 (Ow.nin1 (fun q => (n1 a ha).2 q.symm))
  refine Ow.aloadN C dI1_17 (pc' := 18) rfl rfl rfl ?_
  refine Ow.ldcS C rfl (N := 0) (xs := []) (tw37 G.1) (by decide) (by decide) (by decide) dI1_18 (pc' := 20) rfl (by decide) (by decide) (by first | decide | (dsimp only; omega) | (simp [Value.category]; done) | (simp [Value.category]; omega)) (by first | decide | (dsimp only; omega) | (simp [Value.category]; done) | (simp [Value.category]; omega)) (fun h3 b3 d3 E3 B3 Bc3 Bv3 D3 n3 => ?_)
  have K3 := Ow.Keep.z E3
  refine Ow.getF C (tw33 G.1) Bc3 dI1_20 (pc' := 23) rfl ?_
  refine Ow.putF C (tw33 G.1) (Fc2.ext E3) (A2.ext E3) (Or.inr ⟨(tw34 G.1), rfl, rfl⟩) (tw8 G.1) (ty := .byte) (by decide) rfl rfl (by first | assumption | (simp; done) | (simp [*]; done)) dI1_23 (pc' := 26) rfl (fun h4 w4 K4 Fc4 => ?_)
  have Fv4 := (Fv2.ext E3).other w4 (Or.inr (slot_ne (Or.inr (tw36 G.1)) (Or.inr (tw34 G.1)) (by decide) (t := .array .byte) (t' := .byte) (by decide) (by decide)))
  have D4 := (D2.ext E3).keep K4 (Ow.nin1 (fun q => (n1 a ha).2 q.symm))
  refine Ow.retV C rfl dI1_26 (by first | decide | (dsimp only; omega) | (simp [Value.category]; done) | (simp [Value.category]; omega)) (by first | decide | (dsimp only; omega) | (simp [Value.category]; done) | (simp [Value.category]; omega)) [] (by simp) ⟨rfl, d1, ⟨(A2.ext E3).keep K4, Fv4, Fc4, D4, fun _ q => nomatch q⟩, (((Keep.refl h [a]).ext E1).trans K2 (fun _ q => Or.inl q)).ext E3 |>.trans K4 (fun _ q => Or.inl q), trivial⟩
abbrev rmI0e : Room := { frames := 2, cells := 4, slots := 8, locals := 29 }
set_option maxHeartbeats 4000000 in
theorem con_I0e (G : Glob Z a0) (a x : Nat) (h : Heap) (W : List Nat) (ov oc : Value) (A : Exa Z h a "java/lang/String") (Fv : Fld Z h a "java/lang/String" "value" "[B" ov) (Fc : Fld Z h a "java/lang/String" "coder" "B" oc) (ha : a ∈ W) (X : ArI Z h x .char []) :
    Ow.Con l Z EL1 bb (⟨"java/lang/String", "<init>", "([C)V"⟩ : MethodName) jdk_42_method_3_code 2 (Option.none : Option Jvm.ClassFile.FieldType) [] rmI0e #[.ref a, .ref x] h W
      (fun v h' W' => v = none ∧ ∃ d : Nat, Ow.StrL Z h' a d [] ∧ Keep h h' [a] ∧ True) := by
  refine Ow.Con.intro (a0 := a0) pn_4 (ewG G) (saG G) bbG [.val (.ref a), .val (.ref x)] (by first | exact Ow.locals_all (by simp [Value.category]) rfl | rfl | (simp [argsToLocals, Value.category]; done)) ?_
  intro p e s m below meth c C hO
  refine Ow.aloadN C dI0_0 (pc' := 1) rfl rfl rfl ?_
  refine Ow.aloadN C dI0_1 (pc' := 2) rfl rfl rfl ?_
  refine Ow.iconst C (0 : Int32) dI0_2 (pc' := 3) rfl rfl ?_
  refine Ow.aloadN C dI0_3 (pc' := 4) rfl rfl rfl ?_
  refine Ow.arrlen C X dI0_4 (pc' := 5) rfl ?_
  refine Ow.aconstNull C dI0_5 (pc' := 6) rfl ?_
  refine Ow.callI C rfl (tw14 G.1) (tw15 G.1) (tw9 G.1) (tw17 G.1) (by decide) (con_I1e G a x h W ov oc A Fv Fc ha) (fun _ q => q) pd_3 rfl rfl rfl dI0_6 (pc' := 9) rfl (Wt := 0) (Nat.le_refl _) (by first | decide | (dsimp only; omega) | (simp [Value.category]; done) | (simp [Value.category]; omega)) (by first | decide | (dsimp only; omega) | (simp [Value.category]; done) | (simp [Value.category]; omega)) (by first | decide | (dsimp only; omega) | (simp [Value.category]; done) | (simp [Value.category]; omega)) (by first | decide | (dsimp only; omega) | (simp [Value.category]; done) | (simp [Value.category]; omega)) (fun v2 h2 W2 ⟨e2, d, S2, K2, hd⟩ s2 => ?_)
  subst e2
  dsimp only [Option.toList, List.cons_append, List.nil_append]
  refine Ow.retV C rfl dI0_9 (by first | decide | (dsimp only; omega) | (simp [Value.category]; done) | (simp [Value.category]; omega)) (by first | decide | (dsimp only; omega) | (simp [Value.category]; done) | (simp [Value.category]; omega)) [] (by simp) ⟨rfl, d, S2, K2, trivial⟩
end StrE0

section StrEQ
variable {l : Launch} {Z : State} {a0 : Array Value}
set_option maxHeartbeats 4000000 in
theorem con_LE (G : Glob Z a0) (x y : Nat) (xs ys : List Int32) (h : Heap) (W : List Nat) (X : ArI Z h x .byte xs) (Y : ArI Z h y .byte ys) :
    Ow.Con l Z EL1 bb (⟨"java/lang/StringLatin1", "equals", "([B[B)Z"⟩ : MethodName) jdk_43_method_13_code 3 (Option.some Jvm.ClassFile.FieldType.boolean) [] rm0 #[.ref x, .ref y] h W (fun v h' W' => v = some (.int (if xs = ys then 1 else 0)) ∧ h' = h) := by
  refine Ow.Con.intro (a0 := a0) pn_5 (ewG G) (saG G) bbG [.val (.ref x), .val (.ref y), .unset] (by first | exact Ow.locals_all (by simp [Value.category]) rfl | rfl | (simp [argsToLocals, Value.category]; done)) ?_
  intro p e s m below meth c C hO
  have hN : xs.length < 2 ^ 31 := X.2
  refine Ow.aloadN C dLE_0 (pc' := 1) rfl rfl rfl ?_
  refine Ow.arrlen C X dLE_1 (pc' := 2) rfl ?_
  refine Ow.aloadN C dLE_2 (pc' := 3) rfl rfl rfl ?_
  refine Ow.arrlen C Y dLE_3 (pc' := 4) rfl ?_
  refine Ow.icmp C 34 7 dLE_4 (Ow.kNe _ _) (by decide) (by decide) rfl (fun hc => ?_) (fun hc => ?_)
  · have hne : ¬ xs = ys := fun q => hc (by rw [q])
    refine Ow.iconst C (0 : Int32) dLE_34 (pc' := 35) rfl rfl ?_
    refine Ow.retN C (t := .boolean) rfl (by simp) dLE_35 (by first | decide | (dsimp only; omega) | (simp [Value.category]; done) | (simp [Value.category]; omega)) (by first | decide | (dsimp only; omega) | (simp [Value.category]; done) | (simp [Value.category]; omega)) [] (by simp) ⟨by rw [if_neg hne]; rfl, rfl⟩
  · have hl : xs.length = ys.length := Ow.ofNat_inj X.2 Y.2 (Decidable.not_not.mp hc)
    refine Ow.iconst C (0 : Int32) dLE_7 (pc' := 8) rfl rfl ?_
    refine Ow.istoreN C dLE_8 (pc' := 9) rfl rfl ?_
    dsimp only [List.set]
    have loop : ∀ (r i : Nat), i + r = xs.length → (∀ j, j < i → xs.getD j 0 = ys.getD j 0) →
        Ow.WP p l e rm0 s m #[.ref x, .ref y] below meth c Z EL1 bb (fun v h' W' => v = some (.int (if xs = ys then 1 else 0)) ∧ h' = h) 9 [.val (.ref x), .val (.ref y), .val (.int (Int32.ofNat i))] [] h W 0 0 := by
      intro r
      induction r with
      | zero =>
        intro i hi hq
        obtain rfl : i = xs.length := by omega
        refine Ow.iloadN C dLE_9 (pc' := 10) rfl rfl ?_
        refine Ow.aloadN C dLE_10 (pc' := 11) rfl rfl rfl ?_
        refine Ow.arrlen C X dLE_11 (pc' := 12) rfl ?_
        refine Ow.icmpY C 32 dLE_12 (XT.ii_ge_t (by rw [Ow.lt32]; omega)) (by decide) (by decide) ?_
        refine Ow.iconst C (1 : Int32) dLE_32 (pc' := 33) rfl rfl ?_
        have he : xs = ys := List.ext_getElem hl fun j h1 h2 => by
          have := hq j h1
          simpa [List.getD_eq_getElem?_getD, h1, h2] using this
        refine Ow.retN C (t := .boolean) rfl (by simp) dLE_33 (by first | decide | (dsimp only; omega) | (simp [Value.category]; done) | (simp [Value.category]; omega)) (by first | decide | (dsimp only; omega) | (simp [Value.category]; done) | (simp [Value.category]; omega)) [] (by simp) ⟨by rw [if_pos he]; rfl, rfl⟩
      | succ r ih =>
        intro i hi hq
        have hlt : i < xs.length := by omega
        refine Ow.iloadN C dLE_9 (pc' := 10) rfl rfl ?_
        refine Ow.aloadN C dLE_10 (pc' := 11) rfl rfl rfl ?_
        refine Ow.arrlen C X dLE_11 (pc' := 12) rfl ?_
        refine Ow.icmpN C dLE_12 (pc' := 15) rfl (XT.ii_ge_f (by rw [Ow.lt32, Ow.ofNat_toInt (by omega), Ow.ofNat_toInt hN]; omega)) ?_
        refine Ow.aloadN C dLE_15 (pc' := 16) rfl rfl rfl ?_
        refine Ow.iloadN C dLE_16 (pc' := 17) rfl rfl ?_
        refine Ow.baload C X (i := i) (Ow.ofNat_toInt (by omega)) hlt dLE_17 (pc' := 18) rfl ?_
        refine Ow.aloadN C dLE_18 (pc' := 19) rfl rfl rfl ?_
        refine Ow.iloadN C dLE_19 (pc' := 20) rfl rfl ?_
        refine Ow.baload C Y (i := i) (Ow.ofNat_toInt (by omega)) (by omega) dLE_20 (pc' := 21) rfl ?_
        refine Ow.icmp C 26 24 dLE_21 (Ow.kEq _ _) (by decide) (by decide) rfl (fun hc2 => ?_) (fun hc2 => ?_)
        · refine Ow.iinc C (1 : Int32) dLE_26 (pc' := 29) rfl rfl rfl ?_
          dsimp only [List.set]
          refine Ow.goto C 9 dLE_29 (by decide) (by decide) ?_
          rw [← inc_ofNat]
          exact ih (i + 1) (by omega) (fun j hj => by
            rcases Nat.lt_succ_iff_lt_or_eq.mp hj with q | rfl
            · exact hq j q
            · exact hc2)
        · have hne : ¬ xs = ys := fun q => hc2 (by rw [q])
          refine Ow.iconst C (0 : Int32) dLE_24 (pc' := 25) rfl rfl ?_
          refine Ow.retN C (t := .boolean) rfl (by simp) dLE_25 (by first | decide | (dsimp only; omega) | (simp [Value.category]; done) | (simp [Value.category]; omega)) (by first | decide | (dsimp only; omega) | (simp [Value.category]; done) | (simp [Value.category]; omega)) [] (by simp) ⟨by rw [if_neg hne]; rfl, rfl⟩
    exact loop xs.length 0 (by omega) (fun j hj => by omega)
theorem map_inj_bytes {cs ds : List Int32} (h1 : ∀ c ∈ cs, 0 ≤ c.toInt ∧ c.toInt < 256) (h2 : ∀ c ∈ ds, 0 ≤ c.toInt ∧ c.toInt < 256) : (cs.map (nar .byte) = ds.map (nar .byte)) ↔ cs = ds := by
  refine ⟨fun q => ?_, fun q => by rw [q]⟩
  induction cs generalizing ds with
  | nil => cases ds with
    | nil => rfl
    | cons d ds => simp at q
  | cons c cs ih => cases ds with
    | nil => simp at q
    | cons d ds =>
      simp only [List.map_cons, List.cons.injEq] at q ⊢
      exact ⟨Ow.nar_byte_inj (h1 c (by simp)) (h2 d (by simp)) q.1, ih (fun z hz => h1 z (by simp [hz])) (fun z hz => h2 z (by simp [hz])) q.2⟩
abbrev rmEQ : Room := { frames := 1, cells := 0, slots := 0, locals := 14 }
set_option maxHeartbeats 4000000 in
theorem con_EQ (G : Glob Z a0) (a d a' d' : Nat) (cs ds : List Int32) (h : Heap) (W : List Nat) (S : Ow.StrL Z h a d cs) (S' : Ow.StrL Z h a' d' ds) (hne : a ≠ a') :
    Ow.Con l Z EL1 bb (⟨"java/lang/String", "equals", "(Ljava/lang/Object;)Z"⟩ : MethodName) jdk_42_method_66_code 3 (Option.some Jvm.ClassFile.FieldType.boolean) [] rmEQ #[.ref a, .ref a'] h W (fun v h' W' => v = some (.int (if cs = ds then 1 else 0)) ∧ h' = h) := by
  obtain ⟨cv, hcv, hst⟩ := G.2.1
  refine Ow.Con.intro (a0 := a0) pn_6 (ewG G) (saG G) bbG [.val (.ref a), .val (.ref a'), .unset] (by first | exact Ow.locals_all (by simp [Value.category]) rfl | rfl | (simp [argsToLocals, Value.category]; done)) ?_
  intro p e s m below meth c C hO
  refine Ow.aloadN C dEQ_0 (pc' := 1) rfl rfl rfl ?_
  refine Ow.aloadN C dEQ_1 (pc' := 2) rfl rfl rfl ?_
  refine Ow.acmpY C 7 dEQ_2 rfl rfl (XT.aa_ne_t (fun q => hne (Value.ref.inj q))) (by decide) (by decide) ?_
  refine Ow.aloadN C dEQ_7 (pc' := 8) rfl rfl rfl ?_
  refine Ow.instY C (tw67 G.1) (Ins.self S'.1) dEQ_8 (pc' := 11) rfl ?_
  refine Ow.ifCN C dEQ_11 (pc' := 14) rfl (XT.i0_eq_f (by decide)) ?_
  refine Ow.aloadN C dEQ_14 (pc' := 15) rfl rfl rfl ?_
  refine Ow.castY C (tw67 G.1) (Ins.self S'.1) dEQ_15 (pc' := 18) rfl ?_
  refine Ow.astoreN C dEQ_18 (pc' := 19) rfl rfl rfl ?_
  dsimp only [List.set]
  refine Ow.getS C (tw21 G.1) hst dEQ_19 (pc' := 22) rfl ?_
  refine Ow.ifCN C dEQ_22 (pc' := 25) rfl (XT.i0_eq_f hcv) ?_
  refine Ow.aloadN C dEQ_25 (pc' := 26) rfl rfl rfl ?_
  refine Ow.getF C (tw33 G.1) S.2.2.1 dEQ_26 (pc' := 29) rfl ?_
  refine Ow.aloadN C dEQ_29 (pc' := 30) rfl rfl rfl ?_
  refine Ow.getF C (tw33 G.1) S'.2.2.1 dEQ_30 (pc' := 33) rfl ?_
  refine Ow.icmpN C dEQ_33 (pc' := 36) rfl (XT.ii_ne_f rfl) ?_
  refine Ow.aloadN C dEQ_36 (pc' := 37) rfl rfl rfl ?_
  refine Ow.getF C (tw35 G.1) S.2.1 dEQ_37 (pc' := 40) rfl ?_
  refine Ow.aloadN C dEQ_40 (pc' := 41) rfl rfl rfl ?_
  refine Ow.getF C (tw35 G.1) S'.2.1 dEQ_41 (pc' := 44) rfl ?_
  refine Ow.callS C (tw68 G.1) (tw69 G.1) (tw70 G.1) (tw71 G.1) (by decide) (con_LE G d d' _ _ h W S.2.2.2.1 S'.2.2.2.1) (fun _ q => q) pd_4 rfl rfl rfl dEQ_44 (pc' := 47) rfl (Wt := 0) (Nat.le_refl _) (by first | decide | (dsimp only; omega) | (simp [Value.category]; done) | (simp [Value.category]; omega)) (by first | decide | (dsimp only; omega) | (simp [Value.category]; done) | (simp [Value.category]; omega)) (by first | decide | (dsimp only; omega) | (simp [Value.category]; done) | (simp [Value.category]; omega)) (by first | decide | (dsimp only; omega) | (simp [Value.category]; done) | (simp [Value.category]; omega)) (fun v1 h1 W1 ⟨e1, e1'⟩ s1 => ?_)
  subst e1 e1'
  dsimp only [Option.toList, List.cons_append, List.nil_append]
  by_cases hq : cs = ds
  · rw [if_pos ((map_inj_bytes S.2.2.2.2 S'.2.2.2.2).mpr hq)]
    refine Ow.ifCN C dEQ_47 (pc' := 50) rfl (XT.i0_eq_f (by decide)) ?_
    refine Ow.iconst C (1 : Int32) dEQ_50 (pc' := 51) rfl rfl ?_
    refine Ow.goto C 55 dEQ_51 (by decide) (by decide) ?_
    refine Ow.retN C (t := .boolean) rfl (by simp) dEQ_55 (by first | decide | (dsimp only; omega) | (simp [Value.category]; done) | (simp [Value.category]; omega)) (by first | decide | (dsimp only; omega) | (simp [Value.category]; done) | (simp [Value.category]; omega)) [] (by simp) ⟨by rw [if_pos hq]; rfl, rfl⟩
  · rw [if_neg (fun q => hq ((map_inj_bytes S.2.2.2.2 S'.2.2.2.2).mp q))]
    refine Ow.ifCY C 54 dEQ_47 (XT.i0_eq_t rfl) (by decide) (by decide) ?_
    refine Ow.iconst C (0 : Int32) dEQ_54 (pc' := 55) rfl rfl ?_
    refine Ow.retN C (t := .boolean) rfl (by simp) dEQ_55 (by first | decide | (dsimp only; omega) | (simp [Value.category]; done) | (simp [Value.category]; omega)) (by first | decide | (dsimp only; omega) | (simp [Value.category]; done) | (simp [Value.category]; omega)) [] (by simp) ⟨by rw [if_neg hq]; rfl, rfl⟩
end StrEQ

section StrCE
variable {l : Launch} {Z : State} {a0 : Array Value}
theorem con_CE (G : Glob Z a0) (ch : Int32) (h0 : 0 ≤ ch.toInt) (h : Heap) (W : List Nat) : Ow.Con l Z EL1 bb (⟨"java/lang/StringLatin1", "canEncode", "(I)Z"⟩ : MethodName) jdk_43_method_4_code 1 (Option.some Jvm.ClassFile.FieldType.boolean) [] rm0 #[.int ch] h W (fun v h' W' => v = some (.int (if ch.toInt < 256 then 1 else 0)) ∧ h' = h) := by
  refine Ow.Con.intro (a0 := a0) pn_7 (ewG G) (saG G) bbG [.val (.int ch)] (by first | exact Ow.locals_all (by simp [Value.category]) rfl | rfl | (simp [argsToLocals, Value.category]; done)) ?_
  intro p e s m below meth c C hO
  refine Ow.iloadN C dCE_0 (pc' := 1) rfl rfl ?_
  refine Ow.ifCN C dCE_1 (pc' := 4) rfl (XT.i0_lt_f (by rw [Ow.lt32]; rw [Ow.zero_toInt]; omega)) ?_
  refine Ow.iloadN C dCE_4 (pc' := 5) rfl rfl ?_
  refine Ow.sipush C (255 : Int32) dCE_5 (pc' := 8) rfl rfl ?_
  have e255 : ((255 : Int32)).toInt = 255 := rfl
  refine Ow.icmp C 15 11 dCE_8 (Ow.kGt _ _) (by decide) (by decide) rfl (fun hc => ?_) (fun hc => ?_)
  · rw [Ow.lt32] at hc
    refine Ow.iconst C (0 : Int32) dCE_15 (pc' := 16) rfl rfl ?_
    refine Ow.retN C (t := .boolean) rfl (by simp) dCE_16 (by first | decide | (dsimp only; omega) | (simp [Value.category]; done) | (simp [Value.category]; omega)) (by first | decide | (dsimp only; omega) | (simp [Value.category]; done) | (simp [Value.category]; omega)) [] (by simp) ⟨by rw [if_neg (by omega)]; rfl, rfl⟩
  · rw [Ow.lt32] at hc
    refine Ow.iconst C (1 : Int32) dCE_11 (pc' := 12) rfl rfl ?_
    refine Ow.goto C 16 dCE_12 (by decide) (by decide) ?_
    refine Ow.retN C (t := .boolean) rfl (by simp) dCE_16 (by first | decide | (dsimp only; omega) | (simp [Value.category]; done) | (simp [Value.category]; omega)) (by first | decide | (dsimp only; omega) | (simp [Value.category]; done) | (simp [Value.category]; omega)) [] (by simp) ⟨by rw [if_pos (by omega)]; rfl, rfl⟩
end StrCE

section StrLow
variable {l : Launch} {Z : State} {a0 : Array Value}
theorem con_IL (G : Glob Z a0) (a : Nat) (cd : Int32) (h : Heap) (W : List Nat) (F : Fld Z h a "java/lang/String" "coder" "B" (.int cd)) :
    Ow.Con l Z EL1 bb (⟨"java/lang/String", "isLatin1", "()Z"⟩ : MethodName) jdk_42_method_154_code 1 (Option.some Jvm.ClassFile.FieldType.boolean) [] rm0 #[.ref a] h W (fun v h' W' => v = some (.int (if cd = 0 then 1 else 0)) ∧ h' = h) := by
  obtain ⟨cv, hcv, hst⟩ := G.2.1
  refine Ow.Con.intro (a0 := a0) pn_8 (ewG G) (saG G) bbG [.val (.ref a)] (by first | exact Ow.locals_all (by simp [Value.category]) rfl | rfl | (simp [argsToLocals, Value.category]; done)) ?_
  intro p e s m below meth c C hO
  refine Ow.getS C (tw21 G.1) hst dIL_0 (pc' := 3) rfl ?_
  refine Ow.ifCN C dIL_3 (pc' := 6) rfl (XT.i0_eq_f hcv) ?_
  refine Ow.aloadN C dIL_6 (pc' := 7) rfl rfl rfl ?_
  refine Ow.getF C (tw33 G.1) F dIL_7 (pc' := 10) rfl ?_
  refine Ow.ifC C 17 13 dIL_10 (Ow.hNe _) (by decide) (by decide) rfl (fun hc => ?_) (fun hc => ?_)
  · refine Ow.iconst C (0 : Int32) dIL_17 (pc' := 18) rfl rfl ?_
    refine Ow.retN C (t := .boolean) rfl (by simp) dIL_18 (by first | decide | (dsimp only; omega) | (simp [Value.category]; done) | (simp [Value.category]; omega)) (by first | decide | (dsimp only; omega) | (simp [Value.category]; done) | (simp [Value.category]; omega)) [] (by simp) ⟨by rw [if_neg hc]; rfl, rfl⟩
  · refine Ow.iconst C (1 : Int32) dIL_13 (pc' := 14) rfl rfl ?_
    refine Ow.goto C 18 dIL_14 (by decide) (by decide) ?_
    refine Ow.retN C (t := .boolean) rfl (by simp) dIL_18 (by first | decide | (dsimp only; omega) | (simp [Value.category]; done) | (simp [Value.category]; omega)) (by first | decide | (dsimp only; omega) | (simp [Value.category]; done) | (simp [Value.category]; omega)) [] (by simp) ⟨by rw [if_pos (Decidable.not_not.mp hc)]; rfl, rfl⟩
theorem con_CD (G : Glob Z a0) (i : Nat) (ch : Int32) (h0 : 0 ≤ ch.toInt) (h1 : ch.toInt < 256) (h : Heap) (W : List Nat) :
    Ow.Con l Z EL1 bb (⟨"java/lang/CharacterDataLatin1", "toLowerCase", "(I)I"⟩ : MethodName) jdk_116_method_20_code 3 (Option.some Jvm.ClassFile.FieldType.int) [] rm0 #[.ref i, .int ch] h W (fun v h' W' => v = some (.int (Ow.low ch)) ∧ h' = h) := by
  rw [← Ow.clo_low h0 h1]
  refine Ow.Con.intro (a0 := a0) pn_9 (ewG G) (saG G) bbG [.val (.ref i), .val (.int ch), .unset] (by first | exact Ow.locals_all (by simp [Value.category]) rfl | rfl | (simp [argsToLocals, Value.category]; done)) ?_
  intro p e s m below meth c C hO
  have k32 : ((32 : Int32)).toInt = 32 := rfl
  have k65 : ((65 : Int32)).toInt = 65 := rfl
  have k122 : ((122 : Int32)).toInt = 122 := rfl
  have k224 : ((224 : Int32)).toInt = 224 := rfl
  have k247 : ((247 : Int32)).toInt = 247 := rfl
  have k254 : ((254 : Int32)).toInt = 254 := rfl
  refine Ow.iloadN C dCD_0 (pc' := 1) rfl rfl ?_
  refine Ow.bipush C (65 : Int32) dCD_1 (pc' := 3) rfl rfl ?_
  refine Ow.icmp C 8 6 dCD_3 (Ow.kGe _ _) (by decide) (by decide) rfl (fun b1 => ?_) (fun b1 => ?_)
  · refine Ow.iloadN C dCD_8 (pc' := 9) rfl rfl ?_
    refine Ow.bipush C (32 : Int32) dCD_9 (pc' := 11) rfl rfl ?_
    refine Ow.ior C dCD_11 (pc' := 12) rfl ?_
    refine Ow.istoreN C dCD_12 (pc' := 13) rfl rfl ?_
    dsimp only [List.set]
    refine Ow.iloadN C dCD_13 (pc' := 14) rfl rfl ?_
    refine Ow.bipush C (122 : Int32) dCD_14 (pc' := 16) rfl rfl ?_
    refine Ow.icmp C 40 19 dCD_16 (Ow.kLe _ _) (by decide) (by decide) rfl (fun b2 => ?_) (fun b2 => ?_)
    · refine Ow.iloadN C dCD_40 (pc' := 41) rfl rfl ?_
      refine Ow.retI C rfl dCD_41 (by first | decide | (dsimp only; omega) | (simp [Value.category]; done) | (simp [Value.category]; omega)) (by first | decide | (dsimp only; omega) | (simp [Value.category]; done) | (simp [Value.category]; omega)) [] (by simp) ⟨by simp [Ow.clo, *], rfl⟩
    · refine Ow.iloadN C dCD_19 (pc' := 20) rfl rfl ?_
      refine Ow.sipush C (224 : Int32) dCD_20 (pc' := 23) rfl rfl ?_
      refine Ow.icmp C 42 26 dCD_23 (Ow.kLt _ _) (by decide) (by decide) rfl (fun b3 => ?_) (fun b3 => ?_)
      · refine Ow.iloadN C dCD_42 (pc' := 43) rfl rfl ?_
        refine Ow.retI C rfl dCD_43 (by first | decide | (dsimp only; omega) | (simp [Value.category]; done) | (simp [Value.category]; omega)) (by first | decide | (dsimp only; omega) | (simp [Value.category]; done) | (simp [Value.category]; omega)) [] (by simp) ⟨by simp [Ow.clo, *], rfl⟩
      · refine Ow.iloadN C dCD_26 (pc' := 27) rfl rfl ?_
        refine Ow.sipush C (254 : Int32) dCD_27 (pc' := 30) rfl rfl ?_
        refine Ow.icmp C 42 33 dCD_30 (Ow.kGt _ _) (by decide) (by decide) rfl (fun b4 => ?_) (fun b4 => ?_)
        · refine Ow.iloadN C dCD_42 (pc' := 43) rfl rfl ?_
          refine Ow.retI C rfl dCD_43 (by first | decide | (dsimp only; omega) | (simp [Value.category]; done) | (simp [Value.category]; omega)) (by first | decide | (dsimp only; omega) | (simp [Value.category]; done) | (simp [Value.category]; omega)) [] (by simp) ⟨by simp [Ow.clo, *], rfl⟩
        · refine Ow.iloadN C dCD_33 (pc' := 34) rfl rfl ?_
          refine Ow.sipush C (247 : Int32) dCD_34 (pc' := 37) rfl rfl ?_
          refine Ow.icmp C 42 40 dCD_37 (Ow.kEq _ _) (by decide) (by decide) rfl (fun b5 => ?_) (fun b5 => ?_)
          · refine Ow.iloadN C dCD_42 (pc' := 43) rfl rfl ?_
            refine Ow.retI C rfl dCD_43 (by first | decide | (dsimp only; omega) | (simp [Value.category]; done) | (simp [Value.category]; omega)) (by first | decide | (dsimp only; omega) | (simp [Value.category]; done) | (simp [Value.category]; omega)) [] (by simp) ⟨by simp [Ow.clo, *], rfl⟩
          · refine Ow.iloadN C dCD_40 (pc' := 41) rfl rfl ?_
            refine Ow.retI C rfl dCD_41 (by first | decide | (dsimp only; omega) | (simp [Value.category]; done) | (simp [Value.category]; omega)) (by first | decide | (dsimp only; omega) | (simp [Value.category]; done) | (simp [Value.category]; omega)) [] (by simp) ⟨by simp [Ow.clo, *], rfl⟩
  · refine Ow.iloadN C dCD_6 (pc' := 7) rfl rfl ?_
    refine Ow.retI C rfl dCD_7 (by first | decide | (dsimp only; omega) | (simp [Value.category]; done) | (simp [Value.category]; omega)) (by first | decide | (dsimp only; omega) | (simp [Value.category]; done) | (simp [Value.category]; omega)) [] (by simp) ⟨by simp [Ow.clo, *], rfl⟩
theorem con_BG (G : Glob Z a0) (lc bl lg lv : Nat) (K : LocOk Z lc bl lg lv) (h : Heap) (W : List Nat) (E : Ext Z.heap h) : Ow.Con l Z EL1 bb (⟨"sun/util/locale/BaseLocale", "getLanguage", "()Ljava/lang/String;"⟩ : MethodName) jdk_3003_method_5_code 1 (Option.some (Jvm.ClassFile.FieldType.object "java/lang/String")) [] rm0 #[.ref bl] h W (fun v h' W' => v = some (.ref lg) ∧ h' = h) := by
  refine Ow.Con.intro (a0 := a0) pn_10 (ewG G) (saG G) bbG [.val (.ref bl)] (by first | exact Ow.locals_all (by simp [Value.category]) rfl | rfl | (simp [argsToLocals, Value.category]; done)) ?_
  intro p e s m below meth c C hO
  refine Ow.aloadN C dBG_0 (pc' := 1) rfl rfl rfl ?_
  refine Ow.getF C (tw122 G.1) (K.2.2.2.2.1.ext E) dBG_1 (pc' := 4) rfl ?_
  refine Ow.retA C rfl rfl rfl dBG_4 (by first | decide | (dsimp only; omega) | (simp [Value.category]; done) | (simp [Value.category]; omega)) (by first | decide | (dsimp only; omega) | (simp [Value.category]; done) | (simp [Value.category]; omega)) [] (by simp) ⟨rfl, rfl⟩
abbrev rmLG : Room := { frames := 1, cells := 0, slots := 0, locals := 12 }
theorem con_LG (G : Glob Z a0) (lc bl lg lv : Nat) (K : LocOk Z lc bl lg lv) (h : Heap) (W : List Nat) (E : Ext Z.heap h) : Ow.Con l Z EL1 bb (⟨"java/util/Locale", "getLanguage", "()Ljava/lang/String;"⟩ : MethodName) jdk_2628_method_27_code 1 (Option.some (Jvm.ClassFile.FieldType.object "java/lang/String")) [] rmLG #[.ref lc] h W (fun v h' W' => v = some (.ref lg) ∧ h' = h) := by
  refine Ow.Con.intro (a0 := a0) pn_11 (ewG G) (saG G) bbG [.val (.ref lc)] (by first | exact Ow.locals_all (by simp [Value.category]) rfl | rfl | (simp [argsToLocals, Value.category]; done)) ?_
  intro p e s m below meth c C hO
  refine Ow.aloadN C dLG_0 (pc' := 1) rfl rfl rfl ?_
  refine Ow.getF C (tw114 G.1) (K.2.2.1.ext E) dLG_1 (pc' := 4) rfl ?_
  refine Ow.callV C (y := (⟨"sun/util/locale/BaseLocale", "getLanguage", "()Ljava/lang/String;"⟩ : MethodName)) (z := (⟨"sun/util/locale/BaseLocale", "getLanguage", "()Ljava/lang/String;"⟩ : MethodName)) (tw116 G.1) (tw117 G.1) (tw119 G.1) (tw119 G.1) (tw118 G.1) (tw120 G.1) (tw121 G.1) (by decide) (K.2.2.2.1.ext E) (con_BG G lc bl lg lv K h W E) (fun _ q => q) pd_5 rfl rfl rfl dLG_4 (pc' := 7) rfl (Wt := 0) (Nat.le_refl _) (by first | decide | (dsimp only; omega) | (simp [Value.category]; done) | (simp [Value.category]; omega)) (by first | decide | (dsimp only; omega) | (simp [Value.category]; done) | (simp [Value.category]; omega)) (by first | decide | (dsimp only; omega) | (simp [Value.category]; done) | (simp [Value.category]; omega)) (by first | decide | (dsimp only; omega) | (simp [Value.category]; done) | (simp [Value.category]; omega)) (fun v1 h1 W1 ⟨e1, e1'⟩ s1 => ?_)
  subst e1 e1'
  dsimp only [Option.toList, List.cons_append, List.nil_append]
  refine Ow.retA C rfl rfl rfl dLG_7 (by first | decide | (dsimp only; omega) | (simp [Value.category]; done) | (simp [Value.category]; omega)) (by first | decide | (dsimp only; omega) | (simp [Value.category]; done) | (simp [Value.category]; omega)) [] (by simp) ⟨rfl, rfl⟩
abbrev rmBI : Room := { frames := 1, cells := 0, slots := 0, locals := 12 }
set_option maxHeartbeats 4000000 in
theorem con_BI (G : Glob Z a0) (a d : Nat) (cs : List Int32) (h : Heap) (W : List Nat) (ov oc : Value) (A : Exa Z h a "java/lang/String") (Fv : Fld Z h a "java/lang/String" "value" "[B" ov) (Fc : Fld Z h a "java/lang/String" "coder" "B" oc) (ha : a ∈ W) (D : ArI Z h d .byte (cs.map (nar .byte))) (hL : ∀ z ∈ cs, 0 ≤ z.toInt ∧ z.toInt < 256) (hne : d ≠ a) :
    Ow.Con l Z EL1 bb (⟨"java/lang/String", "<init>", "([BB)V"⟩ : MethodName) jdk_42_method_151_code 3 (Option.none : Option Jvm.ClassFile.FieldType) [] rmBI #[.ref a, .ref d, .int 0] h W (fun v h' W' => v = none ∧ Ow.StrL Z h' a d cs ∧ Keep h h' [a]) := by
  refine Ow.Con.intro (a0 := a0) pn_12 (ewG G) (saG G) bbG [.val (.ref a), .val (.ref d), .val (.int 0)] (by first | exact Ow.locals_all (by simp [Value.category]) rfl | rfl | (simp [argsToLocals, Value.category]; done)) ?_
  intro p e s m below meth c C hO
  refine Ow.aloadN C dBI_0 (pc' := 1) rfl rfl rfl ?_
  refine Ow.initO C (tw18 G.1) (tw19 G.1) (tw20 G.1) dBI_1 (pc' := 4) rfl rfl (by first | decide | (dsimp only; omega) | (simp [Value.category]; done) | (simp [Value.category]; omega)) (by first | decide | (dsimp only; omega) | (simp [Value.category]; done) | (simp [Value.category]; omega)) ?_
  refine Ow.aloadN C dBI_4 (pc' := 5) rfl rfl rfl ?_
  refine Ow.aloadN C dBI_5 (pc' := 6) rfl rfl rfl ?_
  refine Ow.putF C (tw35 G.1) Fv A (Or.inr ⟨(tw36 G.1), rfl, rfl⟩) (tw8 G.1) (ty := (.array .byte)) (by decide) rfl rfl (by first | assumption | (simp; done) | (simp [*]; done)) dBI_6 (pc' := 9) rfl (fun h1 w1 K1 Fv1 => ?_)
  have Fc1 := Fc.other w1 (Or.inr (slot_ne (Or.inr (tw34 G.1)) (Or.inr (tw36 G.1)) (by decide) (t := .byte) (t' := .array .byte) (by decide) (by decide)))
  have A1 := A.keep K1
  have D1 := D.keep K1 (Ow.nin1 hne)
  refine Ow.aloadN C dBI_9 (pc' := 10) rfl rfl rfl ?_
  refine Ow.iloadN C dBI_10 (pc' := 11) rfl rfl ?_
  refine Ow.putF C (tw33 G.1) Fc1 A1 (Or.inr ⟨(tw34 G.1), rfl, rfl⟩) (tw8 G.1) (ty := .byte) (by decide) rfl rfl (by first | assumption | (simp; done) | (simp [*]; done)) dBI_11 (pc' := 14) rfl (fun h2 w2 K2 Fc2 => ?_)
  have Fv2 := Fv1.other w2 (Or.inr (slot_ne (Or.inr (tw36 G.1)) (Or.inr (tw34 G.1)) (by decide) (t := .array .byte) (t' := .byte) (by decide) (by decide)))
  refine Ow.retV C rfl dBI_14 (by first | decide | (dsimp only; omega) | (simp [Value.category]; done) | (simp [Value.category]; omega)) (by first | decide | (dsimp only; omega) | (simp [Value.category]; done) | (simp [Value.category]; omega)) [] (by simp) ⟨rfl, ⟨A1.keep K2, Fv2, Fc2, D1.keep K2 (Ow.nin1 hne), hL⟩, K1.trans K2 (fun _ q => Or.inl q)⟩
theorem lit_ne {h : Heap} {lc bl lg lv b d : Nat} {xs : List Int32} (K : LocOk Z lc bl lg lv) (E : Ext Z.heap h) (Fv : Fld Z h b "java/lang/String" "value" "[B" (.ref d)) (D : ArI Z h d .byte xs) (hx : 0 < xs.length) : ¬ (Value.ref lg) = (Value.ref b) := by
  have h1 : lv ≠ d := by
    obtain ⟨c0, A0, z0⟩ := K.2.2.2.2.2.2
    exact Ow.ArI.ne0 (A0.ext E) z0 D hx
  have := Fld.ne (K.2.2.2.2.2.1.ext E) Fv (fun q => h1 (Value.ref.inj q))
  exact fun q => this (Value.ref.inj q)
abbrev rmSL (B : Nat) : Room := { frames := 2, cells := 8, slots := 40 + B, locals := 30 }
set_option maxHeartbeats 40000000 in
theorem con_SL (G : Glob Z a0) (B : Nat) (a d lc bl lg lv ci : Nat) (cs : List Int32) (h : Heap) (W : List Nat) (S : Ow.StrL Z h a d cs) (K : LocOk Z lc bl lg lv) (Ci : Sta Z Z.heap "java/lang/CharacterDataLatin1" "instance" "Ljava/lang/CharacterDataLatin1;" (.ref ci) ∧ Exa Z Z.heap ci "java/lang/CharacterDataLatin1") (hB : cs.length ≤ B) (hB2 : B ≤ 4000) :
    Ow.Con l Z EL1 bb (⟨"java/lang/StringLatin1", "toLowerCase", "(Ljava/lang/String;[BLjava/util/Locale;)Ljava/lang/String;"⟩ : MethodName) jdk_43_method_32_code 9 (Option.some (Jvm.ClassFile.FieldType.object "java/lang/String")) [] (rmSL B) #[.ref a, .ref d, .ref lc] h W
      (fun v h' W' => ∃ a' d' : Nat, v = some (.ref a') ∧ Ow.StrL Z h' a' d' (cs.map Ow.low) ∧ Keep h h' [] ∧ (a' = a ∨ h.size ≤ a')) := by
  refine Ow.Con.intro (a0 := a0) pn_13 (ewG G) (saG G) bbG [.val (.ref a), .val (.ref d), .val (.ref lc), .unset, .unset, .unset, .unset, .unset, .unset] (by first | exact Ow.locals_all (by simp [Value.category]) rfl | rfl | (simp [argsToLocals, Value.category]; done)) ?_
  intro p e s m below meth c C hO
  have hN : cs.length < 2 ^ 31 := S.len
  have hL := S.2.2.2.2
  have V := S.2.2.2.1
  have hdl : d < h.size := S.lt.2
  have Ec := Ci.2.ext hO.2
  refine Ow.aloadN C dSL_0 (pc' := 1) rfl rfl rfl ?_
  refine Ow.ifnonnullY C 12 dSL_1 (by decide) (by decide) ?_
  refine Ow.aloadN C dSL_12 (pc' := 13) rfl rfl rfl ?_
  refine Ow.arrlen C V dSL_13 (pc' := 14) rfl ?_
  rw [List.length_map]
  -- behind the search: i is the first capital's place, or the length
  have J55 : ∀ (i : Nat) (o5 : Slot), i ≤ cs.length → (∀ j, j < i → Ow.low (cs.getD j 0) = cs.getD j 0) → Ow.okS (some o5) = true →
      Ow.WP p l e (rmSL B) s m #[.ref a, .ref d, .ref lc] below meth c Z EL1 bb (fun v h' W' => ∃ a' d' : Nat, v = some (.ref a') ∧ Ow.StrL Z h' a' d' (cs.map Ow.low) ∧ Keep h h' [] ∧ (a' = a ∨ h.size ≤ a'))
        55 [.val (.ref a), .val (.ref d), .val (.ref lc), .val (.int (Int32.ofNat i)), .val (.int (Int32.ofNat cs.length)), o5, .unset, .unset, .unset] [] h W 0 0 := by
    intro i o5 hi hq ho5
    refine Ow.iloadN C dSL_55 (pc' := 56) rfl rfl ?_
    refine Ow.iload C dSL_56 (pc' := 58) rfl rfl ?_
    by_cases hlt : i = cs.length
    · refine Ow.icmpN C dSL_58 (pc' := 61) rfl (XT.ii_ne_f (by rw [hlt])) ?_
      refine Ow.aloadN C dSL_61 (pc' := 62) rfl rfl rfl ?_
      refine Ow.retA C rfl rfl rfl dSL_62 (by first | decide | (dsimp only; omega) | (simp [Value.category]; done) | (simp [Value.category]; omega)) (by first | decide | (dsimp only; omega) | (simp [Value.category]; done) | (simp [Value.category]; omega)) [] (by simp) ⟨a, d, rfl, by rw [Ow.map_id_of (fun j hj => hq j (by omega))]; exact S, Keep.refl _ _, Or.inl rfl⟩
    · have hlt' : i < cs.length := by omega
      refine Ow.icmpY C 63 dSL_58 (XT.ii_ne_t (fun q => hlt (Ow.ofNat_inj (by omega) hN q))) (by decide) (by decide) ?_
      refine Ow.aloadN C dSL_63 (pc' := 64) rfl rfl rfl ?_
      refine Ow.callV C (y := (⟨"java/util/Locale", "getLanguage", "()Ljava/lang/String;"⟩ : MethodName)) (z := (⟨"java/util/Locale", "getLanguage", "()Ljava/lang/String;"⟩ : MethodName)) (tw109 G.1) (tw110 G.1) (tw112 G.1) (tw112 G.1) (tw111 G.1) (tw73 G.1) (tw113 G.1) (by decide) (K.2.1.ext hO.2) (con_LG G lc bl lg lv K h W hO.2) (fun _ q => q) pd_5 rfl rfl rfl dSL_64 (pc' := 67) rfl (Wt := 0) (Nat.le_refl _) (by first | decide | (dsimp only; omega) | (simp [Value.category]; done) | (simp [Value.category]; omega)) (by first | decide | (dsimp only; omega) | (simp [Value.category]; done) | (simp [Value.category]; omega)) (by first | decide | (dsimp only; omega) | (simp [Value.category]; done) | (simp [Value.category]; omega)) (by first | decide | (dsimp only; omega) | (simp [Value.category]; done) | (simp [Value.category]; omega)) (fun v1 h1 W1 ⟨e1, e1'⟩ s1 => ?_)
      subst e1 e1'
      dsimp only [Option.toList, List.cons_append, List.nil_append]
      refine Ow.astore C dSL_67 (pc' := 69) rfl rfl ho5 ?_
      dsimp only [List.set]
      refine Ow.aload C dSL_69 (pc' := 71) rfl rfl rfl ?_
      refine Ow.ldcS C rfl (N := 8) (xs := [116, 114]) (tw124 G.1) (by decide) (by decide) (by decide) dSL_71 (pc' := 73) rfl (by decide) (by decide) (by first | decide | (dsimp only; omega) | (simp [Value.category]; done) | (simp [Value.category]; omega)) (by first | decide | (dsimp only; omega) | (simp [Value.category]; done) | (simp [Value.category]; omega)) (fun h2 b2 d2 E2 B2 Bc2 Bv2 D2 n2 => ?_)
      have O2 := hO.2
      refine Ow.acmpN C dSL_73 (pc' := 76) rfl rfl rfl (XT.aa_eq_f (lit_ne K (hO.ext E2).2 Bv2 D2 (by decide))) ?_
      refine Ow.aload C dSL_76 (pc' := 78) rfl rfl rfl ?_
      refine Ow.ldcS C rfl (N := 8) (xs := [97, 122]) (tw125 G.1) (by decide) (by decide) (by decide) dSL_78 (pc' := 80) rfl (by decide) (by decide) (by first | decide | (dsimp only; omega) | (simp [Value.category]; done) | (simp [Value.category]; omega)) (by first | decide | (dsimp only; omega) | (simp [Value.category]; done) | (simp [Value.category]; omega)) (fun h3 b3 d3 E3 B3 Bc3 Bv3 D3 n3 => ?_)
      refine Ow.acmpN C dSL_80 (pc' := 83) rfl rfl rfl (XT.aa_eq_f (lit_ne K ((hO.ext E2).ext E3).2 Bv3 D3 (by decide))) ?_
      refine Ow.aload C dSL_83 (pc' := 85) rfl rfl rfl ?_
      refine Ow.ldcS C rfl (N := 8) (xs := [108, 116]) (tw126 G.1) (by decide) (by decide) (by decide) dSL_85 (pc' := 87) rfl (by decide) (by decide) (by first | decide | (dsimp only; omega) | (simp [Value.category]; done) | (simp [Value.category]; omega)) (by first | decide | (dsimp only; omega) | (simp [Value.category]; done) | (simp [Value.category]; omega)) (fun h4 b4 d4 E4 B4 Bc4 Bv4 D4 n4 => ?_)
      refine Ow.acmpY C 99 dSL_87 rfl rfl (XT.aa_ne_t (lit_ne K (((hO.ext E2).ext E3).ext E4).2 Bv4 D4 (by decide))) (by decide) (by decide) ?_
      have O4 := (((hO.ext E2).ext E3).ext E4)
      have g2 := E2.1
      have g3 := E3.1
      have g4 := E4.1
      refine Ow.iload C dSL_99 (pc' := 101) rfl rfl ?_
      refine Ow.newarr C (ty := .byte) (cap := cs.length) rfl rfl (tw26 G.1) dSL_101 (pc' := 103) rfl rfl (by omega) (by dsimp only; omega) (by dsimp only; omega) (fun h5 a5 s5 z5 l5 E5 V5 => ?_)
      have V5' := (((V.ext E2).ext E3).ext E4).ext E5
      have nd5 : d ≠ a5 := by omega
      refine Ow.astore C dSL_103 (pc' := 105) rfl rfl rfl ?_
      dsimp only [List.set]
      refine Ow.aloadN C dSL_105 (pc' := 106) rfl rfl rfl ?_
      refine Ow.iconst C (0 : Int32) dSL_106 (pc' := 107) rfl rfl ?_
      refine Ow.aload C dSL_107 (pc' := 109) rfl rfl rfl ?_
      refine Ow.iconst C (0 : Int32) dSL_109 (pc' := 110) rfl rfl ?_
      refine Ow.iloadN C dSL_110 (pc' := 111) rfl rfl ?_
      refine Ow.acopy C (tw127 G.1) (tw130 G.1) (tw128 G.1) (tw129 G.1) V5' V5 rfl (i := 0) (j := 0) (q := i) rfl rfl (Ow.ofNat_toInt (by omega)) (by simp; omega) (by simp; omega) (by simp) dSL_111 (pc' := 114) rfl rfl (by dsimp only; omega) (Wt := 0) (Nat.le_refl _) (by dsimp only; decide) (fun h6 K6 V6 => ?_)
      have V6' : ArI Z h6 a5 .byte (((cs.map Ow.low).take i).map (nar .byte) ++ List.replicate (cs.length - i) 0) := by
        have e : (List.take 0 (List.replicate cs.length (0 : Int32)) ++ List.take i (List.drop 0 (cs.map (nar .byte))) ++ List.drop (0 + i) (List.replicate cs.length 0)) = ((cs.map Ow.low).take i).map (nar .byte) ++ List.replicate (cs.length - i) 0 := by
          rw [Ow.take_map_id hi hq]; simp [List.map_take]
        rw [← e]; exact V6
      have D6 := V5'.keep K6 (Ow.nin1 nd5)
      have g6 := K6.1
      have K06 : Keep h1 h6 [a5] := ((((((Keep.refl h1 [a5]).ext E2).ext E3).ext E4).ext E5).trans K6 (fun _ q => Or.inl q))
      refine Ow.iloadN C dSL_114 (pc' := 115) rfl rfl ?_
      refine Ow.istore C dSL_115 (pc' := 117) rfl rfl ?_
      dsimp only [List.set]
      have loop : ∀ (r j : Nat) (h7 : Heap) (o8 : Slot), j + r = cs.length → Keep h1 h7 [a5] → ArI Z h7 a5 .byte (((cs.map Ow.low).take j).map (nar .byte) ++ List.replicate r 0) → Ow.okS (some o8) = true →
          Ow.WP p l e (rmSL B) s m #[.ref a, .ref d, .ref lc] below meth c Z EL1 bb (fun v h' W' => ∃ a' d' : Nat, v = some (.ref a') ∧ Ow.StrL Z h' a' d' (cs.map Ow.low) ∧ Keep h1 h' [] ∧ (a' = a ∨ h1.size ≤ a'))
            117 [.val (.ref a), .val (.ref d), .val (.ref lc), .val (.int (Int32.ofNat i)), .val (.int (Int32.ofNat cs.length)), .val (.ref lg), .val (.ref a5), .val (.int (Int32.ofNat j)), o8] [] h7 (a5 :: W) 7 (36 + B) := by
        intro r
        induction r with
        | zero =>
          intro j h7 o8 hj K7 V7 ho8
          obtain rfl : j = cs.length := by omega
          have g7 := K7.1
          have V7' : ArI Z h7 a5 .byte ((cs.map Ow.low).map (nar .byte)) := by
            rw [List.take_of_length_le (by simp)] at V7
            simpa using V7
          refine Ow.iload C dSL_117 (pc' := 119) rfl rfl ?_
          refine Ow.iload C dSL_119 (pc' := 121) rfl rfl ?_
          refine Ow.icmpY C 175 dSL_121 (XT.ii_ge_t (by rw [Ow.lt32]; omega)) (by decide) (by decide) ?_
          refine Ow.newO C (tw134 G.1) (tw8 G.1) (tw9 G.1) dSL_175 (pc' := 178) rfl (by first | decide | (dsimp only; omega) | (simp [Value.category]; done) | (simp [Value.category]; omega)) (by first | decide | (dsimp only; omega) | (simp [Value.category]; done) | (simp [Value.category]; omega)) (fun h8 a8 s8 z8 l8 E8 ⟨A8, D8⟩ => ?_)
          refine Ow.dup C dSL_178 (pc' := 179) rfl rfl ?_
          refine Ow.aload C dSL_179 (pc' := 181) rfl rfl rfl ?_
          refine Ow.iconst C (0 : Int32) dSL_181 (pc' := 182) rfl rfl ?_
          have l5 := V7'.lt
          refine Ow.callI C rfl (tw135 G.1) (tw136 G.1) (tw9 G.1) (tw137 G.1) (by decide) (con_BI G a8 a5 (cs.map Ow.low) h8 _ _ _ A8 (D8 (Or.inr (tw36 G.1)) (ty := .array .byte) (by decide)) (D8 (Or.inr (tw34 G.1)) (ty := .byte) (by decide)) (by simp) (V7'.ext E8) (by intro z hz; obtain ⟨y, hy, rfl⟩ := List.mem_map.mp hz; exact Ow.low_rng (hL y hy).1 (hL y hy).2) (by omega)) (fun _ q => q) pd_6 rfl rfl rfl dSL_182 (pc' := 185) rfl (Wt := 1) (Nat.le_refl _) (by first | decide | (dsimp only; omega) | (simp [Value.category]; done) | (simp [Value.category]; omega)) (by first | decide | (dsimp only; omega) | (simp [Value.category]; done) | (simp [Value.category]; omega)) (by first | decide | (dsimp only; omega) | (simp [Value.category]; done) | (simp [Value.category]; omega)) (by first | decide | (dsimp only; omega) | (simp [Value.category]; done) | (simp [Value.category]; omega)) (fun v9 h9 W9 ⟨e9, S9, K9⟩ s9 => ?_)
          subst e9
          dsimp only [Option.toList, List.cons_append, List.nil_append]
          refine Ow.retA C rfl rfl rfl dSL_185 (by first | decide | (dsimp only; omega) | (simp [Value.category]; done) | (simp [Value.category]; omega)) (by first | decide | (dsimp only; omega) | (simp [Value.category]; done) | (simp [Value.category]; omega)) [] (by simp) ⟨a8, a5, rfl, S9, (((Keep.refl h1 []).trans K7 (fun z hz => Or.inr (by rw [List.mem_singleton.mp hz]; omega))).ext E8).trans K9 (fun z hz => Or.inr (by rw [List.mem_singleton.mp hz]; omega)), Or.inr (by omega)⟩
        | succ r ih =>
          intro j h7 o8 hj K7 V7 ho8
          have hj' : j < cs.length := by omega
          have D7 := V.keep K7 (Ow.nin1 nd5)
          have hc := Ow.getD_rng hL hj'
          have hlr := Ow.low_rng hc.1 hc.2
          refine Ow.iload C dSL_117 (pc' := 119) rfl rfl ?_
          refine Ow.iload C dSL_119 (pc' := 121) rfl rfl ?_
          refine Ow.icmpN C dSL_121 (pc' := 124) rfl (XT.ii_ge_f (by rw [Ow.lt32, Ow.ofNat_toInt (by omega), Ow.ofNat_toInt hN]; omega)) ?_
          refine Ow.aloadN C dSL_124 (pc' := 125) rfl rfl rfl ?_
          refine Ow.iload C dSL_125 (pc' := 127) rfl rfl ?_
          refine Ow.baload C D7 (i := j) (Ow.ofNat_toInt (by omega)) (by simpa using hj') dSL_127 (pc' := 128) rfl ?_
          rw [Ow.map_getD hj']
          refine Ow.sipush C (255 : Int32) dSL_128 (pc' := 131) rfl rfl ?_
          refine Ow.iand C dSL_131 (pc' := 132) rfl ?_
          rw [Ow.byte_back hc.1 hc.2]
          refine Ow.istore C dSL_132 (pc' := 134) rfl ho8 ?_
          dsimp only [List.set]
          refine Ow.getS C (tw87 G.1) Ci.1 dSL_134 (pc' := 137) rfl ?_
          refine Ow.iload C dSL_137 (pc' := 139) rfl rfl ?_
          refine Ow.callV C (y := (⟨"java/lang/CharacterDataLatin1", "toLowerCase", "(I)I"⟩ : MethodName)) (z := (⟨"java/lang/CharacterDataLatin1", "toLowerCase", "(I)I"⟩ : MethodName)) (tw89 G.1) (tw90 G.1) (tw92 G.1) (tw92 G.1) (tw91 G.1) (tw88 G.1) (tw93 G.1) (by decide) (Ec.keep K7) (con_CD G ci (cs.getD j 0) hc.1 hc.2 h7 _) (fun _ q => q) pd_7 rfl rfl rfl dSL_139 (pc' := 142) rfl (Wt := 0) (Nat.le_refl _) (by first | decide | (dsimp only; omega) | (simp [Value.category]; done) | (simp [Value.category]; omega)) (by first | decide | (dsimp only; omega) | (simp [Value.category]; done) | (simp [Value.category]; omega)) (by first | decide | (dsimp only; omega) | (simp [Value.category]; done) | (simp [Value.category]; omega)) (by first | decide | (dsimp only; omega) | (simp [Value.category]; done) | (simp [Value.category]; omega)) (fun v8 h8 W8 ⟨e8, e8'⟩ s8 => ?_)
          subst e8 e8'
          dsimp only [Option.toList, List.cons_append, List.nil_append]
          refine Ow.istore C dSL_142 (pc' := 144) rfl rfl ?_
          dsimp only [List.set]
          refine Ow.iload C dSL_144 (pc' := 146) rfl rfl ?_
          refine Ow.callS C (tw131 G.1) (tw132 G.1) (tw70 G.1) (tw133 G.1) (by decide) (con_CE G (Ow.low (cs.getD j 0)) hlr.1 h8 _) (fun _ q => q) pd_8 rfl rfl rfl dSL_146 (pc' := 149) rfl (Wt := 0) (Nat.le_refl _) (by first | decide | (dsimp only; omega) | (simp [Value.category]; done) | (simp [Value.category]; omega)) (by first | decide | (dsimp only; omega) | (simp [Value.category]; done) | (simp [Value.category]; omega)) (by first | decide | (dsimp only; omega) | (simp [Value.category]; done) | (simp [Value.category]; omega)) (by first | decide | (dsimp only; omega) | (simp [Value.category]; done) | (simp [Value.category]; omega)) (fun v9 h9 W9 ⟨e9, e9'⟩ s9 => ?_)
          rw [if_pos hlr.2] at e9
          subst e9 e9'
          dsimp only [Option.toList, List.cons_append, List.nil_append]
          refine Ow.ifCY C 161 dSL_149 (XT.i0_ne_t (by decide)) (by decide) (by decide) ?_
          refine Ow.aload C dSL_161 (pc' := 163) rfl rfl rfl ?_
          refine Ow.iload C dSL_163 (pc' := 165) rfl rfl ?_
          refine Ow.iload C dSL_165 (pc' := 167) rfl rfl ?_
          refine Ow.i2b C dSL_167 (pc' := 168) rfl ?_
          refine Ow.bastore C V7 (i := j) (Ow.ofNat_toInt (by omega)) (by simp; omega) (by simp) dSL_168 (pc' := 169) rfl (fun h10 K10 V10 => ?_)
          rw [Ow.nar_byte_nar'] at V10
          have e10 : Ow.low (cs.getD j 0) = (cs.map Ow.low).getD j 0 := (Ow.map_getD hj').symm
          rw [e10, Ow.take_step (by simpa using hj')] at V10
          refine Ow.iinc C (1 : Int32) dSL_169 (pc' := 172) rfl rfl rfl ?_
          dsimp only [List.set]
          refine Ow.goto C 117 dSL_172 (by decide) (by decide) ?_
          rw [← inc_ofNat]
          exact ih (j + 1) h10 _ (by omega) (K7.trans K10 (fun _ q => Or.inl q)) V10 rfl
      exact (loop (cs.length - i) i h6 .unset (by omega) K06 V6' rfl).room (by simp) (by simp; omega)
  have find : ∀ (r i : Nat) (o5 : Slot), i + r = cs.length → (∀ j, j < i → Ow.low (cs.getD j 0) = cs.getD j 0) → Ow.okS (some o5) = true →
      Ow.WP p l e (rmSL B) s m #[.ref a, .ref d, .ref lc] below meth c Z EL1 bb (fun v h' W' => ∃ a' d' : Nat, v = some (.ref a') ∧ Ow.StrL Z h' a' d' (cs.map Ow.low) ∧ Keep h h' [] ∧ (a' = a ∨ h.size ≤ a'))
        18 [.val (.ref a), .val (.ref d), .val (.ref lc), .val (.int (Int32.ofNat i)), .val (.int (Int32.ofNat cs.length)), o5, .unset, .unset, .unset] [] h W 0 0 := by
    intro r
    induction r with
    | zero =>
      intro i o5 hi hq ho5
      obtain rfl : i = cs.length := by omega
      refine Ow.iloadN C dSL_18 (pc' := 19) rfl rfl ?_
      refine Ow.iload C dSL_19 (pc' := 21) rfl rfl ?_
      refine Ow.icmpY C 55 dSL_21 (XT.ii_ge_t (by rw [Ow.lt32]; omega)) (by decide) (by decide) ?_
      exact J55 _ o5 (Nat.le_refl _) hq ho5
    | succ r ih =>
      intro i o5 hi hq ho5
      have hi' : i < cs.length := by omega
      have hc := Ow.getD_rng hL hi'
      refine Ow.iloadN C dSL_18 (pc' := 19) rfl rfl ?_
      refine Ow.iload C dSL_19 (pc' := 21) rfl rfl ?_
      refine Ow.icmpN C dSL_21 (pc' := 24) rfl (XT.ii_ge_f (by rw [Ow.lt32, Ow.ofNat_toInt (by omega), Ow.ofNat_toInt hN]; omega)) ?_
      refine Ow.aloadN C dSL_24 (pc' := 25) rfl rfl rfl ?_
      refine Ow.iloadN C dSL_25 (pc' := 26) rfl rfl ?_
      refine Ow.baload C V (i := i) (Ow.ofNat_toInt (by omega)) (by simpa using hi') dSL_26 (pc' := 27) rfl ?_
      rw [Ow.map_getD hi']
      refine Ow.sipush C (255 : Int32) dSL_27 (pc' := 30) rfl rfl ?_
      refine Ow.iand C dSL_30 (pc' := 31) rfl ?_
      rw [Ow.byte_back hc.1 hc.2]
      refine Ow.istore C dSL_31 (pc' := 33) rfl ho5 ?_
      dsimp only [List.set]
      refine Ow.iload C dSL_33 (pc' := 35) rfl rfl ?_
      refine Ow.getS C (tw87 G.1) Ci.1 dSL_35 (pc' := 38) rfl ?_
      refine Ow.iload C dSL_38 (pc' := 40) rfl rfl ?_
      refine Ow.callV C (y := (⟨"java/lang/CharacterDataLatin1", "toLowerCase", "(I)I"⟩ : MethodName)) (z := (⟨"java/lang/CharacterDataLatin1", "toLowerCase", "(I)I"⟩ : MethodName)) (tw89 G.1) (tw90 G.1) (tw92 G.1) (tw92 G.1) (tw91 G.1) (tw88 G.1) (tw93 G.1) (by decide) Ec (con_CD G ci (cs.getD i 0) hc.1 hc.2 h _) (fun _ q => q) pd_7 rfl rfl rfl dSL_40 (pc' := 43) rfl (Wt := 1) (Nat.le_refl _) (by first | decide | (dsimp only; omega) | (simp [Value.category]; done) | (simp [Value.category]; omega)) (by first | decide | (dsimp only; omega) | (simp [Value.category]; done) | (simp [Value.category]; omega)) (by first | decide | (dsimp only; omega) | (simp [Value.category]; done) | (simp [Value.category]; omega)) (by first | decide | (dsimp only; omega) | (simp [Value.category]; done) | (simp [Value.category]; omega)) (fun v8 h8 W8 ⟨e8, e8'⟩ s8 => ?_)
      subst e8 e8'
      dsimp only [Option.toList, List.cons_append, List.nil_append]
      refine Ow.icmp C 49 46 dSL_43 (Ow.kEq _ _) (by decide) (by decide) rfl (fun hcc => ?_) (fun hcc => ?_)
      · refine Ow.iinc C (1 : Int32) dSL_49 (pc' := 52) rfl rfl rfl ?_
        dsimp only [List.set]
        refine Ow.goto C 18 dSL_52 (by decide) (by decide) ?_
        rw [← inc_ofNat]
        exact ih (i + 1) _ (by omega) (fun j hj => by
          rcases Nat.lt_succ_iff_lt_or_eq.mp hj with q | rfl
          · exact hq j q
          · exact hcc.symm) rfl
      · refine Ow.goto C 55 dSL_46 (by decide) (by decide) ?_
        exact J55 i _ (by omega) hq rfl
  refine Ow.istore C dSL_14 (pc' := 16) rfl rfl ?_
  dsimp only [List.set]
  refine Ow.iconst C (0 : Int32) dSL_16 (pc' := 17) rfl rfl ?_
  refine Ow.istoreN C dSL_17 (pc' := 18) rfl rfl ?_
  dsimp only [List.set]
  exact find cs.length 0 .unset (by omega) (fun j hj => by omega) rfl
abbrev rmTL (B : Nat) : Room := { frames := 3, cells := 8, slots := 40 + B, locals := 50 }
theorem con_TL (G : Glob Z a0) (B : Nat) (a d lc bl lg lv ci : Nat) (cs : List Int32) (h : Heap) (W : List Nat) (S : Ow.StrL Z h a d cs) (K : LocOk Z lc bl lg lv) (Ci : Sta Z Z.heap "java/lang/CharacterDataLatin1" "instance" "Ljava/lang/CharacterDataLatin1;" (.ref ci) ∧ Exa Z Z.heap ci "java/lang/CharacterDataLatin1") (hB : cs.length ≤ B) (hB2 : B ≤ 4000) :
    Ow.Con l Z EL1 bb (⟨"java/lang/String", "toLowerCase", "(Ljava/util/Locale;)Ljava/lang/String;"⟩ : MethodName) jdk_42_method_109_code 2 (Option.some (Jvm.ClassFile.FieldType.object "java/lang/String")) [] (rmTL B) #[.ref a, .ref lc] h W
      (fun v h' W' => ∃ a' d' : Nat, v = some (.ref a') ∧ Ow.StrL Z h' a' d' (cs.map Ow.low) ∧ Keep h h' [] ∧ (a' = a ∨ h.size ≤ a')) := by
  refine Ow.Con.intro (a0 := a0) pn_14 (ewG G) (saG G) bbG [.val (.ref a), .val (.ref lc)] (by first | exact Ow.locals_all (by simp [Value.category]) rfl | rfl | (simp [argsToLocals, Value.category]; done)) ?_
  intro p e s m below meth c C hO
  refine Ow.aloadN C dTL_0 (pc' := 1) rfl rfl rfl ?_
  refine Ow.callV C (y := (⟨"java/lang/String", "isLatin1", "()Z"⟩ : MethodName)) (z := (⟨"java/lang/String", "isLatin1", "()Z"⟩ : MethodName)) (tw79 G.1) (tw80 G.1) (tw82 G.1) (tw82 G.1) (tw81 G.1) (tw9 G.1) (tw83 G.1) (by decide) S.1 (con_IL G a 0 h W S.2.2.1) (fun _ q => q) pd_9 rfl rfl rfl dTL_1 (pc' := 4) rfl (Wt := 0) (Nat.le_refl _) (by first | decide | (dsimp only; omega) | (simp [Value.category]; done) | (simp [Value.category]; omega)) (by first | decide | (dsimp only; omega) | (simp [Value.category]; done) | (simp [Value.category]; omega)) (by first | decide | (dsimp only; omega) | (simp [Value.category]; done) | (simp [Value.category]; omega)) (by first | decide | (dsimp only; omega) | (simp [Value.category]; done) | (simp [Value.category]; omega)) (fun v1 h1 W1 ⟨e1, e1'⟩ s1 => ?_)
  rw [if_pos rfl] at e1
  subst e1 e1'
  dsimp only [Option.toList, List.cons_append, List.nil_append]
  refine Ow.ifCN C dTL_4 (pc' := 7) rfl (XT.i0_eq_f (by decide)) ?_
  refine Ow.aloadN C dTL_7 (pc' := 8) rfl rfl rfl ?_
  refine Ow.aloadN C dTL_8 (pc' := 9) rfl rfl rfl ?_
  refine Ow.getF C (tw35 G.1) S.2.1 dTL_9 (pc' := 12) rfl ?_
  refine Ow.aloadN C dTL_12 (pc' := 13) rfl rfl rfl ?_
  refine Ow.callS C (tw84 G.1) (tw85 G.1) (tw70 G.1) (tw86 G.1) (by decide) (con_SL G B a d lc bl lg lv ci cs h1 W S K Ci hB hB2) (fun _ q => q) pd_10 rfl rfl rfl dTL_13 (pc' := 16) rfl (Wt := 0) (Nat.le_refl _) (by first | decide | (dsimp only; omega) | (simp [Value.category]; done) | (simp [Value.category]; omega)) (by first | decide | (dsimp only; omega) | (simp [Value.category]; done) | (simp [Value.category]; omega)) (by first | decide | (dsimp only; omega) | (simp [Value.category]; done) | (simp [Value.category]; omega)) (by first | decide | (dsimp only; omega) | (simp [Value.category]; done) | (simp [Value.category]; omega)) (fun v2 h2 W2 ⟨a', d', e2, S2, K2, g2⟩ s2 => ?_)
  subst e2
  dsimp only [Option.toList, List.cons_append, List.nil_append]
  refine Ow.goto C 28 dTL_16 (by decide) (by decide) ?_
  refine Ow.retA C rfl rfl rfl dTL_28 (by first | decide | (dsimp only; omega) | (simp [Value.category]; done) | (simp [Value.category]; omega)) (by first | decide | (dsimp only; omega) | (simp [Value.category]; done) | (simp [Value.category]; omega)) [] (by simp) ⟨a', d', rfl, S2, K2, g2⟩
end StrLow

section Law
variable {l : Launch} {Z : State} {a0 : Array Value}
abbrev AC : String := "org/wardchain/web/AuthorizationHeader"
def lwr (c : Int32) : Prop := (97 ≤ c.toInt ∧ c.toInt ≤ 122) ∨ (224 ≤ c.toInt ∧ c.toInt ≤ 254 ∧ ¬ c.toInt = 247)
instance (c : Int32) : Decidable (lwr c) := by unfold lwr; infer_instance
theorem con_IU (G : Glob Z a0) (c' : Int32) (h : Heap) (W : List Nat) : Ow.Con l Z EL1 bb (⟨"org/wardchain/web/AuthorizationHeaderHasSchemePinLaw", "isUpper", "(C)Z"⟩ : MethodName) method_4_code 1 (Option.some Jvm.ClassFile.FieldType.boolean) [] rm0 #[.int c'] h W (fun v h' W' => v = some (.int (if Ow.upp c' then 1 else 0)) ∧ h' = h) := by
  refine Ow.Con.intro (a0 := a0) pn_15 (ewG G) (saG G) bbG [.val (.int c')] (by first | exact Ow.locals_all (by simp [Value.category]) rfl | rfl | (simp [argsToLocals, Value.category]; done)) ?_
  intro p e s m below meth c C hO
  have k0 : ((0 : Int32)).toInt = 0 := rfl
  have k1 : ((1 : Int32)).toInt = 1 := rfl
  have k65 : ((65 : Int32)).toInt = 65 := rfl
  have k90 : ((90 : Int32)).toInt = 90 := rfl
  have k192 : ((192 : Int32)).toInt = 192 := rfl
  have k215 : ((215 : Int32)).toInt = 215 := rfl
  have k222 : ((222 : Int32)).toInt = 222 := rfl
  refine Ow.iloadN C dIU_0 (pc' := 1) rfl rfl ?_
  refine Ow.bipush C (65 : Int32) dIU_1 (pc' := 3) rfl rfl ?_
  refine Ow.icmp C 12 6 dIU_3 (Ow.kLt _ _) (by decide) (by decide) rfl (fun b1 => ?_) (fun b1 => ?_)
  · refine Ow.iloadN C dIU_12 (pc' := 13) rfl rfl ?_
    refine Ow.sipush C (192 : Int32) dIU_13 (pc' := 16) rfl rfl ?_
    refine Ow.icmp C 37 19 dIU_16 (Ow.kLt _ _) (by decide) (by decide) rfl (fun b2 => ?_) (fun b2 => ?_)
    · refine Ow.iconst C (0 : Int32) dIU_37 (pc' := 38) rfl rfl ?_
      refine Ow.retN C (t := .boolean) rfl (by simp) dIU_38 (by first | decide | (dsimp only; omega) | (simp [Value.category]; done) | (simp [Value.category]; omega)) (by first | decide | (dsimp only; omega) | (simp [Value.category]; done) | (simp [Value.category]; omega)) [] (by simp) ⟨by simp only [Ow.lt32, Ow.eq32] at *; first | (rw [if_pos (by unfold Ow.upp; omega)]; rfl) | (rw [if_neg (by unfold Ow.upp; omega)]; rfl), rfl⟩
    · refine Ow.iloadN C dIU_19 (pc' := 20) rfl rfl ?_
      refine Ow.sipush C (222 : Int32) dIU_20 (pc' := 23) rfl rfl ?_
      refine Ow.icmp C 37 26 dIU_23 (Ow.kGt _ _) (by decide) (by decide) rfl (fun b3 => ?_) (fun b3 => ?_)
      · refine Ow.iconst C (0 : Int32) dIU_37 (pc' := 38) rfl rfl ?_
        refine Ow.retN C (t := .boolean) rfl (by simp) dIU_38 (by first | decide | (dsimp only; omega) | (simp [Value.category]; done) | (simp [Value.category]; omega)) (by first | decide | (dsimp only; omega) | (simp [Value.category]; done) | (simp [Value.category]; omega)) [] (by simp) ⟨by simp only [Ow.lt32, Ow.eq32] at *; first | (rw [if_pos (by unfold Ow.upp; omega)]; rfl) | (rw [if_neg (by unfold Ow.upp; omega)]; rfl), rfl⟩
      · refine Ow.iloadN C dIU_26 (pc' := 27) rfl rfl ?_
        refine Ow.sipush C (215 : Int32) dIU_27 (pc' := 30) rfl rfl ?_
        refine Ow.icmp C 37 33 dIU_30 (Ow.kEq _ _) (by decide) (by decide) rfl (fun b4 => ?_) (fun b4 => ?_)
        · refine Ow.iconst C (0 : Int32) dIU_37 (pc' := 38) rfl rfl ?_
          refine Ow.retN C (t := .boolean) rfl (by simp) dIU_38 (by first | decide | (dsimp only; omega) | (simp [Value.category]; done) | (simp [Value.category]; omega)) (by first | decide | (dsimp only; omega) | (simp [Value.category]; done) | (simp [Value.category]; omega)) [] (by simp) ⟨by simp only [Ow.lt32, Ow.eq32] at *; first | (rw [if_pos (by unfold Ow.upp; omega)]; rfl) | (rw [if_neg (by unfold Ow.upp; omega)]; rfl), rfl⟩
        · refine Ow.iconst C (1 : Int32) dIU_33 (pc' := 34) rfl rfl ?_
          refine Ow.goto C 38 dIU_34 (by decide) (by decide) ?_
          refine Ow.retN C (t := .boolean) rfl (by simp) dIU_38 (by first | decide | (dsimp only; omega) | (simp [Value.category]; done) | (simp [Value.category]; omega)) (by first | decide | (dsimp only; omega) | (simp [Value.category]; done) | (simp [Value.category]; omega)) [] (by simp) ⟨by simp only [Ow.lt32, Ow.eq32] at *; first | (rw [if_pos (by unfold Ow.upp; omega)]; rfl) | (rw [if_neg (by unfold Ow.upp; omega)]; rfl), rfl⟩
  · refine Ow.iloadN C dIU_6 (pc' := 7) rfl rfl ?_
    refine Ow.bipush C (90 : Int32) dIU_7 (pc' := 9) rfl rfl ?_
    refine Ow.icmp C 33 12 dIU_9 (Ow.kLe _ _) (by decide) (by decide) rfl (fun b2 => ?_) (fun b2 => ?_)
    · refine Ow.iconst C (1 : Int32) dIU_33 (pc' := 34) rfl rfl ?_
      refine Ow.goto C 38 dIU_34 (by decide) (by decide) ?_
      refine Ow.retN C (t := .boolean) rfl (by simp) dIU_38 (by first | decide | (dsimp only; omega) | (simp [Value.category]; done) | (simp [Value.category]; omega)) (by first | decide | (dsimp only; omega) | (simp [Value.category]; done) | (simp [Value.category]; omega)) [] (by simp) ⟨by simp only [Ow.lt32, Ow.eq32] at *; first | (rw [if_pos (by unfold Ow.upp; omega)]; rfl) | (rw [if_neg (by unfold Ow.upp; omega)]; rfl), rfl⟩
    · refine Ow.iloadN C dIU_12 (pc' := 13) rfl rfl ?_
      refine Ow.sipush C (192 : Int32) dIU_13 (pc' := 16) rfl rfl ?_
      refine Ow.icmp C 37 19 dIU_16 (Ow.kLt _ _) (by decide) (by decide) rfl (fun b3 => ?_) (fun b3 => ?_)
      · refine Ow.iconst C (0 : Int32) dIU_37 (pc' := 38) rfl rfl ?_
        refine Ow.retN C (t := .boolean) rfl (by simp) dIU_38 (by first | decide | (dsimp only; omega) | (simp [Value.category]; done) | (simp [Value.category]; omega)) (by first | decide | (dsimp only; omega) | (simp [Value.category]; done) | (simp [Value.category]; omega)) [] (by simp) ⟨by simp only [Ow.lt32, Ow.eq32] at *; first | (rw [if_pos (by unfold Ow.upp; omega)]; rfl) | (rw [if_neg (by unfold Ow.upp; omega)]; rfl), rfl⟩
      · refine Ow.iloadN C dIU_19 (pc' := 20) rfl rfl ?_
        refine Ow.sipush C (222 : Int32) dIU_20 (pc' := 23) rfl rfl ?_
        refine Ow.icmp C 37 26 dIU_23 (Ow.kGt _ _) (by decide) (by decide) rfl (fun b4 => ?_) (fun b4 => ?_)
        · refine Ow.iconst C (0 : Int32) dIU_37 (pc' := 38) rfl rfl ?_
          refine Ow.retN C (t := .boolean) rfl (by simp) dIU_38 (by first | decide | (dsimp only; omega) | (simp [Value.category]; done) | (simp [Value.category]; omega)) (by first | decide | (dsimp only; omega) | (simp [Value.category]; done) | (simp [Value.category]; omega)) [] (by simp) ⟨by simp only [Ow.lt32, Ow.eq32] at *; first | (rw [if_pos (by unfold Ow.upp; omega)]; rfl) | (rw [if_neg (by unfold Ow.upp; omega)]; rfl), rfl⟩
        · refine Ow.iloadN C dIU_26 (pc' := 27) rfl rfl ?_
          refine Ow.sipush C (215 : Int32) dIU_27 (pc' := 30) rfl rfl ?_
          refine Ow.icmp C 37 33 dIU_30 (Ow.kEq _ _) (by decide) (by decide) rfl (fun b5 => ?_) (fun b5 => ?_)
          · refine Ow.iconst C (0 : Int32) dIU_37 (pc' := 38) rfl rfl ?_
            refine Ow.retN C (t := .boolean) rfl (by simp) dIU_38 (by first | decide | (dsimp only; omega) | (simp [Value.category]; done) | (simp [Value.category]; omega)) (by first | decide | (dsimp only; omega) | (simp [Value.category]; done) | (simp [Value.category]; omega)) [] (by simp) ⟨by simp only [Ow.lt32, Ow.eq32] at *; first | (rw [if_pos (by unfold Ow.upp; omega)]; rfl) | (rw [if_neg (by unfold Ow.upp; omega)]; rfl), rfl⟩
          · refine Ow.iconst C (1 : Int32) dIU_33 (pc' := 34) rfl rfl ?_
            refine Ow.goto C 38 dIU_34 (by decide) (by decide) ?_
            refine Ow.retN C (t := .boolean) rfl (by simp) dIU_38 (by first | decide | (dsimp only; omega) | (simp [Value.category]; done) | (simp [Value.category]; omega)) (by first | decide | (dsimp only; omega) | (simp [Value.category]; done) | (simp [Value.category]; omega)) [] (by simp) ⟨by simp only [Ow.lt32, Ow.eq32] at *; first | (rw [if_pos (by unfold Ow.upp; omega)]; rfl) | (rw [if_neg (by unfold Ow.upp; omega)]; rfl), rfl⟩
theorem con_IO (G : Glob Z a0) (c' : Int32) (h : Heap) (W : List Nat) : Ow.Con l Z EL1 bb (⟨"org/wardchain/web/AuthorizationHeaderHasSchemePinLaw", "isLower", "(C)Z"⟩ : MethodName) method_5_code 1 (Option.some Jvm.ClassFile.FieldType.boolean) [] rm0 #[.int c'] h W (fun v h' W' => v = some (.int (if lwr c' then 1 else 0)) ∧ h' = h) := by
  refine Ow.Con.intro (a0 := a0) pn_16 (ewG G) (saG G) bbG [.val (.int c')] (by first | exact Ow.locals_all (by simp [Value.category]) rfl | rfl | (simp [argsToLocals, Value.category]; done)) ?_
  intro p e s m below meth c C hO
  have k0 : ((0 : Int32)).toInt = 0 := rfl
  have k1 : ((1 : Int32)).toInt = 1 := rfl
  have k97 : ((97 : Int32)).toInt = 97 := rfl
  have k122 : ((122 : Int32)).toInt = 122 := rfl
  have k224 : ((224 : Int32)).toInt = 224 := rfl
  have k247 : ((247 : Int32)).toInt = 247 := rfl
  have k254 : ((254 : Int32)).toInt = 254 := rfl
  refine Ow.iloadN C dIO_0 (pc' := 1) rfl rfl ?_
  refine Ow.bipush C (97 : Int32) dIO_1 (pc' := 3) rfl rfl ?_
  refine Ow.icmp C 12 6 dIO_3 (Ow.kLt _ _) (by decide) (by decide) rfl (fun b1 => ?_) (fun b1 => ?_)
  · refine Ow.iloadN C dIO_12 (pc' := 13) rfl rfl ?_
    refine Ow.sipush C (224 : Int32) dIO_13 (pc' := 16) rfl rfl ?_
    refine Ow.icmp C 37 19 dIO_16 (Ow.kLt _ _) (by decide) (by decide) rfl (fun b2 => ?_) (fun b2 => ?_)
    · refine Ow.iconst C (0 : Int32) dIO_37 (pc' := 38) rfl rfl ?_
      refine Ow.retN C (t := .boolean) rfl (by simp) dIO_38 (by first | decide | (dsimp only; omega) | (simp [Value.category]; done) | (simp [Value.category]; omega)) (by first | decide | (dsimp only; omega) | (simp [Value.category]; done) | (simp [Value.category]; omega)) [] (by simp) ⟨by simp only [Ow.lt32, Ow.eq32] at *; first | (rw [if_pos (by unfold lwr; omega)]; rfl) | (rw [if_neg (by unfold lwr; omega)]; rfl), rfl⟩
    · refine Ow.iloadN C dIO_19 (pc' := 20) rfl rfl ?_
      refine Ow.sipush C (254 : Int32) dIO_20 (pc' := 23) rfl rfl ?_
      refine Ow.icmp C 37 26 dIO_23 (Ow.kGt _ _) (by decide) (by decide) rfl (fun b3 => ?_) (fun b3 => ?_)
      · refine Ow.iconst C (0 : Int32) dIO_37 (pc' := 38) rfl rfl ?_
        refine Ow.retN C (t := .boolean) rfl (by simp) dIO_38 (by first | decide | (dsimp only; omega) | (simp [Value.category]; done) | (simp [Value.category]; omega)) (by first | decide | (dsimp only; omega) | (simp [Value.category]; done) | (simp [Value.category]; omega)) [] (by simp) ⟨by simp only [Ow.lt32, Ow.eq32] at *; first | (rw [if_pos (by unfold lwr; omega)]; rfl) | (rw [if_neg (by unfold lwr; omega)]; rfl), rfl⟩
      · refine Ow.iloadN C dIO_26 (pc' := 27) rfl rfl ?_
        refine Ow.sipush C (247 : Int32) dIO_27 (pc' := 30) rfl rfl ?_
        refine Ow.icmp C 37 33 dIO_30 (Ow.kEq _ _) (by decide) (by decide) rfl (fun b4 => ?_) (fun b4 => ?_)
        · refine Ow.iconst C (0 : Int32) dIO_37 (pc' := 38) rfl rfl ?_
          refine Ow.retN C (t := .boolean) rfl (by simp) dIO_38 (by first | decide | (dsimp only; omega) | (simp [Value.category]; done) | (simp [Value.category]; omega)) (by first | decide | (dsimp only; omega) | (simp [Value.category]; done) | (simp [Value.category]; omega)) [] (by simp) ⟨by simp only [Ow.lt32, Ow.eq32] at *; first | (rw [if_pos (by unfold lwr; omega)]; rfl) | (rw [if_neg (by unfold lwr; omega)]; rfl), rfl⟩
        · refine Ow.iconst C (1 : Int32) dIO_33 (pc' := 34) rfl rfl ?_
          refine Ow.goto C 38 dIO_34 (by decide) (by decide) ?_
          refine Ow.retN C (t := .boolean) rfl (by simp) dIO_38 (by first | decide | (dsimp only; omega) | (simp [Value.category]; done) | (simp [Value.category]; omega)) (by first | decide | (dsimp only; omega) | (simp [Value.category]; done) | (simp [Value.category]; omega)) [] (by simp) ⟨by simp only [Ow.lt32, Ow.eq32] at *; first | (rw [if_pos (by unfold lwr; omega)]; rfl) | (rw [if_neg (by unfold lwr; omega)]; rfl), rfl⟩
  · refine Ow.iloadN C dIO_6 (pc' := 7) rfl rfl ?_
    refine Ow.bipush C (122 : Int32) dIO_7 (pc' := 9) rfl rfl ?_
    refine Ow.icmp C 33 12 dIO_9 (Ow.kLe _ _) (by decide) (by decide) rfl (fun b2 => ?_) (fun b2 => ?_)
    · refine Ow.iconst C (1 : Int32) dIO_33 (pc' := 34) rfl rfl ?_
      refine Ow.goto C 38 dIO_34 (by decide) (by decide) ?_
      refine Ow.retN C (t := .boolean) rfl (by simp) dIO_38 (by first | decide | (dsimp only; omega) | (simp [Value.category]; done) | (simp [Value.category]; omega)) (by first | decide | (dsimp only; omega) | (simp [Value.category]; done) | (simp [Value.category]; omega)) [] (by simp) ⟨by simp only [Ow.lt32, Ow.eq32] at *; first | (rw [if_pos (by unfold lwr; omega)]; rfl) | (rw [if_neg (by unfold lwr; omega)]; rfl), rfl⟩
    · refine Ow.iloadN C dIO_12 (pc' := 13) rfl rfl ?_
      refine Ow.sipush C (224 : Int32) dIO_13 (pc' := 16) rfl rfl ?_
      refine Ow.icmp C 37 19 dIO_16 (Ow.kLt _ _) (by decide) (by decide) rfl (fun b3 => ?_) (fun b3 => ?_)
      · refine Ow.iconst C (0 : Int32) dIO_37 (pc' := 38) rfl rfl ?_
        refine Ow.retN C (t := .boolean) rfl (by simp) dIO_38 (by first | decide | (dsimp only; omega) | (simp [Value.category]; done) | (simp [Value.category]; omega)) (by first | decide | (dsimp only; omega) | (simp [Value.category]; done) | (simp [Value.category]; omega)) [] (by simp) ⟨by simp only [Ow.lt32, Ow.eq32] at *; first | (rw [if_pos (by unfold lwr; omega)]; rfl) | (rw [if_neg (by unfold lwr; omega)]; rfl), rfl⟩
      · refine Ow.iloadN C dIO_19 (pc' := 20) rfl rfl ?_
        refine Ow.sipush C (254 : Int32) dIO_20 (pc' := 23) rfl rfl ?_
        refine Ow.icmp C 37 26 dIO_23 (Ow.kGt _ _) (by decide) (by decide) rfl (fun b4 => ?_) (fun b4 => ?_)
        · refine Ow.iconst C (0 : Int32) dIO_37 (pc' := 38) rfl rfl ?_
          refine Ow.retN C (t := .boolean) rfl (by simp) dIO_38 (by first | decide | (dsimp only; omega) | (simp [Value.category]; done) | (simp [Value.category]; omega)) (by first | decide | (dsimp only; omega) | (simp [Value.category]; done) | (simp [Value.category]; omega)) [] (by simp) ⟨by simp only [Ow.lt32, Ow.eq32] at *; first | (rw [if_pos (by unfold lwr; omega)]; rfl) | (rw [if_neg (by unfold lwr; omega)]; rfl), rfl⟩
        · refine Ow.iloadN C dIO_26 (pc' := 27) rfl rfl ?_
          refine Ow.sipush C (247 : Int32) dIO_27 (pc' := 30) rfl rfl ?_
          refine Ow.icmp C 37 33 dIO_30 (Ow.kEq _ _) (by decide) (by decide) rfl (fun b5 => ?_) (fun b5 => ?_)
          · refine Ow.iconst C (0 : Int32) dIO_37 (pc' := 38) rfl rfl ?_
            refine Ow.retN C (t := .boolean) rfl (by simp) dIO_38 (by first | decide | (dsimp only; omega) | (simp [Value.category]; done) | (simp [Value.category]; omega)) (by first | decide | (dsimp only; omega) | (simp [Value.category]; done) | (simp [Value.category]; omega)) [] (by simp) ⟨by simp only [Ow.lt32, Ow.eq32] at *; first | (rw [if_pos (by unfold lwr; omega)]; rfl) | (rw [if_neg (by unfold lwr; omega)]; rfl), rfl⟩
          · refine Ow.iconst C (1 : Int32) dIO_33 (pc' := 34) rfl rfl ?_
            refine Ow.goto C 38 dIO_34 (by decide) (by decide) ?_
            refine Ow.retN C (t := .boolean) rfl (by simp) dIO_38 (by first | decide | (dsimp only; omega) | (simp [Value.category]; done) | (simp [Value.category]; omega)) (by first | decide | (dsimp only; omega) | (simp [Value.category]; done) | (simp [Value.category]; omega)) [] (by simp) ⟨by simp only [Ow.lt32, Ow.eq32] at *; first | (rw [if_pos (by unfold lwr; omega)]; rfl) | (rw [if_neg (by unfold lwr; omega)]; rfl), rfl⟩
abbrev rmLO : Room := { frames := 1, cells := 0, slots := 0, locals := 12 }
theorem con_LO (G : Glob Z a0) (c' : Int32) (h0 : 0 ≤ c'.toInt) (h1 : c'.toInt < 256) (h : Heap) (W : List Nat) : Ow.Con l Z EL1 bb (⟨"org/wardchain/web/AuthorizationHeaderHasSchemePinLaw", "lower", "(C)C"⟩ : MethodName) method_6_code 1 (Option.some Jvm.ClassFile.FieldType.char) [] rmLO #[.int c'] h W (fun v h' W' => v = some (.int (Ow.low c')) ∧ h' = h) := by
  refine Ow.Con.intro (a0 := a0) pn_17 (ewG G) (saG G) bbG [.val (.int c')] (by first | exact Ow.locals_all (by simp [Value.category]) rfl | rfl | (simp [argsToLocals, Value.category]; done)) ?_
  intro p e s m below meth c C hO
  refine Ow.iloadN C dLO_0 (pc' := 1) rfl rfl ?_
  refine Ow.callS C (tw97 G.1) (tw98 G.1) (tw2 G.1) (tw99 G.1) (by decide) (con_IU G c' h W) (fun _ q => q) pd_11 rfl rfl rfl dLO_1 (pc' := 4) rfl (Wt := 0) (Nat.le_refl _) (by first | decide | (dsimp only; omega) | (simp [Value.category]; done) | (simp [Value.category]; omega)) (by first | decide | (dsimp only; omega) | (simp [Value.category]; done) | (simp [Value.category]; omega)) (by first | decide | (dsimp only; omega) | (simp [Value.category]; done) | (simp [Value.category]; omega)) (by first | decide | (dsimp only; omega) | (simp [Value.category]; done) | (simp [Value.category]; omega)) (fun v1 h1' W1 ⟨e1, e1'⟩ s1 => ?_)
  by_cases q : Ow.upp c'
  · rw [if_pos q] at e1
    subst e1 e1'
    dsimp only [Option.toList, List.cons_append, List.nil_append]
    refine Ow.ifCN C dLO_4 (pc' := 7) rfl (XT.i0_eq_f (by decide)) ?_
    refine Ow.iloadN C dLO_7 (pc' := 8) rfl rfl ?_
    refine Ow.bipush C (32 : Int32) dLO_8 (pc' := 10) rfl rfl ?_
    refine Ow.iadd C dLO_10 (pc' := 11) rfl ?_
    refine Ow.i2c C dLO_11 (pc' := 12) rfl ?_
    have r := Ow.low_rng h0 h1
    have e : Ow.low c' = c' + 32 := by unfold Ow.low; rw [if_pos q]
    rw [e] at r
    refine Ow.retN C (t := .char) rfl (by simp) dLO_12 (by first | decide | (dsimp only; omega) | (simp [Value.category]; done) | (simp [Value.category]; omega)) (by first | decide | (dsimp only; omega) | (simp [Value.category]; done) | (simp [Value.category]; omega)) [] (by simp) ⟨by rw [e, Ow.nar_char_id (by rw [Ow.nar_char]; omega) (by rw [Ow.nar_char]; omega), Ow.nar_char_id r.1 (by omega)], rfl⟩
  · rw [if_neg q] at e1
    subst e1 e1'
    dsimp only [Option.toList, List.cons_append, List.nil_append]
    refine Ow.ifCY C 13 dLO_4 (XT.i0_eq_t (by decide)) (by decide) (by decide) ?_
    refine Ow.iloadN C dLO_13 (pc' := 14) rfl rfl ?_
    refine Ow.retN C (t := .char) rfl (by simp) dLO_14 (by first | decide | (dsimp only; omega) | (simp [Value.category]; done) | (simp [Value.category]; omega)) (by first | decide | (dsimp only; omega) | (simp [Value.category]; done) | (simp [Value.category]; omega)) [] (by simp) ⟨by unfold Ow.low; rw [if_neg q, Ow.nar_char_id h0 (by omega)], rfl⟩
theorem sub32v {c : Int32} (h0 : 32 ≤ c.toInt) (h1 : c.toInt < 256) : (c - 32).toInt = c.toInt - 32 := by
  have h := c_isub c 32
  have r := rng32 (c - 32)
  have e : ((32 : Int32)).toInt = 32 := rfl
  rw [e] at h; omega
abbrev rmFP : Room := { frames := 1, cells := 0, slots := 0, locals := 12 }
theorem con_FP (G : Glob Z a0) (c' : Int32) (h0 : 0 ≤ c'.toInt) (h1 : c'.toInt < 256) (h : Heap) (W : List Nat) : Ow.Con l Z EL1 bb (⟨"org/wardchain/web/AuthorizationHeaderHasSchemePinLaw", "flip", "(C)C"⟩ : MethodName) method_7_code 1 (Option.some Jvm.ClassFile.FieldType.char) [] rmFP #[.int c'] h W (fun v h' W' => ∃ r : Int32, v = some (.int r) ∧ 0 ≤ r.toInt ∧ r.toInt < 256 ∧ h' = h) := by
  refine Ow.Con.intro (a0 := a0) pn_18 (ewG G) (saG G) bbG [.val (.int c')] (by first | exact Ow.locals_all (by simp [Value.category]) rfl | rfl | (simp [argsToLocals, Value.category]; done)) ?_
  intro p e s m below meth c C hO
  refine Ow.iloadN C dFP_0 (pc' := 1) rfl rfl ?_
  refine Ow.callS C (tw97 G.1) (tw98 G.1) (tw2 G.1) (tw99 G.1) (by decide) (con_IU G c' h W) (fun _ q => q) pd_11 rfl rfl rfl dFP_1 (pc' := 4) rfl (Wt := 0) (Nat.le_refl _) (by first | decide | (dsimp only; omega) | (simp [Value.category]; done) | (simp [Value.category]; omega)) (by first | decide | (dsimp only; omega) | (simp [Value.category]; done) | (simp [Value.category]; omega)) (by first | decide | (dsimp only; omega) | (simp [Value.category]; done) | (simp [Value.category]; omega)) (by first | decide | (dsimp only; omega) | (simp [Value.category]; done) | (simp [Value.category]; omega)) (fun v1 h1' W1 ⟨e1, e1'⟩ s1 => ?_)
  by_cases q : Ow.upp c'
  · rw [if_pos q] at e1
    subst e1 e1'
    dsimp only [Option.toList, List.cons_append, List.nil_append]
    refine Ow.ifCN C dFP_4 (pc' := 7) rfl (XT.i0_eq_f (by decide)) ?_
    refine Ow.iloadN C dFP_7 (pc' := 8) rfl rfl ?_
    refine Ow.bipush C (32 : Int32) dFP_8 (pc' := 10) rfl rfl ?_
    refine Ow.iadd C dFP_10 (pc' := 11) rfl ?_
    refine Ow.i2c C dFP_11 (pc' := 12) rfl ?_
    have r := Ow.low_rng h0 h1
    have e : Ow.low c' = c' + 32 := by unfold Ow.low; rw [if_pos q]
    rw [e] at r
    refine Ow.retN C (t := .char) rfl (by simp) dFP_12 (by first | decide | (dsimp only; omega) | (simp [Value.category]; done) | (simp [Value.category]; omega)) (by first | decide | (dsimp only; omega) | (simp [Value.category]; done) | (simp [Value.category]; omega)) [] (by simp) ⟨_, rfl, by rw [Ow.nar_char, Ow.nar_char]; omega, by rw [Ow.nar_char, Ow.nar_char]; omega, rfl⟩
  · rw [if_neg q] at e1
    subst e1 e1'
    dsimp only [Option.toList, List.cons_append, List.nil_append]
    refine Ow.ifCY C 13 dFP_4 (XT.i0_eq_t (by decide)) (by decide) (by decide) ?_
    refine Ow.iloadN C dFP_13 (pc' := 14) rfl rfl ?_
    refine Ow.callS C (tw100 G.1) (tw101 G.1) (tw2 G.1) (tw102 G.1) (by decide) (con_IO G c' h1' W) (fun _ q => q) pd_11 rfl rfl rfl dFP_14 (pc' := 17) rfl (Wt := 0) (Nat.le_refl _) (by first | decide | (dsimp only; omega) | (simp [Value.category]; done) | (simp [Value.category]; omega)) (by first | decide | (dsimp only; omega) | (simp [Value.category]; done) | (simp [Value.category]; omega)) (by first | decide | (dsimp only; omega) | (simp [Value.category]; done) | (simp [Value.category]; omega)) (by first | decide | (dsimp only; omega) | (simp [Value.category]; done) | (simp [Value.category]; omega)) (fun v2 h2' W2 ⟨e2, e2'⟩ s2 => ?_)
    by_cases q2 : lwr c'
    · rw [if_pos q2] at e2
      subst e2 e2'
      dsimp only [Option.toList, List.cons_append, List.nil_append]
      refine Ow.ifCN C dFP_17 (pc' := 20) rfl (XT.i0_eq_f (by decide)) ?_
      refine Ow.iloadN C dFP_20 (pc' := 21) rfl rfl ?_
      refine Ow.bipush C (32 : Int32) dFP_21 (pc' := 23) rfl rfl ?_
      refine Ow.isub C dFP_23 (pc' := 24) rfl ?_
      refine Ow.i2c C dFP_24 (pc' := 25) rfl ?_
      have r := sub32v (c := c') (by unfold lwr at q2; omega) h1
      unfold lwr at q2
      refine Ow.retN C (t := .char) rfl (by simp) dFP_25 (by first | decide | (dsimp only; omega) | (simp [Value.category]; done) | (simp [Value.category]; omega)) (by first | decide | (dsimp only; omega) | (simp [Value.category]; done) | (simp [Value.category]; omega)) [] (by simp) ⟨_, rfl, by rw [Ow.nar_char, Ow.nar_char]; omega, by rw [Ow.nar_char, Ow.nar_char]; omega, rfl⟩
    · rw [if_neg q2] at e2
      subst e2 e2'
      dsimp only [Option.toList, List.cons_append, List.nil_append]
      refine Ow.ifCY C 26 dFP_17 (XT.i0_eq_t (by decide)) (by decide) (by decide) ?_
      refine Ow.iloadN C dFP_26 (pc' := 27) rfl rfl ?_
      refine Ow.retN C (t := .char) rfl (by simp) dFP_27 (by first | decide | (dsimp only; omega) | (simp [Value.category]; done) | (simp [Value.category]; omega)) (by first | decide | (dsimp only; omega) | (simp [Value.category]; done) | (simp [Value.category]; omega)) [] (by simp) ⟨_, rfl, by rw [Ow.nar_char]; omega, by rw [Ow.nar_char]; omega, rfl⟩
abbrev rmPK : Room := { frames := 2, cells := 0, slots := 0, locals := 24 }
theorem con_PK (G : Glob Z a0) (x y k : Int32) (hx : 0 ≤ x.toInt ∧ x.toInt < 256) (hy : 0 ≤ y.toInt ∧ y.toInt < 256) (h : Heap) (W : List Nat) : Ow.Con l Z EL1 bb (⟨"org/wardchain/web/AuthorizationHeaderHasSchemePinLaw", "pick", "(CCI)C"⟩ : MethodName) method_8_code 3 (Option.some Jvm.ClassFile.FieldType.char) [] rmPK #[.int x, .int y, .int k] h W (fun v h' W' => ∃ r : Int32, v = some (.int r) ∧ 0 ≤ r.toInt ∧ r.toInt < 256 ∧ h' = h) := by
  refine Ow.Con.intro (a0 := a0) pn_19 (ewG G) (saG G) bbG [.val (.int x), .val (.int y), .val (.int k)] (by first | exact Ow.locals_all (by simp [Value.category]) rfl | rfl | (simp [argsToLocals, Value.category]; done)) ?_
  intro p e s m below meth c C hO
  refine Ow.iloadN C dPK_0 (pc' := 1) rfl rfl ?_
  refine Ow.ifC C 6 4 dPK_1 (Ow.hNe _) (by decide) (by decide) rfl (fun q0 => ?_) (fun q0 => ?_)
  · refine Ow.iloadN C dPK_6 (pc' := 7) rfl rfl ?_
    refine Ow.iconst C (1 : Int32) dPK_7 (pc' := 8) rfl rfl ?_
    refine Ow.icmp C 16 11 dPK_8 (Ow.kNe _ _) (by decide) (by decide) rfl (fun q1 => ?_) (fun q1 => ?_)
    · refine Ow.iloadN C dPK_16 (pc' := 17) rfl rfl ?_
      refine Ow.retN C (t := .char) rfl (by simp) dPK_17 (by first | decide | (dsimp only; omega) | (simp [Value.category]; done) | (simp [Value.category]; omega)) (by first | decide | (dsimp only; omega) | (simp [Value.category]; done) | (simp [Value.category]; omega)) [] (by simp) ⟨_, rfl, by rw [Ow.nar_char]; omega, by rw [Ow.nar_char]; omega, rfl⟩
    · refine Ow.iloadN C dPK_11 (pc' := 12) rfl rfl ?_
      refine Ow.callS C (tw94 G.1) (tw95 G.1) (tw2 G.1) (tw96 G.1) (by decide) (con_FP G x hx.1 hx.2 h W) (fun _ q => q) pd_12 rfl rfl rfl dPK_12 (pc' := 15) rfl (Wt := 0) (Nat.le_refl _) (by first | decide | (dsimp only; omega) | (simp [Value.category]; done) | (simp [Value.category]; omega)) (by first | decide | (dsimp only; omega) | (simp [Value.category]; done) | (simp [Value.category]; omega)) (by first | decide | (dsimp only; omega) | (simp [Value.category]; done) | (simp [Value.category]; omega)) (by first | decide | (dsimp only; omega) | (simp [Value.category]; done) | (simp [Value.category]; omega)) (fun v1 h1 W1 ⟨r, e1, r0, r1, e1'⟩ s1 => ?_)
      subst e1 e1'
      dsimp only [Option.toList, List.cons_append, List.nil_append]
      refine Ow.retN C (t := .char) rfl (by simp) dPK_15 (by first | decide | (dsimp only; omega) | (simp [Value.category]; done) | (simp [Value.category]; omega)) (by first | decide | (dsimp only; omega) | (simp [Value.category]; done) | (simp [Value.category]; omega)) [] (by simp) ⟨_, rfl, by rw [Ow.nar_char]; omega, by rw [Ow.nar_char]; omega, rfl⟩
  · refine Ow.iloadN C dPK_4 (pc' := 5) rfl rfl ?_
    refine Ow.retN C (t := .char) rfl (by simp) dPK_5 (by first | decide | (dsimp only; omega) | (simp [Value.category]; done) | (simp [Value.category]; omega)) (by first | decide | (dsimp only; omega) | (simp [Value.category]; done) | (simp [Value.category]; omega)) [] (by simp) ⟨_, rfl, by rw [Ow.nar_char]; omega, by rw [Ow.nar_char]; omega, rfl⟩
abbrev rmSM : Room := { frames := 2, cells := 0, slots := 0, locals := 26 }
theorem con_SM (G : Glob Z a0) (x y : Int32) (k i : Nat) (hk : k ≤ 3) (hi : i ≤ 3) (hx : 0 ≤ x.toInt ∧ x.toInt < 256) (hy : 0 ≤ y.toInt ∧ y.toInt < 256) (h : Heap) (W : List Nat) : Ow.Con l Z EL1 bb (⟨"org/wardchain/web/AuthorizationHeaderHasSchemePinLaw", "same", "(CCII)Z"⟩ : MethodName) method_3_code 4 (Option.some Jvm.ClassFile.FieldType.boolean) [] rmSM #[.int x, .int y, .int (Int32.ofNat k), .int (Int32.ofNat i)] h W (fun v h' W' => v = some (.int (if i ≤ k ∨ Ow.low x = Ow.low y then 1 else 0)) ∧ h' = h) := by
  refine Ow.Con.intro (a0 := a0) pn_20 (ewG G) (saG G) bbG [.val (.int x), .val (.int y), .val (.int (Int32.ofNat k)), .val (.int (Int32.ofNat i))] (by first | exact Ow.locals_all (by simp [Value.category]) rfl | rfl | (simp [argsToLocals, Value.category]; done)) ?_
  intro p e s m below meth c C hO
  refine Ow.iloadN C dSM_0 (pc' := 1) rfl rfl ?_
  refine Ow.iloadN C dSM_1 (pc' := 2) rfl rfl ?_
  by_cases q : i ≤ k
  · refine Ow.icmpY C 16 dSM_2 (XT.ii_ge_t (by rw [Ow.lt32, Ow.ofNat_toInt (by omega), Ow.ofNat_toInt (by omega)]; omega)) (by decide) (by decide) ?_
    refine Ow.iconst C (1 : Int32) dSM_16 (pc' := 17) rfl rfl ?_
    refine Ow.goto C 21 dSM_17 (by decide) (by decide) ?_
    refine Ow.retN C (t := .boolean) rfl (by simp) dSM_21 (by first | decide | (dsimp only; omega) | (simp [Value.category]; done) | (simp [Value.category]; omega)) (by first | decide | (dsimp only; omega) | (simp [Value.category]; done) | (simp [Value.category]; omega)) [] (by simp) ⟨by rw [if_pos (Or.inl q)]; rfl, rfl⟩
  · refine Ow.icmpN C dSM_2 (pc' := 5) rfl (XT.ii_ge_f (by rw [Ow.lt32, Ow.ofNat_toInt (by omega), Ow.ofNat_toInt (by omega)]; omega)) ?_
    refine Ow.iloadN C dSM_5 (pc' := 6) rfl rfl ?_
    refine Ow.callS C (tw106 G.1) (tw107 G.1) (tw2 G.1) (tw108 G.1) (by decide) (con_LO G x hx.1 hx.2 h W) (fun _ q => q) pd_12 rfl rfl rfl dSM_6 (pc' := 9) rfl (Wt := 0) (Nat.le_refl _) (by first | decide | (dsimp only; omega) | (simp [Value.category]; done) | (simp [Value.category]; omega)) (by first | decide | (dsimp only; omega) | (simp [Value.category]; done) | (simp [Value.category]; omega)) (by first | decide | (dsimp only; omega) | (simp [Value.category]; done) | (simp [Value.category]; omega)) (by first | decide | (dsimp only; omega) | (simp [Value.category]; done) | (simp [Value.category]; omega)) (fun v1 h1 W1 ⟨e1, e1'⟩ s1 => ?_)
    subst e1 e1'
    dsimp only [Option.toList, List.cons_append, List.nil_append]
    refine Ow.iloadN C dSM_9 (pc' := 10) rfl rfl ?_
    refine Ow.callS C (tw106 G.1) (tw107 G.1) (tw2 G.1) (tw108 G.1) (by decide) (con_LO G y hy.1 hy.2 h1 W) (fun _ q => q) pd_12 rfl rfl rfl dSM_10 (pc' := 13) rfl (Wt := 1) (Nat.le_refl _) (by first | decide | (dsimp only; omega) | (simp [Value.category]; done) | (simp [Value.category]; omega)) (by first | decide | (dsimp only; omega) | (simp [Value.category]; done) | (simp [Value.category]; omega)) (by first | decide | (dsimp only; omega) | (simp [Value.category]; done) | (simp [Value.category]; omega)) (by first | decide | (dsimp only; omega) | (simp [Value.category]; done) | (simp [Value.category]; omega)) (fun v2 h2 W2 ⟨e2, e2'⟩ s2 => ?_)
    subst e2 e2'
    dsimp only [Option.toList, List.cons_append, List.nil_append]
    refine Ow.icmp C 20 16 dSM_13 (Ow.kNe _ _) (by decide) (by decide) rfl (fun q2 => ?_) (fun q2 => ?_)
    · refine Ow.iconst C (0 : Int32) dSM_20 (pc' := 21) rfl rfl ?_
      refine Ow.retN C (t := .boolean) rfl (by simp) dSM_21 (by first | decide | (dsimp only; omega) | (simp [Value.category]; done) | (simp [Value.category]; omega)) (by first | decide | (dsimp only; omega) | (simp [Value.category]; done) | (simp [Value.category]; omega)) [] (by simp) ⟨by rw [if_neg (by simp [q, q2])]; rfl, rfl⟩
    · refine Ow.iconst C (1 : Int32) dSM_16 (pc' := 17) rfl rfl ?_
      refine Ow.goto C 21 dSM_17 (by decide) (by decide) ?_
      refine Ow.retN C (t := .boolean) rfl (by simp) dSM_21 (by first | decide | (dsimp only; omega) | (simp [Value.category]; done) | (simp [Value.category]; omega)) (by first | decide | (dsimp only; omega) | (simp [Value.category]; done) | (simp [Value.category]; omega)) [] (by simp) ⟨by rw [if_pos (Or.inr (Decidable.not_not.mp q2))]; rfl, rfl⟩
abbrev rmMK : Room := { frames := 4, cells := 6, slots := 16, locals := 66 }
set_option maxHeartbeats 40000000 in
theorem con_MK (G : Glob Z a0) (i : Nat) (hi : i ≤ 3) (c0 c1 c2 : Int32) (r0 : 0 ≤ c0.toInt ∧ c0.toInt < 256) (r1 : 0 ≤ c1.toInt ∧ c1.toInt < 256) (r2 : 0 ≤ c2.toInt ∧ c2.toInt < 256) (h : Heap) (W : List Nat) : Ow.Con l Z EL1 bb (⟨"org/wardchain/web/AuthorizationHeaderHasSchemePinLaw", "mk", "(ICCC)Ljava/lang/String;"⟩ : MethodName) method_9_code 4 (Option.some (Jvm.ClassFile.FieldType.object "java/lang/String")) [] rmMK #[.int (Int32.ofNat i), .int c0, .int c1, .int c2] h W
    (fun v h' W' => ∃ a d : Nat, v = some (.ref a) ∧ h.size ≤ a ∧ Keep h h' [] ∧ Ow.StrL Z h' a d ([c0, c1, c2].take i)) := by
  have n0 : nar .char c0 = c0 := Ow.nar_char_id r0.1 (by omega)
  have n1 : nar .char c1 = c1 := Ow.nar_char_id r1.1 (by omega)
  have n2 : nar .char c2 = c2 := Ow.nar_char_id r2.1 (by omega)
  refine Ow.Con.intro (a0 := a0) pn_21 (ewG G) (saG G) bbG [.val (.int (Int32.ofNat i)), .val (.int c0), .val (.int c1), .val (.int c2)] (by first | exact Ow.locals_all (by simp [Value.category]) rfl | rfl | (simp [argsToLocals, Value.category]; done)) ?_
  intro p e s m below meth c C hO
  obtain rfl | rfl | rfl | rfl : i = 0 ∨ i = 1 ∨ i = 2 ∨ i = 3 := by omega
  · refine Ow.iloadN C dMK_0 (pc' := 1) rfl rfl ?_
    refine Ow.ifCN C dMK_1 (pc' := 4) rfl (XT.i0_ne_f rfl) ?_
    refine Ow.newO C (tw7 G.1) (tw8 G.1) (tw9 G.1) dMK_4 (pc' := 7) rfl (by first | decide | (dsimp only; omega) | (simp [Value.category]; done) | (simp [Value.category]; omega)) (by first | decide | (dsimp only; omega) | (simp [Value.category]; done) | (simp [Value.category]; omega)) (fun hxs axs sxs zxs lxs Exs ⟨Axs, Dxs⟩ => ?_)
    refine Ow.dup C dMK_7 (pc' := 8) rfl rfl ?_
    refine Ow.iconst C (0 : Int32) dMK_8 (pc' := 9) rfl rfl ?_
    refine Ow.newarr C (ty := .char) (cap := 0) rfl rfl (tw10 G.1) dMK_9 (pc' := 11) rfl rfl (by decide) (by first | decide | (dsimp only; omega) | (simp [Value.category]; done) | (simp [Value.category]; omega)) (by first | decide | (dsimp only; omega) | (simp [Value.category]; done) | (simp [Value.category]; omega)) (fun hxv axv sxv zxv lxv Exv Vxv => ?_)
    have nx : axs ≠ axv := by omega
    have KAx : Keep hxs hxv [axv] := ((Keep.refl hxs [axv]).ext Exv)
    refine Ow.callI C rfl (tw11 G.1) (tw12 G.1) (tw9 G.1) (tw13 G.1) (by decide) (con_I0e G axs axv hxv _ _ _ (Axs.keep KAx) ((Dxs (Or.inr (tw36 G.1)) (ty := .array .byte) (by decide)).keep KAx (Ow.nin1 nx)) ((Dxs (Or.inr (tw34 G.1)) (ty := .byte) (by decide)).keep KAx (Ow.nin1 nx)) (by simp) Vxv) (fun _ q => q) pd_13 rfl rfl rfl dMK_11 (pc' := 14) rfl (Wt := 1) (Nat.le_refl _) (by first | decide | (dsimp only; omega) | (simp [Value.category]; done) | (simp [Value.category]; omega)) (by first | decide | (dsimp only; omega) | (simp [Value.category]; done) | (simp [Value.category]; omega)) (by first | decide | (dsimp only; omega) | (simp [Value.category]; done) | (simp [Value.category]; omega)) (by first | decide | (dsimp only; omega) | (simp [Value.category]; done) | (simp [Value.category]; omega)) (fun vx hx Wx ⟨ex, dx, Sx, Kcx, hdx⟩ gx => ?_)
    subst ex
    dsimp only [Option.toList, List.cons_append, List.nil_append]
    have Kx : Keep h hx [] := (((Keep.refl h []).ext Exs).ext Exv).trans Kcx (fun z hz => Or.inr (by rw [List.mem_singleton.mp hz]; omega))
    refine Ow.retA C rfl rfl rfl dMK_14 (by first | decide | (dsimp only; omega) | (simp [Value.category]; done) | (simp [Value.category]; omega)) (by first | decide | (dsimp only; omega) | (simp [Value.category]; done) | (simp [Value.category]; omega)) [] (by simp) ⟨axs, dx, rfl, by omega, Kx, Sx⟩
  · refine Ow.iloadN C dMK_0 (pc' := 1) rfl rfl ?_
    refine Ow.ifCY C 15 dMK_1 (XT.i0_ne_t (by decide)) (by decide) (by decide) ?_
    refine Ow.iloadN C dMK_15 (pc' := 16) rfl rfl ?_
    refine Ow.iconst C (1 : Int32) dMK_16 (pc' := 17) rfl rfl ?_
    refine Ow.icmpN C dMK_17 (pc' := 20) rfl (XT.ii_ne_f rfl) ?_
    refine Ow.newO C (tw7 G.1) (tw8 G.1) (tw9 G.1) dMK_20 (pc' := 23) rfl (by first | decide | (dsimp only; omega) | (simp [Value.category]; done) | (simp [Value.category]; omega)) (by first | decide | (dsimp only; omega) | (simp [Value.category]; done) | (simp [Value.category]; omega)) (fun hxs axs sxs zxs lxs Exs ⟨Axs, Dxs⟩ => ?_)
    refine Ow.dup C dMK_23 (pc' := 24) rfl rfl ?_
    refine Ow.iconst C (1 : Int32) dMK_24 (pc' := 25) rfl rfl ?_
    refine Ow.newarr C (ty := .char) (cap := 1) rfl rfl (tw10 G.1) dMK_25 (pc' := 27) rfl rfl (by decide) (by first | decide | (dsimp only; omega) | (simp [Value.category]; done) | (simp [Value.category]; omega)) (by first | decide | (dsimp only; omega) | (simp [Value.category]; done) | (simp [Value.category]; omega)) (fun hxv axv sxv zxv lxv Exv Vxv => ?_)
    refine Ow.dup C dMK_27 (pc' := 28) rfl rfl ?_
    refine Ow.iconst C (0 : Int32) dMK_28 (pc' := 29) rfl rfl ?_
    refine Ow.iloadN C dMK_29 (pc' := 30) rfl rfl ?_
    refine Ow.castore C Vxv (i := 0) rfl (by first | decide | (simp; done)) (by first | assumption | (simp; done) | (simp [*]; done)) dMK_30 (pc' := 31) rfl (fun hx0 Kx0 Vx0 => ?_)
    have gx0 := Kx0.1
    have nx : axs ≠ axv := by omega
    have KAx : Keep hxs hx0 [axv] := (((Keep.refl hxs [axv]).ext Exv).trans Kx0 (fun _ q => Or.inl q))
    refine Ow.callI C rfl (tw11 G.1) (tw12 G.1) (tw9 G.1) (tw13 G.1) (by decide) (con_I0 G 1 axs axv [_] hx0 _ _ _ (Axs.keep KAx) ((Dxs (Or.inr (tw36 G.1)) (ty := .array .byte) (by decide)).keep KAx (Ow.nin1 nx)) ((Dxs (Or.inr (tw34 G.1)) (ty := .byte) (by decide)).keep KAx (Ow.nin1 nx)) (by simp) Vx0 (by simp) (by intro z hz; simp at hz; subst hz; rw [n0]; exact r0) (by simp) (by decide)) (fun _ q => q) pd_13 rfl rfl rfl dMK_31 (pc' := 34) rfl (Wt := 1) (Nat.le_refl _) (by first | decide | (dsimp only; omega) | (simp [Value.category]; done) | (simp [Value.category]; omega)) (by first | decide | (dsimp only; omega) | (simp [Value.category]; done) | (simp [Value.category]; omega)) (by first | decide | (dsimp only; omega) | (simp [Value.category]; done) | (simp [Value.category]; omega)) (by first | decide | (dsimp only; omega) | (simp [Value.category]; done) | (simp [Value.category]; omega)) (fun vx hx Wx ⟨ex, dx, Sx, Kcx, hdx⟩ gx => ?_)
    subst ex
    dsimp only [Option.toList, List.cons_append, List.nil_append]
    have Kx : Keep h hx [] := ((((Keep.refl h []).ext Exs).ext Exv).trans Kx0 (fun z hz => Or.inr (by rw [List.mem_singleton.mp hz]; omega))).trans Kcx (fun z hz => Or.inr (by rw [List.mem_singleton.mp hz]; omega))
    refine Ow.retA C rfl rfl rfl dMK_34 (by first | decide | (dsimp only; omega) | (simp [Value.category]; done) | (simp [Value.category]; omega)) (by first | decide | (dsimp only; omega) | (simp [Value.category]; done) | (simp [Value.category]; omega)) [] (by simp) ⟨axs, dx, rfl, by omega, Kx, by rw [n0] at Sx; exact Sx⟩
  · refine Ow.iloadN C dMK_0 (pc' := 1) rfl rfl ?_
    refine Ow.ifCY C 15 dMK_1 (XT.i0_ne_t (by decide)) (by decide) (by decide) ?_
    refine Ow.iloadN C dMK_15 (pc' := 16) rfl rfl ?_
    refine Ow.iconst C (1 : Int32) dMK_16 (pc' := 17) rfl rfl ?_
    refine Ow.icmpY C 35 dMK_17 (XT.ii_ne_t (by decide)) (by decide) (by decide) ?_
    refine Ow.iloadN C dMK_35 (pc' := 36) rfl rfl ?_
    refine Ow.iconst C (2 : Int32) dMK_36 (pc' := 37) rfl rfl ?_
    refine Ow.icmpN C dMK_37 (pc' := 40) rfl (XT.ii_ne_f rfl) ?_
    refine Ow.newO C (tw7 G.1) (tw8 G.1) (tw9 G.1) dMK_40 (pc' := 43) rfl (by first | decide | (dsimp only; omega) | (simp [Value.category]; done) | (simp [Value.category]; omega)) (by first | decide | (dsimp only; omega) | (simp [Value.category]; done) | (simp [Value.category]; omega)) (fun hxs axs sxs zxs lxs Exs ⟨Axs, Dxs⟩ => ?_)
    refine Ow.dup C dMK_43 (pc' := 44) rfl rfl ?_
    refine Ow.iconst C (2 : Int32) dMK_44 (pc' := 45) rfl rfl ?_
    refine Ow.newarr C (ty := .char) (cap := 2) rfl rfl (tw10 G.1) dMK_45 (pc' := 47) rfl rfl (by decide) (by first | decide | (dsimp only; omega) | (simp [Value.category]; done) | (simp [Value.category]; omega)) (by first | decide | (dsimp only; omega) | (simp [Value.category]; done) | (simp [Value.category]; omega)) (fun hxv axv sxv zxv lxv Exv Vxv => ?_)
    refine Ow.dup C dMK_47 (pc' := 48) rfl rfl ?_
    refine Ow.iconst C (0 : Int32) dMK_48 (pc' := 49) rfl rfl ?_
    refine Ow.iloadN C dMK_49 (pc' := 50) rfl rfl ?_
    refine Ow.castore C Vxv (i := 0) rfl (by first | decide | (simp; done)) (by first | assumption | (simp; done) | (simp [*]; done)) dMK_50 (pc' := 51) rfl (fun hx0 Kx0 Vx0 => ?_)
    have gx0 := Kx0.1
    refine Ow.dup C dMK_51 (pc' := 52) rfl rfl ?_
    refine Ow.iconst C (1 : Int32) dMK_52 (pc' := 53) rfl rfl ?_
    refine Ow.iloadN C dMK_53 (pc' := 54) rfl rfl ?_
    refine Ow.castore C Vx0 (i := 1) rfl (by first | decide | (simp; done)) (by first | assumption | (simp; done) | (simp [*]; done)) dMK_54 (pc' := 55) rfl (fun hx1 Kx1 Vx1 => ?_)
    have gx1 := Kx1.1
    have nx : axs ≠ axv := by omega
    have KAx : Keep hxs hx1 [axv] := ((((Keep.refl hxs [axv]).ext Exv).trans Kx0 (fun _ q => Or.inl q)).trans Kx1 (fun _ q => Or.inl q))
    refine Ow.callI C rfl (tw11 G.1) (tw12 G.1) (tw9 G.1) (tw13 G.1) (by decide) (con_I0 G 2 axs axv [_, _] hx1 _ _ _ (Axs.keep KAx) ((Dxs (Or.inr (tw36 G.1)) (ty := .array .byte) (by decide)).keep KAx (Ow.nin1 nx)) ((Dxs (Or.inr (tw34 G.1)) (ty := .byte) (by decide)).keep KAx (Ow.nin1 nx)) (by simp) Vx1 (by simp) (by intro z hz; simp at hz; rcases hz with rfl | rfl; rw [n0]; exact r0; rw [n1]; exact r1) (by simp) (by decide)) (fun _ q => q) pd_13 rfl rfl rfl dMK_55 (pc' := 58) rfl (Wt := 1) (Nat.le_refl _) (by first | decide | (dsimp only; omega) | (simp [Value.category]; done) | (simp [Value.category]; omega)) (by first | decide | (dsimp only; omega) | (simp [Value.category]; done) | (simp [Value.category]; omega)) (by first | decide | (dsimp only; omega) | (simp [Value.category]; done) | (simp [Value.category]; omega)) (by first | decide | (dsimp only; omega) | (simp [Value.category]; done) | (simp [Value.category]; omega)) (fun vx hx Wx ⟨ex, dx, Sx, Kcx, hdx⟩ gx => ?_)
    subst ex
    dsimp only [Option.toList, List.cons_append, List.nil_append]
    have Kx : Keep h hx [] := (((((Keep.refl h []).ext Exs).ext Exv).trans Kx0 (fun z hz => Or.inr (by rw [List.mem_singleton.mp hz]; omega))).trans Kx1 (fun z hz => Or.inr (by rw [List.mem_singleton.mp hz]; omega))).trans Kcx (fun z hz => Or.inr (by rw [List.mem_singleton.mp hz]; omega))
    refine Ow.retA C rfl rfl rfl dMK_58 (by first | decide | (dsimp only; omega) | (simp [Value.category]; done) | (simp [Value.category]; omega)) (by first | decide | (dsimp only; omega) | (simp [Value.category]; done) | (simp [Value.category]; omega)) [] (by simp) ⟨axs, dx, rfl, by omega, Kx, by rw [n0, n1] at Sx; exact Sx⟩
  · refine Ow.iloadN C dMK_0 (pc' := 1) rfl rfl ?_
    refine Ow.ifCY C 15 dMK_1 (XT.i0_ne_t (by decide)) (by decide) (by decide) ?_
    refine Ow.iloadN C dMK_15 (pc' := 16) rfl rfl ?_
    refine Ow.iconst C (1 : Int32) dMK_16 (pc' := 17) rfl rfl ?_
    refine Ow.icmpY C 35 dMK_17 (XT.ii_ne_t (by decide)) (by decide) (by decide) ?_
    refine Ow.iloadN C dMK_35 (pc' := 36) rfl rfl ?_
    refine Ow.iconst C (2 : Int32) dMK_36 (pc' := 37) rfl rfl ?_
    refine Ow.icmpY C 59 dMK_37 (XT.ii_ne_t (by decide)) (by decide) (by decide) ?_
    refine Ow.newO C (tw7 G.1) (tw8 G.1) (tw9 G.1) dMK_59 (pc' := 62) rfl (by first | decide | (dsimp only; omega) | (simp [Value.category]; done) | (simp [Value.category]; omega)) (by first | decide | (dsimp only; omega) | (simp [Value.category]; done) | (simp [Value.category]; omega)) (fun hxs axs sxs zxs lxs Exs ⟨Axs, Dxs⟩ => ?_)
    refine Ow.dup C dMK_62 (pc' := 63) rfl rfl ?_
    refine Ow.iconst C (3 : Int32) dMK_63 (pc' := 64) rfl rfl ?_
    refine Ow.newarr C (ty := .char) (cap := 3) rfl rfl (tw10 G.1) dMK_64 (pc' := 66) rfl rfl (by decide) (by first | decide | (dsimp only; omega) | (simp [Value.category]; done) | (simp [Value.category]; omega)) (by first | decide | (dsimp only; omega) | (simp [Value.category]; done) | (simp [Value.category]; omega)) (fun hxv axv sxv zxv lxv Exv Vxv => ?_)
    refine Ow.dup C dMK_66 (pc' := 67) rfl rfl ?_
    refine Ow.iconst C (0 : Int32) dMK_67 (pc' := 68) rfl rfl ?_
    refine Ow.iloadN C dMK_68 (pc' := 69) rfl rfl ?_
    refine Ow.castore C Vxv (i := 0) rfl (by first | decide | (simp; done)) (by first | assumption | (simp; done) | (simp [*]; done)) dMK_69 (pc' := 70) rfl (fun hx0 Kx0 Vx0 => ?_)
    have gx0 := Kx0.1
    refine Ow.dup C dMK_70 (pc' := 71) rfl rfl ?_
    refine Ow.iconst C (1 : Int32) dMK_71 (pc' := 72) rfl rfl ?_
    refine Ow.iloadN C dMK_72 (pc' := 73) rfl rfl ?_
    refine Ow.castore C Vx0 (i := 1) rfl (by first | decide | (simp; done)) (by first | assumption | (simp; done) | (simp [*]; done)) dMK_73 (pc' := 74) rfl (fun hx1 Kx1 Vx1 => ?_)
    have gx1 := Kx1.1
    refine Ow.dup C dMK_74 (pc' := 75) rfl rfl ?_
    refine Ow.iconst C (2 : Int32) dMK_75 (pc' := 76) rfl rfl ?_
    refine Ow.iloadN C dMK_76 (pc' := 77) rfl rfl ?_
    refine Ow.castore C Vx1 (i := 2) rfl (by first | decide | (simp; done)) (by first | assumption | (simp; done) | (simp [*]; done)) dMK_77 (pc' := 78) rfl (fun hx2 Kx2 Vx2 => ?_)
    have gx2 := Kx2.1
    have nx : axs ≠ axv := by omega
    have KAx : Keep hxs hx2 [axv] := (((((Keep.refl hxs [axv]).ext Exv).trans Kx0 (fun _ q => Or.inl q)).trans Kx1 (fun _ q => Or.inl q)).trans Kx2 (fun _ q => Or.inl q))
    refine Ow.callI C rfl (tw11 G.1) (tw12 G.1) (tw9 G.1) (tw13 G.1) (by decide) (con_I0 G 3 axs axv [_, _, _] hx2 _ _ _ (Axs.keep KAx) ((Dxs (Or.inr (tw36 G.1)) (ty := .array .byte) (by decide)).keep KAx (Ow.nin1 nx)) ((Dxs (Or.inr (tw34 G.1)) (ty := .byte) (by decide)).keep KAx (Ow.nin1 nx)) (by simp) Vx2 (by simp) (by intro z hz; simp at hz; rcases hz with rfl | rfl | rfl; rw [n0]; exact r0; rw [n1]; exact r1; rw [n2]; exact r2) (by simp) (by decide)) (fun _ q => q) pd_13 rfl rfl rfl dMK_78 (pc' := 81) rfl (Wt := 1) (Nat.le_refl _) (by first | decide | (dsimp only; omega) | (simp [Value.category]; done) | (simp [Value.category]; omega)) (by first | decide | (dsimp only; omega) | (simp [Value.category]; done) | (simp [Value.category]; omega)) (by first | decide | (dsimp only; omega) | (simp [Value.category]; done) | (simp [Value.category]; omega)) (by first | decide | (dsimp only; omega) | (simp [Value.category]; done) | (simp [Value.category]; omega)) (fun vx hx Wx ⟨ex, dx, Sx, Kcx, hdx⟩ gx => ?_)
    subst ex
    dsimp only [Option.toList, List.cons_append, List.nil_append]
    have Kx : Keep h hx [] := ((((((Keep.refl h []).ext Exs).ext Exv).trans Kx0 (fun z hz => Or.inr (by rw [List.mem_singleton.mp hz]; omega))).trans Kx1 (fun z hz => Or.inr (by rw [List.mem_singleton.mp hz]; omega))).trans Kx2 (fun z hz => Or.inr (by rw [List.mem_singleton.mp hz]; omega))).trans Kcx (fun z hz => Or.inr (by rw [List.mem_singleton.mp hz]; omega))
    refine Ow.retA C rfl rfl rfl dMK_81 (by first | decide | (dsimp only; omega) | (simp [Value.category]; done) | (simp [Value.category]; omega)) (by first | decide | (dsimp only; omega) | (simp [Value.category]; done) | (simp [Value.category]; omega)) [] (by simp) ⟨axs, dx, rfl, by omega, Kx, by rw [n0, n1, n2] at Sx; exact Sx⟩
abbrev rmRI : Room := { frames := 1, cells := 0, slots := 0, locals := 12 }
theorem con_RI (G : Glob Z a0) (a : Nat) (h : Heap) (W : List Nat) : Ow.Con l Z EL1 bb (⟨"java/lang/Record", "<init>", "()V"⟩ : MethodName) jdk_30_method_1_code 1 (Option.none : Option Jvm.ClassFile.FieldType) [] rmRI #[.ref a] h W (fun v h' W' => v = none ∧ h' = h) := by
  refine Ow.Con.intro (a0 := a0) pn_22 (ewG G) (saG G) bbG [.val (.ref a)] (by first | exact Ow.locals_all (by simp [Value.category]) rfl | rfl | (simp [argsToLocals, Value.category]; done)) ?_
  intro p e s m below meth c C hO
  refine Ow.aloadN C dRI_0 (pc' := 1) rfl rfl rfl ?_
  refine Ow.initO C (tw52 G.1) (tw19 G.1) (tw20 G.1) dRI_1 (pc' := 4) rfl rfl (by first | decide | (dsimp only; omega) | (simp [Value.category]; done) | (simp [Value.category]; omega)) (by first | decide | (dsimp only; omega) | (simp [Value.category]; done) | (simp [Value.category]; omega)) ?_
  refine Ow.retV C rfl dRI_4 (by first | decide | (dsimp only; omega) | (simp [Value.category]; done) | (simp [Value.category]; omega)) (by first | decide | (dsimp only; omega) | (simp [Value.category]; done) | (simp [Value.category]; omega)) [] (by simp) ⟨rfl, rfl⟩
abbrev rmAI : Room := { frames := 2, cells := 0, slots := 0, locals := 24 }
set_option maxHeartbeats 4000000 in
theorem con_AI (G : Glob Z a0) (a x y : Nat) (h : Heap) (W : List Nat) (v1 v2 : Value) (A : Exa Z h a AC) (F1 : Fld Z h a AC "scheme" "Ljava/lang/String;" v1) (F2 : Fld Z h a AC "credentials" "Ljava/lang/String;" v2) (ha : a ∈ W) :
    Ow.Con l Z EL1 bb (⟨"org/wardchain/web/AuthorizationHeader", "<init>", "(Ljava/lang/String;Ljava/lang/String;)V"⟩ : MethodName) prog_65_method_1_code 3 (Option.none : Option Jvm.ClassFile.FieldType) [] rmAI #[.ref a, .ref x, .ref y] h W (fun v h' W' => v = none ∧ Keep h h' [a] ∧ Exa Z h' a AC ∧ Fld Z h' a AC "scheme" "Ljava/lang/String;" (.ref x)) := by
  refine Ow.Con.intro (a0 := a0) pn_23 (ewG G) (saG G) bbG [.val (.ref a), .val (.ref x), .val (.ref y)] (by first | exact Ow.locals_all (by simp [Value.category]) rfl | rfl | (simp [argsToLocals, Value.category]; done)) ?_
  intro p e s m below meth c C hO
  refine Ow.aloadN C dAI_0 (pc' := 1) rfl rfl rfl ?_
  refine Ow.callI C rfl (tw47 G.1) (tw48 G.1) (tw50 G.1) (tw51 G.1) (by decide) (con_RI G a h W) (fun _ q => q) pd_14 rfl rfl rfl dAI_1 (pc' := 4) rfl (Wt := 0) (Nat.le_refl _) (by first | decide | (dsimp only; omega) | (simp [Value.category]; done) | (simp [Value.category]; omega)) (by first | decide | (dsimp only; omega) | (simp [Value.category]; done) | (simp [Value.category]; omega)) (by first | decide | (dsimp only; omega) | (simp [Value.category]; done) | (simp [Value.category]; omega)) (by first | decide | (dsimp only; omega) | (simp [Value.category]; done) | (simp [Value.category]; omega)) (fun v1 h1 W1 ⟨e1, e1'⟩ s1 => ?_)
  subst e1 e1'
  dsimp only [Option.toList, List.cons_append, List.nil_append]
  refine Ow.aloadN C dAI_4 (pc' := 5) rfl rfl rfl ?_
  refine Ow.aloadN C dAI_5 (pc' := 6) rfl rfl rfl ?_
  refine Ow.putF C (tw53 G.1) F1 A (Or.inr ⟨(tw54 G.1), rfl, rfl⟩) (tw41 G.1) (ty := (.object "java/lang/String")) (by decide) rfl rfl (by first | assumption | (simp; done) | (simp [*]; done)) dAI_6 (pc' := 9) rfl (fun h2 w2 K2 F1' => ?_)
  have A2 := A.keep K2
  have F22 := F2.other w2 (Or.inr (slot_ne (Or.inr (tw56 G.1)) (Or.inr (tw54 G.1)) (by decide) (t := .object "java/lang/String") (t' := .object "java/lang/String") (by decide) (by decide)))
  refine Ow.aloadN C dAI_9 (pc' := 10) rfl rfl rfl ?_
  refine Ow.aloadN C dAI_10 (pc' := 11) rfl rfl rfl ?_
  refine Ow.putF C (tw55 G.1) F22 A2 (Or.inr ⟨(tw56 G.1), rfl, rfl⟩) (tw41 G.1) (ty := (.object "java/lang/String")) (by decide) rfl rfl (by first | assumption | (simp; done) | (simp [*]; done)) dAI_11 (pc' := 14) rfl (fun h3 w3 K3 F2' => ?_)
  have F13 := F1'.other w3 (Or.inr (slot_ne (Or.inr (tw54 G.1)) (Or.inr (tw56 G.1)) (by decide) (t := .object "java/lang/String") (t' := .object "java/lang/String") (by decide) (by decide)))
  refine Ow.retV C rfl dAI_14 (by first | decide | (dsimp only; omega) | (simp [Value.category]; done) | (simp [Value.category]; omega)) (by first | decide | (dsimp only; omega) | (simp [Value.category]; done) | (simp [Value.category]; omega)) [] (by simp) ⟨rfl, K2.trans K3 (fun _ q => Or.inl q), A2.keep K3, F13⟩
abbrev rmHS : Room := { frames := 4, cells := 16, slots := 90, locals := 70 }
set_option maxHeartbeats 4000000 in
theorem con_HS (G : Glob Z a0) (a x dx y dy : Nat) (cs ds : List Int32) (h : Heap) (W : List Nat) (A : Exa Z h a AC) (F : Fld Z h a AC "scheme" "Ljava/lang/String;" (.ref x)) (S : Ow.StrL Z h x dx cs) (T : Ow.StrL Z h y dy ds) (hne : x ≠ y) (l1 : cs.length ≤ 3) (l2 : ds.length ≤ 3) :
    Ow.Con l Z EL1 bb (⟨"org/wardchain/web/AuthorizationHeader", "hasScheme", "(Ljava/lang/String;)Z"⟩ : MethodName) prog_65_method_3_code 2 (Option.some Jvm.ClassFile.FieldType.boolean) [] rmHS #[.ref a, .ref y] h W (fun v h' W' => v = some (.int (if cs.map Ow.low = ds.map Ow.low then 1 else 0)) ∧ True) := by
  obtain ⟨-, -, ⟨lc, bl, lg, lv, K⟩, ⟨ci, Ci⟩⟩ := id G
  refine Ow.Con.intro (a0 := a0) pn_24 (ewG G) (saG G) bbG [.val (.ref a), .val (.ref y)] (by first | exact Ow.locals_all (by simp [Value.category]) rfl | rfl | (simp [argsToLocals, Value.category]; done)) ?_
  intro p e s m below meth c C hO
  refine Ow.aloadN C dHS_0 (pc' := 1) rfl rfl rfl ?_
  refine Ow.getF C (tw53 G.1) F dHS_1 (pc' := 4) rfl ?_
  refine Ow.aloadN C dHS_4 (pc' := 5) rfl rfl rfl ?_
  refine Ow.callV C (y := (⟨"java/lang/String", "equals", "(Ljava/lang/Object;)Z"⟩ : MethodName)) (z := (⟨"java/lang/String", "equals", "(Ljava/lang/Object;)Z"⟩ : MethodName)) (tw62 G.1) (tw63 G.1) (tw65 G.1) (tw65 G.1) (tw64 G.1) (tw9 G.1) (tw66 G.1) (by decide) S.1 (con_EQ G x dx y dy cs ds h W S T hne) (fun _ q => q) pd_15 rfl rfl rfl dHS_5 (pc' := 8) rfl (Wt := 0) (Nat.le_refl _) (by first | decide | (dsimp only; omega) | (simp [Value.category]; done) | (simp [Value.category]; omega)) (by first | decide | (dsimp only; omega) | (simp [Value.category]; done) | (simp [Value.category]; omega)) (by first | decide | (dsimp only; omega) | (simp [Value.category]; done) | (simp [Value.category]; omega)) (by first | decide | (dsimp only; omega) | (simp [Value.category]; done) | (simp [Value.category]; omega)) (fun v1 h1 W1 ⟨e1, e1'⟩ s1 => ?_)
  by_cases q : cs = ds
  · rw [if_pos q] at e1
    subst e1 e1'
    dsimp only [Option.toList, List.cons_append, List.nil_append]
    refine Ow.ifCY C 34 dHS_8 (XT.i0_ne_t (by decide)) (by decide) (by decide) ?_
    refine Ow.iconst C (1 : Int32) dHS_34 (pc' := 35) rfl rfl ?_
    refine Ow.goto C 39 dHS_35 (by decide) (by decide) ?_
    refine Ow.retN C (t := .boolean) rfl (by simp) dHS_39 (by first | decide | (dsimp only; omega) | (simp [Value.category]; done) | (simp [Value.category]; omega)) (by first | decide | (dsimp only; omega) | (simp [Value.category]; done) | (simp [Value.category]; omega)) [] (by simp) ⟨by rw [q, if_pos rfl]; rfl, trivial⟩
  · rw [if_neg q] at e1
    subst e1 e1'
    dsimp only [Option.toList, List.cons_append, List.nil_append]
    have lx := S.lt.1
    have ly := T.lt.1
    refine Ow.ifCN C dHS_8 (pc' := 11) rfl (XT.i0_ne_f (by decide)) ?_
    refine Ow.aloadN C dHS_11 (pc' := 12) rfl rfl rfl ?_
    refine Ow.getF C (tw53 G.1) F dHS_12 (pc' := 15) rfl ?_
    refine Ow.getS C (tw72 G.1) K.1 dHS_15 (pc' := 18) rfl ?_
    refine Ow.callV C (y := (⟨"java/lang/String", "toLowerCase", "(Ljava/util/Locale;)Ljava/lang/String;"⟩ : MethodName)) (z := (⟨"java/lang/String", "toLowerCase", "(Ljava/util/Locale;)Ljava/lang/String;"⟩ : MethodName)) (tw74 G.1) (tw75 G.1) (tw77 G.1) (tw77 G.1) (tw76 G.1) (tw9 G.1) (tw78 G.1) (by decide) S.1 (con_TL G 3 x dx lc bl lg lv ci cs h1 W S K Ci l1 (by decide)) (fun _ q => q) pd_16 rfl rfl rfl dHS_18 (pc' := 21) rfl (Wt := 0) (Nat.le_refl _) (by first | decide | (dsimp only; omega) | (simp [Value.category]; done) | (simp [Value.category]; omega)) (by first | decide | (dsimp only; omega) | (simp [Value.category]; done) | (simp [Value.category]; omega)) (by first | decide | (dsimp only; omega) | (simp [Value.category]; done) | (simp [Value.category]; omega)) (by first | decide | (dsimp only; omega) | (simp [Value.category]; done) | (simp [Value.category]; omega)) (fun v2 h2 W2 ⟨x', dx', e2, S2, K2, g2⟩ s2 => ?_)
    subst e2
    dsimp only [Option.toList, List.cons_append, List.nil_append]
    have z2 := K2.1
    have T2 := T.keep K2 nin0 nin0
    have lx' := S2.lt.1
    refine Ow.aloadN C dHS_21 (pc' := 22) rfl rfl rfl ?_
    refine Ow.getS C (tw72 G.1) K.1 dHS_22 (pc' := 25) rfl ?_
    refine Ow.callV C (y := (⟨"java/lang/String", "toLowerCase", "(Ljava/util/Locale;)Ljava/lang/String;"⟩ : MethodName)) (z := (⟨"java/lang/String", "toLowerCase", "(Ljava/util/Locale;)Ljava/lang/String;"⟩ : MethodName)) (tw74 G.1) (tw75 G.1) (tw77 G.1) (tw77 G.1) (tw76 G.1) (tw9 G.1) (tw78 G.1) (by decide) T2.1 (con_TL G 3 y dy lc bl lg lv ci ds h2 W T2 K Ci l2 (by decide)) (fun _ q => q) pd_16 rfl rfl rfl dHS_25 (pc' := 28) rfl (Wt := 1) (Nat.le_refl _) (by first | decide | (dsimp only; omega) | (simp [Value.category]; done) | (simp [Value.category]; omega)) (by first | decide | (dsimp only; omega) | (simp [Value.category]; done) | (simp [Value.category]; omega)) (by first | decide | (dsimp only; omega) | (simp [Value.category]; done) | (simp [Value.category]; omega)) (by first | decide | (dsimp only; omega) | (simp [Value.category]; done) | (simp [Value.category]; omega)) (fun v3 h3 W3 ⟨y', dy', e3, T3, K3, g3⟩ s3 => ?_)
    subst e3
    dsimp only [Option.toList, List.cons_append, List.nil_append]
    have S3 := S2.keep K3 nin0 nin0
    have hne' : x' ≠ y' := by omega
    refine Ow.callV C (y := (⟨"java/lang/String", "equals", "(Ljava/lang/Object;)Z"⟩ : MethodName)) (z := (⟨"java/lang/String", "equals", "(Ljava/lang/Object;)Z"⟩ : MethodName)) (tw62 G.1) (tw63 G.1) (tw65 G.1) (tw65 G.1) (tw64 G.1) (tw9 G.1) (tw66 G.1) (by decide) S3.1 (con_EQ G x' dx' y' dy' _ _ h3 W S3 T3 hne') (fun _ q => q) pd_15 rfl rfl rfl dHS_28 (pc' := 31) rfl (Wt := 0) (Nat.le_refl _) (by first | decide | (dsimp only; omega) | (simp [Value.category]; done) | (simp [Value.category]; omega)) (by first | decide | (dsimp only; omega) | (simp [Value.category]; done) | (simp [Value.category]; omega)) (by first | decide | (dsimp only; omega) | (simp [Value.category]; done) | (simp [Value.category]; omega)) (by first | decide | (dsimp only; omega) | (simp [Value.category]; done) | (simp [Value.category]; omega)) (fun v4 h4 W4 ⟨e4, e4'⟩ s4 => ?_)
    by_cases q2 : cs.map Ow.low = ds.map Ow.low
    · rw [if_pos q2] at e4
      subst e4 e4'
      dsimp only [Option.toList, List.cons_append, List.nil_append]
      refine Ow.ifCN C dHS_31 (pc' := 34) rfl (XT.i0_eq_f (by decide)) ?_
      refine Ow.iconst C (1 : Int32) dHS_34 (pc' := 35) rfl rfl ?_
      refine Ow.goto C 39 dHS_35 (by decide) (by decide) ?_
      refine Ow.retN C (t := .boolean) rfl (by simp) dHS_39 (by first | decide | (dsimp only; omega) | (simp [Value.category]; done) | (simp [Value.category]; omega)) (by first | decide | (dsimp only; omega) | (simp [Value.category]; done) | (simp [Value.category]; omega)) [] (by simp) ⟨by rw [if_pos q2]; rfl, trivial⟩
    · rw [if_neg q2] at e4
      subst e4 e4'
      dsimp only [Option.toList, List.cons_append, List.nil_append]
      refine Ow.ifCY C 38 dHS_31 (XT.i0_eq_t (by decide)) (by decide) (by decide) ?_
      refine Ow.iconst C (0 : Int32) dHS_38 (pc' := 39) rfl rfl ?_
      refine Ow.retN C (t := .boolean) rfl (by simp) dHS_39 (by first | decide | (dsimp only; omega) | (simp [Value.category]; done) | (simp [Value.category]; omega)) (by first | decide | (dsimp only; omega) | (simp [Value.category]; done) | (simp [Value.category]; omega)) [] (by simp) ⟨by rw [if_neg q2]; rfl, trivial⟩
theorem take_low {i j : Nat} (hi : i ≤ 3) (hj : j ≤ 3) (x0 x1 x2 y0 y1 y2 : Int32) : (([x0, x1, x2].take i).map Ow.low = ([y0, y1, y2].take j).map Ow.low) ↔ (i = j ∧ (i ≤ 0 ∨ Ow.low x0 = Ow.low y0) ∧ (i ≤ 1 ∨ Ow.low x1 = Ow.low y1) ∧ (i ≤ 2 ∨ Ow.low x2 = Ow.low y2)) := by
  obtain rfl | rfl | rfl | rfl : i = 0 ∨ i = 1 ∨ i = 2 ∨ i = 3 := by omega
  all_goals (obtain rfl | rfl | rfl | rfl : j = 0 ∨ j = 1 ∨ j = 2 ∨ j = 3 := by omega) <;> simp
set_option maxHeartbeats 40000000 in
theorem con_law (G : Glob Z a0) (s' n' md : Int32) : Ow.Con l Z EL1 bb x code maxLocals ret tables_1 room_1 #[.int s', .int n', .int md] Z.heap [] (fun v h' W' => v = some (.int 1)) := by
  obtain ⟨i, hi, e_i⟩ := Ow.and3 md
  obtain ⟨j, hj, e_j⟩ := Ow.and3 ((md.toUInt32 >>> (((2 : Int32)) &&& 31).toUInt32).toInt32)
  refine Ow.Con.intro (a0 := a0) pn_25 (ewG G) (saG G) bbG [.val (.int s'), .val (.int n'), .val (.int md), .unset, .unset, .unset, .unset, .unset, .unset, .unset, .unset, .unset, .unset, .unset, .unset, .unset, .unset, .unset, .unset] (by first | exact Ow.locals_all (by simp [Value.category]) rfl | rfl | (simp [argsToLocals, Value.category]; done)) ?_
  intro p e s m below meth c C0 hO
  have C : Ow.Cx p m meth c s Z a0 EL1 bb "org/wardchain/web/AuthorizationHeaderHasSchemePinLaw" "law" code 19 ret := C0
  refine Ow.iloadN C at_0 (pc' := 1) rfl rfl ?_
  refine Ow.sipush C (255 : Int32) at_1 (pc' := 4) rfl rfl ?_
  refine Ow.iand C at_4 (pc' := 5) rfl ?_
  refine Ow.i2c C at_5 (pc' := 6) rfl ?_
  refine Ow.istoreNG C at_6 (pc' := 7) rfl rfl (fun c0 e_c0 => ?_)
  dsimp only [List.set]
  refine Ow.iloadN C at_7 (pc' := 8) rfl rfl ?_
  refine Ow.bipush C (8 : Int32) at_8 (pc' := 10) rfl rfl ?_
  refine Ow.iushr C at_10 (pc' := 11) rfl ?_
  refine Ow.sipush C (255 : Int32) at_11 (pc' := 14) rfl rfl ?_
  refine Ow.iand C at_14 (pc' := 15) rfl ?_
  refine Ow.i2c C at_15 (pc' := 16) rfl ?_
  refine Ow.istoreG C at_16 (pc' := 18) rfl rfl (fun c1 e_c1 => ?_)
  dsimp only [List.set]
  refine Ow.iloadN C at_18 (pc' := 19) rfl rfl ?_
  refine Ow.bipush C (16 : Int32) at_19 (pc' := 21) rfl rfl ?_
  refine Ow.iushr C at_21 (pc' := 22) rfl ?_
  refine Ow.sipush C (255 : Int32) at_22 (pc' := 25) rfl rfl ?_
  refine Ow.iand C at_25 (pc' := 26) rfl ?_
  refine Ow.i2c C at_26 (pc' := 27) rfl ?_
  refine Ow.istoreG C at_27 (pc' := 29) rfl rfl (fun c2 e_c2 => ?_)
  dsimp only [List.set]
  refine Ow.iloadN C at_29 (pc' := 30) rfl rfl ?_
  refine Ow.sipush C (255 : Int32) at_30 (pc' := 33) rfl rfl ?_
  refine Ow.iand C at_33 (pc' := 34) rfl ?_
  refine Ow.i2c C at_34 (pc' := 35) rfl ?_
  refine Ow.istoreG C at_35 (pc' := 37) rfl rfl (fun m0 e_m0 => ?_)
  dsimp only [List.set]
  refine Ow.iloadN C at_37 (pc' := 38) rfl rfl ?_
  refine Ow.bipush C (8 : Int32) at_38 (pc' := 40) rfl rfl ?_
  refine Ow.iushr C at_40 (pc' := 41) rfl ?_
  refine Ow.sipush C (255 : Int32) at_41 (pc' := 44) rfl rfl ?_
  refine Ow.iand C at_44 (pc' := 45) rfl ?_
  refine Ow.i2c C at_45 (pc' := 46) rfl ?_
  refine Ow.istoreG C at_46 (pc' := 48) rfl rfl (fun m1 e_m1 => ?_)
  dsimp only [List.set]
  refine Ow.iloadN C at_48 (pc' := 49) rfl rfl ?_
  refine Ow.bipush C (16 : Int32) at_49 (pc' := 51) rfl rfl ?_
  refine Ow.iushr C at_51 (pc' := 52) rfl ?_
  refine Ow.sipush C (255 : Int32) at_52 (pc' := 55) rfl rfl ?_
  refine Ow.iand C at_55 (pc' := 56) rfl ?_
  refine Ow.i2c C at_56 (pc' := 57) rfl ?_
  refine Ow.istoreG C at_57 (pc' := 59) rfl rfl (fun m2 e_m2 => ?_)
  dsimp only [List.set]
  refine Ow.iloadN C at_59 (pc' := 60) rfl rfl ?_
  refine Ow.iconst C (3 : Int32) at_60 (pc' := 61) rfl rfl ?_
  have r0 : 0 ≤ c0.toInt ∧ c0.toInt < 256 := by rw [e_c0]; exact Ow.mask255 _
  have r1 : 0 ≤ c1.toInt ∧ c1.toInt < 256 := by rw [e_c1]; exact Ow.mask255 _
  have r2 : 0 ≤ c2.toInt ∧ c2.toInt < 256 := by rw [e_c2]; exact Ow.mask255 _
  have t0 : 0 ≤ m0.toInt ∧ m0.toInt < 256 := by rw [e_m0]; exact Ow.mask255 _
  have t1 : 0 ≤ m1.toInt ∧ m1.toInt < 256 := by rw [e_m1]; exact Ow.mask255 _
  have t2 : 0 ≤ m2.toInt ∧ m2.toInt < 256 := by rw [e_m2]; exact Ow.mask255 _
  refine Ow.iand C at_61 (pc' := 62) rfl ?_
  refine Ow.istoreG C at_62 (pc' := 64) rfl rfl (fun sl e_sl => ?_)
  dsimp only [List.set]
  refine Ow.iloadN C at_64 (pc' := 65) rfl rfl ?_
  refine Ow.iconst C (2 : Int32) at_65 (pc' := 66) rfl rfl ?_
  refine Ow.iushr C at_66 (pc' := 67) rfl ?_
  refine Ow.iconst C (3 : Int32) at_67 (pc' := 68) rfl rfl ?_
  refine Ow.iand C at_68 (pc' := 69) rfl ?_
  refine Ow.istoreG C at_69 (pc' := 71) rfl rfl (fun nl e_nl => ?_)
  dsimp only [List.set]
  refine Ow.iloadN C at_71 (pc' := 72) rfl rfl ?_
  refine Ow.iload C at_72 (pc' := 74) rfl rfl ?_
  refine Ow.iloadN C at_74 (pc' := 75) rfl rfl ?_
  refine Ow.iconst C (4 : Int32) at_75 (pc' := 76) rfl rfl ?_
  refine Ow.iushr C at_76 (pc' := 77) rfl ?_
  refine Ow.iconst C (3 : Int32) at_77 (pc' := 78) rfl rfl ?_
  refine Ow.iand C at_78 (pc' := 79) rfl ?_
  obtain rfl : sl = Int32.ofNat i := e_sl.trans e_i
  obtain rfl : nl = Int32.ofNat j := e_nl.trans e_j
  refine Ow.callS C (tw0 G.1) (tw1 G.1) (tw2 G.1) (tw3 G.1) (by decide) (con_PK G c0 m0 _ r0 t0 _ _) (fun _ q => q) pd_17 rfl rfl rfl at_79 (pc' := 82) rfl (Wt := 0) (Nat.le_refl _) (by first | decide | (dsimp only; omega) | (simp [Value.category]; done) | (simp [Value.category]; omega)) (by first | decide | (dsimp only; omega) | (simp [Value.category]; done) | (simp [Value.category]; omega)) (by first | decide | (dsimp only; omega) | (simp [Value.category]; done) | (simp [Value.category]; omega)) (by first | decide | (dsimp only; omega) | (simp [Value.category]; done) | (simp [Value.category]; omega)) (fun v1 h1 W1 ⟨b0, e1, u0, u0', e1'⟩ s1 => ?_)
  subst e1 e1'
  dsimp only [Option.toList, List.cons_append, List.nil_append]
  refine Ow.istore C at_82 (pc' := 84) rfl rfl ?_
  dsimp only [List.set]
  refine Ow.iload C at_84 (pc' := 86) rfl rfl ?_
  refine Ow.iload C at_86 (pc' := 88) rfl rfl ?_
  refine Ow.iloadN C at_88 (pc' := 89) rfl rfl ?_
  refine Ow.bipush C (6 : Int32) at_89 (pc' := 91) rfl rfl ?_
  refine Ow.iushr C at_91 (pc' := 92) rfl ?_
  refine Ow.iconst C (3 : Int32) at_92 (pc' := 93) rfl rfl ?_
  refine Ow.iand C at_93 (pc' := 94) rfl ?_
  refine Ow.callS C (tw0 G.1) (tw1 G.1) (tw2 G.1) (tw3 G.1) (by decide) (con_PK G c1 m1 _ r1 t1 _ _) (fun _ q => q) pd_17 rfl rfl rfl at_94 (pc' := 97) rfl (Wt := 0) (Nat.le_refl _) (by first | decide | (dsimp only; omega) | (simp [Value.category]; done) | (simp [Value.category]; omega)) (by first | decide | (dsimp only; omega) | (simp [Value.category]; done) | (simp [Value.category]; omega)) (by first | decide | (dsimp only; omega) | (simp [Value.category]; done) | (simp [Value.category]; omega)) (by first | decide | (dsimp only; omega) | (simp [Value.category]; done) | (simp [Value.category]; omega)) (fun v2 h2 W2 ⟨b1, e2, u1, u1', e2'⟩ s2 => ?_)
  subst e2 e2'
  dsimp only [Option.toList, List.cons_append, List.nil_append]
  refine Ow.istore C at_97 (pc' := 99) rfl rfl ?_
  dsimp only [List.set]
  refine Ow.iload C at_99 (pc' := 101) rfl rfl ?_
  refine Ow.iload C at_101 (pc' := 103) rfl rfl ?_
  refine Ow.iloadN C at_103 (pc' := 104) rfl rfl ?_
  refine Ow.bipush C (8 : Int32) at_104 (pc' := 106) rfl rfl ?_
  refine Ow.iushr C at_106 (pc' := 107) rfl ?_
  refine Ow.iconst C (3 : Int32) at_107 (pc' := 108) rfl rfl ?_
  refine Ow.iand C at_108 (pc' := 109) rfl ?_
  refine Ow.callS C (tw0 G.1) (tw1 G.1) (tw2 G.1) (tw3 G.1) (by decide) (con_PK G c2 m2 _ r2 t2 _ _) (fun _ q => q) pd_17 rfl rfl rfl at_109 (pc' := 112) rfl (Wt := 0) (Nat.le_refl _) (by first | decide | (dsimp only; omega) | (simp [Value.category]; done) | (simp [Value.category]; omega)) (by first | decide | (dsimp only; omega) | (simp [Value.category]; done) | (simp [Value.category]; omega)) (by first | decide | (dsimp only; omega) | (simp [Value.category]; done) | (simp [Value.category]; omega)) (by first | decide | (dsimp only; omega) | (simp [Value.category]; done) | (simp [Value.category]; omega)) (fun v3 h3 W3 ⟨b2, e3, u2, u2', e3'⟩ s3 => ?_)
  subst e3 e3'
  dsimp only [Option.toList, List.cons_append, List.nil_append]
  refine Ow.istore C at_112 (pc' := 114) rfl rfl ?_
  dsimp only [List.set]
  refine Ow.iload C at_114 (pc' := 116) rfl rfl ?_
  refine Ow.iloadN C at_116 (pc' := 117) rfl rfl ?_
  refine Ow.iload C at_117 (pc' := 119) rfl rfl ?_
  refine Ow.iload C at_119 (pc' := 121) rfl rfl ?_
  refine Ow.callS C (tw4 G.1) (tw5 G.1) (tw2 G.1) (tw6 G.1) (by decide) (con_MK G i hi c0 c1 c2 r0 r1 r2 _ _) (fun _ q => q) pd_18 rfl rfl rfl at_121 (pc' := 124) rfl (Wt := 0) (Nat.le_refl _) (by first | decide | (dsimp only; omega) | (simp [Value.category]; done) | (simp [Value.category]; omega)) (by first | decide | (dsimp only; omega) | (simp [Value.category]; done) | (simp [Value.category]; omega)) (by first | decide | (dsimp only; omega) | (simp [Value.category]; done) | (simp [Value.category]; omega)) (by first | decide | (dsimp only; omega) | (simp [Value.category]; done) | (simp [Value.category]; omega)) (fun v4 h4 W4 ⟨a4, d4, e4, g4, K4, S4⟩ s4 => ?_)
  subst e4
  dsimp only [Option.toList, List.cons_append, List.nil_append]
  refine Ow.astore C at_124 (pc' := 126) rfl rfl rfl ?_
  dsimp only [List.set]
  refine Ow.iload C at_126 (pc' := 128) rfl rfl ?_
  refine Ow.iload C at_128 (pc' := 130) rfl rfl ?_
  refine Ow.iload C at_130 (pc' := 132) rfl rfl ?_
  refine Ow.iload C at_132 (pc' := 134) rfl rfl ?_
  refine Ow.callS C (tw4 G.1) (tw5 G.1) (tw2 G.1) (tw6 G.1) (by decide) (con_MK G j hj b0 b1 b2 ⟨u0, u0'⟩ ⟨u1, u1'⟩ ⟨u2, u2'⟩ _ _) (fun _ q => q) pd_18 rfl rfl rfl at_134 (pc' := 137) rfl (Wt := 0) (Nat.le_refl _) (by first | decide | (dsimp only; omega) | (simp [Value.category]; done) | (simp [Value.category]; omega)) (by first | decide | (dsimp only; omega) | (simp [Value.category]; done) | (simp [Value.category]; omega)) (by first | decide | (dsimp only; omega) | (simp [Value.category]; done) | (simp [Value.category]; omega)) (by first | decide | (dsimp only; omega) | (simp [Value.category]; done) | (simp [Value.category]; omega)) (fun v5 h5 W5 ⟨a5, d5, e5, g5, K5, S5⟩ s5 => ?_)
  subst e5
  dsimp only [Option.toList, List.cons_append, List.nil_append]
  have S45 := S4.keep K5 nin0 nin0
  have hne : a4 ≠ a5 := by have := S4.lt.1; omega
  refine Ow.astore C at_137 (pc' := 139) rfl rfl rfl ?_
  dsimp only [List.set]
  refine Ow.newO C (tw40 G.1) (tw41 G.1) (tw42 G.1) at_139 (pc' := 142) rfl (by first | decide | (dsimp only; omega) | (simp [Value.category]; done) | (simp [Value.category]; omega)) (by first | decide | (dsimp only; omega) | (simp [Value.category]; done) | (simp [Value.category]; omega)) (fun h6 a6 s6 z6 l6 E6 ⟨A6, D6⟩ => ?_)
  refine Ow.dup C at_142 (pc' := 143) rfl rfl ?_
  refine Ow.aload C at_143 (pc' := 145) rfl rfl rfl ?_
  refine Ow.ldcS C rfl (N := 0) (xs := []) (tw43 G.1) (by decide) (by decide) (by decide) at_145 (pc' := 147) rfl (by decide) (by decide) (by first | decide | (dsimp only; omega) | (simp [Value.category]; done) | (simp [Value.category]; omega)) (by first | decide | (dsimp only; omega) | (simp [Value.category]; done) | (simp [Value.category]; omega)) (fun h7 b7 d7 E7 B7 Bc7 Bv7 D7 n7 => ?_)
  have l4 := S45.lt.1
  have l5 := S5.lt.1
  have l4' := S45.lt.2
  have l5' := S5.lt.2
  refine Ow.callI C rfl (tw44 G.1) (tw45 G.1) (tw42 G.1) (tw46 G.1) (by decide) (con_AI G a6 a4 b7 h7 _ _ _ (A6.ext E7) ((D6 (Or.inr (tw54 G.1)) (ty := .object "java/lang/String") (by decide)).ext E7) ((D6 (Or.inr (tw56 G.1)) (ty := .object "java/lang/String") (by decide)).ext E7) (by simp)) (fun _ q => q) pd_19 rfl rfl rfl at_147 (pc' := 150) rfl (Wt := 1) (Nat.le_refl _) (by first | decide | (dsimp only; omega) | (simp [Value.category]; done) | (simp [Value.category]; omega)) (by first | decide | (dsimp only; omega) | (simp [Value.category]; done) | (simp [Value.category]; omega)) (by first | decide | (dsimp only; omega) | (simp [Value.category]; done) | (simp [Value.category]; omega)) (by first | decide | (dsimp only; omega) | (simp [Value.category]; done) | (simp [Value.category]; omega)) (fun v8 h8 W8 ⟨e8, K8, A8, F8⟩ s8 => ?_)
  subst e8
  dsimp only [Option.toList, List.cons_append, List.nil_append]
  have S8 := ((S45.ext E6).ext E7).keep K8 (Ow.nin1 (by omega)) (Ow.nin1 (by omega))
  have T8 := ((S5.ext E6).ext E7).keep K8 (Ow.nin1 (by omega)) (Ow.nin1 (by omega))
  refine Ow.astore C at_150 (pc' := 152) rfl rfl rfl ?_
  dsimp only [List.set]
  refine Ow.aload C at_152 (pc' := 154) rfl rfl rfl ?_
  refine Ow.aload C at_154 (pc' := 156) rfl rfl rfl ?_
  refine Ow.callV C (y := (⟨"org/wardchain/web/AuthorizationHeader", "hasScheme", "(Ljava/lang/String;)Z"⟩ : MethodName)) (z := (⟨"org/wardchain/web/AuthorizationHeader", "hasScheme", "(Ljava/lang/String;)Z"⟩ : MethodName)) (tw57 G.1) (tw58 G.1) (tw60 G.1) (tw60 G.1) (tw59 G.1) (tw42 G.1) (tw61 G.1) (by decide) A8 (con_HS G a6 a4 d4 a5 d5 _ _ h8 _ A8 F8 S8 T8 hne (by simp; omega) (by simp; omega)) (fun _ q => q) pd_20 rfl rfl rfl at_156 (pc' := 159) rfl (Wt := 0) (Nat.le_refl _) (by first | decide | (dsimp only; omega) | (simp [Value.category]; done) | (simp [Value.category]; omega)) (by first | decide | (dsimp only; omega) | (simp [Value.category]; done) | (simp [Value.category]; omega)) (by first | decide | (dsimp only; omega) | (simp [Value.category]; done) | (simp [Value.category]; omega)) (by first | decide | (dsimp only; omega) | (simp [Value.category]; done) | (simp [Value.category]; omega)) (fun v9 h9 W9 ⟨e9, _⟩ s9 => ?_)
  subst e9
  dsimp only [Option.toList, List.cons_append, List.nil_append]
  refine Ow.istoreG C at_159 (pc' := 161) rfl rfl (fun g e_g => ?_)
  dsimp only [List.set]
  have tl := take_low hi hj c0 c1 c2 b0 b1 b2
  have J210 : ∀ (h' : Heap) (W' : List Nat), g = 0 → Ow.WP p l e room_1 s m #[.int s', .int n', .int md] below meth c Z EL1 bb (fun v h' W' => v = some (.int 1)) 210 [.val (.int s'), .val (.int n'), .val (.int md), .val (.int c0), .val (.int c1), .val (.int c2), .val (.int m0), .val (.int m1), .val (.int m2), .val (.int (Int32.ofNat i)), .val (.int (Int32.ofNat j)), .val (.int b0), .val (.int b1), .val (.int b2), .val (.ref a4), .val (.ref a5), .val (.ref a6), .val (.int g), .unset] [] h' W' 40 5312 := by
    intro h' W' hg
    refine Ow.iconst C (0 : Int32) at_210 (pc' := 211) rfl rfl ?_
    refine Ow.istore C at_211 (pc' := 213) rfl rfl ?_
    dsimp only [List.set]
    refine Ow.iload C at_213 (pc' := 215) rfl rfl ?_
    refine Ow.iload C at_215 (pc' := 217) rfl rfl ?_
    refine Ow.icmpN C at_217 (pc' := 220) rfl (XT.ii_ne_f hg) ?_
    refine Ow.iconst C (1 : Int32) at_220 (pc' := 221) rfl rfl ?_
    refine Ow.goto C 225 at_221 (by decide) (by decide) ?_
    refine Ow.retN C (t := .boolean) rfl (by simp) at_225 (by first | decide | (dsimp only; omega) | (simp [Value.category]; done) | (simp [Value.category]; omega)) (by first | decide | (dsimp only; omega) | (simp [Value.category]; done) | (simp [Value.category]; omega)) [] (by simp) rfl
  by_cases hij : i = j
  · subst hij
    refine Ow.iload C at_161 (pc' := 163) rfl rfl ?_
    refine Ow.iload C at_163 (pc' := 165) rfl rfl ?_
    refine Ow.icmpN C at_165 (pc' := 168) rfl (XT.ii_ne_f rfl) ?_
    refine Ow.iloadN C at_168 (pc' := 169) rfl rfl ?_
    refine Ow.iload C at_169 (pc' := 171) rfl rfl ?_
    refine Ow.iconst C (0 : Int32) at_171 (pc' := 172) rfl rfl ?_
    refine Ow.iload C at_172 (pc' := 174) rfl rfl ?_
    refine Ow.callS C (tw103 G.1) (tw104 G.1) (tw2 G.1) (tw105 G.1) (by decide) (con_SM G c0 b0 0 i (by decide) hi r0 ⟨u0, u0'⟩ _ _) (fun _ q => q) pd_21 rfl rfl rfl at_174 (pc' := 177) rfl (Wt := 0) (Nat.le_refl _) (by first | decide | (dsimp only; omega) | (simp [Value.category]; done) | (simp [Value.category]; omega)) (by first | decide | (dsimp only; omega) | (simp [Value.category]; done) | (simp [Value.category]; omega)) (by first | decide | (dsimp only; omega) | (simp [Value.category]; done) | (simp [Value.category]; omega)) (by first | decide | (dsimp only; omega) | (simp [Value.category]; done) | (simp [Value.category]; omega)) (fun v10 h10 W10 ⟨e10, e10'⟩ s10 => ?_)
    by_cases q0 : i ≤ 0 ∨ Ow.low c0 = Ow.low b0
    · rw [if_pos q0] at e10
      subst e10 e10'
      dsimp only [Option.toList, List.cons_append, List.nil_append]
      refine Ow.ifCN C at_177 (pc' := 180) rfl (XT.i0_eq_f (by decide)) ?_
      refine Ow.iload C at_180 (pc' := 182) rfl rfl ?_
      refine Ow.iload C at_182 (pc' := 184) rfl rfl ?_
      refine Ow.iconst C (1 : Int32) at_184 (pc' := 185) rfl rfl ?_
      refine Ow.iload C at_185 (pc' := 187) rfl rfl ?_
      refine Ow.callS C (tw103 G.1) (tw104 G.1) (tw2 G.1) (tw105 G.1) (by decide) (con_SM G c1 b1 1 i (by decide) hi r1 ⟨u1, u1'⟩ _ _) (fun _ q => q) pd_21 rfl rfl rfl at_187 (pc' := 190) rfl (Wt := 0) (Nat.le_refl _) (by first | decide | (dsimp only; omega) | (simp [Value.category]; done) | (simp [Value.category]; omega)) (by first | decide | (dsimp only; omega) | (simp [Value.category]; done) | (simp [Value.category]; omega)) (by first | decide | (dsimp only; omega) | (simp [Value.category]; done) | (simp [Value.category]; omega)) (by first | decide | (dsimp only; omega) | (simp [Value.category]; done) | (simp [Value.category]; omega)) (fun v11 h11 W11 ⟨e11, e11'⟩ s11 => ?_)
      by_cases q1 : i ≤ 1 ∨ Ow.low c1 = Ow.low b1
      · rw [if_pos q1] at e11
        subst e11 e11'
        dsimp only [Option.toList, List.cons_append, List.nil_append]
        refine Ow.ifCN C at_190 (pc' := 193) rfl (XT.i0_eq_f (by decide)) ?_
        refine Ow.iload C at_193 (pc' := 195) rfl rfl ?_
        refine Ow.iload C at_195 (pc' := 197) rfl rfl ?_
        refine Ow.iconst C (2 : Int32) at_197 (pc' := 198) rfl rfl ?_
        refine Ow.iload C at_198 (pc' := 200) rfl rfl ?_
        refine Ow.callS C (tw103 G.1) (tw104 G.1) (tw2 G.1) (tw105 G.1) (by decide) (con_SM G c2 b2 2 i (by decide) hi r2 ⟨u2, u2'⟩ _ _) (fun _ q => q) pd_21 rfl rfl rfl at_200 (pc' := 203) rfl (Wt := 0) (Nat.le_refl _) (by first | decide | (dsimp only; omega) | (simp [Value.category]; done) | (simp [Value.category]; omega)) (by first | decide | (dsimp only; omega) | (simp [Value.category]; done) | (simp [Value.category]; omega)) (by first | decide | (dsimp only; omega) | (simp [Value.category]; done) | (simp [Value.category]; omega)) (by first | decide | (dsimp only; omega) | (simp [Value.category]; done) | (simp [Value.category]; omega)) (fun v12 h12 W12 ⟨e12, e12'⟩ s12 => ?_)
        by_cases q2 : i ≤ 2 ∨ Ow.low c2 = Ow.low b2
        · rw [if_pos q2] at e12
          subst e12 e12'
          dsimp only [Option.toList, List.cons_append, List.nil_append]
          have hg : g = 1 := by rw [e_g, if_pos (tl.mpr ⟨rfl, q0, q1, q2⟩)]
          refine Ow.ifCN C at_203 (pc' := 206) rfl (XT.i0_eq_f (by decide)) ?_
          refine Ow.iconst C (1 : Int32) at_206 (pc' := 207) rfl rfl ?_
          refine Ow.goto C 211 at_207 (by decide) (by decide) ?_
          refine Ow.istore C at_211 (pc' := 213) rfl rfl ?_
          dsimp only [List.set]
          refine Ow.iload C at_213 (pc' := 215) rfl rfl ?_
          refine Ow.iload C at_215 (pc' := 217) rfl rfl ?_
          refine Ow.icmpN C at_217 (pc' := 220) rfl (XT.ii_ne_f hg) ?_
          refine Ow.iconst C (1 : Int32) at_220 (pc' := 221) rfl rfl ?_
          refine Ow.goto C 225 at_221 (by decide) (by decide) ?_
          refine Ow.retN C (t := .boolean) rfl (by simp) at_225 (by first | decide | (dsimp only; omega) | (simp [Value.category]; done) | (simp [Value.category]; omega)) (by first | decide | (dsimp only; omega) | (simp [Value.category]; done) | (simp [Value.category]; omega)) [] (by simp) rfl
        · rw [if_neg q2] at e12
          subst e12 e12'
          dsimp only [Option.toList, List.cons_append, List.nil_append]
          refine Ow.ifCY C 210 at_203 (XT.i0_eq_t (by decide)) (by decide) (by decide) ?_
          exact (J210 _ _ (by rw [e_g, if_neg (fun q => q2 (tl.mp q).2.2.2)])).room (by decide) (by decide)
      · rw [if_neg q1] at e11
        subst e11 e11'
        dsimp only [Option.toList, List.cons_append, List.nil_append]
        refine Ow.ifCY C 210 at_190 (XT.i0_eq_t (by decide)) (by decide) (by decide) ?_
        exact (J210 _ _ (by rw [e_g, if_neg (fun q => q1 (tl.mp q).2.2.1)])).room (by decide) (by decide)
    · rw [if_neg q0] at e10
      subst e10 e10'
      dsimp only [Option.toList, List.cons_append, List.nil_append]
      refine Ow.ifCY C 210 at_177 (XT.i0_eq_t (by decide)) (by decide) (by decide) ?_
      exact (J210 _ _ (by rw [e_g, if_neg (fun q => q0 (tl.mp q).2.1)])).room (by decide) (by decide)
  · refine Ow.iload C at_161 (pc' := 163) rfl rfl ?_
    refine Ow.iload C at_163 (pc' := 165) rfl rfl ?_
    refine Ow.icmpY C 210 at_165 (XT.ii_ne_t (fun q => hij (Ow.ofNat_inj (by omega) (by omega) q))) (by decide) (by decide) ?_
    exact (J210 _ _ (by rw [e_g, if_neg (fun q => hij (tl.mp q).1)])).room (by decide) (by decide)
end Law
set_option maxRecDepth 65536 in
set_option maxHeartbeats 40000000 in
theorem comes_1 {Post : Tables → Env → Array Value → State → Outcome → State → Prop} (hpost : ∀ tb e args s v u, (limb_1_1.after args s (.returned v) u = true ∧ limb_1_2.after args s (.returned v) u = true ∧ True) → ReturnedEndW s (.returned v) u (Jvm.fieldLocs frame_1_writes args s ++ Jvm.arrayLocs frame_1_arrays args s ++ Jvm.staticLocs frame_1_statics s) 40 5312 → Post tb e args s (.returned v) u) :
    ArmFor flags0 classFile x code maxLocals ret World_1 tables_1 room_1 Calls_1 rest_1 Pre_1 Post := by
  intro l hfl _ _ p e ha hc hk s m args below hf hA hF happ hP
  obtain ⟨hcalls, hrest, hpre⟩ := hP
  obtain ⟨-, -, -, hnamed, -, -, -, hat⟩ := (Spec.applies_iff hf).mp happ
  obtain ⟨hg, hn⟩ := and_e (Cond.before_iff.mp (show (Jvm.Cond.and given_1 narrow_1).before args s = true from hpre))
  obtain ⟨h1, h2⟩ := and_e hg
  obtain ⟨w0, w1, w2, rfl⟩ : ∃ w0 w1 w2 : Value, args = #[w0, w1, w2] := by
    have hs : args.size = 3 := by simpa [Cond.value, given_1] using h1
    obtain ⟨L⟩ := args
    match L, hs with
    | [w0, w1, w2], _ => exact ⟨w0, w1, w2, rfl⟩
  have hw := fun d (hd : d ∈ tables_1) => atoms_spec (ws := Jvm.Cond.code x code maxLocals ret :: tables_1) hat d (List.mem_cons_of_mem _ hd)
  obtain ⟨hsets, hown0⟩ := atoms_of _ (rest_1_c_eq ▸ (show rest_1_c.before _ s = true from hrest))
  have hfit : Fit s := fun {y c} hc i hi => by
    obtain ⟨ha, rfl⟩ := Array.getElem?_eq_some_iff.mp hc
    have q := List.all_eq_true.mp ((Array.all_eq_true_iff_forall_mem.mp hF) _ (Array.getElem_mem ha)) i (List.mem_range.mpr hi)
    simpa [Array.getElem?_eq_getElem hi] using q
  obtain ⟨q0, h2⟩ := and_e h2
  obtain ⟨q1, h2⟩ := and_e h2
  have q2 := h2
  obtain ⟨i0, e0⟩ := is_v q0
  obtain rfl : w0 = (.int i0) := Option.some.inj e0
  obtain ⟨i1, e1⟩ := is_v q1
  obtain rfl : w1 = (.int i1) := Option.some.inj e1
  obtain ⟨i2, e2⟩ := is_v q2
  obtain rfl : w2 = (.int i2) := Option.some.inj e2
  have n3 := not_v (Cond.before_iff.mp (hsets _ (List.mem_of_getElem? (i := 2) rfl)))
  obtain ⟨cv, ecv⟩ := is_v (Cond.before_iff.mp (hsets _ (List.mem_of_getElem? (i := 1) rfl)))
  have Scv : Sta s s.heap "java/lang/String" "COMPACT_STRINGS" "Z" (.int cv) := Sta.start ecv (Or.inl (hsets _ (List.mem_of_getElem? (i := 0) rfl)))
  have hcv : ¬ (cv = (0 : Int32)) := gotF (Cond.eq_ints ecv (Term.int_eval (0))) n3
  have G : Glob s _ := ⟨hw, ⟨cv, hcv, Scv⟩, LocOk.start (hsets _ (List.mem_of_getElem? (i := 10) rfl)) (hsets _ (List.mem_of_getElem? (i := 11) rfl)) (hsets _ (List.mem_of_getElem? (i := 12) rfl)) (hsets _ (List.mem_of_getElem? (i := 13) rfl)) (hsets _ (List.mem_of_getElem? (i := 15) rfl)) (hsets _ (List.mem_of_getElem? (i := 17) rfl)), CdOk.start (hsets _ (List.mem_of_getElem? (i := 19) rfl)) (hsets _ (List.mem_of_getElem? (i := 20) rfl))⟩
  obtain ⟨n, o, h1, h2, h3, _, L, rfl, ⟨W', rfl, -, -, N⟩, -, hq, hq'⟩ := con_law G i0 i1 i2 p e ha hc hk s m _ below hf ((Spec.applies_iff_loose hf).mp happ).1 ⟨rfl, State.Warmed39.refl s, rfl, (CHv.start (ewG G) (fun p hp => hcalls.1 p hp) (show Jvm.Lit.compactW.before _ s = true from (hsets _ (List.mem_of_getElem? (i := 2) rfl))) (tw26 G.1) (tw8 G.1)), Old.start s, Ow.Own.nil⟩ trivial
  exact ⟨n, _, h1, h2, h3, hpost _ _ _ _ _ _ ⟨Cond.after_iff.mpr rfl, Cond.after_iff.mpr (eq_i res_at (Term.int_eval (1)) rfl), trivial⟩ ⟨hq.1, hq.2.1, hq.2.2.1, (hq.2.2.2.sift fun y hy => Or.inr (N y hy)).mono (by decide) (by decide)⟩⟩
theorem main_1_1 : Claimed_1_1 := comes_1 fun _ _ _ _ _ _ h hF => ⟨h.1, hF⟩
theorem main_1_2 : Claimed_1_2 := comes_1 fun _ _ _ _ _ _ h hF => ⟨h.2.1, hF⟩

end Jvm.Pilot.@@N@@
namespace Jvm.Pilot.@@N@@
open Jvm Jvm.ClassFile Sem Op Lib Jvm.Free Jvm.Stand Jvm.Pilot.@@N@@.Jvm.D
/-! MADE BY PROGRAM (witnessworld.py) out of the Statement's table words and the real class files: 26 classes; the members and pool entries that the words name. The judged class is class 1, her method 1. -/
namespace start1
open Jvm.ClassFile
def u (s : String) : CpInfo := .utf8 (stringToUtf16 s)
/-- a pool by its gaps: so many unusable entries, then the entry; so many at the end -/
def gap : Nat → List CpInfo → List CpInfo
  | 0, r => r
  | n + 1, r => .unusable :: gap n r
def poolList (es : List (Nat × CpInfo)) (last : Nat) : List CpInfo := es.foldr (fun e r => gap e.1 (e.2 :: r)) (gap last [])
def pool (es : List (Nat × CpInfo)) (last : Nat) : Array CpInfo := ⟨poolList es last⟩
def fileOf (pool : Array CpInfo) (this : Nat) (attrs : Array Attribute := #[]) (ms : Array MethodInfo := #[]) (fl : Nat := 33) (sup : Nat := 0) (ifs : Array Nat := #[]) (fds : Array FieldInfo := #[]) : ClassFile where
  minorVersion := 0
  majorVersion := 65
  constantPool := pool
  accessFlags := fl
  thisClass := this
  superClass := sup
  interfaces := ifs
  fields := fds
  methods := ms
  attributes := attrs
def plain (name : String) (sup : Option ClassId) : Class where
  name := name
  kind := .ordinary
  loader := none
  accessFlags := 33
  super := sup
  interfaces := #[]
  cf := none
  fields := #[]
  methods := #[]
  instanceTypes := #[]
  staticTypes := #[]
  resolved := #[]
  callSites := []
  init := .initialized
  statics := none
  mirror := none

def pool0 : Array CpInfo := pool [(5, u "<init>"), (0, u "()V"), (1, .class_ 10), (1, u "java/lang/Object")] 113

def k0c0 : Code := { maxStack := 0, maxLocals := 1, code := object_method_1_code, exceptionTable := #[], attributes := #[] }
def k0m0 : Method := { name := "<init>", desc := "()V", sig := { parameters := [], returnType := none }, accessFlags := 1, code := some k0c0 }
/-- java/lang/Object -/
def k0 : Class := { plain "java/lang/Object" none with
  accessFlags := 33
  interfaces := #[]
  cf := some (fileOf pool0 8 #[] #[{ accessFlags := 1, nameIndex := 5, descriptorIndex := 6, attributes := #[] }] 33 0 #[] #[])
  fields := #[]
  methods := #[k0m0]
  instanceTypes := #[]
  staticTypes := #[]
  resolved := Array.replicate 124 none
  statics := none }

def pool1 : Array CpInfo := pool [(2, .class_ 4), (1, u "java/lang/Object"), (0, u "<init>"), (0, u "()V"), (0, .methodref 8 9), (0, .class_ 10), (0, .nameAndType 11 12), (0, u "org/wardchain/web/AuthorizationHeaderHasSchemePinLaw"), (0, u "pick"), (0, u "(CCI)C"), (0, .methodref 8 14), (0, .nameAndType 15 16), (0, u "mk"), (0, u "(ICCC)Ljava/lang/String;"), (0, .class_ 18), (0, u "org/wardchain/web/AuthorizationHeader"), (0, .string 20), (0, u ""), (0, .methodref 17 22), (0, .nameAndType 5 23), (0, u "(Ljava/lang/String;Ljava/lang/String;)V"), (0, .methodref 17 25), (0, .nameAndType 26 27), (0, u "hasScheme"), (0, u "(Ljava/lang/String;)Z"), (0, .methodref 8 29), (0, .nameAndType 30 31), (0, u "same"), (0, u "(CCII)Z"), (0, .methodref 8 33), (0, .nameAndType 34 35), (0, u "lower"), (0, u "(C)C"), (0, .methodref 8 37), (0, .nameAndType 38 39), (0, u "isUpper"), (0, u "(C)Z"), (0, .methodref 8 41), (0, .nameAndType 42 39), (0, u "isLower"), (0, .methodref 8 44), (0, .nameAndType 45 35), (0, u "flip"), (0, .class_ 47), (0, u "java/lang/String"), (0, .methodref 46 49), (0, .nameAndType 5 50), (0, u "([C)V"), (2, u "law"), (0, u "(III)Z")] 3

def k1m0 : Method := { name := "<init>", desc := "()V", sig := { parameters := [], returnType := none }, accessFlags := 1, code := none }
def k1c1 : Code := { maxStack := 4, maxLocals := 19, code := code, exceptionTable := #[], attributes := #[] }
def k1m1 : Method := { name := "law", desc := "(III)Z", sig := { parameters := [.int, .int, .int], returnType := some .boolean }, accessFlags := 9, code := some k1c1 }
def k1c2 : Code := { maxStack := 2, maxLocals := 4, code := method_3_code, exceptionTable := #[], attributes := #[] }
def k1m2 : Method := { name := "same", desc := "(CCII)Z", sig := { parameters := [.char, .char, .int, .int], returnType := some .boolean }, accessFlags := 10, code := some k1c2 }
def k1c3 : Code := { maxStack := 2, maxLocals := 1, code := method_4_code, exceptionTable := #[], attributes := #[] }
def k1m3 : Method := { name := "isUpper", desc := "(C)Z", sig := { parameters := [.char], returnType := some .boolean }, accessFlags := 10, code := some k1c3 }
def k1c4 : Code := { maxStack := 2, maxLocals := 1, code := method_5_code, exceptionTable := #[], attributes := #[] }
def k1m4 : Method := { name := "isLower", desc := "(C)Z", sig := { parameters := [.char], returnType := some .boolean }, accessFlags := 10, code := some k1c4 }
def k1c5 : Code := { maxStack := 2, maxLocals := 1, code := method_6_code, exceptionTable := #[], attributes := #[] }
def k1m5 : Method := { name := "lower", desc := "(C)C", sig := { parameters := [.char], returnType := some .char }, accessFlags := 10, code := some k1c5 }
def k1c6 : Code := { maxStack := 2, maxLocals := 1, code := method_7_code, exceptionTable := #[], attributes := #[] }
def k1m6 : Method := { name := "flip", desc := "(C)C", sig := { parameters := [.char], returnType := some .char }, accessFlags := 10, code := some k1c6 }
def k1c7 : Code := { maxStack := 2, maxLocals := 3, code := method_8_code, exceptionTable := #[], attributes := #[] }
def k1m7 : Method := { name := "pick", desc := "(CCI)C", sig := { parameters := [.char, .char, .int], returnType := some .char }, accessFlags := 10, code := some k1c7 }
def k1c8 : Code := { maxStack := 6, maxLocals := 4, code := method_9_code, exceptionTable := #[], attributes := #[] }
def k1m8 : Method := { name := "mk", desc := "(ICCC)Ljava/lang/String;", sig := { parameters := [.int, .char, .char, .char], returnType := some (.object "java/lang/String") }, accessFlags := 10, code := some k1c8 }
/-- org/wardchain/web/AuthorizationHeaderHasSchemePinLaw -/
def k1 : Class := { plain "org/wardchain/web/AuthorizationHeaderHasSchemePinLaw" (some 0) with
  accessFlags := 49
  interfaces := #[]
  cf := some (fileOf pool1 8 #[] #[{ accessFlags := 1, nameIndex := 5, descriptorIndex := 6, attributes := #[] }, { accessFlags := 9, nameIndex := 53, descriptorIndex := 54, attributes := #[] }, { accessFlags := 10, nameIndex := 30, descriptorIndex := 31, attributes := #[] }, { accessFlags := 10, nameIndex := 38, descriptorIndex := 39, attributes := #[] }, { accessFlags := 10, nameIndex := 42, descriptorIndex := 39, attributes := #[] }, { accessFlags := 10, nameIndex := 34, descriptorIndex := 35, attributes := #[] }, { accessFlags := 10, nameIndex := 45, descriptorIndex := 35, attributes := #[] }, { accessFlags := 10, nameIndex := 11, descriptorIndex := 12, attributes := #[] }, { accessFlags := 10, nameIndex := 15, descriptorIndex := 16, attributes := #[] }] 49 2 #[] #[])
  fields := #[]
  methods := #[k1m0, k1m1, k1m2, k1m3, k1m4, k1m5, k1m6, k1m7, k1m8]
  instanceTypes := #[]
  staticTypes := #[]
  resolved := Array.replicate 58 none
  statics := none }

def pool2 : Array CpInfo := pool [(1, .class_ 2), (0, u "java/io/Serializable"), (0, .class_ 4), (0, u "java/lang/Object")] 2

/-- java/io/Serializable -/
def k2 : Class := { plain "java/io/Serializable" (some 0) with
  accessFlags := 1537
  interfaces := #[]
  cf := some (fileOf pool2 1 #[] #[] 1537 3 #[] #[])
  fields := #[]
  methods := #[]
  instanceTypes := #[]
  staticTypes := #[]
  resolved := Array.replicate 7 none
  statics := none }

def pool3 : Array CpInfo := pool [(1, .class_ 2), (0, u "java/lang/Comparable"), (0, .class_ 4), (0, u "java/lang/Object")] 7

/-- java/lang/Comparable -/
def k3 : Class := { plain "java/lang/Comparable" (some 0) with
  accessFlags := 1537
  interfaces := #[]
  cf := some (fileOf pool3 1 #[] #[] 1537 3 #[] #[])
  fields := #[]
  methods := #[]
  instanceTypes := #[]
  staticTypes := #[]
  resolved := Array.replicate 12 none
  statics := none }

def pool4 : Array CpInfo := pool [(2, .class_ 4), (1, u "java/lang/CharSequence"), (42, .class_ 48), (0, u "java/lang/CharSequence$1CodePointIterator"), (10, .class_ 60), (0, u "java/lang/CharSequence$1CharIterator"), (5, .class_ 67), (0, u "java/lang/Object")] 63

/-- java/lang/CharSequence -/
def k4 : Class := { plain "java/lang/CharSequence" (some 0) with
  accessFlags := 1537
  interfaces := #[]
  cf := some (fileOf pool4 2 #[.nestMembers #[47, 59]] #[] 1537 66 #[] #[])
  fields := #[]
  methods := #[]
  instanceTypes := #[]
  staticTypes := #[]
  resolved := Array.replicate 131 none
  statics := none }

def pool5 : Array CpInfo := pool [(1, .class_ 2), (0, u "java/lang/constant/Constable"), (0, .class_ 4), (0, u "java/lang/Object")] 6

/-- java/lang/constant/Constable -/
def k5 : Class := { plain "java/lang/constant/Constable" (some 0) with
  accessFlags := 1537
  interfaces := #[]
  cf := some (fileOf pool5 1 #[] #[] 1537 3 #[] #[])
  fields := #[]
  methods := #[]
  instanceTypes := #[]
  staticTypes := #[]
  resolved := Array.replicate 11 none
  statics := none }

def pool6 : Array CpInfo := pool [(1, .class_ 2), (0, u "java/lang/constant/ConstantDesc"), (0, .class_ 4), (0, u "java/lang/Object")] 32

/-- java/lang/constant/ConstantDesc -/
def k6 : Class := { plain "java/lang/constant/ConstantDesc" (some 0) with
  accessFlags := 1537
  interfaces := #[]
  cf := some (fileOf pool6 1 #[] #[] 1537 3 #[] #[])
  fields := #[]
  methods := #[]
  instanceTypes := #[]
  staticTypes := #[]
  resolved := Array.replicate 37 none
  statics := none }

def pool7 : Array CpInfo := pool [(1, .methodref 2 3), (0, .class_ 4), (0, .nameAndType 5 6), (0, u "java/lang/Object"), (0, u "<init>"), (0, u "()V"), (0, .string 8), (0, u ""), (0, .fieldref 10 11), (0, .class_ 12), (0, .nameAndType 13 14), (0, u "java/lang/String"), (0, u "value"), (0, u "[B"), (0, .fieldref 10 16), (0, .nameAndType 17 18), (0, u "coder"), (0, u "B"), (2, u "hash"), (0, u "I"), (2, u "hashIsZero"), (0, u "Z"), (0, .methodref 10 28), (0, .nameAndType 5 29), (0, u "([CIILjava/lang/Void;)V"), (8, .fieldref 10 39), (0, .nameAndType 40 26), (0, u "COMPACT_STRINGS"), (1, .class_ 44), (1, u "java/lang/StringUTF16"), (0, u "compress"), (1, .methodref 42 48), (0, .nameAndType 49 50), (0, u "coderFromArrayLen"), (0, u "([BI)B"), (56, .class_ 109), (1, u "java/lang/StringLatin1"), (32, u "()Z"), (34, .methodref 42 178), (0, .nameAndType 45 179), (0, u "([CII)[B"), (31, u "([BB)V"), (280, .methodref 10 493), (0, .nameAndType 494 142), (0, u "isLatin1"), (46, .methodref 107 542), (0, .nameAndType 543 544), (0, u "equals"), (0, u "([B[B)Z"), (28, u "(Ljava/lang/Object;)Z"), (1, .class_ 576), (0, u "java/lang/CharSequence"), (22, u "CASE_INSENSITIVE_ORDER"), (0, u "Ljava/util/Comparator;"), (238, .methodref 107 840), (0, .nameAndType 841 842), (0, u "toLowerCase"), (0, u "(Ljava/lang/String;[BLjava/util/Locale;)Ljava/lang/String;"), (9, u "(Ljava/util/Locale;)Ljava/lang/String;"), (157, u "([C)V"), (90, u "serialPersistentFields"), (0, u "[Ljava/io/ObjectStreamField;"), (0, .class_ 1104), (0, u "java/lang/String$CaseInsensitiveComparator"), (1, .class_ 1107), (0, u "java/io/Serializable"), (0, .class_ 1109), (0, u "java/lang/Comparable"), (0, .class_ 1111), (0, u "java/lang/constant/Constable"), (0, .class_ 1113), (0, u "java/lang/constant/ConstantDesc"), (2, u "serialVersionUID"), (0, u "J"), (3, u "REPL"), (0, u "C"), (2, u "LATIN1"), (1, u "UTF16")] 323

def k7m0 : Method := { name := "<init>", desc := "()V", sig := { parameters := [], returnType := none }, accessFlags := 1, code := none }
def k7c1 : Code := { maxStack := 5, maxLocals := 2, code := jdk_42_method_3_code, exceptionTable := #[], attributes := #[] }
def k7m1 : Method := { name := "<init>", desc := "([C)V", sig := { parameters := [(.array .char)], returnType := none }, accessFlags := 1, code := some k7c1 }
def k7c2 : Code := { maxStack := 2, maxLocals := 3, code := jdk_42_method_66_code, exceptionTable := #[], attributes := #[] }
def k7m2 : Method := { name := "equals", desc := "(Ljava/lang/Object;)Z", sig := { parameters := [(.object "java/lang/Object")], returnType := some .boolean }, accessFlags := 1, code := some k7c2 }
def k7c3 : Code := { maxStack := 3, maxLocals := 2, code := jdk_42_method_109_code, exceptionTable := #[], attributes := #[] }
def k7m3 : Method := { name := "toLowerCase", desc := "(Ljava/util/Locale;)Ljava/lang/String;", sig := { parameters := [(.object "java/util/Locale")], returnType := some (.object "java/lang/String") }, accessFlags := 1, code := some k7c3 }
def k7c4 : Code := { maxStack := 4, maxLocals := 6, code := jdk_42_method_149_code, exceptionTable := #[], attributes := #[] }
def k7m4 : Method := { name := "<init>", desc := "([CIILjava/lang/Void;)V", sig := { parameters := [(.array .char), .int, .int, (.object "java/lang/Void")], returnType := none }, accessFlags := 2, code := some k7c4 }
def k7c5 : Code := { maxStack := 2, maxLocals := 3, code := jdk_42_method_151_code, exceptionTable := #[], attributes := #[] }
def k7m5 : Method := { name := "<init>", desc := "([BB)V", sig := { parameters := [(.array .byte), .byte], returnType := none }, accessFlags := 0, code := some k7c5 }
def k7c6 : Code := { maxStack := 1, maxLocals := 1, code := jdk_42_method_154_code, exceptionTable := #[], attributes := #[] }
def k7m6 : Method := { name := "isLatin1", desc := "()Z", sig := { parameters := [], returnType := some .boolean }, accessFlags := 0, code := some k7c6 }
/-- java/lang/String -/
def k7 : Class := { plain "java/lang/String" (some 0) with
  accessFlags := 49
  interfaces := #[2, 3, 4, 5, 6]
  cf := some (fileOf pool7 10 #[.nestMembers #[1103]] #[{ accessFlags := 1, nameIndex := 5, descriptorIndex := 6, attributes := #[] }, { accessFlags := 1, nameIndex := 5, descriptorIndex := 1010, attributes := #[] }, { accessFlags := 1, nameIndex := 543, descriptorIndex := 573, attributes := #[] }, { accessFlags := 1, nameIndex := 841, descriptorIndex := 852, attributes := #[] }, { accessFlags := 2, nameIndex := 5, descriptorIndex := 29, attributes := #[] }, { accessFlags := 0, nameIndex := 5, descriptorIndex := 211, attributes := #[] }, { accessFlags := 0, nameIndex := 494, descriptorIndex := 142, attributes := #[] }] 49 2 #[1106, 1108, 575, 1110, 1112] #[{ accessFlags := 18, nameIndex := 13, descriptorIndex := 14, attributes := #[] }, { accessFlags := 18, nameIndex := 17, descriptorIndex := 18, attributes := #[] }, { accessFlags := 2, nameIndex := 21, descriptorIndex := 22, attributes := #[] }, { accessFlags := 2, nameIndex := 25, descriptorIndex := 26, attributes := #[] }, { accessFlags := 26, nameIndex := 1116, descriptorIndex := 1117, attributes := #[] }, { accessFlags := 24, nameIndex := 40, descriptorIndex := 26, attributes := #[] }, { accessFlags := 26, nameIndex := 1101, descriptorIndex := 1102, attributes := #[] }, { accessFlags := 26, nameIndex := 1121, descriptorIndex := 1122, attributes := #[] }, { accessFlags := 25, nameIndex := 599, descriptorIndex := 600, attributes := #[] }, { accessFlags := 24, nameIndex := 1125, descriptorIndex := 18, attributes := #[] }, { accessFlags := 24, nameIndex := 1127, descriptorIndex := 18, attributes := #[] }])
  fields := #[{ name := "value", type := (.array .byte), accessFlags := 18, slot := 0, constantValue := 0 }, { name := "coder", type := .byte, accessFlags := 18, slot := 1, constantValue := 0 }, { name := "hash", type := .int, accessFlags := 2, slot := 2, constantValue := 0 }, { name := "hashIsZero", type := .boolean, accessFlags := 2, slot := 3, constantValue := 0 }, { name := "serialVersionUID", type := .long, accessFlags := 26, slot := 0, constantValue := 0 }, { name := "COMPACT_STRINGS", type := .boolean, accessFlags := 24, slot := 1, constantValue := 0 }, { name := "serialPersistentFields", type := (.array (.object "java/io/ObjectStreamField")), accessFlags := 26, slot := 2, constantValue := 0 }, { name := "REPL", type := .char, accessFlags := 26, slot := 3, constantValue := 0 }, { name := "CASE_INSENSITIVE_ORDER", type := (.object "java/util/Comparator"), accessFlags := 25, slot := 4, constantValue := 0 }, { name := "LATIN1", type := .byte, accessFlags := 24, slot := 5, constantValue := 0 }, { name := "UTF16", type := .byte, accessFlags := 24, slot := 6, constantValue := 0 }]
  methods := #[k7m0, k7m1, k7m2, k7m3, k7m4, k7m5, k7m6]
  instanceTypes := #[(.array .byte), .byte, .int, .boolean]
  staticTypes := #[.long, .boolean, (.array (.object "java/io/ObjectStreamField")), .char, (.object "java/util/Comparator"), .byte, .byte]
  resolved := Array.replicate 1451 none
  statics := some 0 }

def pool8 : Array CpInfo := pool [(6, .class_ 8), (1, u "java/lang/Object"), (0, u "<init>"), (0, u "()V"), (1, .class_ 14), (1, u "java/lang/StringUTF16"), (31, u "$assertionsDisabled"), (0, u "Z"), (13, u "HI_BYTE_SHIFT"), (0, u "I"), (2, u "LO_BYTE_SHIFT"), (49, .methodref 12 116), (0, .nameAndType 117 118), (0, u "compress"), (0, u "([CI[BII)I"), (3, u "([CII)[B"), (138, u "coderFromArrayLen"), (0, u "([BI)B"), (106, .class_ 371), (1, u "java/lang/StringUTF16$LinesSpliterator"), (58, u "MAX_LENGTH"), (196, .class_ 628), (0, u "java/lang/StringUTF16$CodePointsSpliterator"), (0, .class_ 630), (0, u "java/lang/StringUTF16$CharsSpliterator")] 4

def k8m0 : Method := { name := "<init>", desc := "()V", sig := { parameters := [], returnType := none }, accessFlags := 0, code := none }
def k8c1 : Code := { maxStack := 2, maxLocals := 2, code := jdk_52_method_15_code, exceptionTable := #[], attributes := #[] }
def k8m1 : Method := { name := "coderFromArrayLen", desc := "([BI)B", sig := { parameters := [(.array .byte), .int], returnType := some .byte }, accessFlags := 8, code := some k8c1 }
def k8c2 : Code := { maxStack := 5, maxLocals := 6, code := jdk_52_method_16_code, exceptionTable := #[], attributes := #[] }
def k8m2 : Method := { name := "compress", desc := "([CII)[B", sig := { parameters := [(.array .char), .int, .int], returnType := some (.array .byte) }, accessFlags := 9, code := some k8c2 }
def k8c3 : Code := { maxStack := 3, maxLocals := 7, code := jdk_52_method_21_code, exceptionTable := #[], attributes := #[] }
def k8m3 : Method := { name := "compress", desc := "([CI[BII)I", sig := { parameters := [(.array .char), .int, (.array .byte), .int, .int], returnType := some .int }, accessFlags := 9, code := some k8c3 }
/-- java/lang/StringUTF16 -/
def k8 : Class := { plain "java/lang/StringUTF16" (some 0) with
  accessFlags := 48
  interfaces := #[]
  cf := some (fileOf pool8 12 #[.nestMembers #[627, 629, 369]] #[{ accessFlags := 0, nameIndex := 9, descriptorIndex := 10, attributes := #[] }, { accessFlags := 8, nameIndex := 261, descriptorIndex := 262, attributes := #[] }, { accessFlags := 9, nameIndex := 117, descriptorIndex := 122, attributes := #[] }, { accessFlags := 9, nameIndex := 117, descriptorIndex := 118, attributes := #[] }] 48 6 #[] #[{ accessFlags := 26, nameIndex := 61, descriptorIndex := 62, attributes := #[] }, { accessFlags := 26, nameIndex := 65, descriptorIndex := 62, attributes := #[] }, { accessFlags := 24, nameIndex := 430, descriptorIndex := 62, attributes := #[] }, { accessFlags := 4120, nameIndex := 46, descriptorIndex := 47, attributes := #[] }])
  fields := #[{ name := "HI_BYTE_SHIFT", type := .int, accessFlags := 26, slot := 0, constantValue := 0 }, { name := "LO_BYTE_SHIFT", type := .int, accessFlags := 26, slot := 1, constantValue := 0 }, { name := "MAX_LENGTH", type := .int, accessFlags := 24, slot := 2, constantValue := 0 }, { name := "$assertionsDisabled", type := .boolean, accessFlags := 4120, slot := 3, constantValue := 0 }]
  methods := #[k8m0, k8m1, k8m2, k8m3]
  instanceTypes := #[]
  staticTypes := #[.int, .int, .int, .boolean]
  resolved := Array.replicate 635 none
  statics := none }

def pool9 : Array CpInfo := pool [(1, .methodref 2 3), (0, .class_ 4), (0, .nameAndType 5 6), (0, u "java/lang/Object"), (0, u "<init>"), (0, u "()V"), (0, .class_ 8), (0, u "java/lang/Record")] 13

def k9c0 : Code := { maxStack := 1, maxLocals := 1, code := jdk_30_method_1_code, exceptionTable := #[], attributes := #[] }
def k9m0 : Method := { name := "<init>", desc := "()V", sig := { parameters := [], returnType := none }, accessFlags := 4, code := some k9c0 }
/-- java/lang/Record -/
def k9 : Class := { plain "java/lang/Record" (some 0) with
  accessFlags := 1057
  interfaces := #[]
  cf := some (fileOf pool9 7 #[] #[{ accessFlags := 4, nameIndex := 5, descriptorIndex := 6, attributes := #[] }] 1057 2 #[] #[])
  fields := #[]
  methods := #[k9m0]
  instanceTypes := #[]
  staticTypes := #[]
  resolved := Array.replicate 22 none
  statics := none }

def pool10 : Array CpInfo := pool [(1, .methodref 2 3), (0, .class_ 4), (0, .nameAndType 5 6), (0, u "java/lang/Record"), (0, u "<init>"), (0, u "()V"), (0, .fieldref 8 9), (0, .class_ 10), (0, .nameAndType 11 12), (0, u "org/wardchain/web/AuthorizationHeader"), (0, u "scheme"), (0, u "Ljava/lang/String;"), (0, .fieldref 8 14), (0, .nameAndType 15 12), (0, u "credentials"), (1, .class_ 19), (1, u "java/lang/String"), (6, u "(Ljava/lang/String;Ljava/lang/String;)V"), (11, .methodref 17 39), (0, .nameAndType 40 41), (0, u "equals"), (0, u "(Ljava/lang/Object;)Z"), (0, .fieldref 43 44), (0, .class_ 45), (0, .nameAndType 46 47), (0, u "java/util/Locale"), (0, u "ROOT"), (0, u "Ljava/util/Locale;"), (0, .methodref 17 49), (0, .nameAndType 50 51), (0, u "toLowerCase"), (0, u "(Ljava/util/Locale;)Ljava/lang/String;"), (17, u "hasScheme"), (0, u "(Ljava/lang/String;)Z")] 31

def k10c0 : Code := { maxStack := 2, maxLocals := 3, code := prog_65_method_1_code, exceptionTable := #[], attributes := #[] }
def k10m0 : Method := { name := "<init>", desc := "(Ljava/lang/String;Ljava/lang/String;)V", sig := { parameters := [(.object "java/lang/String"), (.object "java/lang/String")], returnType := none }, accessFlags := 0, code := some k10c0 }
def k10c1 : Code := { maxStack := 3, maxLocals := 2, code := prog_65_method_3_code, exceptionTable := #[], attributes := #[] }
def k10m1 : Method := { name := "hasScheme", desc := "(Ljava/lang/String;)Z", sig := { parameters := [(.object "java/lang/String")], returnType := some .boolean }, accessFlags := 0, code := some k10c1 }
/-- org/wardchain/web/AuthorizationHeader -/
def k10 : Class := { plain "org/wardchain/web/AuthorizationHeader" (some 9) with
  accessFlags := 48
  interfaces := #[]
  cf := some (fileOf pool10 8 #[] #[{ accessFlags := 0, nameIndex := 5, descriptorIndex := 26, attributes := #[] }, { accessFlags := 0, nameIndex := 69, descriptorIndex := 70, attributes := #[] }] 48 2 #[] #[{ accessFlags := 18, nameIndex := 11, descriptorIndex := 12, attributes := #[] }, { accessFlags := 18, nameIndex := 15, descriptorIndex := 12, attributes := #[] }])
  fields := #[{ name := "scheme", type := (.object "java/lang/String"), accessFlags := 18, slot := 0, constantValue := 0 }, { name := "credentials", type := (.object "java/lang/String"), accessFlags := 18, slot := 1, constantValue := 0 }]
  methods := #[k10m0, k10m1]
  instanceTypes := #[(.object "java/lang/String"), (.object "java/lang/String")]
  staticTypes := #[]
  resolved := Array.replicate 102 none
  statics := none }

def pool11 : Array CpInfo := pool [(1, .class_ 2), (0, u "java/lang/String"), (1, .class_ 6), (1, u "java/lang/Object"), (0, u "<init>"), (0, u "()V"), (5, .class_ 16), (1, u "java/lang/StringLatin1"), (11, .methodref 29 30), (0, .class_ 31), (0, .nameAndType 32 33), (0, u "java/lang/System"), (0, u "arraycopy"), (0, u "(Ljava/lang/Object;ILjava/lang/Object;II)V"), (32, .fieldref 67 68), (0, .class_ 69), (0, .nameAndType 70 71), (0, u "java/lang/CharacterDataLatin1"), (0, u "instance"), (0, u "Ljava/lang/CharacterDataLatin1;"), (3, u "(I)I"), (4, u "toLowerCase"), (7, .methodref 14 89), (0, .nameAndType 90 91), (0, u "canEncode"), (0, u "(I)Z"), (20, .methodref 1 113), (0, .nameAndType 7 114), (0, u "([BB)V"), (6, u "$assertionsDisabled"), (0, u "Z"), (37, .methodref 67 161), (0, .nameAndType 80 75), (0, .methodref 163 164), (0, .class_ 165), (0, .nameAndType 166 167), (0, u "java/util/Locale"), (0, u "getLanguage"), (0, u "()Ljava/lang/String;"), (0, .string 169), (0, u "tr"), (0, .string 171), (0, u "az"), (0, .string 173), (0, u "lt"), (47, .class_ 223), (1, u "java/lang/StringLatin1$LinesSpliterator"), (57, u "equals"), (0, u "([B[B)Z"), (67, u "(Ljava/lang/String;[BLjava/util/Locale;)Ljava/lang/String;"), (39, .class_ 391), (0, u "java/lang/StringLatin1$CharsSpliterator")] 3

def k11m0 : Method := { name := "<init>", desc := "()V", sig := { parameters := [], returnType := none }, accessFlags := 0, code := none }
def k11c1 : Code := { maxStack := 2, maxLocals := 1, code := jdk_43_method_4_code, exceptionTable := #[], attributes := #[] }
def k11m1 : Method := { name := "canEncode", desc := "(I)Z", sig := { parameters := [.int], returnType := some .boolean }, accessFlags := 9, code := some k11c1 }
def k11c2 : Code := { maxStack := 3, maxLocals := 3, code := jdk_43_method_13_code, exceptionTable := #[], attributes := #[] }
def k11m2 : Method := { name := "equals", desc := "([B[B)Z", sig := { parameters := [(.array .byte), (.array .byte)], returnType := some .boolean }, accessFlags := 9, code := some k11c2 }
def k11c3 : Code := { maxStack := 5, maxLocals := 9, code := jdk_43_method_32_code, exceptionTable := #[], attributes := #[] }
def k11m3 : Method := { name := "toLowerCase", desc := "(Ljava/lang/String;[BLjava/util/Locale;)Ljava/lang/String;", sig := { parameters := [(.object "java/lang/String"), (.array .byte), (.object "java/util/Locale")], returnType := some (.object "java/lang/String") }, accessFlags := 9, code := some k11c3 }
/-- java/lang/StringLatin1 -/
def k11 : Class := { plain "java/lang/StringLatin1" (some 0) with
  accessFlags := 48
  interfaces := #[]
  cf := some (fileOf pool11 14 #[.nestMembers #[390, 221]] #[{ accessFlags := 0, nameIndex := 7, descriptorIndex := 8, attributes := #[] }, { accessFlags := 9, nameIndex := 90, descriptorIndex := 91, attributes := #[] }, { accessFlags := 9, nameIndex := 281, descriptorIndex := 282, attributes := #[] }, { accessFlags := 9, nameIndex := 80, descriptorIndex := 350, attributes := #[] }] 48 4 #[] #[{ accessFlags := 4120, nameIndex := 121, descriptorIndex := 122, attributes := #[] }])
  fields := #[{ name := "$assertionsDisabled", type := .boolean, accessFlags := 4120, slot := 0, constantValue := 0 }]
  methods := #[k11m0, k11m1, k11m2, k11m3]
  instanceTypes := #[]
  staticTypes := #[.boolean]
  resolved := Array.replicate 395 none
  statics := none }

def pool12 : Array CpInfo := pool [(1, .class_ 2), (0, u "java/lang/Cloneable"), (0, .class_ 4), (0, u "java/lang/Object")] 2

/-- java/lang/Cloneable -/
def k12 : Class := { plain "java/lang/Cloneable" (some 0) with
  accessFlags := 1537
  interfaces := #[]
  cf := some (fileOf pool12 1 #[] #[] 1537 3 #[] #[])
  fields := #[]
  methods := #[]
  instanceTypes := #[]
  staticTypes := #[]
  resolved := Array.replicate 7 none
  statics := none }

def pool13 : Array CpInfo := pool [(2, .class_ 4), (1, u "sun/util/locale/BaseLocale"), (2, .class_ 8), (0, u "java/util/Locale"), (6, u "CONSTANT_LOCALES"), (0, u "Ljava/util/Map;"), (7, .class_ 26), (1, u "java/lang/Object"), (1, .fieldref 7 29), (0, .nameAndType 30 31), (0, u "baseLocale"), (0, u "Lsun/util/locale/BaseLocale;"), (2, u "localeExtensions"), (0, u "Lsun/util/locale/LocaleExtensions;"), (31, .class_ 69), (1, u "java/util/Locale$Cache"), (3, .class_ 74), (0, u "java/util/Locale$LocaleKey"), (3, u "defaultLocale"), (0, u "Ljava/util/Locale;"), (6, .class_ 88), (1, u "java/util/Locale$Category"), (4, u "defaultDisplayLocale"), (6, u "$assertionsDisabled"), (0, u "Z"), (12, u "defaultFormatLocale"), (12, u "Ljava/lang/String;"), (131, u "isoCountries"), (0, u "[Ljava/lang/String;"), (15, .class_ 278), (1, u "java/util/Locale$IsoCountryCode"), (4, u "isoLanguages"), (9, .methodref 2 294), (0, .nameAndType 295 296), (0, u "getLanguage"), (0, u "()Ljava/lang/String;"), (78, u "languageTag"), (114, .class_ 492), (1, u "java/util/Locale$LocaleNameGetter"), (125, u "hashCodeValue"), (0, u "I"), (29, u "ROOT"), (129, .class_ 781), (1, u "java/util/Locale$FilteringMode"), (39, u "ENGLISH"), (2, u "FRENCH"), (2, u "GERMAN"), (2, u "ITALIAN"), (2, u "JAPANESE"), (2, u "KOREAN"), (2, u "CHINESE"), (2, u "SIMPLIFIED_CHINESE"), (2, u "TRADITIONAL_CHINESE"), (2, u "FRANCE"), (2, u "GERMANY"), (2, u "ITALY"), (2, u "JAPAN"), (2, u "KOREA"), (2, u "UK"), (2, u "US"), (2, u "CANADA"), (2, u "CANADA_FRENCH"), (2, u "CHINA"), (2, u "PRC"), (2, u "TAIWAN"), (13, u "serialPersistentFields"), (0, u "[Ljava/io/ObjectStreamField;"), (0, .class_ 898), (0, u "java/lang/Cloneable"), (0, .class_ 900), (0, u "java/io/Serializable"), (2, u "PRIVATE_USE_EXTENSION"), (0, u "C"), (2, u "UNICODE_LOCALE_EXTENSION"), (1, u "serialVersionUID"), (0, u "J"), (2, u "DISPLAY_LANGUAGE"), (1, u "DISPLAY_COUNTRY"), (1, u "DISPLAY_VARIANT"), (1, u "DISPLAY_SCRIPT"), (1, u "DISPLAY_UEXT_KEY"), (1, u "DISPLAY_UEXT_TYPE"), (174, .class_ 1099), (0, u "java/util/Locale$LanguageRange"), (0, .class_ 1101), (0, u "java/util/Locale$Builder"), (0, .class_ 1103), (0, u "java/util/Locale$IsoCountryCode$3"), (0, .class_ 1105), (0, u "java/util/Locale$IsoCountryCode$2"), (0, .class_ 1107), (0, u "java/util/Locale$IsoCountryCode$1")] 46

def k13c0 : Code := { maxStack := 1, maxLocals := 1, code := jdk_2628_method_27_code, exceptionTable := #[], attributes := #[] }
def k13m0 : Method := { name := "getLanguage", desc := "()Ljava/lang/String;", sig := { parameters := [], returnType := some (.object "java/lang/String") }, accessFlags := 1, code := some k13c0 }
/-- java/util/Locale -/
def k13 : Class := { plain "java/util/Locale" (some 0) with
  accessFlags := 49
  interfaces := #[12, 2]
  cf := some (fileOf pool13 7 #[.nestMembers #[1098, 779, 1100, 86, 490, 73, 67, 276, 1102, 1104, 1106]] #[{ accessFlags := 1, nameIndex := 295, descriptorIndex := 296, attributes := #[] }] 49 24 #[897, 899] #[{ accessFlags := 25, nameIndex := 821, descriptorIndex := 79, attributes := #[] }, { accessFlags := 25, nameIndex := 824, descriptorIndex := 79, attributes := #[] }, { accessFlags := 25, nameIndex := 827, descriptorIndex := 79, attributes := #[] }, { accessFlags := 25, nameIndex := 830, descriptorIndex := 79, attributes := #[] }, { accessFlags := 25, nameIndex := 833, descriptorIndex := 79, attributes := #[] }, { accessFlags := 25, nameIndex := 836, descriptorIndex := 79, attributes := #[] }, { accessFlags := 25, nameIndex := 839, descriptorIndex := 79, attributes := #[] }, { accessFlags := 25, nameIndex := 842, descriptorIndex := 79, attributes := #[] }, { accessFlags := 25, nameIndex := 845, descriptorIndex := 79, attributes := #[] }, { accessFlags := 25, nameIndex := 848, descriptorIndex := 79, attributes := #[] }, { accessFlags := 25, nameIndex := 851, descriptorIndex := 79, attributes := #[] }, { accessFlags := 25, nameIndex := 854, descriptorIndex := 79, attributes := #[] }, { accessFlags := 25, nameIndex := 857, descriptorIndex := 79, attributes := #[] }, { accessFlags := 25, nameIndex := 860, descriptorIndex := 79, attributes := #[] }, { accessFlags := 25, nameIndex := 863, descriptorIndex := 79, attributes := #[] }, { accessFlags := 25, nameIndex := 866, descriptorIndex := 79, attributes := #[] }, { accessFlags := 25, nameIndex := 869, descriptorIndex := 79, attributes := #[] }, { accessFlags := 25, nameIndex := 872, descriptorIndex := 79, attributes := #[] }, { accessFlags := 25, nameIndex := 649, descriptorIndex := 79, attributes := #[] }, { accessFlags := 26, nameIndex := 15, descriptorIndex := 16, attributes := #[] }, { accessFlags := 25, nameIndex := 875, descriptorIndex := 79, attributes := #[] }, { accessFlags := 25, nameIndex := 878, descriptorIndex := 79, attributes := #[] }, { accessFlags := 25, nameIndex := 881, descriptorIndex := 79, attributes := #[] }, { accessFlags := 25, nameIndex := 903, descriptorIndex := 904, attributes := #[] }, { accessFlags := 25, nameIndex := 907, descriptorIndex := 904, attributes := #[] }, { accessFlags := 24, nameIndex := 909, descriptorIndex := 910, attributes := #[] }, { accessFlags := 26, nameIndex := 913, descriptorIndex := 619, attributes := #[] }, { accessFlags := 26, nameIndex := 915, descriptorIndex := 619, attributes := #[] }, { accessFlags := 26, nameIndex := 917, descriptorIndex := 619, attributes := #[] }, { accessFlags := 26, nameIndex := 919, descriptorIndex := 619, attributes := #[] }, { accessFlags := 26, nameIndex := 921, descriptorIndex := 619, attributes := #[] }, { accessFlags := 26, nameIndex := 923, descriptorIndex := 619, attributes := #[] }, { accessFlags := 130, nameIndex := 30, descriptorIndex := 31, attributes := #[] }, { accessFlags := 130, nameIndex := 34, descriptorIndex := 35, attributes := #[] }, { accessFlags := 130, nameIndex := 618, descriptorIndex := 619, attributes := #[] }, { accessFlags := 74, nameIndex := 78, descriptorIndex := 79, attributes := #[] }, { accessFlags := 74, nameIndex := 93, descriptorIndex := 79, attributes := #[] }, { accessFlags := 74, nameIndex := 114, descriptorIndex := 79, attributes := #[] }, { accessFlags := 194, nameIndex := 375, descriptorIndex := 127, attributes := #[] }, { accessFlags := 26, nameIndex := 895, descriptorIndex := 896, attributes := #[] }, { accessFlags := 74, nameIndex := 283, descriptorIndex := 260, attributes := #[] }, { accessFlags := 74, nameIndex := 259, descriptorIndex := 260, attributes := #[] }, { accessFlags := 4120, nameIndex := 100, descriptorIndex := 101, attributes := #[] }])
  fields := #[{ name := "ENGLISH", type := (.object "java/util/Locale"), accessFlags := 25, slot := 0, constantValue := 0 }, { name := "FRENCH", type := (.object "java/util/Locale"), accessFlags := 25, slot := 1, constantValue := 0 }, { name := "GERMAN", type := (.object "java/util/Locale"), accessFlags := 25, slot := 2, constantValue := 0 }, { name := "ITALIAN", type := (.object "java/util/Locale"), accessFlags := 25, slot := 3, constantValue := 0 }, { name := "JAPANESE", type := (.object "java/util/Locale"), accessFlags := 25, slot := 4, constantValue := 0 }, { name := "KOREAN", type := (.object "java/util/Locale"), accessFlags := 25, slot := 5, constantValue := 0 }, { name := "CHINESE", type := (.object "java/util/Locale"), accessFlags := 25, slot := 6, constantValue := 0 }, { name := "SIMPLIFIED_CHINESE", type := (.object "java/util/Locale"), accessFlags := 25, slot := 7, constantValue := 0 }, { name := "TRADITIONAL_CHINESE", type := (.object "java/util/Locale"), accessFlags := 25, slot := 8, constantValue := 0 }, { name := "FRANCE", type := (.object "java/util/Locale"), accessFlags := 25, slot := 9, constantValue := 0 }, { name := "GERMANY", type := (.object "java/util/Locale"), accessFlags := 25, slot := 10, constantValue := 0 }, { name := "ITALY", type := (.object "java/util/Locale"), accessFlags := 25, slot := 11, constantValue := 0 }, { name := "JAPAN", type := (.object "java/util/Locale"), accessFlags := 25, slot := 12, constantValue := 0 }, { name := "KOREA", type := (.object "java/util/Locale"), accessFlags := 25, slot := 13, constantValue := 0 }, { name := "UK", type := (.object "java/util/Locale"), accessFlags := 25, slot := 14, constantValue := 0 }, { name := "US", type := (.object "java/util/Locale"), accessFlags := 25, slot := 15, constantValue := 0 }, { name := "CANADA", type := (.object "java/util/Locale"), accessFlags := 25, slot := 16, constantValue := 0 }, { name := "CANADA_FRENCH", type := (.object "java/util/Locale"), accessFlags := 25, slot := 17, constantValue := 0 }, { name := "ROOT", type := (.object "java/util/Locale"), accessFlags := 25, slot := 18, constantValue := 0 }, { name := "CONSTANT_LOCALES", type := (.object "java/util/Map"), accessFlags := 26, slot := 19, constantValue := 0 }, { name := "CHINA", type := (.object "java/util/Locale"), accessFlags := 25, slot := 20, constantValue := 0 }, { name := "PRC", type := (.object "java/util/Locale"), accessFlags := 25, slot := 21, constantValue := 0 }, { name := "TAIWAN", type := (.object "java/util/Locale"), accessFlags := 25, slot := 22, constantValue := 0 }, { name := "PRIVATE_USE_EXTENSION", type := .char, accessFlags := 25, slot := 23, constantValue := 0 }, { name := "UNICODE_LOCALE_EXTENSION", type := .char, accessFlags := 25, slot := 24, constantValue := 0 }, { name := "serialVersionUID", type := .long, accessFlags := 24, slot := 25, constantValue := 0 }, { name := "DISPLAY_LANGUAGE", type := .int, accessFlags := 26, slot := 26, constantValue := 0 }, { name := "DISPLAY_COUNTRY", type := .int, accessFlags := 26, slot := 27, constantValue := 0 }, { name := "DISPLAY_VARIANT", type := .int, accessFlags := 26, slot := 28, constantValue := 0 }, { name := "DISPLAY_SCRIPT", type := .int, accessFlags := 26, slot := 29, constantValue := 0 }, { name := "DISPLAY_UEXT_KEY", type := .int, accessFlags := 26, slot := 30, constantValue := 0 }, { name := "DISPLAY_UEXT_TYPE", type := .int, accessFlags := 26, slot := 31, constantValue := 0 }, { name := "baseLocale", type := (.object "sun/util/locale/BaseLocale"), accessFlags := 130, slot := 0, constantValue := 0 }, { name := "localeExtensions", type := (.object "sun/util/locale/LocaleExtensions"), accessFlags := 130, slot := 1, constantValue := 0 }, { name := "hashCodeValue", type := .int, accessFlags := 130, slot := 2, constantValue := 0 }, { name := "defaultLocale", type := (.object "java/util/Locale"), accessFlags := 74, slot := 32, constantValue := 0 }, { name := "defaultDisplayLocale", type := (.object "java/util/Locale"), accessFlags := 74, slot := 33, constantValue := 0 }, { name := "defaultFormatLocale", type := (.object "java/util/Locale"), accessFlags := 74, slot := 34, constantValue := 0 }, { name := "languageTag", type := (.object "java/lang/String"), accessFlags := 194, slot := 3, constantValue := 0 }, { name := "serialPersistentFields", type := (.array (.object "java/io/ObjectStreamField")), accessFlags := 26, slot := 35, constantValue := 0 }, { name := "isoLanguages", type := (.array (.object "java/lang/String")), accessFlags := 74, slot := 36, constantValue := 0 }, { name := "isoCountries", type := (.array (.object "java/lang/String")), accessFlags := 74, slot := 37, constantValue := 0 }, { name := "$assertionsDisabled", type := .boolean, accessFlags := 4120, slot := 38, constantValue := 0 }]
  methods := #[k13m0]
  instanceTypes := #[(.object "sun/util/locale/BaseLocale"), (.object "sun/util/locale/LocaleExtensions"), .int, (.object "java/lang/String")]
  staticTypes := #[(.object "java/util/Locale"), (.object "java/util/Locale"), (.object "java/util/Locale"), (.object "java/util/Locale"), (.object "java/util/Locale"), (.object "java/util/Locale"), (.object "java/util/Locale"), (.object "java/util/Locale"), (.object "java/util/Locale"), (.object "java/util/Locale"), (.object "java/util/Locale"), (.object "java/util/Locale"), (.object "java/util/Locale"), (.object "java/util/Locale"), (.object "java/util/Locale"), (.object "java/util/Locale"), (.object "java/util/Locale"), (.object "java/util/Locale"), (.object "java/util/Locale"), (.object "java/util/Map"), (.object "java/util/Locale"), (.object "java/util/Locale"), (.object "java/util/Locale"), .char, .char, .long, .int, .int, .int, .int, .int, .int, (.object "java/util/Locale"), (.object "java/util/Locale"), (.object "java/util/Locale"), (.array (.object "java/io/ObjectStreamField")), (.array (.object "java/lang/String")), (.array (.object "java/lang/String")), .boolean]
  resolved := Array.replicate 1154 none
  statics := some 1 }

def pool14 : Array CpInfo := pool [(2, .class_ 4), (1, u "java/lang/Object"), (0, u "<init>"), (0, u "()V"), (1, .class_ 10), (1, u "java/lang/CharacterData")] 75

def k14m0 : Method := { name := "<init>", desc := "()V", sig := { parameters := [], returnType := none }, accessFlags := 0, code := none }
/-- java/lang/CharacterData -/
def k14 : Class := { plain "java/lang/CharacterData" (some 0) with
  accessFlags := 1056
  interfaces := #[]
  cf := some (fileOf pool14 8 #[] #[{ accessFlags := 0, nameIndex := 5, descriptorIndex := 6, attributes := #[] }] 1056 2 #[] #[])
  fields := #[]
  methods := #[k14m0]
  instanceTypes := #[]
  staticTypes := #[]
  resolved := Array.replicate 86 none
  statics := none }

def pool15 : Array CpInfo := pool [(2, .class_ 4), (1, u "java/lang/CharacterDataLatin1"), (0, u "A"), (0, u "[I"), (2, u "B"), (0, u "[C"), (3, u "(I)I"), (12, u "DIGITS"), (0, u "[B"), (8, u "sharpsMap"), (1, .class_ 41), (1, u "java/lang/CharacterData"), (0, u "<init>"), (0, u "()V"), (3, u "instance"), (0, u "Ljava/lang/CharacterDataLatin1;"), (63, u "toLowerCase")] 28

def k15c0 : Code := { maxStack := 2, maxLocals := 3, code := jdk_116_method_20_code, exceptionTable := #[], attributes := #[] }
def k15m0 : Method := { name := "toLowerCase", desc := "(I)I", sig := { parameters := [.int], returnType := some .int }, accessFlags := 0, code := some k15c0 }
def k15m1 : Method := { name := "<init>", desc := "()V", sig := { parameters := [], returnType := none }, accessFlags := 2, code := none }
/-- java/lang/CharacterDataLatin1 -/
def k15 : Class := { plain "java/lang/CharacterDataLatin1" (some 14) with
  accessFlags := 32
  interfaces := #[]
  cf := some (fileOf pool15 2 #[] #[{ accessFlags := 0, nameIndex := 112, descriptorIndex := 14, attributes := #[] }, { accessFlags := 2, nameIndex := 42, descriptorIndex := 43, attributes := #[] }] 32 39 #[] #[{ accessFlags := 26, nameIndex := 27, descriptorIndex := 28, attributes := #[] }, { accessFlags := 8, nameIndex := 37, descriptorIndex := 10, attributes := #[] }, { accessFlags := 24, nameIndex := 47, descriptorIndex := 48, attributes := #[] }, { accessFlags := 24, nameIndex := 5, descriptorIndex := 6, attributes := #[] }, { accessFlags := 24, nameIndex := 9, descriptorIndex := 10, attributes := #[] }])
  fields := #[{ name := "DIGITS", type := (.array .byte), accessFlags := 26, slot := 0, constantValue := 0 }, { name := "sharpsMap", type := (.array .char), accessFlags := 8, slot := 1, constantValue := 0 }, { name := "instance", type := (.object "java/lang/CharacterDataLatin1"), accessFlags := 24, slot := 2, constantValue := 0 }, { name := "A", type := (.array .int), accessFlags := 24, slot := 3, constantValue := 0 }, { name := "B", type := (.array .char), accessFlags := 24, slot := 4, constantValue := 0 }]
  methods := #[k15m0, k15m1]
  instanceTypes := #[]
  staticTypes := #[(.array .byte), (.array .char), (.object "java/lang/CharacterDataLatin1"), (.array .int), (.array .char)]
  resolved := Array.replicate 141 none
  statics := some 2 }

def pool16 : Array CpInfo := pool [(2, .class_ 4), (1, u "java/lang/Object"), (13, u "()Ljava/lang/String;"), (0, .fieldref 20 21), (0, .class_ 22), (0, .nameAndType 23 24), (0, u "sun/util/locale/BaseLocale"), (0, u "language"), (0, u "Ljava/lang/String;"), (5, u "script"), (5, u "region"), (2, u "variant"), (11, u "constantBaseLocales"), (0, u "[Lsun/util/locale/BaseLocale;"), (2, u "getLanguage"), (10, .class_ 67), (0, u "sun/util/locale/BaseLocale$Key"), (2, .class_ 72), (1, u "sun/util/locale/BaseLocale$Cache"), (24, u "OLD_ISO_CODES"), (0, u "Z"), (32, u "hash"), (0, u "I"), (41, u "US"), (15, u "ENGLISH"), (0, u "B"), (2, u "FRENCH"), (1, u "GERMAN"), (1, u "ITALIAN"), (1, u "JAPANESE"), (1, u "KOREAN"), (1, u "CHINESE"), (1, u "SIMPLIFIED_CHINESE"), (1, u "TRADITIONAL_CHINESE"), (1, u "FRANCE"), (1, u "GERMANY"), (1, u "ITALY"), (1, u "JAPAN"), (1, u "KOREA"), (1, u "UK"), (2, u "CANADA"), (1, u "CANADA_FRENCH"), (1, u "ROOT"), (1, u "NUM_CONSTANTS"), (1, u "SEP")] 31

def k16c0 : Code := { maxStack := 1, maxLocals := 1, code := jdk_3003_method_5_code, exceptionTable := #[], attributes := #[] }
def k16m0 : Method := { name := "getLanguage", desc := "()Ljava/lang/String;", sig := { parameters := [], returnType := some (.object "java/lang/String") }, accessFlags := 1, code := some k16c0 }
/-- sun/util/locale/BaseLocale -/
def k16 : Class := { plain "sun/util/locale/BaseLocale" (some 0) with
  accessFlags := 49
  interfaces := #[]
  cf := some (fileOf pool16 20 #[.nestMembers #[70, 66]] #[{ accessFlags := 1, nameIndex := 55, descriptorIndex := 18, attributes := #[] }] 49 2 #[] #[{ accessFlags := 9, nameIndex := 51, descriptorIndex := 52, attributes := #[] }, { accessFlags := 25, nameIndex := 190, descriptorIndex := 191, attributes := #[] }, { accessFlags := 25, nameIndex := 194, descriptorIndex := 191, attributes := #[] }, { accessFlags := 25, nameIndex := 196, descriptorIndex := 191, attributes := #[] }, { accessFlags := 25, nameIndex := 198, descriptorIndex := 191, attributes := #[] }, { accessFlags := 25, nameIndex := 200, descriptorIndex := 191, attributes := #[] }, { accessFlags := 25, nameIndex := 202, descriptorIndex := 191, attributes := #[] }, { accessFlags := 25, nameIndex := 204, descriptorIndex := 191, attributes := #[] }, { accessFlags := 25, nameIndex := 206, descriptorIndex := 191, attributes := #[] }, { accessFlags := 25, nameIndex := 208, descriptorIndex := 191, attributes := #[] }, { accessFlags := 25, nameIndex := 210, descriptorIndex := 191, attributes := #[] }, { accessFlags := 25, nameIndex := 212, descriptorIndex := 191, attributes := #[] }, { accessFlags := 25, nameIndex := 214, descriptorIndex := 191, attributes := #[] }, { accessFlags := 25, nameIndex := 216, descriptorIndex := 191, attributes := #[] }, { accessFlags := 25, nameIndex := 218, descriptorIndex := 191, attributes := #[] }, { accessFlags := 25, nameIndex := 220, descriptorIndex := 191, attributes := #[] }, { accessFlags := 25, nameIndex := 174, descriptorIndex := 191, attributes := #[] }, { accessFlags := 25, nameIndex := 223, descriptorIndex := 191, attributes := #[] }, { accessFlags := 25, nameIndex := 225, descriptorIndex := 191, attributes := #[] }, { accessFlags := 25, nameIndex := 227, descriptorIndex := 191, attributes := #[] }, { accessFlags := 25, nameIndex := 229, descriptorIndex := 191, attributes := #[] }, { accessFlags := 25, nameIndex := 231, descriptorIndex := 24, attributes := #[] }, { accessFlags := 18, nameIndex := 23, descriptorIndex := 24, attributes := #[] }, { accessFlags := 18, nameIndex := 30, descriptorIndex := 24, attributes := #[] }, { accessFlags := 18, nameIndex := 36, descriptorIndex := 24, attributes := #[] }, { accessFlags := 18, nameIndex := 39, descriptorIndex := 24, attributes := #[] }, { accessFlags := 2, nameIndex := 131, descriptorIndex := 132, attributes := #[] }, { accessFlags := 26, nameIndex := 97, descriptorIndex := 98, attributes := #[] }])
  fields := #[{ name := "constantBaseLocales", type := (.array (.object "sun/util/locale/BaseLocale")), accessFlags := 9, slot := 0, constantValue := 0 }, { name := "ENGLISH", type := .byte, accessFlags := 25, slot := 1, constantValue := 0 }, { name := "FRENCH", type := .byte, accessFlags := 25, slot := 2, constantValue := 0 }, { name := "GERMAN", type := .byte, accessFlags := 25, slot := 3, constantValue := 0 }, { name := "ITALIAN", type := .byte, accessFlags := 25, slot := 4, constantValue := 0 }, { name := "JAPANESE", type := .byte, accessFlags := 25, slot := 5, constantValue := 0 }, { name := "KOREAN", type := .byte, accessFlags := 25, slot := 6, constantValue := 0 }, { name := "CHINESE", type := .byte, accessFlags := 25, slot := 7, constantValue := 0 }, { name := "SIMPLIFIED_CHINESE", type := .byte, accessFlags := 25, slot := 8, constantValue := 0 }, { name := "TRADITIONAL_CHINESE", type := .byte, accessFlags := 25, slot := 9, constantValue := 0 }, { name := "FRANCE", type := .byte, accessFlags := 25, slot := 10, constantValue := 0 }, { name := "GERMANY", type := .byte, accessFlags := 25, slot := 11, constantValue := 0 }, { name := "ITALY", type := .byte, accessFlags := 25, slot := 12, constantValue := 0 }, { name := "JAPAN", type := .byte, accessFlags := 25, slot := 13, constantValue := 0 }, { name := "KOREA", type := .byte, accessFlags := 25, slot := 14, constantValue := 0 }, { name := "UK", type := .byte, accessFlags := 25, slot := 15, constantValue := 0 }, { name := "US", type := .byte, accessFlags := 25, slot := 16, constantValue := 0 }, { name := "CANADA", type := .byte, accessFlags := 25, slot := 17, constantValue := 0 }, { name := "CANADA_FRENCH", type := .byte, accessFlags := 25, slot := 18, constantValue := 0 }, { name := "ROOT", type := .byte, accessFlags := 25, slot := 19, constantValue := 0 }, { name := "NUM_CONSTANTS", type := .byte, accessFlags := 25, slot := 20, constantValue := 0 }, { name := "SEP", type := (.object "java/lang/String"), accessFlags := 25, slot := 21, constantValue := 0 }, { name := "language", type := (.object "java/lang/String"), accessFlags := 18, slot := 0, constantValue := 0 }, { name := "script", type := (.object "java/lang/String"), accessFlags := 18, slot := 1, constantValue := 0 }, { name := "region", type := (.object "java/lang/String"), accessFlags := 18, slot := 2, constantValue := 0 }, { name := "variant", type := (.object "java/lang/String"), accessFlags := 18, slot := 3, constantValue := 0 }, { name := "hash", type := .int, accessFlags := 2, slot := 4, constantValue := 0 }, { name := "OLD_ISO_CODES", type := .boolean, accessFlags := 26, slot := 22, constantValue := 0 }]
  methods := #[k16m0]
  instanceTypes := #[(.object "java/lang/String"), (.object "java/lang/String"), (.object "java/lang/String"), (.object "java/lang/String"), .int]
  staticTypes := #[(.array (.object "sun/util/locale/BaseLocale")), .byte, .byte, .byte, .byte, .byte, .byte, .byte, .byte, .byte, .byte, .byte, .byte, .byte, .byte, .byte, .byte, .byte, .byte, .byte, .byte, (.object "java/lang/String"), .boolean]
  resolved := Array.replicate 263 none
  statics := none }

def pool17 : Array CpInfo := pool [(2, .class_ 4), (1, u "java/lang/Object"), (0, u "<init>"), (0, u "()V"), (1, .class_ 10), (1, u "java/lang/System"), (0, u "allowSecurityManager"), (0, u "I"), (16, u "cons"), (0, u "Ljava/io/Console;"), (77, .class_ 110), (1, u "java/lang/System$CallersHolder"), (43, u "initialErrStream"), (0, u "Ljava/io/PrintStream;"), (19, u "security"), (0, u "Ljava/lang/SecurityManager;"), (31, .class_ 209), (0, u "java/lang/System$1"), (7, u "props"), (0, u "Ljava/util/Properties;"), (2, u "lineSeparator"), (0, u "Ljava/lang/String;"), (96, .class_ 321), (1, u "java/lang/System$LoggerFinder"), (5, .class_ 328), (0, u "java/lang/System$Logger"), (67, u "err"), (2, u "out"), (91, u "notSupportedJnuEncoding"), (15, u "in"), (17, u "initialIn"), (0, u "Ljava/io/InputStream;"), (35, u "bootLayer"), (0, u "Ljava/lang/ModuleLayer;"), (99, .class_ 664), (0, u "java/lang/System$2"), (9, u "NEVER"), (2, u "MAYBE"), (49, u "arraycopy"), (0, u "(Ljava/lang/Object;ILjava/lang/Object;II)V"), (72, .class_ 802), (0, u "java/lang/System$Logger$Level")] 31

def k17m0 : Method := { name := "<init>", desc := "()V", sig := { parameters := [], returnType := none }, accessFlags := 2, code := none }
def k17m1 : Method := { name := "arraycopy", desc := "(Ljava/lang/Object;ILjava/lang/Object;II)V", sig := { parameters := [(.object "java/lang/Object"), .int, (.object "java/lang/Object"), .int, .int], returnType := none }, accessFlags := 265, code := none }
/-- java/lang/System -/
def k17 : Class := { plain "java/lang/System" (some 0) with
  accessFlags := 49
  interfaces := #[]
  cf := some (fileOf pool17 8 #[.nestMembers #[319, 327, 801, 108, 663, 208]] #[{ accessFlags := 2, nameIndex := 5, descriptorIndex := 6, attributes := #[] }, { accessFlags := 265, nameIndex := 727, descriptorIndex := 728, attributes := #[] }] 49 2 #[] #[{ accessFlags := 25, nameIndex := 507, descriptorIndex := 526, attributes := #[] }, { accessFlags := 25, nameIndex := 399, descriptorIndex := 155, attributes := #[] }, { accessFlags := 25, nameIndex := 396, descriptorIndex := 155, attributes := #[] }, { accessFlags := 10, nameIndex := 525, descriptorIndex := 526, attributes := #[] }, { accessFlags := 26, nameIndex := 674, descriptorIndex := 12, attributes := #[] }, { accessFlags := 26, nameIndex := 677, descriptorIndex := 12, attributes := #[] }, { accessFlags := 10, nameIndex := 11, descriptorIndex := 12, attributes := #[] }, { accessFlags := 74, nameIndex := 175, descriptorIndex := 176, attributes := #[] }, { accessFlags := 10, nameIndex := 491, descriptorIndex := 222, attributes := #[] }, { accessFlags := 74, nameIndex := 29, descriptorIndex := 30, attributes := #[] }, { accessFlags := 74, nameIndex := 154, descriptorIndex := 155, attributes := #[] }, { accessFlags := 10, nameIndex := 217, descriptorIndex := 218, attributes := #[] }, { accessFlags := 10, nameIndex := 221, descriptorIndex := 222, attributes := #[] }, { accessFlags := 8, nameIndex := 562, descriptorIndex := 563, attributes := #[] }])
  fields := #[{ name := "in", type := (.object "java/io/InputStream"), accessFlags := 25, slot := 0, constantValue := 0 }, { name := "out", type := (.object "java/io/PrintStream"), accessFlags := 25, slot := 1, constantValue := 0 }, { name := "err", type := (.object "java/io/PrintStream"), accessFlags := 25, slot := 2, constantValue := 0 }, { name := "initialIn", type := (.object "java/io/InputStream"), accessFlags := 10, slot := 3, constantValue := 0 }, { name := "NEVER", type := .int, accessFlags := 26, slot := 4, constantValue := 0 }, { name := "MAYBE", type := .int, accessFlags := 26, slot := 5, constantValue := 0 }, { name := "allowSecurityManager", type := .int, accessFlags := 10, slot := 6, constantValue := 0 }, { name := "security", type := (.object "java/lang/SecurityManager"), accessFlags := 74, slot := 7, constantValue := 0 }, { name := "notSupportedJnuEncoding", type := (.object "java/lang/String"), accessFlags := 10, slot := 8, constantValue := 0 }, { name := "cons", type := (.object "java/io/Console"), accessFlags := 74, slot := 9, constantValue := 0 }, { name := "initialErrStream", type := (.object "java/io/PrintStream"), accessFlags := 74, slot := 10, constantValue := 0 }, { name := "props", type := (.object "java/util/Properties"), accessFlags := 10, slot := 11, constantValue := 0 }, { name := "lineSeparator", type := (.object "java/lang/String"), accessFlags := 10, slot := 12, constantValue := 0 }, { name := "bootLayer", type := (.object "java/lang/ModuleLayer"), accessFlags := 8, slot := 13, constantValue := 0 }]
  methods := #[k17m0, k17m1]
  instanceTypes := #[]
  staticTypes := #[(.object "java/io/InputStream"), (.object "java/io/PrintStream"), (.object "java/io/PrintStream"), (.object "java/io/InputStream"), .int, .int, .int, (.object "java/lang/SecurityManager"), (.object "java/lang/String"), (.object "java/io/Console"), (.object "java/io/PrintStream"), (.object "java/util/Properties"), (.object "java/lang/String"), (.object "java/lang/ModuleLayer")]
  resolved := Array.replicate 834 none
  statics := none }

def pool18 : Array CpInfo := pool [(2, .class_ 4), (1, u "java/lang/Object"), (0, u "<init>"), (0, u "()V"), (17, .class_ 26), (1, u "jdk/internal/util/Preconditions"), (28, .class_ 56), (0, u "jdk/internal/util/Preconditions$4"), (57, .class_ 115), (0, u "jdk/internal/util/Preconditions$1"), (7, u "SIOOBE_FORMATTER"), (0, u "Ljava/util/function/BiFunction;"), (0, .class_ 126), (0, u "jdk/internal/util/Preconditions$2"), (3, u "AIOOBE_FORMATTER"), (0, .class_ 132), (0, u "jdk/internal/util/Preconditions$3"), (3, u "IOOBE_FORMATTER")] 57

def k18m0 : Method := { name := "<init>", desc := "()V", sig := { parameters := [], returnType := none }, accessFlags := 1, code := none }
/-- jdk/internal/util/Preconditions -/
def k18 : Class := { plain "jdk/internal/util/Preconditions" (some 0) with
  accessFlags := 33
  interfaces := #[]
  cf := some (fileOf pool18 24 #[.nestMembers #[55, 131, 125, 114]] #[{ accessFlags := 1, nameIndex := 5, descriptorIndex := 6, attributes := #[] }] 33 2 #[] #[{ accessFlags := 25, nameIndex := 123, descriptorIndex := 124, attributes := #[] }, { accessFlags := 25, nameIndex := 130, descriptorIndex := 124, attributes := #[] }, { accessFlags := 25, nameIndex := 136, descriptorIndex := 124, attributes := #[] }])
  fields := #[{ name := "SIOOBE_FORMATTER", type := (.object "java/util/function/BiFunction"), accessFlags := 25, slot := 0, constantValue := 0 }, { name := "AIOOBE_FORMATTER", type := (.object "java/util/function/BiFunction"), accessFlags := 25, slot := 1, constantValue := 0 }, { name := "IOOBE_FORMATTER", type := (.object "java/util/function/BiFunction"), accessFlags := 25, slot := 2, constantValue := 0 }]
  methods := #[k18m0]
  instanceTypes := #[]
  staticTypes := #[(.object "java/util/function/BiFunction"), (.object "java/util/function/BiFunction"), (.object "java/util/function/BiFunction")]
  resolved := Array.replicate 194 none
  statics := some 3 }

def pool19 : Array CpInfo := pool [(9, u "<init>"), (6, .class_ 18), (1, u "java/lang/Object"), (0, u "()V"), (1, .class_ 23), (1, u "jdk/internal/util/ArraysSupport"), (0, u "LOG2_ARRAY_LONG_INDEX_SCALE"), (0, u "I"), (2, u "U"), (0, u "Ljdk/internal/misc/Unsafe;"), (8, u "BIG_ENDIAN"), (0, u "Z"), (8, u "LOG2_BYTE_BIT_SIZE"), (4, u "LOG2_ARRAY_INT_INDEX_SCALE"), (54, u "JLA"), (0, u "Ljdk/internal/access/JavaLangAccess;"), (11, u "LOG2_ARRAY_BOOLEAN_INDEX_SCALE"), (9, u "LOG2_ARRAY_BYTE_INDEX_SCALE"), (5, u "LOG2_ARRAY_CHAR_INDEX_SCALE"), (5, u "LOG2_ARRAY_SHORT_INDEX_SCALE"), (18, u "LOG2_ARRAY_FLOAT_INDEX_SCALE"), (24, u "LOG2_ARRAY_DOUBLE_INDEX_SCALE"), (89, u "T_BOOLEAN"), (2, u "T_CHAR"), (1, u "T_FLOAT"), (1, u "T_DOUBLE"), (1, u "T_BYTE"), (1, u "T_SHORT"), (1, u "T_INT"), (1, u "T_LONG"), (1, u "SOFT_MAX_ARRAY_LENGTH")] 83

def k19m0 : Method := { name := "<init>", desc := "()V", sig := { parameters := [], returnType := none }, accessFlags := 2, code := none }
/-- jdk/internal/util/ArraysSupport -/
def k19 : Class := { plain "jdk/internal/util/ArraysSupport" (some 0) with
  accessFlags := 33
  interfaces := #[]
  cf := some (fileOf pool19 21 #[] #[{ accessFlags := 2, nameIndex := 9, descriptorIndex := 19, attributes := #[] }] 33 16 #[] #[{ accessFlags := 24, nameIndex := 28, descriptorIndex := 29, attributes := #[] }, { accessFlags := 26, nameIndex := 38, descriptorIndex := 39, attributes := #[] }, { accessFlags := 25, nameIndex := 121, descriptorIndex := 25, attributes := #[] }, { accessFlags := 25, nameIndex := 131, descriptorIndex := 25, attributes := #[] }, { accessFlags := 25, nameIndex := 137, descriptorIndex := 25, attributes := #[] }, { accessFlags := 25, nameIndex := 143, descriptorIndex := 25, attributes := #[] }, { accessFlags := 25, nameIndex := 53, descriptorIndex := 25, attributes := #[] }, { accessFlags := 25, nameIndex := 24, descriptorIndex := 25, attributes := #[] }, { accessFlags := 25, nameIndex := 162, descriptorIndex := 25, attributes := #[] }, { accessFlags := 25, nameIndex := 187, descriptorIndex := 25, attributes := #[] }, { accessFlags := 26, nameIndex := 48, descriptorIndex := 25, attributes := #[] }, { accessFlags := 25, nameIndex := 277, descriptorIndex := 25, attributes := #[] }, { accessFlags := 25, nameIndex := 280, descriptorIndex := 25, attributes := #[] }, { accessFlags := 25, nameIndex := 282, descriptorIndex := 25, attributes := #[] }, { accessFlags := 25, nameIndex := 284, descriptorIndex := 25, attributes := #[] }, { accessFlags := 25, nameIndex := 286, descriptorIndex := 25, attributes := #[] }, { accessFlags := 25, nameIndex := 288, descriptorIndex := 25, attributes := #[] }, { accessFlags := 25, nameIndex := 290, descriptorIndex := 25, attributes := #[] }, { accessFlags := 25, nameIndex := 292, descriptorIndex := 25, attributes := #[] }, { accessFlags := 26, nameIndex := 108, descriptorIndex := 109, attributes := #[] }, { accessFlags := 25, nameIndex := 294, descriptorIndex := 25, attributes := #[] }])
  fields := #[{ name := "U", type := (.object "jdk/internal/misc/Unsafe"), accessFlags := 24, slot := 0, constantValue := 0 }, { name := "BIG_ENDIAN", type := .boolean, accessFlags := 26, slot := 1, constantValue := 0 }, { name := "LOG2_ARRAY_BOOLEAN_INDEX_SCALE", type := .int, accessFlags := 25, slot := 2, constantValue := 0 }, { name := "LOG2_ARRAY_BYTE_INDEX_SCALE", type := .int, accessFlags := 25, slot := 3, constantValue := 0 }, { name := "LOG2_ARRAY_CHAR_INDEX_SCALE", type := .int, accessFlags := 25, slot := 4, constantValue := 0 }, { name := "LOG2_ARRAY_SHORT_INDEX_SCALE", type := .int, accessFlags := 25, slot := 5, constantValue := 0 }, { name := "LOG2_ARRAY_INT_INDEX_SCALE", type := .int, accessFlags := 25, slot := 6, constantValue := 0 }, { name := "LOG2_ARRAY_LONG_INDEX_SCALE", type := .int, accessFlags := 25, slot := 7, constantValue := 0 }, { name := "LOG2_ARRAY_FLOAT_INDEX_SCALE", type := .int, accessFlags := 25, slot := 8, constantValue := 0 }, { name := "LOG2_ARRAY_DOUBLE_INDEX_SCALE", type := .int, accessFlags := 25, slot := 9, constantValue := 0 }, { name := "LOG2_BYTE_BIT_SIZE", type := .int, accessFlags := 26, slot := 10, constantValue := 0 }, { name := "T_BOOLEAN", type := .int, accessFlags := 25, slot := 11, constantValue := 0 }, { name := "T_CHAR", type := .int, accessFlags := 25, slot := 12, constantValue := 0 }, { name := "T_FLOAT", type := .int, accessFlags := 25, slot := 13, constantValue := 0 }, { name := "T_DOUBLE", type := .int, accessFlags := 25, slot := 14, constantValue := 0 }, { name := "T_BYTE", type := .int, accessFlags := 25, slot := 15, constantValue := 0 }, { name := "T_SHORT", type := .int, accessFlags := 25, slot := 16, constantValue := 0 }, { name := "T_INT", type := .int, accessFlags := 25, slot := 17, constantValue := 0 }, { name := "T_LONG", type := .int, accessFlags := 25, slot := 18, constantValue := 0 }, { name := "JLA", type := (.object "jdk/internal/access/JavaLangAccess"), accessFlags := 26, slot := 19, constantValue := 0 }, { name := "SOFT_MAX_ARRAY_LENGTH", type := .int, accessFlags := 25, slot := 20, constantValue := 0 }]
  methods := #[k19m0]
  instanceTypes := #[]
  staticTypes := #[(.object "jdk/internal/misc/Unsafe"), .boolean, .int, .int, .int, .int, .int, .int, .int, .int, .int, .int, .int, .int, .int, .int, .int, .int, .int, (.object "jdk/internal/access/JavaLangAccess"), .int]
  resolved := Array.replicate 378 none
  statics := none }

/-- the primitive byte -/
def k20 : Class := { plain "byte" none with kind := .primitive 'B', accessFlags := 0x411 }
/-- [B -/
def k21 : Class := { plain "[B" (some 0) with kind := .array 20 .byte, interfaces := #[12, 2], accessFlags := 1041 }

/-- the primitive char -/
def k22 : Class := { plain "char" none with kind := .primitive 'C', accessFlags := 0x411 }
/-- [C -/
def k23 : Class := { plain "[C" (some 0) with kind := .array 22 .char, interfaces := #[12, 2], accessFlags := 1041 }

/-- the primitive int -/
def k24 : Class := { plain "int" none with kind := .primitive 'I', accessFlags := 0x411 }
/-- [I -/
def k25 : Class := { plain "[I" (some 0) with kind := .array 24 .int, interfaces := #[12, 2], accessFlags := 1041 }

def heap : Heap := #[{ cls := 7, slots := #[.long 0, .int 1, .null, .int 0, .null, .int 0, .int 0], vm := .statics 7 },
  { cls := 13, slots := #[.null, .null, .null, .null, .null, .null, .null, .null, .null, .null, .null, .null, .null, .null, .null, .null, .null, .null, .ref 7, .null, .null, .null, .null, .int 0, .int 0, .long 0, .int 0, .int 0, .int 0, .int 0, .int 0, .int 0, .null, .null, .null, .null, .null, .null, .int 0], vm := .statics 13 },
  { cls := 15, slots := #[.null, .null, .ref 8, .null, .null], vm := .statics 15 },
  { cls := 18, slots := #[.null, .null, .null], vm := .statics 18 },
  { cls := 21, slots := #[], vm := .none },
  { cls := 7, slots := #[.ref 4, .int 0, .int 0, .int 0], vm := .none },
  { cls := 16, slots := #[.ref 5, .null, .null, .null, .int 0], vm := .none },
  { cls := 13, slots := #[.ref 6, .null, .int 0, .null], vm := .none },
  { cls := 15, slots := #[], vm := .none }]
def classes : Array Class := #[k0, k1, k2, k3, k4, k5, k6, k7, k8, k9, k10, k11, k12, k13, k14, k15, k16, k17, k18, k19, k20, k21, k22, k23, k24, k25]
def interned : List (Array UInt16 × Addr) := []
def slotsUsed : Nat := 67
def theMethod : MethodId := ⟨1, 1⟩
def args0 : Array Value := #[.int 4276803, .int 1, .int 15]
def aboutOver (below : List Frame) : State where
  vm := { classes := classes, interned := interned.toArray }
  heap := heap
  slotsUsed := slotsUsed
  threads := #[{ frames := .invoking theMethod args0 :: below }]
def below0 : List Frame := [.native { method := ⟨0, 0⟩, args := #[] }]
def about1 : State := aboutOver below0
def p0 : Program := .bare "" "" ""
def e0 : Env := launch0.env 0 0 0
theorem w_frames : about1.frames = Frame.invoking theMethod args0 :: below0 := rfl
set_option maxRecDepth 65536 in
theorem w_args : argsFit about1.vm theMethod args0 = true := by decide +kernel
set_option maxRecDepth 65536 in
theorem w_heap : heapFits about1 = true := by decide +kernel
set_option maxRecDepth 65536 in
theorem w_runnable : about1.curStatus? = some .runnable := by decide +kernel
set_option maxRecDepth 65536 in
theorem w_alone : about1.alone = true := by decide +kernel
set_option maxRecDepth 65536 in
theorem w_named : about1.methodNamed? x = some theMethod := by decide +kernel
set_option maxRecDepth 65536 in
theorem w_hears : about1.hears theMethod below0 = true := by decide +kernel
set_option maxRecDepth 65536 in
theorem w_ripe : about1.ripe theMethod args0 below0 = true := by decide +kernel
theorem w_running : about1.status = .running := rfl
set_option maxRecDepth 65536 in
theorem w_room : about1.hasRoom e0.platform room_1 = true :=
  launch0.hasRoom_least _ room_1 (by decide +kernel) (by decide +kernel) (by decide +kernel) (by decide +kernel) (by decide +kernel) (by decide +kernel)
theorem allAtoms_all (ts : List Jvm.Cond) (a : Array Jvm.Value) (st : Jvm.State) : (allAtoms ts).before a st = ts.all (fun c => c.before a st) := by
  induction ts with
  | nil => rfl
  | cons c t ih =>
    show (Jvm.Cond.and c (allAtoms t)).before a st = _
    rw [Jvm.Cond.before_and, ih, List.all_cons]
def words1 : List Jvm.Cond := Jvm.Cond.code x code maxLocals ret :: tables_1
/-- a 'code' word, met by the world's own term for the bytes: nothing is compared byte by byte -/
theorem code_word {y : MethodName} {bytes : ByteArray} {mx : Nat} {rt : Option FieldType} {a : Array Value} {s : State} {m : MethodId} {meth : Method} {c : Code} (h1 : s.methodNamed? y = some m) (h2 : s.vm.method? m = some meth) (h3 : meth.code = some c) (h4 : c.code = bytes)
    (h5 : (c.maxLocals == mx && c.exceptionTable.isEmpty && decide (c.maxStack ≤ mostOperands) && decide (meth.sig.returnType = rt) && !meth.locks && decide (parseMethodDescriptor y.desc = some meth.sig)) = true) : (Jvm.Cond.code y bytes mx rt).before a s = true := by
  simp only [Bool.and_eq_true, beq_iff_eq, Bool.not_eq_true', decide_eq_true_eq] at h5
  obtain ⟨⟨⟨⟨⟨g1, g2⟩, g3⟩, g4⟩, g5⟩, g6⟩ := h5
  simp [Cond.before, Cond.holds, Cond.value, h1, h2, h3, h4, g1, g2, g3, g4, g5, g6]
def isCode : Jvm.Cond → Bool
  | .code _ _ _ _ => true
  | _ => false
theorem all_split {L : List Jvm.Cond} {P : Jvm.Cond → Bool} (h1 : L.all (fun c => isCode c || P c) = true) (h2 : ∀ c ∈ L.filter isCode, P c = true) : L.all P = true := by
  refine List.all_eq_true.mpr fun c hc => ?_
  have h := List.all_eq_true.mp h1 c hc
  rcases Bool.eq_false_or_eq_true (isCode c) with hi | hi
  · exact h2 c (List.mem_filter.mpr ⟨hc, hi⟩)
  · simpa [hi] using h
set_option maxRecDepth 65536 in
theorem w_c0 : (Jvm.Cond.code x code maxLocals ret).before args0 about1 = true := code_word (m := ⟨1, 1⟩) (meth := k1m1) (c := k1c1) (by decide +kernel) rfl rfl rfl (by decide +kernel)
set_option maxRecDepth 65536 in
theorem w_c1 : (Jvm.Cond.code ({ cls := "org/wardchain/web/AuthorizationHeaderHasSchemePinLaw", name := "pick", desc := "(CCI)C" } : Jvm.MethodName) method_8_code (3 : Nat) (Option.some Jvm.ClassFile.FieldType.char)).before args0 about1 = true := code_word (m := ⟨1, 7⟩) (meth := k1m7) (c := k1c7) (by decide +kernel) rfl rfl rfl (by decide +kernel)
set_option maxRecDepth 65536 in
theorem w_c2 : (Jvm.Cond.code ({ cls := "org/wardchain/web/AuthorizationHeaderHasSchemePinLaw", name := "mk", desc := "(ICCC)Ljava/lang/String;" } : Jvm.MethodName) method_9_code (4 : Nat) (Option.some (Jvm.ClassFile.FieldType.object "java/lang/String"))).before args0 about1 = true := code_word (m := ⟨1, 8⟩) (meth := k1m8) (c := k1c8) (by decide +kernel) rfl rfl rfl (by decide +kernel)
set_option maxRecDepth 65536 in
theorem w_c3 : (Jvm.Cond.code ({ cls := "java/lang/String", name := "<init>", desc := "([C)V" } : Jvm.MethodName) jdk_42_method_3_code (2 : Nat) (Option.none : Option Jvm.ClassFile.FieldType)).before args0 about1 = true := code_word (m := ⟨7, 1⟩) (meth := k7m1) (c := k7c1) (by decide +kernel) rfl rfl rfl (by decide +kernel)
set_option maxRecDepth 65536 in
theorem w_c4 : (Jvm.Cond.code ({ cls := "java/lang/String", name := "<init>", desc := "([CIILjava/lang/Void;)V" } : Jvm.MethodName) jdk_42_method_149_code (6 : Nat) (Option.none : Option Jvm.ClassFile.FieldType)).before args0 about1 = true := code_word (m := ⟨7, 4⟩) (meth := k7m4) (c := k7c4) (by decide +kernel) rfl rfl rfl (by decide +kernel)
set_option maxRecDepth 65536 in
theorem w_c5 : (Jvm.Cond.code ({ cls := "java/lang/Object", name := "<init>", desc := "()V" } : Jvm.MethodName) object_method_1_code (1 : Nat) (Option.none : Option Jvm.ClassFile.FieldType)).before args0 about1 = true := code_word (m := ⟨0, 0⟩) (meth := k0m0) (c := k0c0) (by decide +kernel) rfl rfl rfl (by decide +kernel)
set_option maxRecDepth 65536 in
theorem w_c6 : (Jvm.Cond.code ({ cls := "java/lang/StringUTF16", name := "compress", desc := "([CII)[B" } : Jvm.MethodName) jdk_52_method_16_code (6 : Nat) (Option.some (Jvm.ClassFile.FieldType.array Jvm.ClassFile.FieldType.byte))).before args0 about1 = true := code_word (m := ⟨8, 2⟩) (meth := k8m2) (c := k8c2) (by decide +kernel) rfl rfl rfl (by decide +kernel)
set_option maxRecDepth 65536 in
theorem w_c7 : (Jvm.Cond.code ({ cls := "java/lang/StringUTF16", name := "compress", desc := "([CI[BII)I" } : Jvm.MethodName) jdk_52_method_21_code (7 : Nat) (Option.some Jvm.ClassFile.FieldType.int)).before args0 about1 = true := code_word (m := ⟨8, 3⟩) (meth := k8m3) (c := k8c3) (by decide +kernel) rfl rfl rfl (by decide +kernel)
set_option maxRecDepth 65536 in
theorem w_c8 : (Jvm.Cond.code ({ cls := "java/lang/StringUTF16", name := "coderFromArrayLen", desc := "([BI)B" } : Jvm.MethodName) jdk_52_method_15_code (2 : Nat) (Option.some Jvm.ClassFile.FieldType.byte)).before args0 about1 = true := code_word (m := ⟨8, 1⟩) (meth := k8m1) (c := k8c1) (by decide +kernel) rfl rfl rfl (by decide +kernel)
set_option maxRecDepth 65536 in
theorem w_c9 : (Jvm.Cond.code ({ cls := "org/wardchain/web/AuthorizationHeader", name := "<init>", desc := "(Ljava/lang/String;Ljava/lang/String;)V" } : Jvm.MethodName) prog_65_method_1_code (3 : Nat) (Option.none : Option Jvm.ClassFile.FieldType)).before args0 about1 = true := code_word (m := ⟨10, 0⟩) (meth := k10m0) (c := k10c0) (by decide +kernel) rfl rfl rfl (by decide +kernel)
set_option maxRecDepth 65536 in
theorem w_c10 : (Jvm.Cond.code ({ cls := "java/lang/Record", name := "<init>", desc := "()V" } : Jvm.MethodName) jdk_30_method_1_code (1 : Nat) (Option.none : Option Jvm.ClassFile.FieldType)).before args0 about1 = true := code_word (m := ⟨9, 0⟩) (meth := k9m0) (c := k9c0) (by decide +kernel) rfl rfl rfl (by decide +kernel)
set_option maxRecDepth 65536 in
theorem w_c11 : (Jvm.Cond.code ({ cls := "org/wardchain/web/AuthorizationHeader", name := "hasScheme", desc := "(Ljava/lang/String;)Z" } : Jvm.MethodName) prog_65_method_3_code (2 : Nat) (Option.some Jvm.ClassFile.FieldType.boolean)).before args0 about1 = true := code_word (m := ⟨10, 1⟩) (meth := k10m1) (c := k10c1) (by decide +kernel) rfl rfl rfl (by decide +kernel)
set_option maxRecDepth 65536 in
theorem w_c12 : (Jvm.Cond.code ({ cls := "java/lang/String", name := "equals", desc := "(Ljava/lang/Object;)Z" } : Jvm.MethodName) jdk_42_method_66_code (3 : Nat) (Option.some Jvm.ClassFile.FieldType.boolean)).before args0 about1 = true := code_word (m := ⟨7, 2⟩) (meth := k7m2) (c := k7c2) (by decide +kernel) rfl rfl rfl (by decide +kernel)
set_option maxRecDepth 65536 in
theorem w_c13 : (Jvm.Cond.code ({ cls := "java/lang/StringLatin1", name := "equals", desc := "([B[B)Z" } : Jvm.MethodName) jdk_43_method_13_code (3 : Nat) (Option.some Jvm.ClassFile.FieldType.boolean)).before args0 about1 = true := code_word (m := ⟨11, 2⟩) (meth := k11m2) (c := k11c2) (by decide +kernel) rfl rfl rfl (by decide +kernel)
set_option maxRecDepth 65536 in
theorem w_c14 : (Jvm.Cond.code ({ cls := "java/lang/String", name := "toLowerCase", desc := "(Ljava/util/Locale;)Ljava/lang/String;" } : Jvm.MethodName) jdk_42_method_109_code (2 : Nat) (Option.some (Jvm.ClassFile.FieldType.object "java/lang/String"))).before args0 about1 = true := code_word (m := ⟨7, 3⟩) (meth := k7m3) (c := k7c3) (by decide +kernel) rfl rfl rfl (by decide +kernel)
set_option maxRecDepth 65536 in
theorem w_c15 : (Jvm.Cond.code ({ cls := "java/lang/String", name := "isLatin1", desc := "()Z" } : Jvm.MethodName) jdk_42_method_154_code (1 : Nat) (Option.some Jvm.ClassFile.FieldType.boolean)).before args0 about1 = true := code_word (m := ⟨7, 6⟩) (meth := k7m6) (c := k7c6) (by decide +kernel) rfl rfl rfl (by decide +kernel)
set_option maxRecDepth 65536 in
theorem w_c16 : (Jvm.Cond.code ({ cls := "java/lang/StringLatin1", name := "toLowerCase", desc := "(Ljava/lang/String;[BLjava/util/Locale;)Ljava/lang/String;" } : Jvm.MethodName) jdk_43_method_32_code (9 : Nat) (Option.some (Jvm.ClassFile.FieldType.object "java/lang/String"))).before args0 about1 = true := code_word (m := ⟨11, 3⟩) (meth := k11m3) (c := k11c3) (by decide +kernel) rfl rfl rfl (by decide +kernel)
set_option maxRecDepth 65536 in
theorem w_c17 : (Jvm.Cond.code ({ cls := "java/lang/CharacterDataLatin1", name := "toLowerCase", desc := "(I)I" } : Jvm.MethodName) jdk_116_method_20_code (3 : Nat) (Option.some Jvm.ClassFile.FieldType.int)).before args0 about1 = true := code_word (m := ⟨15, 0⟩) (meth := k15m0) (c := k15c0) (by decide +kernel) rfl rfl rfl (by decide +kernel)
set_option maxRecDepth 65536 in
theorem w_c18 : (Jvm.Cond.code ({ cls := "org/wardchain/web/AuthorizationHeaderHasSchemePinLaw", name := "flip", desc := "(C)C" } : Jvm.MethodName) method_7_code (1 : Nat) (Option.some Jvm.ClassFile.FieldType.char)).before args0 about1 = true := code_word (m := ⟨1, 6⟩) (meth := k1m6) (c := k1c6) (by decide +kernel) rfl rfl rfl (by decide +kernel)
set_option maxRecDepth 65536 in
theorem w_c19 : (Jvm.Cond.code ({ cls := "org/wardchain/web/AuthorizationHeaderHasSchemePinLaw", name := "isUpper", desc := "(C)Z" } : Jvm.MethodName) method_4_code (1 : Nat) (Option.some Jvm.ClassFile.FieldType.boolean)).before args0 about1 = true := code_word (m := ⟨1, 3⟩) (meth := k1m3) (c := k1c3) (by decide +kernel) rfl rfl rfl (by decide +kernel)
set_option maxRecDepth 65536 in
theorem w_c20 : (Jvm.Cond.code ({ cls := "org/wardchain/web/AuthorizationHeaderHasSchemePinLaw", name := "isLower", desc := "(C)Z" } : Jvm.MethodName) method_5_code (1 : Nat) (Option.some Jvm.ClassFile.FieldType.boolean)).before args0 about1 = true := code_word (m := ⟨1, 4⟩) (meth := k1m4) (c := k1c4) (by decide +kernel) rfl rfl rfl (by decide +kernel)
set_option maxRecDepth 65536 in
theorem w_c21 : (Jvm.Cond.code ({ cls := "org/wardchain/web/AuthorizationHeaderHasSchemePinLaw", name := "same", desc := "(CCII)Z" } : Jvm.MethodName) method_3_code (4 : Nat) (Option.some Jvm.ClassFile.FieldType.boolean)).before args0 about1 = true := code_word (m := ⟨1, 2⟩) (meth := k1m2) (c := k1c2) (by decide +kernel) rfl rfl rfl (by decide +kernel)
set_option maxRecDepth 65536 in
theorem w_c22 : (Jvm.Cond.code ({ cls := "org/wardchain/web/AuthorizationHeaderHasSchemePinLaw", name := "lower", desc := "(C)C" } : Jvm.MethodName) method_6_code (1 : Nat) (Option.some Jvm.ClassFile.FieldType.char)).before args0 about1 = true := code_word (m := ⟨1, 5⟩) (meth := k1m5) (c := k1c5) (by decide +kernel) rfl rfl rfl (by decide +kernel)
set_option maxRecDepth 65536 in
theorem w_c23 : (Jvm.Cond.code ({ cls := "java/util/Locale", name := "getLanguage", desc := "()Ljava/lang/String;" } : Jvm.MethodName) jdk_2628_method_27_code (1 : Nat) (Option.some (Jvm.ClassFile.FieldType.object "java/lang/String"))).before args0 about1 = true := code_word (m := ⟨13, 0⟩) (meth := k13m0) (c := k13c0) (by decide +kernel) rfl rfl rfl (by decide +kernel)
set_option maxRecDepth 65536 in
theorem w_c24 : (Jvm.Cond.code ({ cls := "sun/util/locale/BaseLocale", name := "getLanguage", desc := "()Ljava/lang/String;" } : Jvm.MethodName) jdk_3003_method_5_code (1 : Nat) (Option.some (Jvm.ClassFile.FieldType.object "java/lang/String"))).before args0 about1 = true := code_word (m := ⟨16, 0⟩) (meth := k16m0) (c := k16c0) (by decide +kernel) rfl rfl rfl (by decide +kernel)
set_option maxRecDepth 65536 in
theorem w_c25 : (Jvm.Cond.code ({ cls := "java/lang/StringLatin1", name := "canEncode", desc := "(I)Z" } : Jvm.MethodName) jdk_43_method_4_code (1 : Nat) (Option.some Jvm.ClassFile.FieldType.boolean)).before args0 about1 = true := code_word (m := ⟨11, 1⟩) (meth := k11m1) (c := k11c1) (by decide +kernel) rfl rfl rfl (by decide +kernel)
set_option maxRecDepth 65536 in
theorem w_c26 : (Jvm.Cond.code ({ cls := "java/lang/String", name := "<init>", desc := "([BB)V" } : Jvm.MethodName) jdk_42_method_151_code (3 : Nat) (Option.none : Option Jvm.ClassFile.FieldType)).before args0 about1 = true := code_word (m := ⟨7, 5⟩) (meth := k7m5) (c := k7c5) (by decide +kernel) rfl rfl rfl (by decide +kernel)
def codes1 : List Jvm.Cond := [Jvm.Cond.code x code maxLocals ret, Jvm.Cond.code ({ cls := "org/wardchain/web/AuthorizationHeaderHasSchemePinLaw", name := "pick", desc := "(CCI)C" } : Jvm.MethodName) method_8_code (3 : Nat) (Option.some Jvm.ClassFile.FieldType.char), Jvm.Cond.code ({ cls := "org/wardchain/web/AuthorizationHeaderHasSchemePinLaw", name := "mk", desc := "(ICCC)Ljava/lang/String;" } : Jvm.MethodName) method_9_code (4 : Nat) (Option.some (Jvm.ClassFile.FieldType.object "java/lang/String")), Jvm.Cond.code ({ cls := "java/lang/String", name := "<init>", desc := "([C)V" } : Jvm.MethodName) jdk_42_method_3_code (2 : Nat) (Option.none : Option Jvm.ClassFile.FieldType), Jvm.Cond.code ({ cls := "java/lang/String", name := "<init>", desc := "([CIILjava/lang/Void;)V" } : Jvm.MethodName) jdk_42_method_149_code (6 : Nat) (Option.none : Option Jvm.ClassFile.FieldType), Jvm.Cond.code ({ cls := "java/lang/Object", name := "<init>", desc := "()V" } : Jvm.MethodName) object_method_1_code (1 : Nat) (Option.none : Option Jvm.ClassFile.FieldType), Jvm.Cond.code ({ cls := "java/lang/StringUTF16", name := "compress", desc := "([CII)[B" } : Jvm.MethodName) jdk_52_method_16_code (6 : Nat) (Option.some (Jvm.ClassFile.FieldType.array Jvm.ClassFile.FieldType.byte)), Jvm.Cond.code ({ cls := "java/lang/StringUTF16", name := "compress", desc := "([CI[BII)I" } : Jvm.MethodName) jdk_52_method_21_code (7 : Nat) (Option.some Jvm.ClassFile.FieldType.int), Jvm.Cond.code ({ cls := "java/lang/StringUTF16", name := "coderFromArrayLen", desc := "([BI)B" } : Jvm.MethodName) jdk_52_method_15_code (2 : Nat) (Option.some Jvm.ClassFile.FieldType.byte), Jvm.Cond.code ({ cls := "org/wardchain/web/AuthorizationHeader", name := "<init>", desc := "(Ljava/lang/String;Ljava/lang/String;)V" } : Jvm.MethodName) prog_65_method_1_code (3 : Nat) (Option.none : Option Jvm.ClassFile.FieldType), Jvm.Cond.code ({ cls := "java/lang/Record", name := "<init>", desc := "()V" } : Jvm.MethodName) jdk_30_method_1_code (1 : Nat) (Option.none : Option Jvm.ClassFile.FieldType), Jvm.Cond.code ({ cls := "org/wardchain/web/AuthorizationHeader", name := "hasScheme", desc := "(Ljava/lang/String;)Z" } : Jvm.MethodName) prog_65_method_3_code (2 : Nat) (Option.some Jvm.ClassFile.FieldType.boolean), Jvm.Cond.code ({ cls := "java/lang/String", name := "equals", desc := "(Ljava/lang/Object;)Z" } : Jvm.MethodName) jdk_42_method_66_code (3 : Nat) (Option.some Jvm.ClassFile.FieldType.boolean), Jvm.Cond.code ({ cls := "java/lang/StringLatin1", name := "equals", desc := "([B[B)Z" } : Jvm.MethodName) jdk_43_method_13_code (3 : Nat) (Option.some Jvm.ClassFile.FieldType.boolean), Jvm.Cond.code ({ cls := "java/lang/String", name := "toLowerCase", desc := "(Ljava/util/Locale;)Ljava/lang/String;" } : Jvm.MethodName) jdk_42_method_109_code (2 : Nat) (Option.some (Jvm.ClassFile.FieldType.object "java/lang/String")), Jvm.Cond.code ({ cls := "java/lang/String", name := "isLatin1", desc := "()Z" } : Jvm.MethodName) jdk_42_method_154_code (1 : Nat) (Option.some Jvm.ClassFile.FieldType.boolean), Jvm.Cond.code ({ cls := "java/lang/StringLatin1", name := "toLowerCase", desc := "(Ljava/lang/String;[BLjava/util/Locale;)Ljava/lang/String;" } : Jvm.MethodName) jdk_43_method_32_code (9 : Nat) (Option.some (Jvm.ClassFile.FieldType.object "java/lang/String")), Jvm.Cond.code ({ cls := "java/lang/CharacterDataLatin1", name := "toLowerCase", desc := "(I)I" } : Jvm.MethodName) jdk_116_method_20_code (3 : Nat) (Option.some Jvm.ClassFile.FieldType.int), Jvm.Cond.code ({ cls := "org/wardchain/web/AuthorizationHeaderHasSchemePinLaw", name := "flip", desc := "(C)C" } : Jvm.MethodName) method_7_code (1 : Nat) (Option.some Jvm.ClassFile.FieldType.char), Jvm.Cond.code ({ cls := "org/wardchain/web/AuthorizationHeaderHasSchemePinLaw", name := "isUpper", desc := "(C)Z" } : Jvm.MethodName) method_4_code (1 : Nat) (Option.some Jvm.ClassFile.FieldType.boolean), Jvm.Cond.code ({ cls := "org/wardchain/web/AuthorizationHeaderHasSchemePinLaw", name := "isLower", desc := "(C)Z" } : Jvm.MethodName) method_5_code (1 : Nat) (Option.some Jvm.ClassFile.FieldType.boolean), Jvm.Cond.code ({ cls := "org/wardchain/web/AuthorizationHeaderHasSchemePinLaw", name := "same", desc := "(CCII)Z" } : Jvm.MethodName) method_3_code (4 : Nat) (Option.some Jvm.ClassFile.FieldType.boolean), Jvm.Cond.code ({ cls := "org/wardchain/web/AuthorizationHeaderHasSchemePinLaw", name := "lower", desc := "(C)C" } : Jvm.MethodName) method_6_code (1 : Nat) (Option.some Jvm.ClassFile.FieldType.char), Jvm.Cond.code ({ cls := "java/util/Locale", name := "getLanguage", desc := "()Ljava/lang/String;" } : Jvm.MethodName) jdk_2628_method_27_code (1 : Nat) (Option.some (Jvm.ClassFile.FieldType.object "java/lang/String")), Jvm.Cond.code ({ cls := "sun/util/locale/BaseLocale", name := "getLanguage", desc := "()Ljava/lang/String;" } : Jvm.MethodName) jdk_3003_method_5_code (1 : Nat) (Option.some (Jvm.ClassFile.FieldType.object "java/lang/String")), Jvm.Cond.code ({ cls := "java/lang/StringLatin1", name := "canEncode", desc := "(I)Z" } : Jvm.MethodName) jdk_43_method_4_code (1 : Nat) (Option.some Jvm.ClassFile.FieldType.boolean), Jvm.Cond.code ({ cls := "java/lang/String", name := "<init>", desc := "([BB)V" } : Jvm.MethodName) jdk_42_method_151_code (3 : Nat) (Option.none : Option Jvm.ClassFile.FieldType)]
set_option maxRecDepth 65536 in
theorem codes_eq : words1.filter isCode = codes1 := rfl
theorem w_codes : ∀ c ∈ words1.filter isCode, c.before args0 about1 = true := by
  rw [codes_eq]
  intro c hc
  simp only [codes1, List.mem_cons, List.not_mem_nil, or_false] at hc
  rcases hc with rfl | rfl | rfl | rfl | rfl | rfl | rfl | rfl | rfl | rfl | rfl | rfl | rfl | rfl | rfl | rfl | rfl | rfl | rfl | rfl | rfl | rfl | rfl | rfl | rfl | rfl | rfl
  · exact w_c0
  · exact w_c1
  · exact w_c2
  · exact w_c3
  · exact w_c4
  · exact w_c5
  · exact w_c6
  · exact w_c7
  · exact w_c8
  · exact w_c9
  · exact w_c10
  · exact w_c11
  · exact w_c12
  · exact w_c13
  · exact w_c14
  · exact w_c15
  · exact w_c16
  · exact w_c17
  · exact w_c18
  · exact w_c19
  · exact w_c20
  · exact w_c21
  · exact w_c22
  · exact w_c23
  · exact w_c24
  · exact w_c25
  · exact w_c26
set_option maxRecDepth 65536 in
theorem w_t1 : (words1.take 24).all (fun c => isCode c || c.before args0 about1) = true := by decide +kernel
set_option maxRecDepth 65536 in
theorem w_t2 : ((words1.drop 24).take 24).all (fun c => isCode c || c.before args0 about1) = true := by decide +kernel
set_option maxRecDepth 65536 in
theorem w_t3 : (((words1.drop 24).drop 24).take 24).all (fun c => isCode c || c.before args0 about1) = true := by decide +kernel
set_option maxRecDepth 65536 in
theorem w_t4 : ((((words1.drop 24).drop 24).drop 24).take 24).all (fun c => isCode c || c.before args0 about1) = true := by decide +kernel
set_option maxRecDepth 65536 in
theorem w_t5 : (((((words1.drop 24).drop 24).drop 24).drop 24).take 24).all (fun c => isCode c || c.before args0 about1) = true := by decide +kernel
set_option maxRecDepth 65536 in
theorem w_t6 : (((((words1.drop 24).drop 24).drop 24).drop 24).drop 24).all (fun c => isCode c || c.before args0 about1) = true := by decide +kernel
theorem w_tables : (allAtoms (Jvm.Cond.code x code maxLocals ret :: tables_1)).before args0 about1 = true := by
  rw [allAtoms_all]
  show words1.all (fun c => c.before args0 about1) = true
  refine all_split ?_ w_codes
  rw [← List.take_append_drop 24 words1, List.all_append, w_t1, ← List.take_append_drop 24 (words1.drop 24), List.all_append, w_t2, ← List.take_append_drop 24 ((words1.drop 24).drop 24), List.all_append, w_t3, ← List.take_append_drop 24 (((words1.drop 24).drop 24).drop 24), List.all_append, w_t4, ← List.take_append_drop 24 ((((words1.drop 24).drop 24).drop 24).drop 24), List.all_append, w_t5, w_t6]
  rfl
set_option maxRecDepth 65536 in
theorem w_rest : rest_1_c.before args0 about1 = true := by decide +kernel
set_option maxRecDepth 65536 in
theorem w_case : (Jvm.Cond.and given_1 narrow_1).before args0 about1 = true := by decide +kernel
set_option maxRecDepth 65536 in
theorem w_consts : constsHeld consts_1 about1 := Jvm.Lit.constsHeldB_iff.mp (by decide +kernel)
theorem w_applies : (headSpec (Jvm.Cond.code x code maxLocals ret :: tables_1) room_1).applies x e0.platform about1 = true :=
  (Spec.applies_iff w_frames).mpr ⟨w_running, w_runnable, w_alone, w_named, w_hears, w_ripe, w_room, w_tables⟩
theorem atStart : AtStart classFile x code maxLocals ret World_1 tables_1 room_1 Calls_1 rest_1 Pre_1 launch0 p0 e0 about1 theMethod args0 below0 :=
  ⟨lists_1, trivial, launch0.admits_env _ _ _, launch0.least_env, fairChoices_fair.cas, fairChoices_fair.clock, w_frames, w_args, w_heap, w_applies, ⟨w_consts, trivial⟩, w_rest, w_case⟩
end start1
theorem witness_1 : WitnessClaimed_1 := ⟨start1.p0, start1.e0, start1.about1, start1.theMethod, start1.args0, start1.below0, start1.atStart⟩
end Jvm.Pilot.@@N@@
