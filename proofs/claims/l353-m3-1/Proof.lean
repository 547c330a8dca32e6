import JvmDerived
import JvmDerived.Pilot.@@N@@Statement
import JvmDerived.Pilot.@@N@@Code
set_option linter.unusedVariables false
set_option linter.unusedSimpArgs false
namespace Jvm.Ow
open Sem ClassFile Op Lib Bundle Jvm.Stand Jvm.Free Jvm.LawKit Jvm.RoadKit
/-- what may be written: made since the case's start, and no literal's cell -/
def Own (Z : State) (EL : List (String × Nat)) (vm : Vm) (h : Heap) (W : List Nat) : Prop := ∀ x ∈ W, Z.heap.size ≤ x ∧ x < h.size ∧ Safe Z EL vm h x
theorem Own.nil {Z : State} {EL : List (String × Nat)} {vm : Vm} {h : Heap} : Own Z EL vm h [] := fun _ q => nomatch q
theorem Own.sub {Z : State} {EL : List (String × Nat)} {vm : Vm} {h : Heap} {W V : List Nat} (O : Own Z EL vm h W) (q : ∀ x ∈ V, x ∈ W) : Own Z EL vm h V := fun x hx => O x (q x hx)
theorem Own.app {Z : State} {EL : List (String × Nat)} {vm : Vm} {h : Heap} {W V : List Nat} (O : Own Z EL vm h W) (P : Own Z EL vm h V) : Own Z EL vm h (W ++ V) := fun x hx => (List.mem_append.mp hx).elim (O x) (P x)
theorem Own.r {Z : State} {EL : List (String × Nat)} {vm vm1 : Vm} {h h' : Heap} {W : List Nat} (O : Own Z EL vm h W) (A : CHr Z EL vm h vm1 h') : Own Z EL vm1 h' W := fun x hx =>
  ⟨(O x hx).1, Nat.lt_of_lt_of_le (O x hx).2.1 A.2.1, A.safe (O x hx).2.1 (O x hx).2.2⟩
theorem Own.new {Z : State} {EL : List (String × Nat)} {vm : Vm} {h h' : Heap} {W : List Nat} (O : Own Z EL vm h W) (H : CHv Z EL vm h) (E : Ext h h') (hs : Z.heap.size ≤ h.size) (hl : h.size < h'.size) : Own Z EL vm h' (h.size :: W) := fun x hx => by
  rcases List.mem_cons.mp hx with rfl | hx
  · exact ⟨hs, hl, Safe.ext E H (Safe.new (Nat.le_refl _))⟩
  · exact (O.r (CHr.ext E H)) x hx
/-- the walk's own facts, which do not change: the code, the class, the tables at the case's start -/
def Cx (p : Program) (m : MethodId) (meth : Method) (c : Code) (s : State) (Z : State) (a0 : Array Value) (EL : List (String × Nat)) (b : Bool) (own nm : String) (bytes : ByteArray) (maxL : Nat) (ret : Option FieldType) : Prop :=
  p.tables.exec = Jvm.exec ∧ c.code = bytes ∧ c.maxLocals = maxL ∧ meth.sig.returnType = ret ∧ meth.locks = false ∧ s.vm.findClass own = some m.cls ∧ Z.Warmed39 s.vm ∧ EW Z a0 EL ∧ meth.name = nm ∧ (b = false → ∀ a ∈ Bundle.stringAtoms, a.before a0 Z = true) ∧ (b = true → EL = [])
/-- a good end -/
def EndQ (R : Room) (Z : State) (EL : List (String × Nat)) (b : Bool) (Q : Option Value → Heap → List Nat → Prop) (s : State) (below : List Frame) (s2 : State) (v : Option Value) : Prop :=
  s2.status = .running ∧ Ended s2 below (.returned v) ∧ ∃ (L : List Loc) (W' : List Nat), Q v s2.heap W' ∧ Own Z EL s2.vm s2.heap W' ∧ Old Z Z.heap.size s2.heap ∧ Fr Z.heap.size L ∧ CHr Z EL s.vm s.heap s2.vm s2.heap ∧ ReturnedEndW s (.returned v) s2 L R.cells R.slots ∧ (b = true → FrameEnd s (.returned v) s2 L R.cells R.slots)
/-- from this frame over any state with this heap, the run comes to a good end -/
def WP (p : Program) (l : Launch) (e : Env) (R : Room) (s : State) (m : MethodId) (args : Array Value) (below : List Frame) (meth : Method) (c : Code) (Z : State) (EL : List (String × Nat)) (b : Bool) (Q : Option Value → Heap → List Nat → Prop)
    (pc : Nat) (L : List Slot) (st : List Value) (h : Heap) (W : List Nat) (k n : Nat) : Prop :=
  ∀ (T : State) (vm0 : Vm) (k0 : Nat) (locs : List Loc) (cells slots : Nat),
    Stand p l e R (s.setVm vm0) m args below meth c T locs cells slots → T.heap = h → s.Since vm0 k0 → k0 ≤ h.size → (b = true → vm0 = s.vm) →
    CHr Z EL s.vm s.heap vm0 h → Old Z Z.heap.size h → Own Z EL vm0 h W → Fr Z.heap.size locs → cells ≤ k → slots ≤ n →
    ∃ s2 v, Steps p.tables e below (T.setTop (mkF m pc L.toArray st)) s2 ∧ EndQ R Z EL b Q s below s2 v
section Steps
variable {p : Program} {l : Launch} {e : Env} {R : Room} {s : State} {m : MethodId} {args : Array Value} {below : List Frame} {meth : Method} {c : Code} {Z : State} {a0 : Array Value} {EL : List (String × Nat)} {b : Bool} {own nm : String} {bytes : ByteArray} {maxL : Nat} {ret : Option FieldType} {Q : Option Value → Heap → List Nat → Prop}
  {pc : Nat} {L : List Slot} {st : List Value} {h : Heap} {W : List Nat} {k n : Nat}
theorem Cx.z (C : Cx p m meth c s Z a0 EL b own nm bytes maxL ret) {vm0 : Vm} {k0 : Nat} (hS : s.Since vm0 k0) : Z.Warmed39 vm0 := State.Warmed39.trans C.2.2.2.2.2.2.1 hS.1
theorem Cx.o (C : Cx p m meth c s Z a0 EL b own nm bytes maxL ret) {vm0 : Vm} {k0 : Nat} (hS : s.Since vm0 k0) : vm0.findClass own = some m.cls := (hS.1.alike.findClass _ _).trans C.2.2.2.2.2.1
theorem Cx.ew (C : Cx p m meth c s Z a0 EL b own nm bytes maxL ret) : EW Z a0 EL := C.2.2.2.2.2.2.2.1
theorem WP.go {pc' : Nat} {L' : List Slot} {st' : List Value} (q : ∀ {T : State} {vm0 : Vm} {locs : List Loc} {cells slots : Nat}, Stand p l e R (s.setVm vm0) m args below meth c T locs cells slots → ∀ t, Steps p.tables e below (T.setTop (mkF m pc' L'.toArray st')) t → Steps p.tables e below (T.setTop (mkF m pc L.toArray st)) t)
    (hr : WP p l e R s m args below meth c Z EL b Q pc' L' st' h W k n) : WP p l e R s m args below meth c Z EL b Q pc L st h W k n := by
  intro T vm0 k0 locs cells slots X eT hS hk hb hC hO hW hF hc hn
  obtain ⟨s2, v, st, r⟩ := hr T vm0 k0 locs cells slots X eT hS hk hb hC hO hW hF hc hn
  exact ⟨s2, v, q X _ st, r⟩
theorem WP.hop {pc' : Nat} {L' : List Slot} {st' : List Value} (C : Cx p m meth c s Z a0 EL b own nm bytes maxL ret)
    (q : ∀ {T : State} {vm0 : Vm} {locs : List Loc} {cells slots : Nat}, Stand p l e R (s.setVm vm0) m args below meth c T locs cells slots → T.heap = h → Old Z Z.heap.size h → Z.Warmed39 (s.setVm vm0).vm → (s.setVm vm0).vm.findClass own = some m.cls →
      ∃ T', Stand p l e R (s.setVm vm0) m args below meth c T' locs cells slots ∧ T'.heap = h ∧ ∀ t, Steps p.tables e below (T'.setTop (mkF m pc' L'.toArray st')) t → Steps p.tables e below (T.setTop (mkF m pc L.toArray st)) t)
    (hr : WP p l e R s m args below meth c Z EL b Q pc' L' st' h W k n) : WP p l e R s m args below meth c Z EL b Q pc L st h W k n := by
  intro T vm0 k0 locs cells slots X eT hS hk hb hC hO hW hF hc hn
  obtain ⟨T', X', e', q'⟩ := q X eT hO (C.z hS) (C.o hS)
  obtain ⟨s2, v, st, r⟩ := hr T' vm0 k0 locs cells slots X' e' hS hk hb hC hO hW hF hc hn
  exact ⟨s2, v, q' _ st, r⟩
/-- a step that lays new cells and writes none -/
theorem WP.grow {pc' : Nat} {L' : List Slot} {st' : Nat → List Value} {dk dn : Nat} {F : Heap → Nat → Prop} (C : Cx p m meth c s Z a0 EL b own nm bytes maxL ret) (hc0 : k + dk ≤ R.cells) (hn0 : n + dn ≤ R.slots)
    (q : ∀ {T : State} {vm0 : Vm} {locs : List Loc} {cells slots : Nat}, Stand p l e R (s.setVm vm0) m args below meth c T locs cells slots → T.heap = h → Z.Warmed39 (s.setVm vm0).vm → (s.setVm vm0).vm.findClass own = some m.cls → cells + dk ≤ R.cells → slots + dn ≤ R.slots →
      ∃ T' h', Stand p l e R (s.setVm vm0) m args below meth c T' locs (cells + dk) (slots + dn) ∧ T'.heap = h' ∧ Ext h h' ∧ h.size < h'.size ∧ F h' h.size ∧ ∀ t, Steps p.tables e below (T'.setTop (mkF m pc' L'.toArray (st' h.size))) t → Steps p.tables e below (T.setTop (mkF m pc L.toArray st)) t)
    (hr : ∀ h' a, a = h.size → Z.heap.size ≤ a → a < h'.size → Ext h h' → F h' a → WP p l e R s m args below meth c Z EL b Q pc' L' (st' a) h' (a :: W) (k + dk) (n + dn)) : WP p l e R s m args below meth c Z EL b Q pc L st h W k n := by
  intro T vm0 k0 locs cells slots X eT hS hk hb hC hO hW hF hc hn
  obtain ⟨T', h', X', e', E, hl, f, q'⟩ := q X eT (C.z hS) (C.o hS) (by omega) (by omega)
  obtain ⟨s2, v, st, r⟩ := hr h' h.size rfl hO.2.1 hl E f T' vm0 k0 locs _ _ X' e' hS (Nat.le_trans hk E.1) hb (hC.trans (CHr.ext E hC.1)) (hO.ext E) (hW.new hC.1 E hO.2.1 hl) hF (by omega) (by omega)
  exact ⟨s2, v, q' _ st, r⟩
/-- a step that writes one place of a cell of W -/
theorem WP.write {pc' : Nat} {L' : List Slot} {st' : List Value} {a : Nat} {sl : Nat} {v : Value} (C : Cx p m meth c s Z a0 EL b own nm bytes maxL ret) (ha : a ∈ W)
    (q : ∀ {T : State} {vm0 : Vm} {locs : List Loc} {cells slots : Nat}, Stand p l e R (s.setVm vm0) m args below meth c T locs cells slots → T.heap = h → Z.Warmed39 (s.setVm vm0).vm → (s.setVm vm0).vm.findClass own = some m.cls →
      ∃ T' h', Stand p l e R (s.setVm vm0) m args below meth c T' (locs ++ [⟨a, sl⟩]) cells slots ∧ T'.heap = h' ∧ Wr h h' a sl v ∧ ∀ t, Steps p.tables e below (T'.setTop (mkF m pc' L'.toArray st')) t → Steps p.tables e below (T.setTop (mkF m pc L.toArray st)) t)
    (hr : ∀ h', Wr h h' a sl v → Keep h h' [a] → WP p l e R s m args below meth c Z EL b Q pc' L' st' h' W k n) : WP p l e R s m args below meth c Z EL b Q pc L st h W k n := by
  intro T vm0 k0 locs cells slots X eT hS hk hb hC hO hW hF hc hn
  obtain ⟨T', h', X', e', Wr', q'⟩ := q X eT (C.z hS) (C.o hS)
  have A := CHr.wr Wr' (hW a ha).2.2 hC.1
  obtain ⟨s2, v, st, r⟩ := hr h' Wr' (Keep.of_wr Wr') T' vm0 k0 _ _ _ X' e' hS (Nat.le_trans hk A.2.1) hb (hC.trans A) (hO.wr Wr' (hW a ha).1) (hW.r A) (Fr.snoc X' hF (hW a ha).1) hc hn
  exact ⟨s2, v, q' _ st, r⟩
/-- a local that one word may overwrite -/
def okS : Option Slot → Bool
  | some .unset => true
  | some (.val v) => v.category == 1
  | _ => false
theorem stoL {i : Nat} {v : Value} (hok : okS L[i]? = true) (hv : v.category = 1) : storeLocals L.toArray i v = some (L.set i (.val v)).toArray := by
  have e : L.toArray.setIfInBounds i (.val v) = (L.set i (.val v)).toArray := by simp
  cases hq : L[i]? with
  | none => rw [hq] at hok; cases hok
  | some o =>
    rw [hq] at hok
    have h1 : L.toArray[i]? = some o := by simpa using hq
    rw [← e]
    refine XS.store1 h1 ?_ hv
    cases o with
    | unset => exact Or.inl rfl
    | second => cases hok
    | val w => exact Or.inr ⟨w, rfl, by simpa [okS] using hok⟩
theorem getL {i : Nat} {o : Slot} (hl : L[i]? = some o) : L.toArray[i]? = some o := by simpa using hl
theorem iloadN (C : Cx p m meth c s Z a0 EL b own nm bytes maxL ret) {pc' : Nat} {i : Fin 4} {v : Int32} (hd : decode bytes pc = .ok (.iload_n i, 1)) (hp : pc + 1 = pc') (hl : L[i.val]? = some (.val (.int v))) (hr : WP p l e R s m args below meth c Z EL b Q pc' L (.int v :: st) h W k n) : WP p l e R s m args below meth c Z EL b Q pc L (st) h W k n := by
  subst hp; exact hr.go fun X t q => XS.iloadN X.here C.1 rfl (hb C.2.1 hd) (getL hl) q
theorem iload (C : Cx p m meth c s Z a0 EL b own nm bytes maxL ret) {pc' : Nat} {i : Nat} {v : Int32} (hd : decode bytes pc = .ok (.iload i, 2)) (hp : pc + 2 = pc') (hl : L[i]? = some (.val (.int v))) (hr : WP p l e R s m args below meth c Z EL b Q pc' L (.int v :: st) h W k n) : WP p l e R s m args below meth c Z EL b Q pc L (st) h W k n := by
  subst hp; exact hr.go fun X t q => XS.iload X.here C.1 rfl (hb C.2.1 hd) (getL hl) q
theorem aloadN (C : Cx p m meth c s Z a0 EL b own nm bytes maxL ret) {pc' : Nat} {i : Fin 4} {v : Value} (hd : decode bytes pc = .ok (.aload_n i, 1)) (hp : pc + 1 = pc') (hl : L[i.val]? = some (.val v)) (hv : v.isRef = true) (hr : WP p l e R s m args below meth c Z EL b Q pc' L (v :: st) h W k n) : WP p l e R s m args below meth c Z EL b Q pc L (st) h W k n := by
  subst hp; exact hr.go fun X t q => XS.aloadN X.here C.1 rfl (hb C.2.1 hd) (getL hl) hv q
theorem aload (C : Cx p m meth c s Z a0 EL b own nm bytes maxL ret) {pc' : Nat} {i : Nat} {v : Value} (hd : decode bytes pc = .ok (.aload i, 2)) (hp : pc + 2 = pc') (hl : L[i]? = some (.val v)) (hv : v.isRef = true) (hr : WP p l e R s m args below meth c Z EL b Q pc' L (v :: st) h W k n) : WP p l e R s m args below meth c Z EL b Q pc L (st) h W k n := by
  subst hp; exact hr.go fun X t q => XS.aload X.here C.1 rfl (hb C.2.1 hd) (getL hl) hv q
theorem lloadN (C : Cx p m meth c s Z a0 EL b own nm bytes maxL ret) {pc' : Nat} {i : Fin 4} {v : Int64} (hd : decode bytes pc = .ok (.lload_n i, 1)) (hp : pc + 1 = pc') (hl : L[i.val]? = some (.val (.long v))) (hr : WP p l e R s m args below meth c Z EL b Q pc' L (.long v :: st) h W k n) : WP p l e R s m args below meth c Z EL b Q pc L (st) h W k n := by
  subst hp; exact hr.go fun X t q => XT.lloadN X.here C.1 rfl (hb C.2.1 hd) (getL hl) q
theorem lload (C : Cx p m meth c s Z a0 EL b own nm bytes maxL ret) {pc' : Nat} {i : Nat} {v : Int64} (hd : decode bytes pc = .ok (.lload i, 2)) (hp : pc + 2 = pc') (hl : L[i]? = some (.val (.long v))) (hr : WP p l e R s m args below meth c Z EL b Q pc' L (.long v :: st) h W k n) : WP p l e R s m args below meth c Z EL b Q pc L (st) h W k n := by
  subst hp; exact hr.go fun X t q => XT.lload X.here C.1 rfl (hb C.2.1 hd) (getL hl) q
theorem aconstNull (C : Cx p m meth c s Z a0 EL b own nm bytes maxL ret) {pc' : Nat}  (hd : decode bytes pc = .ok (.aconst_null, 1)) (hp : pc + 1 = pc')  (hr : WP p l e R s m args below meth c Z EL b Q pc' L (.null :: st) h W k n) : WP p l e R s m args below meth c Z EL b Q pc L (st) h W k n := by
  subst hp; exact hr.go fun X t q => XS.aconstNull X.here C.1 rfl (hb C.2.1 hd)  q
theorem iconst (C : Cx p m meth c s Z a0 EL b own nm bytes maxL ret) {pc' : Nat} {i : Int} (v : Int32) (hd : decode bytes pc = .ok (.iconst i, 1)) (hp : pc + 1 = pc') (hv : Int32.ofInt i = v) (hr : WP p l e R s m args below meth c Z EL b Q pc' L (.int v :: st) h W k n) : WP p l e R s m args below meth c Z EL b Q pc L st h W k n := by
  subst hp hv; exact hr.go fun X t q => XS.iconst X.here C.1 rfl (hb C.2.1 hd) q
theorem bipush (C : Cx p m meth c s Z a0 EL b own nm bytes maxL ret) {pc' : Nat} {i : Int} (v : Int32) (hd : decode bytes pc = .ok (.bipush i, 2)) (hp : pc + 2 = pc') (hv : (Int8.ofInt i).toInt32 = v) (hr : WP p l e R s m args below meth c Z EL b Q pc' L (.int v :: st) h W k n) : WP p l e R s m args below meth c Z EL b Q pc L st h W k n := by
  subst hp hv; exact hr.go fun X t q => XS.bipush X.here C.1 rfl (hb C.2.1 hd) q
theorem sipush (C : Cx p m meth c s Z a0 EL b own nm bytes maxL ret) {pc' : Nat} {i : Int} (v : Int32) (hd : decode bytes pc = .ok (.sipush i, 3)) (hp : pc + 3 = pc') (hv : (Int16.ofInt i).toInt32 = v) (hr : WP p l e R s m args below meth c Z EL b Q pc' L (.int v :: st) h W k n) : WP p l e R s m args below meth c Z EL b Q pc L st h W k n := by
  subst hp hv; exact hr.go fun X t q => XS.sipush X.here C.1 rfl (hb C.2.1 hd) q
theorem lconst (C : Cx p m meth c s Z a0 EL b own nm bytes maxL ret) {pc' : Nat} {i : Fin 2} (v : Int64) (hd : decode bytes pc = .ok (.lconst i, 1)) (hp : pc + 1 = pc') (hv : Int64.ofNat i = v) (hr : WP p l e R s m args below meth c Z EL b Q pc' L (.long v :: st) h W k n) : WP p l e R s m args below meth c Z EL b Q pc L st h W k n := by
  subst hp hv; exact hr.go fun X t q => XT.lconst X.here C.1 rfl (hb C.2.1 hd) q
theorem iadd (C : Cx p m meth c s Z a0 EL b own nm bytes maxL ret) {pc' : Nat} {x y : Int32} (hd : decode bytes pc = .ok (.iadd, 1)) (hp : pc + 1 = pc')  (hr : WP p l e R s m args below meth c Z EL b Q pc' L (.int (x + y) :: st) h W k n) : WP p l e R s m args below meth c Z EL b Q pc L (.int y :: .int x :: st) h W k n := by
  subst hp; exact hr.go fun X t q => XS.iadd X.here C.1 rfl (hb C.2.1 hd) rfl q
theorem isub (C : Cx p m meth c s Z a0 EL b own nm bytes maxL ret) {pc' : Nat} {x y : Int32} (hd : decode bytes pc = .ok (.isub, 1)) (hp : pc + 1 = pc')  (hr : WP p l e R s m args below meth c Z EL b Q pc' L (.int (x - y) :: st) h W k n) : WP p l e R s m args below meth c Z EL b Q pc L (.int y :: .int x :: st) h W k n := by
  subst hp; exact hr.go fun X t q => XS.isub X.here C.1 rfl (hb C.2.1 hd) rfl q
theorem iand (C : Cx p m meth c s Z a0 EL b own nm bytes maxL ret) {pc' : Nat} {x y : Int32} (hd : decode bytes pc = .ok (.iand, 1)) (hp : pc + 1 = pc')  (hr : WP p l e R s m args below meth c Z EL b Q pc' L (.int (x &&& y) :: st) h W k n) : WP p l e R s m args below meth c Z EL b Q pc L (.int y :: .int x :: st) h W k n := by
  subst hp; exact hr.go fun X t q => XS.iand X.here C.1 rfl (hb C.2.1 hd) rfl q
theorem imul (C : Cx p m meth c s Z a0 EL b own nm bytes maxL ret) {pc' : Nat} {x y : Int32} (hd : decode bytes pc = .ok (.imul, 1)) (hp : pc + 1 = pc')  (hr : WP p l e R s m args below meth c Z EL b Q pc' L (.int (x * y) :: st) h W k n) : WP p l e R s m args below meth c Z EL b Q pc L (.int y :: .int x :: st) h W k n := by
  subst hp; exact hr.go fun X t q => XS.imul X.here C.1 rfl (hb C.2.1 hd) rfl q
theorem ior (C : Cx p m meth c s Z a0 EL b own nm bytes maxL ret) {pc' : Nat} {x y : Int32} (hd : decode bytes pc = .ok (.ior, 1)) (hp : pc + 1 = pc')  (hr : WP p l e R s m args below meth c Z EL b Q pc' L (.int (x ||| y) :: st) h W k n) : WP p l e R s m args below meth c Z EL b Q pc L (.int y :: .int x :: st) h W k n := by
  subst hp; exact hr.go fun X t q => XT.ior X.here C.1 rfl (hb C.2.1 hd) rfl q
theorem ixor (C : Cx p m meth c s Z a0 EL b own nm bytes maxL ret) {pc' : Nat} {x y : Int32} (hd : decode bytes pc = .ok (.ixor, 1)) (hp : pc + 1 = pc')  (hr : WP p l e R s m args below meth c Z EL b Q pc' L (.int (x ^^^ y) :: st) h W k n) : WP p l e R s m args below meth c Z EL b Q pc L (.int y :: .int x :: st) h W k n := by
  subst hp; exact hr.go fun X t q => XT.ixor X.here C.1 rfl (hb C.2.1 hd) rfl q
theorem ishl (C : Cx p m meth c s Z a0 EL b own nm bytes maxL ret) {pc' : Nat} {x y : Int32} (hd : decode bytes pc = .ok (.ishl, 1)) (hp : pc + 1 = pc')  (hr : WP p l e R s m args below meth c Z EL b Q pc' L (.int (x <<< (y &&& 31)) :: st) h W k n) : WP p l e R s m args below meth c Z EL b Q pc L (.int y :: .int x :: st) h W k n := by
  subst hp; exact hr.go fun X t q => XT.ishl X.here C.1 rfl (hb C.2.1 hd) rfl q
theorem ishr (C : Cx p m meth c s Z a0 EL b own nm bytes maxL ret) {pc' : Nat} {x y : Int32} (hd : decode bytes pc = .ok (.ishr, 1)) (hp : pc + 1 = pc')  (hr : WP p l e R s m args below meth c Z EL b Q pc' L (.int (x >>> (y &&& 31)) :: st) h W k n) : WP p l e R s m args below meth c Z EL b Q pc L (.int y :: .int x :: st) h W k n := by
  subst hp; exact hr.go fun X t q => XT.ishr X.here C.1 rfl (hb C.2.1 hd) rfl q
theorem iushr (C : Cx p m meth c s Z a0 EL b own nm bytes maxL ret) {pc' : Nat} {x y : Int32} (hd : decode bytes pc = .ok (.iushr, 1)) (hp : pc + 1 = pc')  (hr : WP p l e R s m args below meth c Z EL b Q pc' L (.int ((x.toUInt32 >>> (y &&& 31).toUInt32).toInt32) :: st) h W k n) : WP p l e R s m args below meth c Z EL b Q pc L (.int y :: .int x :: st) h W k n := by
  subst hp; exact hr.go fun X t q => XT.iushr X.here C.1 rfl (hb C.2.1 hd) rfl q
theorem irem (C : Cx p m meth c s Z a0 EL b own nm bytes maxL ret) {pc' : Nat} {x y : Int32} (hd : decode bytes pc = .ok (.irem, 1)) (hp : pc + 1 = pc') (hy : y ≠ 0) (hr : WP p l e R s m args below meth c Z EL b Q pc' L (.int (x % y) :: st) h W k n) : WP p l e R s m args below meth c Z EL b Q pc L (.int y :: .int x :: st) h W k n := by
  subst hp; exact hr.go fun X t q => iremM X C.1 rfl (hb C.2.1 hd) rfl hy q
theorem ineg (C : Cx p m meth c s Z a0 EL b own nm bytes maxL ret) {pc' : Nat} {x : Int32} (hd : decode bytes pc = .ok (.ineg, 1)) (hp : pc + 1 = pc')  (hr : WP p l e R s m args below meth c Z EL b Q pc' L (.int (-x) :: st) h W k n) : WP p l e R s m args below meth c Z EL b Q pc L (.int x :: st) h W k n := by
  subst hp; exact hr.go fun X t q => XS.ineg X.here C.1 rfl (hb C.2.1 hd) rfl q
theorem i2c (C : Cx p m meth c s Z a0 EL b own nm bytes maxL ret) {pc' : Nat} {x : Int32} (hd : decode bytes pc = .ok (.i2c, 1)) (hp : pc + 1 = pc')  (hr : WP p l e R s m args below meth c Z EL b Q pc' L (.int (nar .char x) :: st) h W k n) : WP p l e R s m args below meth c Z EL b Q pc L (.int x :: st) h W k n := by
  subst hp; exact hr.go fun X t q => XT.i2c X.here C.1 rfl (hb C.2.1 hd) rfl q
theorem i2b (C : Cx p m meth c s Z a0 EL b own nm bytes maxL ret) {pc' : Nat} {x : Int32} (hd : decode bytes pc = .ok (.i2b, 1)) (hp : pc + 1 = pc')  (hr : WP p l e R s m args below meth c Z EL b Q pc' L (.int (nar .byte x) :: st) h W k n) : WP p l e R s m args below meth c Z EL b Q pc L (.int x :: st) h W k n := by
  subst hp; exact hr.go fun X t q => XT.i2b X.here C.1 rfl (hb C.2.1 hd) rfl q
theorem i2l (C : Cx p m meth c s Z a0 EL b own nm bytes maxL ret) {pc' : Nat} {x : Int32} (hd : decode bytes pc = .ok (.i2l, 1)) (hp : pc + 1 = pc')  (hr : WP p l e R s m args below meth c Z EL b Q pc' L (.long x.toInt64 :: st) h W k n) : WP p l e R s m args below meth c Z EL b Q pc L (.int x :: st) h W k n := by
  subst hp; exact hr.go fun X t q => XT.i2l X.here C.1 rfl (hb C.2.1 hd) rfl q
theorem l2i (C : Cx p m meth c s Z a0 EL b own nm bytes maxL ret) {pc' : Nat} {x : Int64} (hd : decode bytes pc = .ok (.l2i, 1)) (hp : pc + 1 = pc')  (hr : WP p l e R s m args below meth c Z EL b Q pc' L (.int x.toInt32 :: st) h W k n) : WP p l e R s m args below meth c Z EL b Q pc L (.long x :: st) h W k n := by
  subst hp; exact hr.go fun X t q => XT.l2i X.here C.1 rfl (hb C.2.1 hd) rfl q
theorem land (C : Cx p m meth c s Z a0 EL b own nm bytes maxL ret) {pc' : Nat} {x y : Int64} (hd : decode bytes pc = .ok (.land, 1)) (hp : pc + 1 = pc')  (hr : WP p l e R s m args below meth c Z EL b Q pc' L (.long (x &&& y) :: st) h W k n) : WP p l e R s m args below meth c Z EL b Q pc L (.long y :: .long x :: st) h W k n := by
  subst hp; exact hr.go fun X t q => XT.land X.here C.1 rfl (hb C.2.1 hd) rfl q
theorem lushr (C : Cx p m meth c s Z a0 EL b own nm bytes maxL ret) {pc' : Nat} {x : Int64} {y : Int32} (hd : decode bytes pc = .ok (.lushr, 1)) (hp : pc + 1 = pc')  (hr : WP p l e R s m args below meth c Z EL b Q pc' L (.long (XT.ushrL x y) :: st) h W k n) : WP p l e R s m args below meth c Z EL b Q pc L (.int y :: .long x :: st) h W k n := by
  subst hp; exact hr.go fun X t q => XT.lushr X.here C.1 rfl (hb C.2.1 hd) rfl q
theorem dup (C : Cx p m meth c s Z a0 EL b own nm bytes maxL ret) {pc' : Nat} {x : Value} (hd : decode bytes pc = .ok (.dup, 1)) (hp : pc + 1 = pc') (hc : x.category = 1) (hr : WP p l e R s m args below meth c Z EL b Q pc' L (x :: x :: st) h W k n) : WP p l e R s m args below meth c Z EL b Q pc L (x :: st) h W k n := by
  subst hp; exact hr.go fun X t q => XS.dup X.here C.1 rfl (hb C.2.1 hd) rfl hc q
theorem pop (C : Cx p m meth c s Z a0 EL b own nm bytes maxL ret) {pc' : Nat} {x : Value} (hd : decode bytes pc = .ok (.pop, 1)) (hp : pc + 1 = pc') (hc : x.category = 1) (hr : WP p l e R s m args below meth c Z EL b Q pc' L (st) h W k n) : WP p l e R s m args below meth c Z EL b Q pc L (x :: st) h W k n := by
  subst hp; exact hr.go fun X t q => XT.pop X.here C.1 rfl (hb C.2.1 hd) rfl hc q
theorem dupX1 (C : Cx p m meth c s Z a0 EL b own nm bytes maxL ret) {pc' : Nat} {x y : Value} (hd : decode bytes pc = .ok (.dup_x1, 1)) (hp : pc + 1 = pc') (hc : x.category = 1) (hc' : y.category = 1) (hr : WP p l e R s m args below meth c Z EL b Q pc' L (x :: y :: x :: st) h W k n) : WP p l e R s m args below meth c Z EL b Q pc L (x :: y :: st) h W k n := by
  subst hp; exact hr.go fun X t q => XT.dupX1 X.here C.1 rfl (hb C.2.1 hd) rfl hc hc' q
theorem dup2 (C : Cx p m meth c s Z a0 EL b own nm bytes maxL ret) {pc' : Nat} {x y : Value} (hd : decode bytes pc = .ok (.dup2, 1)) (hp : pc + 1 = pc') (hc : x.category = 1) (hc' : y.category = 1) (hr : WP p l e R s m args below meth c Z EL b Q pc' L (x :: y :: x :: y :: st) h W k n) : WP p l e R s m args below meth c Z EL b Q pc L (x :: y :: st) h W k n := by
  subst hp; exact hr.go fun X t q => XT.dup2 X.here C.1 rfl (hb C.2.1 hd) rfl hc hc' q
theorem istoreN (C : Cx p m meth c s Z a0 EL b own nm bytes maxL ret) {pc' : Nat} {i : Fin 4} {x : Int32} (hd : decode bytes pc = .ok (.istore_n i, 1)) (hp : pc + 1 = pc') (hok : okS L[i.val]? = true) (hr : WP p l e R s m args below meth c Z EL b Q pc' (L.set i.val (.val (.int x))) (st) h W k n) : WP p l e R s m args below meth c Z EL b Q pc L (.int x :: st) h W k n := by
  subst hp; exact hr.go fun X t q => XS.istoreN X.here C.1 rfl (hb C.2.1 hd) rfl (stoL hok rfl) q
theorem istoreNG (C : Cx p m meth c s Z a0 EL b own nm bytes maxL ret) {pc' : Nat} {i : Fin 4} {x : Int32} (hd : decode bytes pc = .ok (.istore_n i, 1)) (hp : pc + 1 = pc') (hok : okS L[i.val]? = true) (hr : ∀ y : Int32, y = x → WP p l e R s m args below meth c Z EL b Q pc' (L.set i.val (.val (.int y))) st h W k n) : WP p l e R s m args below meth c Z EL b Q pc L (.int x :: st) h W k n := istoreN C hd hp hok (hr x rfl)
theorem istore (C : Cx p m meth c s Z a0 EL b own nm bytes maxL ret) {pc' : Nat} {i : Nat} {x : Int32} (hd : decode bytes pc = .ok (.istore i, 2)) (hp : pc + 2 = pc') (hok : okS L[i]? = true) (hr : WP p l e R s m args below meth c Z EL b Q pc' (L.set i (.val (.int x))) (st) h W k n) : WP p l e R s m args below meth c Z EL b Q pc L (.int x :: st) h W k n := by
  subst hp; exact hr.go fun X t q => XS.istore X.here C.1 rfl (hb C.2.1 hd) rfl (stoL hok rfl) q
theorem istoreG (C : Cx p m meth c s Z a0 EL b own nm bytes maxL ret) {pc' : Nat} {i : Nat} {x : Int32} (hd : decode bytes pc = .ok (.istore i, 2)) (hp : pc + 2 = pc') (hok : okS L[i]? = true) (hr : ∀ y : Int32, y = x → WP p l e R s m args below meth c Z EL b Q pc' (L.set i (.val (.int y))) st h W k n) : WP p l e R s m args below meth c Z EL b Q pc L (.int x :: st) h W k n := istore C hd hp hok (hr x rfl)
theorem astoreN (C : Cx p m meth c s Z a0 EL b own nm bytes maxL ret) {pc' : Nat} {i : Fin 4} {x : Value} (hd : decode bytes pc = .ok (.astore_n i, 1)) (hp : pc + 1 = pc') (hv : x.isRef = true) (hok : okS L[i.val]? = true) (hr : WP p l e R s m args below meth c Z EL b Q pc' (L.set i.val (.val x)) (st) h W k n) : WP p l e R s m args below meth c Z EL b Q pc L (x :: st) h W k n := by
  subst hp; exact hr.go fun X t q => XS.astoreN X.here C.1 rfl (hb C.2.1 hd) rfl hv (stoL hok (XT.cat1 hv)) q
theorem astore (C : Cx p m meth c s Z a0 EL b own nm bytes maxL ret) {pc' : Nat} {i : Nat} {x : Value} (hd : decode bytes pc = .ok (.astore i, 2)) (hp : pc + 2 = pc') (hv : x.isRef = true) (hok : okS L[i]? = true) (hr : WP p l e R s m args below meth c Z EL b Q pc' (L.set i (.val x)) (st) h W k n) : WP p l e R s m args below meth c Z EL b Q pc L (x :: st) h W k n := by
  subst hp; exact hr.go fun X t q => XS.astore X.here C.1 rfl (hb C.2.1 hd) rfl hv (stoL hok (XT.cat1 hv)) q
theorem iinc (C : Cx p m meth c s Z a0 EL b own nm bytes maxL ret) {pc' : Nat} {i : Nat} {d : Int} {x : Int32} (v : Int32) (hd : decode bytes pc = .ok (.iinc i d, 3)) (hp : pc + 3 = pc') (hv : Int32.ofInt d = v) (hl : L[i]? = some (.val (.int x))) (hr : WP p l e R s m args below meth c Z EL b Q pc' (L.set i (.val (.int (x + v)))) st h W k n) : WP p l e R s m args below meth c Z EL b Q pc L st h W k n := by
  subst hp hv; exact hr.go fun X t q => XS.iinc X.here C.1 rfl (hb C.2.1 hd) (getL hl) (stoL (by rw [hl]; rfl) rfl) q
theorem goto (C : Cx p m meth c s Z a0 EL b own nm bytes maxL ret) (pc' : Nat) {o : Int} (hd : decode bytes pc = .ok (.goto o, 3)) (ho : 0 ≤ (pc : Int) + o) (hp : ((pc : Int) + o).toNat = pc') (hr : WP p l e R s m args below meth c Z EL b Q pc' L st h W k n) : WP p l e R s m args below meth c Z EL b Q pc L st h W k n := by
  exact hr.go fun X t q => XS.goto X.here C.1 rfl (pc0 := pc) (pc' := pc') rfl (hb C.2.1 hd) ho hp q
theorem ifCY (C : Cx p m meth c s Z a0 EL b own nm bytes maxL ret) (pc' : Nat) {cd : ClassFile.Cond} {x : Int32} {o : Int} (hd : decode bytes pc = .ok (.ifCond cd o, 3))  (hc : ifCond.holds cd x = true) (ho : 0 ≤ (pc : Int) + o) (hp : ((pc : Int) + o).toNat = pc') (hr : WP p l e R s m args below meth c Z EL b Q pc' L st h W k n) : WP p l e R s m args below meth c Z EL b Q pc L (.int x :: st) h W k n := by
  exact hr.go fun X t q => XS.ifYes X.here C.1 rfl (pc0 := pc) (pc' := pc') rfl (hb C.2.1 hd) rfl hc ho hp q
theorem ifCN (C : Cx p m meth c s Z a0 EL b own nm bytes maxL ret) {pc' : Nat} {cd : ClassFile.Cond} {x : Int32} {o : Int} (hd : decode bytes pc = .ok (.ifCond cd o, 3)) (hp : pc + 3 = pc')  (hc : ifCond.holds cd x = false) (hr : WP p l e R s m args below meth c Z EL b Q pc' L st h W k n) : WP p l e R s m args below meth c Z EL b Q pc L (.int x :: st) h W k n := by
  subst hp; exact hr.go fun X t q => XS.ifNo X.here C.1 rfl (hb C.2.1 hd) rfl hc q
theorem ifC (C : Cx p m meth c s Z a0 EL b own nm bytes maxL ret) (pc1 pc2 : Nat) {cd : ClassFile.Cond} {x : Int32} {o : Int} {P : Prop} [Decidable P] (hd : decode bytes pc = .ok (.ifCond cd o, 3))  (hc : ifCond.holds cd x = decide P) (ho : 0 ≤ (pc : Int) + o) (hp : ((pc : Int) + o).toNat = pc1) (hp2 : pc + 3 = pc2) (h1 : P → WP p l e R s m args below meth c Z EL b Q pc1 L st h W k n) (h2 : ¬ P → WP p l e R s m args below meth c Z EL b Q pc2 L st h W k n) : WP p l e R s m args below meth c Z EL b Q pc L (.int x :: st) h W k n := by
  by_cases q : P
  · exact ifCY C pc1 hd (by rw [hc]; exact decide_eq_true q) ho hp (h1 q)
  · exact ifCN C hd hp2 (by rw [hc]; exact decide_eq_false q) (h2 q)
theorem icmpY (C : Cx p m meth c s Z a0 EL b own nm bytes maxL ret) (pc' : Nat) {cd : ClassFile.Cond} {x y : Int32} {o : Int} (hd : decode bytes pc = .ok (.if_icmp cd o, 3))  (hc : if_icmp.holds cd x y = true) (ho : 0 ≤ (pc : Int) + o) (hp : ((pc : Int) + o).toNat = pc') (hr : WP p l e R s m args below meth c Z EL b Q pc' L st h W k n) : WP p l e R s m args below meth c Z EL b Q pc L (.int y :: .int x :: st) h W k n := by
  exact hr.go fun X t q => XS.icmpYes X.here C.1 rfl (pc0 := pc) (pc' := pc') rfl (hb C.2.1 hd) rfl hc ho hp q
theorem icmpN (C : Cx p m meth c s Z a0 EL b own nm bytes maxL ret) {pc' : Nat} {cd : ClassFile.Cond} {x y : Int32} {o : Int} (hd : decode bytes pc = .ok (.if_icmp cd o, 3)) (hp : pc + 3 = pc')  (hc : if_icmp.holds cd x y = false) (hr : WP p l e R s m args below meth c Z EL b Q pc' L st h W k n) : WP p l e R s m args below meth c Z EL b Q pc L (.int y :: .int x :: st) h W k n := by
  subst hp; exact hr.go fun X t q => XS.icmpNo X.here C.1 rfl (hb C.2.1 hd) rfl hc q
theorem icmp (C : Cx p m meth c s Z a0 EL b own nm bytes maxL ret) (pc1 pc2 : Nat) {cd : ClassFile.Cond} {x y : Int32} {o : Int} {P : Prop} [Decidable P] (hd : decode bytes pc = .ok (.if_icmp cd o, 3))  (hc : if_icmp.holds cd x y = decide P) (ho : 0 ≤ (pc : Int) + o) (hp : ((pc : Int) + o).toNat = pc1) (hp2 : pc + 3 = pc2) (h1 : P → WP p l e R s m args below meth c Z EL b Q pc1 L st h W k n) (h2 : ¬ P → WP p l e R s m args below meth c Z EL b Q pc2 L st h W k n) : WP p l e R s m args below meth c Z EL b Q pc L (.int y :: .int x :: st) h W k n := by
  by_cases q : P
  · exact icmpY C pc1 hd (by rw [hc]; exact decide_eq_true q) ho hp (h1 q)
  · exact icmpN C hd hp2 (by rw [hc]; exact decide_eq_false q) (h2 q)
theorem acmpY (C : Cx p m meth c s Z a0 EL b own nm bytes maxL ret) (pc' : Nat) {cd : ClassFile.ACond} {x y : Value} {o : Int} (hd : decode bytes pc = .ok (.if_acmp cd o, 3)) (hx : x.isRef = true) (hy : y.isRef = true) (hc : XT.acmp cd x y = true) (ho : 0 ≤ (pc : Int) + o) (hp : ((pc : Int) + o).toNat = pc') (hr : WP p l e R s m args below meth c Z EL b Q pc' L st h W k n) : WP p l e R s m args below meth c Z EL b Q pc L (y :: x :: st) h W k n := by
  exact hr.go fun X t q => XT.acmpYes X.here C.1 rfl (pc0 := pc) (pc' := pc') rfl (hb C.2.1 hd) rfl hx hy hc ho hp q
theorem acmpN (C : Cx p m meth c s Z a0 EL b own nm bytes maxL ret) {pc' : Nat} {cd : ClassFile.ACond} {x y : Value} {o : Int} (hd : decode bytes pc = .ok (.if_acmp cd o, 3)) (hp : pc + 3 = pc') (hx : x.isRef = true) (hy : y.isRef = true) (hc : XT.acmp cd x y = false) (hr : WP p l e R s m args below meth c Z EL b Q pc' L st h W k n) : WP p l e R s m args below meth c Z EL b Q pc L (y :: x :: st) h W k n := by
  subst hp; exact hr.go fun X t q => XT.acmpNo X.here C.1 rfl (hb C.2.1 hd) rfl hx hy hc q
theorem acmp (C : Cx p m meth c s Z a0 EL b own nm bytes maxL ret) (pc1 pc2 : Nat) {cd : ClassFile.ACond} {x y : Value} {o : Int} {P : Prop} [Decidable P] (hd : decode bytes pc = .ok (.if_acmp cd o, 3)) (hx : x.isRef = true) (hy : y.isRef = true) (hc : XT.acmp cd x y = decide P) (ho : 0 ≤ (pc : Int) + o) (hp : ((pc : Int) + o).toNat = pc1) (hp2 : pc + 3 = pc2) (h1 : P → WP p l e R s m args below meth c Z EL b Q pc1 L st h W k n) (h2 : ¬ P → WP p l e R s m args below meth c Z EL b Q pc2 L st h W k n) : WP p l e R s m args below meth c Z EL b Q pc L (y :: x :: st) h W k n := by
  by_cases q : P
  · exact acmpY C pc1 hd hx hy (by rw [hc]; exact decide_eq_true q) ho hp (h1 q)
  · exact acmpN C hd hp2 hx hy (by rw [hc]; exact decide_eq_false q) (h2 q)
theorem ifnullY (C : Cx p m meth c s Z a0 EL b own nm bytes maxL ret) (pc' : Nat) {o : Int} (hd : decode bytes pc = .ok (.ifnull o, 3)) (ho : 0 ≤ (pc : Int) + o) (hp : ((pc : Int) + o).toNat = pc') (hr : WP p l e R s m args below meth c Z EL b Q pc' L st h W k n) : WP p l e R s m args below meth c Z EL b Q pc L (.null :: st) h W k n := by
  exact hr.go fun X t q => XS.ifnullYes X.here C.1 rfl (pc0 := pc) (pc' := pc') rfl (hb C.2.1 hd) rfl ho hp q
theorem ifnullN (C : Cx p m meth c s Z a0 EL b own nm bytes maxL ret) {pc' : Nat} {o : Int} {a : Nat} (hd : decode bytes pc = .ok (.ifnull o, 3)) (hp : pc + 3 = pc') (hr : WP p l e R s m args below meth c Z EL b Q pc' L st h W k n) : WP p l e R s m args below meth c Z EL b Q pc L (.ref a :: st) h W k n := by
  subst hp; exact hr.go fun X t q => XS.ifnullNo X.here C.1 rfl (hb C.2.1 hd) rfl q
theorem ifnonnullY (C : Cx p m meth c s Z a0 EL b own nm bytes maxL ret) (pc' : Nat) {o : Int} {a : Nat} (hd : decode bytes pc = .ok (.ifnonnull o, 3)) (ho : 0 ≤ (pc : Int) + o) (hp : ((pc : Int) + o).toNat = pc') (hr : WP p l e R s m args below meth c Z EL b Q pc' L st h W k n) : WP p l e R s m args below meth c Z EL b Q pc L (.ref a :: st) h W k n := by
  exact hr.go fun X t q => XT.ifnonnullYes X.here C.1 rfl (pc0 := pc) (pc' := pc') rfl (hb C.2.1 hd) rfl ho hp q
theorem ifnonnullN (C : Cx p m meth c s Z a0 EL b own nm bytes maxL ret) {pc' : Nat} {o : Int} (hd : decode bytes pc = .ok (.ifnonnull o, 3)) (hp : pc + 3 = pc') (hr : WP p l e R s m args below meth c Z EL b Q pc' L st h W k n) : WP p l e R s m args below meth c Z EL b Q pc L (.null :: st) h W k n := by
  subst hp; exact hr.go fun X t q => XT.ifnonnullNo X.here C.1 rfl (hb C.2.1 hd) rfl q
theorem ldcI (C : Cx p m meth c s Z a0 EL b own nm bytes maxL ret) {pc' : Nat} {index : Nat} {v : Int32} (w : (Cond.constant own index v).before a0 Z = true) (hd : decode bytes pc = .ok (.ldc index, 2)) (hp : pc + 2 = pc') (hr : WP p l e R s m args below meth c Z EL b Q pc' L (.int v :: st) h W k n) : WP p l e R s m args below meth c Z EL b Q pc L st h W k n := by
  subst hp; exact hr.hop C fun X eT _ hZ ho => ⟨_, X, eT, fun t q => X.ldcI C.1 ho (mv hZ w) rfl (hb C.2.1 hd) q⟩
/-! fields, statics, casts -/
theorem getF (C : Cx p m meth c s Z a0 EL b own nm bytes maxL ret) {pc' : Nat} {f O d : String} {index : Nat} {a : Nat} {v : Value} (w : (Cond.fieldLink own index O f d).before a0 Z = true) (F : Fld Z h a O f d v) (hd : decode bytes pc = .ok (.getfield index, 3)) (hp : pc + 3 = pc')
    (hr : WP p l e R s m args below meth c Z EL b Q pc' L (v :: st) h W k n) : WP p l e R s m args below meth c Z EL b Q pc L (.ref a :: st) h W k n := by
  subst hp
  exact hr.hop C fun X eT _ hZ ho => RoadKit.getF X C.1 hZ ho (host := "") (Or.inl w) Via.refl eT F (g := mkF m pc L.toArray (.ref a :: st)) rfl rfl (hb C.2.1 hd)
theorem getFV (C : Cx p m meth c s Z a0 EL b own nm bytes maxL ret) {pc' : Nat} {f R0 O d : String} {index : Nat} {a : Nat} {v : Value} (w : (Cond.fieldLink own index R0 f d).before a0 Z = true) (via : Via Z R0 O f d) (F : Fld Z h a O f d v) (hd : decode bytes pc = .ok (.getfield index, 3)) (hp : pc + 3 = pc')
    (hr : WP p l e R s m args below meth c Z EL b Q pc' L (v :: st) h W k n) : WP p l e R s m args below meth c Z EL b Q pc L (.ref a :: st) h W k n := by
  subst hp
  exact hr.hop C fun X eT _ hZ ho => RoadKit.getF X C.1 hZ ho (host := "") (Or.inl w) via eT F (g := mkF m pc L.toArray (.ref a :: st)) rfl rfl (hb C.2.1 hd)
theorem getS (C : Cx p m meth c s Z a0 EL b own nm bytes maxL ret) {pc' : Nat} {f O d : String} {index : Nat} {v : Value} (w : (Cond.fieldLink own index O f d).before a0 Z = true) (F : Sta Z Z.heap O f d v) (hd : decode bytes pc = .ok (.getstatic index, 3)) (hp : pc + 3 = pc')
    (hr : WP p l e R s m args below meth c Z EL b Q pc' L (v :: st) h W k n) : WP p l e R s m args below meth c Z EL b Q pc L st h W k n := by
  subst hp
  exact hr.hop C fun X eT hO hZ ho => RoadKit.getS X C.1 hZ (host := "") ho w Via.refl eT (F.ext hO.2) (g := mkF m pc L.toArray st) rfl (hb C.2.1 hd)
theorem castY (C : Cx p m meth c s Z a0 EL b own nm bytes maxL ret) {pc' : Nat} {K : String} {index : Nat} {a : Nat} (w : (Cond.classLink own index K).before a0 Z = true) (F : Ins Z h a K true) (hd : decode bytes pc = .ok (.checkcast index, 3)) (hp : pc + 3 = pc')
    (hr : WP p l e R s m args below meth c Z EL b Q pc' L (.ref a :: st) h W k n) : WP p l e R s m args below meth c Z EL b Q pc L (.ref a :: st) h W k n := by
  subst hp
  exact hr.hop C fun X eT _ hZ ho => RoadKit.castY X C.1 hZ ho w eT F (g := mkF m pc L.toArray (.ref a :: st)) rfl rfl (hb C.2.1 hd)
theorem instY (C : Cx p m meth c s Z a0 EL b own nm bytes maxL ret) {pc' : Nat} {K : String} {index : Nat} {a : Nat} (w : (Cond.classLink own index K).before a0 Z = true) (F : Ins Z h a K true) (hd : decode bytes pc = .ok (.instanceof index, 3)) (hp : pc + 3 = pc')
    (hr : WP p l e R s m args below meth c Z EL b Q pc' L (.int 1 :: st) h W k n) : WP p l e R s m args below meth c Z EL b Q pc L (.ref a :: st) h W k n := by
  subst hp
  exact hr.hop C fun X eT _ hZ ho => RoadKit.instY X C.1 hZ ho w eT F (g := mkF m pc L.toArray (.ref a :: st)) rfl rfl (hb C.2.1 hd)
theorem initO (C : Cx p m meth c s Z a0 EL b own nm bytes maxL ret) {pc' : Nat} {index : Nat} {a : Nat} (w1 : (Cond.methodLink own index Lib.objectInit).before a0 Z = true) (w2 : (Cond.instanceMethod Lib.objectInit).before a0 Z = true) (w3 : (Cond.code Lib.objectInit ⟨#[0xb1]⟩ 1 none).before a0 Z = true)
    (hd : decode bytes pc = .ok (.invokespecial index, 3)) (hp : pc + 3 = pc') (hsz : L.length = maxL) (hf : 1 ≤ R.frames) (hl : (st.map fun v => v.category).sum + 12 ≤ R.locals)
    (hr : WP p l e R s m args below meth c Z EL b Q pc' L st h W k n) : WP p l e R s m args below meth c Z EL b Q pc L (.ref a :: st) h W k n := by
  subst hp
  exact hr.hop C fun X eT _ hZ ho => RoadKit.initO X C.1 hZ ho w1 w2 w3 eT (g := mkF m pc L.toArray (.ref a :: st)) rfl (by rw [C.2.2.1, ← hsz]; simp) rfl (hb C.2.1 hd) hf (W := (st.map fun v => v.category).sum) (by show 2 * 0 + _ ≤ _; omega) hl
/-! new -/
theorem newO (C : Cx p m meth c s Z a0 EL b own nm bytes maxL ret) {pc' : Nat} {K : String} {index sz : Nat} (w : (Cond.classLink own index K).before a0 Z = true) (wi : (Cond.instantiable K sz).before a0 Z = true) (wz : (Cond.initialized K).before a0 Z = true) (hd : decode bytes pc = .ok (.new index, 3)) (hp : pc + 3 = pc') (hc : k + 1 ≤ R.cells) (hn : n + sz ≤ R.slots)
    (hr : ∀ h' a, a = h.size → Z.heap.size ≤ a → a < h'.size → Ext h h' → (Exa Z h' a K ∧ ∀ {O f d : String} {ty : FieldType}, Laid Z a0 K O f d → parseFieldDescriptor d = some ty → Fld Z h' a O f d (defaultValue ty)) → WP p l e R s m args below meth c Z EL b Q pc' L (.ref a :: st) h' (a :: W) (k + 1) (n + sz)) :
    WP p l e R s m args below meth c Z EL b Q pc L st h W k n := by
  subst hp
  refine WP.grow (F := fun h' a => Exa Z h' a K ∧ ∀ {O f d : String} {ty : FieldType}, Laid Z a0 K O f d → parseFieldDescriptor d = some ty → Fld Z h' a O f d (defaultValue ty)) (st' := fun a => .ref a :: st) C hc hn (fun X eT hZ ho h1 h2 => ?_) hr
  obtain ⟨T', h', X', e', E, A, D, -, q⟩ := RoadKit.newO X C.1 hZ ho w wi wz eT (g := mkF m pc L.toArray st) rfl (hb C.2.1 hd) h1 h2
  exact ⟨T', h', X', e', E, A.lt, ⟨A, D⟩, q⟩
/-- an array of ints (or bytes, chars ..) with these components -/
def ArI (Z : State) (h : Heap) (a : Nat) (ty : FieldType) (xs : List Int32) : Prop := (∃ kc, Arv Z h a kc ty (Int32.ofNat xs.length) (xs.map Value.int) (.int 0)) ∧ xs.length < 2 ^ 31
theorem ArI.lt {h : Heap} {a : Nat} {ty : FieldType} {xs : List Int32} (A : ArI Z h a ty xs) : a < h.size := by obtain ⟨⟨_, A⟩, _⟩ := A; exact A.lt
theorem ArI.ext {h h' : Heap} {a : Nat} {ty : FieldType} {xs : List Int32} (A : ArI Z h a ty xs) (E : Ext h h') : ArI Z h' a ty xs := by obtain ⟨⟨k, A⟩, q⟩ := A; exact ⟨⟨k, A.ext E⟩, q⟩
theorem ArI.keep {h h' : Heap} {a : Nat} {ty : FieldType} {xs : List Int32} {ws : List Nat} (A : ArI Z h a ty xs) (K : Keep h h' ws) (hn : a ∉ ws) : ArI Z h' a ty xs := by obtain ⟨⟨k, A⟩, q⟩ := A; exact ⟨⟨k, A.keep K hn⟩, q⟩
theorem ofNat_clamp {i : Nat} (hi : i < 2 ^ 31) : (Int32.ofNat i).toNatClampNeg = i := clamp_of rfl hi
theorem idx_ok {j : Int32} {i : Nat} (hj : j.toInt = (i : Int)) : ¬ j < 0 ∧ j.toNatClampNeg = i := by
  refine ⟨fun q => ?_, ?_⟩
  · rw [Int32.lt_iff_toInt_lt, hj, Int32.toInt_zero] at q; omega
  · show j.toInt.toNat = i; rw [hj]; rfl
theorem ArI.fit {h : Heap} {a : Nat} {ty : FieldType} {xs : List Int32} (A : ArI Z h a ty xs) {i : Nat} (hi : i < xs.length) : fits ty (.int (xs.getD i 0)) = true := by
  obtain ⟨⟨k, cl, A, q1, S, q3, H, G⟩, q⟩ := A
  have := G i (by rw [S, ofNat_clamp q]; exact hi)
  simpa [List.getD_eq_getElem?_getD, hi] using this
theorem ArI.cell {h : Heap} {a : Nat} {ty : FieldType} {xs : List Int32} (A : ArI Z h a ty xs) : ∃ cl : Cell, Arr Z h a cl ty ∧ cl.slots.size = xs.length ∧ ∀ {j : Int32} {i : Nat}, j.toInt = (i : Int) → i < xs.length → ¬ (j < 0 ∨ cl.slots.size ≤ j.toNatClampNeg) ∧ cl.slots[j.toNatClampNeg]? = some (.int (xs.getD i 0)) := by
  obtain ⟨⟨k, cl, A, q1, S, q3, H, G⟩, q⟩ := A
  rw [ofNat_clamp q] at S
  refine ⟨cl, A, S, fun {j i} hj hi => ?_⟩
  obtain ⟨h1, h2⟩ := idx_ok hj
  refine ⟨fun q => q.elim h1 (fun q => by omega), ?_⟩
  rw [h2, H i (by omega)]
  simp [List.getD_eq_getElem?_getD, hi]
theorem newarr (C : Cx p m meth c s Z a0 EL b own nm bytes maxL ret) {pc' : Nat} {aty : ArrayType} {ty : FieldType} {z : Int32} {cap : Nat} (hty : newarray.typeOf aty = ty) (hdv : defaultValue ty = .int 0) (w : (Cond.arrayClass ty).before a0 Z = true) (hd : decode bytes pc = .ok (.newarray aty, 2)) (hp : pc + 2 = pc') (hz : z = Int32.ofNat cap) (hcap : cap * 8 ≤ 536870912) (hc : k + 1 ≤ R.cells) (hn : n + cap ≤ R.slots)
    (hr : ∀ h' a, a = h.size → Z.heap.size ≤ a → a < h'.size → Ext h h' → ArI Z h' a ty (List.replicate cap 0) → WP p l e R s m args below meth c Z EL b Q pc' L (.ref a :: st) h' (a :: W) (k + 1) (n + cap)) :
    WP p l e R s m args below meth c Z EL b Q pc L (.int z :: st) h W k n := by
  subst hp hz hty
  have hb31 : cap < 2 ^ 31 := by omega
  refine WP.grow (F := fun h' a => ArI Z h' a (newarray.typeOf aty) (List.replicate cap 0)) (st' := fun a => .ref a :: st) C hc hn (fun X eT hZ ho h1 h2 => ?_) hr
  have hneg : ¬ Int32.ofNat cap < 0 := fun q => by
    rw [Int32.lt_iff_toInt_lt, toInt_of rfl hb31, Int32.toInt_zero] at q; omega
  obtain ⟨T', h', kA, X', e', E, A, q⟩ := RoadKit.newP X C.1 hZ w eT (g := mkF m pc L.toArray (.int (Int32.ofNat cap) :: st)) rfl (hb C.2.1 hd) rfl hneg (cap := cap) (by rw [ofNat_clamp hb31]; exact Nat.le_refl _) hcap h1 h2
  refine ⟨T', h', X', e', E, A.lt, ?_, q⟩
  have A' := Arv.new A hneg
  rw [hdv] at A'
  have A2 := A'.pad (vs' := (List.replicate cap (0 : Int32)).map Value.int) (by
    intro i
    have := pad_rep [] (.int (0 : Int32)) cap i
    simpa [List.map_replicate] using this)
  exact ⟨⟨kA, by simpa using A2⟩, by simpa using hb31⟩
/-! arrays -/
theorem arrlen (C : Cx p m meth c s Z a0 EL b own nm bytes maxL ret) {pc' : Nat} {a : Nat} {ty : FieldType} {xs : List Int32} (A : ArI Z h a ty xs) (hd : decode bytes pc = .ok (.arraylength, 1)) (hp : pc + 1 = pc')
    (hr : WP p l e R s m args below meth c Z EL b Q pc' L (.int (Int32.ofNat xs.length) :: st) h W k n) : WP p l e R s m args below meth c Z EL b Q pc L (.ref a :: st) h W k n := by
  subst hp
  obtain ⟨cl, A, S, -⟩ := A.cell
  have e : cl.slots.size.toInt32 = Int32.ofNat xs.length := by rw [S]
  rw [← e] at hr
  exact hr.hop C fun X eT _ hZ ho => ⟨_, X, eT, fun t q => X.arraylength C.1 (by rw [eT]; exact A.1) (State.isArrayOf_alike hZ.alike A.2.1) (g := mkF m pc L.toArray (.ref a :: st)) rfl rfl (hb C.2.1 hd) t q⟩
theorem caload (C : Cx p m meth c s Z a0 EL b own nm bytes maxL ret) {pc' : Nat} {a : Nat} {xs : List Int32} {j : Int32} {i : Nat} (A : ArI Z h a .char xs) (hj : j.toInt = (i : Int)) (hi : i < xs.length) (hd : decode bytes pc = .ok (.caload, 1)) (hp : pc + 1 = pc')
    (hr : WP p l e R s m args below meth c Z EL b Q pc' L (.int (xs.getD i 0) :: st) h W k n) : WP p l e R s m args below meth c Z EL b Q pc L (.int j :: .ref a :: st) h W k n := by
  subst hp
  obtain ⟨cl, A, S, G⟩ := A.cell
  obtain ⟨h1, h2⟩ := G hj hi
  exact hr.hop C fun X eT _ hZ ho => ⟨_, X, eT, fun t q => X.caload C.1 (by rw [eT]; exact A.1) (State.isArrayOf_alike hZ.alike A.2.1) A.2.2 h1 h2 (g := mkF m pc L.toArray (.int j :: .ref a :: st)) rfl rfl (hb C.2.1 hd) t q⟩
theorem baload (C : Cx p m meth c s Z a0 EL b own nm bytes maxL ret) {pc' : Nat} {a : Nat} {xs : List Int32} {j : Int32} {i : Nat} (A : ArI Z h a .byte xs) (hj : j.toInt = (i : Int)) (hi : i < xs.length) (hd : decode bytes pc = .ok (.baload, 1)) (hp : pc + 1 = pc')
    (hr : WP p l e R s m args below meth c Z EL b Q pc' L (.int (xs.getD i 0) :: st) h W k n) : WP p l e R s m args below meth c Z EL b Q pc L (.int j :: .ref a :: st) h W k n := by
  subst hp
  obtain ⟨cl, A, S, G⟩ := A.cell
  obtain ⟨h1, h2⟩ := G hj hi
  exact hr.hop C fun X eT _ hZ ho => ⟨_, X, eT, fun t q => X.baloadBytes C.1 (by rw [eT]; exact A.1) (State.isArrayOf_alike hZ.alike A.2.1) A.2.2 h1 h2 (g := mkF m pc L.toArray (.int j :: .ref a :: st)) rfl rfl (hb C.2.1 hd) t q⟩
theorem iaload (C : Cx p m meth c s Z a0 EL b own nm bytes maxL ret) {pc' : Nat} {a : Nat} {xs : List Int32} {j : Int32} {i : Nat} (A : ArI Z h a .int xs) (hj : j.toInt = (i : Int)) (hi : i < xs.length) (hd : decode bytes pc = .ok (.iaload, 1)) (hp : pc + 1 = pc')
    (hr : WP p l e R s m args below meth c Z EL b Q pc' L (.int (xs.getD i 0) :: st) h W k n) : WP p l e R s m args below meth c Z EL b Q pc L (.int j :: .ref a :: st) h W k n := by
  subst hp
  obtain ⟨cl, A, S, G⟩ := A.cell
  obtain ⟨h1, h2⟩ := G hj hi
  exact hr.hop C fun X eT _ hZ ho => ⟨_, X, eT, fun t q => X.iaload C.1 (by rw [eT]; exact A.1) (State.isArrayOf_alike hZ.alike A.2.1) A.2.2 h1 h2 (g := mkF m pc L.toArray (.int j :: .ref a :: st)) rfl rfl (hb C.2.1 hd) t q⟩
theorem ArI.set {h h' : Heap} {a : Nat} {ty : FieldType} {xs : List Int32} {j : Int32} {i : Nat} {x : Int32} (A : ArI Z h a ty xs) (hj : j.toInt = (i : Int)) (hi : i < xs.length) (hx : fits ty (.int x) = true) (Wr' : Wr h h' a j.toNatClampNeg (.int x)) : ArI Z h' a ty (xs.set i x) := by
  obtain ⟨⟨kc, cl, A, q1, S, q3, H, G⟩, q⟩ := A
  obtain ⟨h1, h2⟩ := idx_ok hj
  have := Arv.set A q1 S q3 H G hx Wr' i h2 (by simpa using hi)
  exact ⟨⟨kc, by simpa [List.map_set] using this⟩, by simpa using q⟩
theorem castore (C : Cx p m meth c s Z a0 EL b own nm bytes maxL ret) {pc' : Nat} {a : Nat} {xs : List Int32} {j x : Int32} {i : Nat} (A : ArI Z h a .char xs) (hj : j.toInt = (i : Int)) (hi : i < xs.length) (ha : a ∈ W) (hd : decode bytes pc = .ok (.castore, 1)) (hp : pc + 1 = pc')
    (hr : ∀ h', Keep h h' [a] → ArI Z h' a .char (xs.set i (nar .char x)) → WP p l e R s m args below meth c Z EL b Q pc' L st h' W k n) : WP p l e R s m args below meth c Z EL b Q pc L (.int x :: .int j :: .ref a :: st) h W k n := by
  subst hp
  obtain ⟨cl, B, S, G⟩ := A.cell
  refine WP.write C ha (fun X eT hZ ho => RoadKit.stC X C.1 hZ eT B (G hj hi).1 (g := mkF m pc L.toArray (.int x :: .int j :: .ref a :: st)) rfl rfl (hb C.2.1 hd)) fun h' w K => hr h' K (A.set hj hi (fits_nar_char _) w)
theorem bastore (C : Cx p m meth c s Z a0 EL b own nm bytes maxL ret) {pc' : Nat} {a : Nat} {xs : List Int32} {j x : Int32} {i : Nat} (A : ArI Z h a .byte xs) (hj : j.toInt = (i : Int)) (hi : i < xs.length) (ha : a ∈ W) (hd : decode bytes pc = .ok (.bastore, 1)) (hp : pc + 1 = pc')
    (hr : ∀ h', Keep h h' [a] → ArI Z h' a .byte (xs.set i (nar .byte x)) → WP p l e R s m args below meth c Z EL b Q pc' L st h' W k n) : WP p l e R s m args below meth c Z EL b Q pc L (.int x :: .int j :: .ref a :: st) h W k n := by
  subst hp
  obtain ⟨cl, B, S, G⟩ := A.cell
  refine WP.write C ha (fun X eT hZ ho => RoadKit.stB X C.1 hZ eT B (G hj hi).1 (g := mkF m pc L.toArray (.int x :: .int j :: .ref a :: st)) rfl rfl (hb C.2.1 hd)) fun h' w K => hr h' K (A.set hj hi (fits_nar_byte _) w)
theorem putF (C : Cx p m meth c s Z a0 EL b own nm bytes maxL ret) {pc' : Nat} {f O d K : String} {index kk : Nat} {ty : FieldType} {a : Nat} {v old : Value} (w : (Cond.fieldLink own index O f d).before a0 Z = true) (F : Fld Z h a O f d old) (E : Exa Z h a K) (ly : (Cond.lays K O f d).before a0 Z = true ∨ ((Cond.laysFinal K O f d).before a0 Z = true ∧ own = O ∧ nm = "<init>")) (wi : (Cond.instantiable K kk).before a0 Z = true)
    (hty : parseFieldDescriptor d = some ty) (hnr : narrow ty v = v) (hft : fits ty v = true) (ha : a ∈ W) (hd : decode bytes pc = .ok (.putfield index, 3)) (hp : pc + 3 = pc')
    (hr : ∀ h', Wr h h' a (Jvm.RoadKit.slotOf Z O f d) v → Keep h h' [a] → Fld Z h' a O f d v → WP p l e R s m args below meth c Z EL b Q pc' L st h' W k n) : WP p l e R s m args below meth c Z EL b Q pc L (v :: .ref a :: st) h W k n := by
  subst hp
  refine WP.write C ha (fun X eT hZ ho => RoadKit.putF X C.1 hZ ho (host := "") (Or.inl w) Via.refl eT F E (ly.imp id fun q => ⟨q.1, q.2.1, by rw [C.2.2.2.2.2.2.2.2.1]; exact q.2.2⟩) wi hty hnr hft (g := mkF m pc L.toArray (v :: .ref a :: st)) rfl rfl (hb C.2.1 hd)) fun h' w' K' => hr h' w' K' (F.same w')
/-! ldc of a String constant of EL -/
theorem ldcS (C : Cx p m meth c s Z a0 EL b own nm bytes maxL ret) (hbf : b = false) {pc' : Nat} {text : String} {index N : Nat} {xs : List Int32} (w : (Cond.stringLink own index text).before a0 Z = true) (hmem : (own, index) ∈ EL)
    (ht : (∀ ch ∈ text.toList, ch.toNat < 256) ∧ text.toList.map (fun ch => Value.int (Jvm.Lit.byteI ch.toNat.toUInt16)) = xs.map Value.int) (hlen : xs.length < 2 ^ 31)
    (hd : decode bytes pc = .ok (.ldc index, 2)) (hp : pc + 2 = pc') (hN : 4 * text.toList.length ≤ N) (hbig : N ≤ 536870912) (hc0 : k + 2 ≤ R.cells) (hn0 : n + (N + 4) ≤ R.slots)
    (hr : ∀ h' a d, Ext h h' → Exa Z h' a "java/lang/String" → Fld Z h' a "java/lang/String" "coder" "B" (.int 0) → Fld Z h' a "java/lang/String" "value" "[B" (.ref d) → ArI Z h' d .byte xs → (∀ x ∈ W, x ≠ a ∧ x ≠ d) → WP p l e R s m args below meth c Z EL b Q pc' L (.ref a :: st) h' W (k + 2) (n + (N + 4))) :
    WP p l e R s m args below meth c Z EL b Q pc L st h W k n := by
  subst hp
  intro T vm0 k0 locs cells slots X eT hS hk hb' hC hO hW hF hc hn
  obtain ⟨a, T', h', k1, d, kd, X', e', E, hS', hk', hZ', ho', A, Fc, Fv, V, -, -, hCH, -, hne, q⟩ := ldcCH (z := Int32.ofNat xs.length) X C.1 (C.z hS) (C.o hS) w (C.2.2.2.2.2.2.2.2.2.1 hbf) eT hS hk C.ew hmem hC.1 ht
    (fun q => by rw [Int32.lt_iff_toInt_lt, toInt_of rfl hlen, Int32.toInt_zero] at q; omega) (by rw [ofNat_clamp hlen]; simp) (g := mkF m pc L.toArray st) rfl (hb C.2.1 hd) hN hbig (by omega) (by omega)
  have hW' := hW.r hCH
  obtain ⟨s2, v, st, r⟩ := hr h' a d E A Fc Fv ⟨⟨kd, V⟩, hlen⟩ (fun x hx => hne x (hW' x hx).2.2) T' T'.vm k1 locs _ _ X' e' hS' hk' (fun q => by rw [hbf] at q; cases q) (hC.trans hCH) (hO.ext E) hW' hF (by omega) (by omega)
  exact ⟨s2, v, q _ st, r⟩
/-- ldc of any String constant: which object, not what it says -/
theorem ldcO (C : Cx p m meth c s Z a0 EL b own nm bytes maxL ret) (hbf : b = false) {pc' : Nat} {text : String} {index N : Nat} (w : (Cond.stringLink own index text).before a0 Z = true)
    (hd : decode bytes pc = .ok (.ldc index, 2)) (hp : pc + 2 = pc') (hN : 4 * text.toList.length ≤ N) (hbig : N ≤ 536870912) (hc0 : k + 2 ≤ R.cells) (hn0 : n + (N + 4) ≤ R.slots)
    (hr : ∀ h' a, Ext h h' → WP p l e R s m args below meth c Z EL b Q pc' L (.ref a :: st) h' W (k + 2) (n + (N + 4))) :
    WP p l e R s m args below meth c Z EL b Q pc L st h W k n := by
  subst hp
  intro T vm0 k0 locs cells slots X eT hS hk hb' hC hO hW hF hc hn
  obtain ⟨a, T', h', k1, X', e', E, hS', hk', hZ', ho', hCH, -, q⟩ := ldcOH X C.1 (C.z hS) (C.o hS) w (C.2.2.2.2.2.2.2.2.2.1 hbf) eT hS hk C.ew hC.1 (g := mkF m pc L.toArray st) rfl (hb C.2.1 hd) hN hbig (by omega) (by omega)
  obtain ⟨s2, v, st, r⟩ := hr h' a E T' T'.vm k1 locs _ _ X' e' hS' hk' (fun q => by rw [hbf] at q; cases q) (hC.trans hCH) (hO.ext E) (hW.r hCH) hF (by omega) (by omega)
  exact ⟨s2, v, q _ st, r⟩
/-! returns -/
theorem retW (C : Cx p m meth c s Z a0 EL b own nm bytes maxL ret) {v : Option Value} (hv : ret = none → v = none) (hk : k ≤ R.cells) (hn : n ≤ R.slots) {W' : List Nat} (hsub : ∀ x ∈ W', x ∈ W) (hQ : Q v h W')
    (q : ∀ {T : State} {vm0 : Vm} {locs : List Loc} {cells slots : Nat}, Stand p l e R (s.setVm vm0) m args below meth c T locs cells slots → ∀ {fs : List Frame}, (∀ (f : JFrame) (acts : List Action), f.method = m → f.locked = none → f.entered = [] → (doReturn e (T.setTop f) acts v).1 = T.setFrames fs) → Steps p.tables e below (T.setTop (mkF m pc L.toArray st)) (T.setFrames fs)) :
    WP p l e R s m args below meth c Z EL b Q pc L st h W k n := by
  intro T vm0 k0 locs cells slots X eT hS hk0 hb' hC hO hW hF hc hn'
  obtain ⟨fs, h1, h2, h3, hW1, hs⟩ := X.leave (v := v) (fun q => hv (by rw [← C.2.2.2.1]; exact q)) C.2.2.2.2.1
  obtain ⟨x1, x2, x3⟩ := hS.ended (U := T.setFrames fs) hW1 (by show k0 ≤ T.heap.size; rw [eT]; exact hk0) hs
  have hA := CHv.at X (C.z hS) C.ew hC.1
  refine ⟨T.setFrames fs, v, q X h1, h2, h3, locs, W', ?_, ?_, ?_, hF, ?_, ⟨⟨v, rfl⟩, x1, x2, x3.mono (by omega) (by omega)⟩, fun hbt => ?_⟩
  · show Q v T.heap W'; rw [eT]; exact hQ
  · show Own Z EL T.vm T.heap W'; rw [eT]; exact (hW.sub hsub).r hA
  · show Old Z Z.heap.size T.heap; rw [eT]; exact hO
  · show CHr Z EL s.vm s.heap T.vm T.heap; rw [eT]; exact hC.trans hA
  · obtain rfl := hb' hbt
    exact ⟨⟨v, rfl⟩, hW1, State.sameButNew.mono hs (by omega) (by omega)⟩
theorem retN (C : Cx p m meth c s Z a0 EL b own nm bytes maxL ret) {t : FieldType} {z : Int32} (hret : ret = some t) (ht : t = .boolean ∨ t = .byte ∨ t = .char ∨ t = .short) (hd : decode bytes pc = .ok (.ireturn, 1)) (hk : k ≤ R.cells) (hn : n ≤ R.slots) (W' : List Nat) (hsub : ∀ x ∈ W', x ∈ W) (hQ : Q (some (.int (nar t z))) h W') :
    WP p l e R s m args below meth c Z EL b Q pc L (.int z :: st) h W k n := by
  subst hret
  exact retW C (fun q => nomatch q) hk hn hsub hQ fun X _ h1 => RoadKit.retN X C.1 C.2.2.2.1 ht (hb C.2.1 hd) h1
theorem retV (C : Cx p m meth c s Z a0 EL b own nm bytes maxL ret) (hret : ret = none) (hd : decode bytes pc = .ok (.return_, 1)) (hk : k ≤ R.cells) (hn : n ≤ R.slots) (W' : List Nat) (hsub : ∀ x ∈ W', x ∈ W) (hQ : Q none h W') :
    WP p l e R s m args below meth c Z EL b Q pc L [] h W k n := by
  subst hret
  exact retW C (fun _ => rfl) hk hn hsub hQ fun X _ h1 => X.returnOut C.1 C.2.2.2.1 (hb C.2.1 hd) h1
theorem retI (C : Cx p m meth c s Z a0 EL b own nm bytes maxL ret) {z : Int32} (hret : ret = some .int) (hd : decode bytes pc = .ok (.ireturn, 1)) (hk : k ≤ R.cells) (hn : n ≤ R.slots) (W' : List Nat) (hsub : ∀ x ∈ W', x ∈ W) (hQ : Q (some (.int z)) h W') :
    WP p l e R s m args below meth c Z EL b Q pc L (.int z :: st) h W k n := by
  subst hret
  exact retW C (fun q => nomatch q) hk hn hsub hQ fun X _ h1 => RoadKit.retOut X C.1 (t := .int) C.2.2.2.1 rfl (Or.inl ⟨rfl, Or.inl rfl, z, rfl⟩) (hb C.2.1 hd) h1
theorem retA (C : Cx p m meth c s Z a0 EL b own nm bytes maxL ret) {t : FieldType} {v : Value} (hret : ret = some t) (ht : t.isReference = true) (hv : v.isRef = true) (hd : decode bytes pc = .ok (.areturn, 1)) (hk : k ≤ R.cells) (hn : n ≤ R.slots) (W' : List Nat) (hsub : ∀ x ∈ W', x ∈ W) (hQ : Q (some v) h W') :
    WP p l e R s m args below meth c Z EL b Q pc L (v :: st) h W k n := by
  subst hret
  exact retW C (fun q => nomatch q) hk hn hsub hQ fun X _ h1 => RoadKit.retOut X C.1 (t := t) C.2.2.2.1 (by cases t <;> cases v <;> first | rfl | (cases ht; done) | (cases hv; done)) (Or.inr (Or.inr (Or.inr (Or.inr ⟨rfl, ht, hv⟩)))) (hb C.2.1 hd) h1
end Steps
/-! contracts and calls -/
section Calls
variable {p : Program} {l : Launch} {e : Env} {R : Room} {s : State} {m : MethodId} {args : Array Value} {below : List Frame} {meth : Method} {c : Code} {Z : State} {a0 : Array Value} {EL : List (String × Nat)} {b : Bool} {own nm : String} {bytes : ByteArray} {maxL : Nat} {ret : Option FieldType} {Q : Option Value → Heap → List Nat → Prop}
  {pc : Nat} {L : List Slot} {st : List Value} {h : Heap} {W : List Nat} {k n : Nat}
/-- a method's contract: called with these arguments over this heap it returns, and Q says what it returned, the heap it left, and which cells may be written besides -/
def Con (l : Launch) (Z : State) (EL : List (String × Nat)) (b : Bool) (y : MethodName) (bytes : ByteArray) (maxL : Nat) (ret : Option FieldType) (ws : List Jvm.Cond) (rm : Room) (as' : Array Value) (h : Heap) (W : List Nat) (Q : Option Value → Heap → List Nat → Prop) : Prop :=
  MetFree l y (head1 (Cond.code y bytes maxL ret :: ws) rm) (fun a U => a = as' ∧ Z.Warmed39 U.vm ∧ U.heap = h ∧ CHv Z EL U.vm h ∧ Old Z Z.heap.size h ∧ Own Z EL U.vm h W) (fun _ _ _ _ _ => True)
    (fun _ U o U' => ∃ v L, o = .returned v ∧ (∃ W', Q v U'.heap W' ∧ Own Z EL U'.vm U'.heap W' ∧ Old Z Z.heap.size U'.heap ∧ Fr Z.heap.size L) ∧ CHr Z EL U.vm U.heap U'.vm U'.heap ∧ ReturnedEndW U o U' L rm.cells rm.slots ∧ (b = true → FrameEnd U o U' L rm.cells rm.slots))
theorem Con.intro {y : MethodName} {ws : List Jvm.Cond} {rm : Room} {as' : Array Value} (hpn : plainFor y = true) (hEL : EW Z a0 EL) (hS : b = false → ∀ a ∈ Bundle.stringAtoms, a.before a0 Z = true) (hB : b = true → EL = []) (L : List Slot) (hE : argsToLocals as' maxL = L.toArray)
    (H : ∀ (p : Program) (e : Env) (s : State) (m : MethodId) (below : List Frame) (meth : Method) (c : Code), Cx p m meth c s Z a0 EL b y.cls y.name bytes maxL ret → Old Z Z.heap.size h → WP p l e rm s m as' below meth c Z EL b Q 0 L [] h W 0 0) :
    Con l Z EL b y bytes maxL ret ws rm as' h W Q := by
  refine MetFree.of_bodySF hpn hisR ?_
  intro p e s m args below meth c s₁ Bd hml hP hK
  obtain ⟨rfl, hZ, hh, hC, hO, hW⟩ := hP
  have hnm := (name_of_methodNamed Bd.named Bd.method).1
  have X0 : Stand p l e rm s m args below meth c s₁ [] 0 0 := Stand.of_body Bd
  have e0 : s₁.heap = h := by rw [← hh, Bd.state]; rfl
  obtain ⟨s2, v, q, r1, r2, L', W', r3, r4, r5, r6, r7, r8, r9⟩ := H p e s m below meth c ⟨Bd.exec, Bd.bytes, hml, Bd.returns, Bd.notSynchronized, findClass_of_methodNamed Bd.named, hZ, hEL, hnm, hS, hB⟩ hO s₁ s.vm 0 [] 0 0 X0 e0 ((State.WarmedH.refl s).since 0) (Nat.zero_le _) (fun _ => rfl)
    (by rw [hh]; exact CHr.refl hC) hO hW (Fr.nil _) (Nat.le_refl _) (Nat.le_refl _)
  have he : entryFrame m args maxL = mkF m 0 L.toArray [] := by unfold entryFrame; rw [hE]
  exact ⟨s2, _, castTop he q, r1, r2, v, L', rfl, ⟨W', r3, r4, r5, r6⟩, r7, r8, r9⟩
/-- a contract used where less is asked, or more is known -/
theorem Con.mono {y : MethodName} {ws : List Jvm.Cond} {rm : Room} {as' : Array Value} {Q' : Option Value → Heap → List Nat → Prop} (M : Con l Z EL b y bytes maxL ret ws rm as' h W Q) (q : ∀ v h' W', Q v h' W' → Q' v h' W') : Con l Z EL b y bytes maxL ret ws rm as' h W Q' := by
  intro p e h1 h2 h3 s m args below hf ha hP hK
  obtain ⟨n, o, x1, x2, x3, v, L, x4, ⟨W', x5, x6⟩, x7⟩ := M p e h1 h2 h3 s m args below hf ha hP hK
  exact ⟨n, o, x1, x2, x3, v, L, x4, ⟨W', q _ _ _ x5, x6⟩, x7⟩
/-- what stands behind a call -/
def Post (Z : State) (EL : List (String × Nat)) (vm0 : Vm) (h : Heap) (rm : Room) (Q : Option Value → Heap → List Nat → Prop) (A : Pt) (v : Option Value) (B : Pt) : Prop :=
  ∃ (L : List Loc) (W' : List Nat), Q v B.U.heap W' ∧ Own Z EL B.U.vm B.U.heap W' ∧ Old Z Z.heap.size B.U.heap ∧ Fr Z.heap.size L ∧ B.locs = A.locs ++ L ∧ B.cells = A.cells + rm.cells ∧ B.slots = A.slots + rm.slots ∧ CHr Z EL vm0 h B.U.vm B.U.heap
theorem Con.backS {y : MethodName} {rm : Room} {as' : Array Value} {len Wt : Nat} {vm0 : Vm} (M : Con l Z EL b y bytes maxL ret [] rm as' h W Q) (hZ : Z.Warmed39 vm0) (wc : (Cond.code y bytes maxL ret).before a0 Z = true) (wz : (Cond.initialized y.cls).before a0 Z = true) (hf : rm.frames + 1 ≤ R.frames) (hl : Wt + (maxL + 11) + rm.locals ≤ R.locals)
    (hEL : EW Z a0 EL) (H : CHv Z EL vm0 h) (hO : Old Z Z.heap.size h) (hW : Own Z EL vm0 h W) :
    BackS l R p e below (s.setVm vm0) args y len Wt (fun A a => a = as' ∧ A.U.heap = h ∧ A.cells + rm.cells ≤ R.cells ∧ A.slots + rm.slots ≤ R.slots) (fun A _ v B => Post Z EL vm0 h rm Q A v B) :=
  BackS.of_freeW (bytes := bytes) (maxL := maxL) (ret := ret) (E := fun _ first o t L kk nn => kk = rm.cells ∧ nn = rm.slots ∧ (∃ v, o = .returned v ∧ ∃ W', Q v t.heap W' ∧ Own Z EL t.vm t.heap W' ∧ Old Z Z.heap.size t.heap ∧ Fr Z.heap.size L) ∧ CHr Z EL first.vm first.heap t.vm t.heap) M hf hl
    (fun m meth c A a Y hp => have hU : Z.Warmed39 A.U.vm := wtrans (s := s.setVm vm0) hZ Y.warmed
      ⟨by show (Cond.and _ .tt).before a A.U = true; rw [Cond.before_and, mv hU wc]; rfl, mv hU wc, mv hU wz, hp.2.2.1, hp.2.2.2⟩)
    (fun m meth c A a g mk Y hp => ⟨hp.1, wtrans (s := s.setVm vm0) hZ Y.warmed, hp.2.1, (CHv.at Y hZ hEL H).1, hO, (show Own Z EL A.U.vm h W from hW.r (CHv.at Y hZ hEL H))⟩) (fun _ _ _ _ _ _ _ _ _ => trivial)
    (fun _ _ _ _ ⟨v, L, h1, ⟨W', h2⟩, h3, h4, _⟩ => ⟨L, _, _, h4, rfl, rfl, ⟨v, h1, W', h2⟩, h3⟩)
    (fun m meth c A a g mk v t L kk nn Y hp _ _ ⟨e1, e2, ⟨v', e3, W', e4, e5, e6, e7⟩, e8⟩ => by
      cases e3; subst e1 e2
      refine ⟨L, W', e4, e5, e6, e7, rfl, rfl, rfl, ?_⟩
      have e9 : CHr Z EL A.U.vm A.U.heap t.vm t.heap := e8
      rw [hp.2.1] at e9
      exact (CHv.at Y hZ hEL H).trans e9)
theorem Con.back {y : MethodName} {rm : Room} {as' : Array Value} {len Wt : Nat} {vm0 : Vm} (M : Con l Z [] true y bytes maxL ret [] rm as' h W Q) (hZ : Z.Warmed39 vm0) (wc : (Cond.code y bytes maxL ret).before a0 Z = true) (wz : (Cond.initialized y.cls).before a0 Z = true) (hf : rm.frames + 1 ≤ R.frames) (hl : Wt + (maxL + 11) + rm.locals ≤ R.locals)
    (H : CHv Z [] vm0 h) (hO : Old Z Z.heap.size h) (hW : Own Z [] vm0 h W) :
    Back l R p e below (s.setVm vm0) args y len Wt (fun A a => a = as' ∧ A.U.heap = h ∧ A.cells + rm.cells ≤ R.cells ∧ A.slots + rm.slots ≤ R.slots) (fun A _ v B => Post Z [] vm0 h rm Q A v B) :=
  Back.of_free (bytes := bytes) (maxL := maxL) (ret := ret) (E := fun _ first o t L kk nn => kk = rm.cells ∧ nn = rm.slots ∧ (∃ v, o = .returned v ∧ ∃ W', Q v t.heap W' ∧ Own Z [] t.vm t.heap W' ∧ Old Z Z.heap.size t.heap ∧ Fr Z.heap.size L) ∧ CHr Z [] first.vm first.heap t.vm t.heap) M hf hl
    (fun m meth c A a Y hp => have hU : Z.Warmed39 A.U.vm := wtrans (s := s.setVm vm0) hZ Y.warmed
      ⟨by show (Cond.and _ .tt).before a A.U = true; rw [Cond.before_and, mv hU wc]; rfl, mv hU wc, mv hU wz, hp.2.2.1, hp.2.2.2⟩)
    (fun m meth c A a g mk Y hp => ⟨hp.1, wtrans (s := s.setVm vm0) hZ Y.warmed, hp.2.1, (CHv.at Y hZ (EW.nil (a0 := a0)) H).1, hO, (show Own Z [] A.U.vm h W from hW.r (CHv.at Y hZ (EW.nil (a0 := a0)) H))⟩) (fun _ _ _ _ _ _ _ _ _ => trivial)
    (fun _ _ _ _ ⟨v, L, h1, ⟨W', h2⟩, h3, _, h5⟩ => ⟨L, _, _, h5 rfl, rfl, rfl, ⟨v, h1, W', h2⟩, h3⟩)
    (fun m meth c A a g mk v t L kk nn Y hp _ _ ⟨e1, e2, ⟨v', e3, W', e4, e5, e6, e7⟩, e8⟩ => by
      cases e3; subst e1 e2
      refine ⟨L, W', e4, e5, e6, e7, rfl, rfl, rfl, ?_⟩
      have e9 : CHr Z [] A.U.vm A.U.heap t.vm t.heap := e8
      rw [hp.2.1] at e9
      exact (CHv.at Y hZ (EW.nil (a0 := a0)) H).trans e9)
theorem chr_nil {vm vm1 vm2 : Vm} {h h' : Heap} (A : CHr Z [] vm h vm1 h') : CHr Z [] vm h vm2 h' := ⟨(fun _ hp => nomatch hp), A.2.1, fun y q => by obtain ⟨_, hp, _⟩ := q; cases hp⟩
theorem own_nil {vm vm2 : Vm} {h : Heap} (A : Own Z [] vm h W) : Own Z [] vm2 h W := fun x hx => ⟨(A x hx).1, (A x hx).2.1, fun q => by obtain ⟨_, hp, _⟩ := q; cases hp⟩
theorem WP.wk {V : List Nat} (hsub : ∀ x ∈ V, x ∈ W) (hr : WP p l e R s m args below meth c Z EL b Q pc L st h V k n) : WP p l e R s m args below meth c Z EL b Q pc L st h W k n :=
  fun T vm0 k0 locs cells slots X eT hS hk hb' hC hO hW hF hc hn => hr T vm0 k0 locs cells slots X eT hS hk hb' hC hO (hW.sub hsub) hF hc hn
theorem WP.room {k' n' : Nat} (hk' : k ≤ k') (hn' : n ≤ n') (hr : WP p l e R s m args below meth c Z EL b Q pc L st h W k' n') : WP p l e R s m args below meth c Z EL b Q pc L st h W k n :=
  fun T vm0 k0 locs cells slots X eT hS hk hb' hC hO hW hF hc hn => hr T vm0 k0 locs cells slots X eT hS hk hb' hC hO hW hF (Nat.le_trans hc hk') (Nat.le_trans hn hn')
/-- the way on behind a call -/
theorem WP.after {rm : Room} {Q' : Option Value → Heap → List Nat → Prop} {pc' : Nat} {rest : List Value} {V : List Nat} (C : Cx p m meth c s Z a0 EL b own nm bytes maxL ret) (hc0 : k + rm.cells ≤ R.cells) (hn0 : n + rm.slots ≤ R.slots)
    (hr : ∀ v h' W', Q' v h' W' → h.size ≤ h'.size → WP p l e R s m args below meth c Z EL b Q pc' L (v.toList ++ rest) h' (W' ++ W) (k + rm.cells) (n + rm.slots))
    {T : State} {vm0 : Vm} {k0 : Nat} {locs : List Loc} {cells slots : Nat} (eT : T.heap = h) (hS : s.Since vm0 k0) (hk : k0 ≤ h.size) (hb' : b = true → vm0 = s.vm) (hC : CHr Z EL s.vm s.heap vm0 h) (hW : Own Z EL vm0 h W) (hF : Fr Z.heap.size locs) (hc : cells ≤ k) (hn : slots ≤ n)
    {v : Option Value} {vm1 vm2 : Vm} {B : Pt} (X' : Stand p l e R (s.setVm vm2) m args below meth c B.U B.locs B.cells B.slots) (hS' : (s.setVm vm0).Since vm2 B.U.heap.size) (hv : (b = false ∧ vm2 = B.U.vm) ∨ (b = true ∧ vm2 = vm0)) (hg : T.heap.size ≤ B.U.heap.size)
    (P : Post Z EL vm0 h rm Q' ⟨T.setVm vm1, locs, cells, slots⟩ v B) :
    ∃ s2 v2, Steps p.tables e below (B.U.setTop (mkF m pc' L.toArray (v.toList ++ rest))) s2 ∧ EndQ R Z EL b Q s below s2 v2 := by
  obtain ⟨L1, W', q1, q2, q3, q4, q5, q6, q7, q8⟩ := P
  rw [eT] at hg
  have hF' : Fr Z.heap.size B.locs := by rw [q5]; exact hF.app q4
  have hcc : B.cells ≤ k + rm.cells := by rw [q6]; show cells + rm.cells ≤ _; omega
  have hnn : B.slots ≤ n + rm.slots := by rw [q7]; show slots + rm.slots ≤ _; omega
  rcases hv with ⟨rfl, rfl⟩ | ⟨rfl, rfl⟩
  · exact hr v _ W' q1 hg B.U B.U.vm B.U.heap.size _ _ _ X' rfl (hS.trans hS' (Nat.le_trans hk hg)) (Nat.le_refl _) (fun q => nomatch q) (hC.trans q8) q3 (q2.app (hW.r q8)) hF' hcc hnn
  · obtain rfl := C.2.2.2.2.2.2.2.2.2.2 rfl
    exact hr v _ W' q1 hg B.U vm2 k0 _ _ _ X' rfl hS (Nat.le_trans hk hg) hb' (chr_nil (hC.trans q8)) q3 (own_nil (q2.app (hW.r q8))) hF' hcc hnn
theorem callSW (C : Cx p m meth c s Z a0 EL b own nm bytes maxL ret) {pc' index : Nat} {y : MethodName} {ybytes : ByteArray} {ymax : Nat} {yret : Option FieldType} {rm : Room} {V : List Nat} {Q' : Option Value → Heap → List Nat → Prop} {argsL rest : List Value} {ps : List FieldType} {pr : Option FieldType} {Wt : Nat}
    (w1 : (Cond.methodLink own index y).before a0 Z = true) (w2 : (Cond.static y).before a0 Z = true) (w3 : (Cond.initialized y.cls).before a0 Z = true) (w4 : (Cond.code y ybytes ymax yret).before a0 Z = true) (hy : y.cls ≠ "java/lang/invoke/MethodHandle" ∧ y.cls ≠ "java/lang/invoke/VarHandle")
    (M : Con l Z EL b y ybytes ymax yret [] rm argsL.toArray h V Q') (hV : ∀ x ∈ V, x ∈ W) (hpd : parseMethodDescriptor y.desc = some ⟨ps, pr⟩) (hal : argsL.length = ps.length) (hst : st = argsL.reverse ++ rest) (hsz : L.length = maxL)
    (hd : decode bytes pc = .ok (.invokestatic index, 3)) (hp : pc + 3 = pc') (hWt : (rest.map fun v => v.category).sum ≤ Wt) (hf : rm.frames + 1 ≤ R.frames) (hl : Wt + (ymax + 11) + rm.locals ≤ R.locals) (hc0 : k + rm.cells ≤ R.cells) (hn0 : n + rm.slots ≤ R.slots)
    (hr : ∀ v h' W', Q' v h' W' → h.size ≤ h'.size → WP p l e R s m args below meth c Z EL b Q pc' L (v.toList ++ rest) h' (W' ++ W) (k + rm.cells) (n + rm.slots)) :
    WP p l e R s m args below meth c Z EL b Q pc L st h W k n := by
  subst hp hst
  intro T vm0 k0 locs cells slots X eT hS hk hb' hC hO hW hF hc hn
  have hZ0 : Z.Warmed39 (s.setVm vm0).vm := C.z hS
  have hsz' : (mkF m pc L.toArray (argsL.reverse ++ rest)).locals.size = c.maxLocals := by rw [C.2.2.1, ← hsz]; simp
  cases b with
  | false =>
    obtain ⟨v, vm1, B, -, X', hS', hg, P, q⟩ := callSS X C.1 (C.o hS) (mv hZ0 w1) (mv hZ0 w2) (mv hZ0 w3) (mv hZ0 w4) hy (M.backS (W := V) hZ0 w4 w3 hf hl C.ew hC.1 hO (hW.sub hV)) (g := mkF m pc L.toArray (argsL.reverse ++ rest)) rfl hsz' (lenOf hpd hal) rfl (by show 2 * 0 + _ ≤ _; omega) (hb C.2.1 hd) (fun _ _ => ⟨rfl, eT, by show cells + _ ≤ _; omega, by show slots + _ ≤ _; omega⟩)
    obtain ⟨s2, v2, q2, r⟩ := WP.after (V := V) C hc0 hn0 hr eT hS hk hb' hC hW hF hc hn X' hS' (Or.inl ⟨rfl, rfl⟩) hg P
    exact ⟨s2, v2, q.trans q2, r⟩
  | true =>
    obtain rfl := C.2.2.2.2.2.2.2.2.2.2 rfl
    obtain ⟨v, vm1, B, -, X', P, q⟩ := LawKit.callS X C.1 (C.o hS) (mv hZ0 w1) (mv hZ0 w2) (mv hZ0 w3) (mv hZ0 w4) hy (M.back (W := V) hZ0 w4 w3 hf hl hC.1 hO (hW.sub hV)) (g := mkF m pc L.toArray (argsL.reverse ++ rest)) rfl hsz' (lenOf hpd hal) rfl (by show 2 * 0 + _ ≤ _; omega) (hb C.2.1 hd) (fun _ _ => ⟨rfl, eT, by show cells + _ ≤ _; omega, by show slots + _ ≤ _; omega⟩)
    have hg : T.heap.size ≤ B.U.heap.size := by obtain ⟨_, _, _, _, _, _, _, _, _, q8⟩ := P; rw [eT]; exact q8.2.1
    obtain ⟨s2, v2, q2, r⟩ := WP.after (V := V) C hc0 hn0 hr eT hS hk hb' hC hW hF hc hn X' ((State.WarmedH.refl _).since _) (Or.inr ⟨rfl, rfl⟩) hg P
    exact ⟨s2, v2, q _ q2, r⟩
theorem callS (C : Cx p m meth c s Z a0 EL b own nm bytes maxL ret) {pc' index : Nat} {y : MethodName} {ybytes : ByteArray} {ymax : Nat} {yret : Option FieldType} {rm : Room} {V : List Nat} {Q' : Option Value → Heap → List Nat → Prop} {argsL rest : List Value} {ps : List FieldType} {pr : Option FieldType} {Wt : Nat}
    (w1 : (Cond.methodLink own index y).before a0 Z = true) (w2 : (Cond.static y).before a0 Z = true) (w3 : (Cond.initialized y.cls).before a0 Z = true) (w4 : (Cond.code y ybytes ymax yret).before a0 Z = true) (hy : y.cls ≠ "java/lang/invoke/MethodHandle" ∧ y.cls ≠ "java/lang/invoke/VarHandle")
    (M : Con l Z EL b y ybytes ymax yret [] rm argsL.toArray h V Q') (hV : ∀ x ∈ V, x ∈ W) (hpd : parseMethodDescriptor y.desc = some ⟨ps, pr⟩) (hal : argsL.length = ps.length) (hst : st = argsL.reverse ++ rest) (hsz : L.length = maxL)
    (hd : decode bytes pc = .ok (.invokestatic index, 3)) (hp : pc + 3 = pc') (hWt : (rest.map fun v => v.category).sum ≤ Wt) (hf : rm.frames + 1 ≤ R.frames) (hl : Wt + (ymax + 11) + rm.locals ≤ R.locals) (hc0 : k + rm.cells ≤ R.cells) (hn0 : n + rm.slots ≤ R.slots)
    (hr : ∀ v h' W', Q' v h' W' → h.size ≤ h'.size → WP p l e R s m args below meth c Z EL b Q pc' L (v.toList ++ rest) h' W (k + rm.cells) (n + rm.slots)) :
    WP p l e R s m args below meth c Z EL b Q pc L st h W k n :=
  callSW C w1 w2 w3 w4 hy M hV hpd hal hst hsz hd hp hWt hf hl hc0 hn0 fun v h' W' q g => (hr v h' W' q g).wk fun x hx => List.mem_append_right _ hx
theorem callIW (C : Cx p m meth c s Z a0 EL b own nm bytes maxL ret) {pc' index : Nat} {y : MethodName} {ybytes : ByteArray} {ymax : Nat} {rm : Room} {V : List Nat} {Q' : Option Value → Heap → List Nat → Prop} {a : Nat} {argsL rest : List Value} {ps : List FieldType} {pr : Option FieldType} {Wt : Nat} (hy1 : y.name = "<init>")
    (w1 : (Cond.methodLink own index y).before a0 Z = true) (w2 : (Cond.instanceMethod y).before a0 Z = true) (w3 : (Cond.initialized y.cls).before a0 Z = true) (w4 : (Cond.code y ybytes ymax none).before a0 Z = true) (hy : y.cls ≠ "java/lang/invoke/MethodHandle" ∧ y.cls ≠ "java/lang/invoke/VarHandle")
    (M : Con l Z EL b y ybytes ymax none [] rm (.ref a :: argsL).toArray h V Q') (hV : ∀ x ∈ V, x ∈ W) (hpd : parseMethodDescriptor y.desc = some ⟨ps, pr⟩) (hal : argsL.length = ps.length) (hst : st = argsL.reverse ++ .ref a :: rest) (hsz : L.length = maxL)
    (hd : decode bytes pc = .ok (.invokespecial index, 3)) (hp : pc + 3 = pc') (hWt : (rest.map fun v => v.category).sum ≤ Wt) (hf : rm.frames + 1 ≤ R.frames) (hl : Wt + (ymax + 11) + rm.locals ≤ R.locals) (hc0 : k + rm.cells ≤ R.cells) (hn0 : n + rm.slots ≤ R.slots)
    (hr : ∀ v h' W', Q' v h' W' → h.size ≤ h'.size → WP p l e R s m args below meth c Z EL b Q pc' L (v.toList ++ rest) h' (W' ++ W) (k + rm.cells) (n + rm.slots)) :
    WP p l e R s m args below meth c Z EL b Q pc L st h W k n := by
  subst hp hst
  intro T vm0 k0 locs cells slots X eT hS hk hb' hC hO hW hF hc hn
  have hZ0 : Z.Warmed39 (s.setVm vm0).vm := C.z hS
  have hsz' : (mkF m pc L.toArray (argsL.reverse ++ .ref a :: rest)).locals.size = c.maxLocals := by rw [C.2.2.1, ← hsz]; simp
  cases b with
  | false =>
    obtain ⟨v, vm1, B, -, X', hS', hg, P, q⟩ := X.specialBackS C.1 hy1 (C.o hS) (mv hZ0 w1) (mv hZ0 w2) (mv hZ0 w4) hy (M.backS (W := V) hZ0 w4 w3 hf hl C.ew hC.1 hO (hW.sub hV)) (g := mkF m pc L.toArray (argsL.reverse ++ .ref a :: rest)) rfl hsz' (Steps.refl _) (lenOf hpd hal) rfl (by show 2 * 0 + _ ≤ _; omega) (hb C.2.1 hd) (fun _ _ => ⟨rfl, eT, by show cells + _ ≤ _; omega, by show slots + _ ≤ _; omega⟩)
    obtain ⟨s2, v2, q2, r⟩ := WP.after (V := V) C hc0 hn0 hr eT hS hk hb' hC hW hF hc hn X' hS' (Or.inl ⟨rfl, rfl⟩) hg P
    exact ⟨s2, v2, q.trans q2, r⟩
  | true =>
    obtain rfl := C.2.2.2.2.2.2.2.2.2.2 rfl
    obtain ⟨v, vm1, B, -, X', P, q⟩ := X.specialBack C.1 hy1 (C.o hS) (mv hZ0 w1) (mv hZ0 w2) (mv hZ0 w4) hy (M.back (W := V) hZ0 w4 w3 hf hl hC.1 hO (hW.sub hV)) (g := mkF m pc L.toArray (argsL.reverse ++ .ref a :: rest)) rfl hsz' (Steps.refl _) (lenOf hpd hal) rfl (by show 2 * 0 + _ ≤ _; omega) (hb C.2.1 hd) (fun _ _ => ⟨rfl, eT, by show cells + _ ≤ _; omega, by show slots + _ ≤ _; omega⟩)
    have hg : T.heap.size ≤ B.U.heap.size := by obtain ⟨_, _, _, _, _, _, _, _, _, q8⟩ := P; rw [eT]; exact q8.2.1
    obtain ⟨s2, v2, q2, r⟩ := WP.after (V := V) C hc0 hn0 hr eT hS hk hb' hC hW hF hc hn X' ((State.WarmedH.refl _).since _) (Or.inr ⟨rfl, rfl⟩) hg P
    exact ⟨s2, v2, q.trans q2, r⟩
theorem callI (C : Cx p m meth c s Z a0 EL b own nm bytes maxL ret) {pc' index : Nat} {y : MethodName} {ybytes : ByteArray} {ymax : Nat} {rm : Room} {V : List Nat} {Q' : Option Value → Heap → List Nat → Prop} {a : Nat} {argsL rest : List Value} {ps : List FieldType} {pr : Option FieldType} {Wt : Nat} (hy1 : y.name = "<init>")
    (w1 : (Cond.methodLink own index y).before a0 Z = true) (w2 : (Cond.instanceMethod y).before a0 Z = true) (w3 : (Cond.initialized y.cls).before a0 Z = true) (w4 : (Cond.code y ybytes ymax none).before a0 Z = true) (hy : y.cls ≠ "java/lang/invoke/MethodHandle" ∧ y.cls ≠ "java/lang/invoke/VarHandle")
    (M : Con l Z EL b y ybytes ymax none [] rm (.ref a :: argsL).toArray h V Q') (hV : ∀ x ∈ V, x ∈ W) (hpd : parseMethodDescriptor y.desc = some ⟨ps, pr⟩) (hal : argsL.length = ps.length) (hst : st = argsL.reverse ++ .ref a :: rest) (hsz : L.length = maxL)
    (hd : decode bytes pc = .ok (.invokespecial index, 3)) (hp : pc + 3 = pc') (hWt : (rest.map fun v => v.category).sum ≤ Wt) (hf : rm.frames + 1 ≤ R.frames) (hl : Wt + (ymax + 11) + rm.locals ≤ R.locals) (hc0 : k + rm.cells ≤ R.cells) (hn0 : n + rm.slots ≤ R.slots)
    (hr : ∀ v h' W', Q' v h' W' → h.size ≤ h'.size → WP p l e R s m args below meth c Z EL b Q pc' L (v.toList ++ rest) h' W (k + rm.cells) (n + rm.slots)) :
    WP p l e R s m args below meth c Z EL b Q pc L st h W k n :=
  callIW C hy1 w1 w2 w3 w4 hy M hV hpd hal hst hsz hd hp hWt hf hl hc0 hn0 fun v h' W' q g => (hr v h' W' q g).wk fun x hx => List.mem_append_right _ hx
theorem callVW (C : Cx p m meth c s Z a0 EL b own nm bytes maxL ret) {pc' index : Nat} {K : String} {y z : MethodName} {ybytes : ByteArray} {ymax : Nat} {yret : Option FieldType} {rm : Room} {V : List Nat} {Q' : Option Value → Heap → List Nat → Prop} {a : Nat} {argsL rest : List Value} {ps : List FieldType} {pr : Option FieldType} {Wt : Nat}
    (w1 : (Cond.methodLink own index y).before a0 Z = true) (w2 : (Cond.declares y).before a0 Z = true) (wf : (Cond.selects y.cls y y).before a0 Z = true) (w5 : (Cond.selects K y z).before a0 Z = true) (w6 : (Cond.instanceMethod z).before a0 Z = true) (w3 : (Cond.initialized z.cls).before a0 Z = true) (w4 : (Cond.code z ybytes ymax yret).before a0 Z = true) (hy : y.cls ≠ "java/lang/invoke/MethodHandle" ∧ y.cls ≠ "java/lang/invoke/VarHandle")
    (E : Exa Z h a K) (M : Con l Z EL b z ybytes ymax yret [] rm (.ref a :: argsL).toArray h V Q') (hV : ∀ x ∈ V, x ∈ W) (hpd : parseMethodDescriptor y.desc = some ⟨ps, pr⟩) (hal : argsL.length = ps.length) (hst : st = argsL.reverse ++ .ref a :: rest) (hsz : L.length = maxL)
    (hd : decode bytes pc = .ok (.invokevirtual index, 3)) (hp : pc + 3 = pc') (hWt : (rest.map fun v => v.category).sum ≤ Wt) (hf : rm.frames + 1 ≤ R.frames) (hl : Wt + (ymax + 11) + rm.locals ≤ R.locals) (hc0 : k + rm.cells ≤ R.cells) (hn0 : n + rm.slots ≤ R.slots)
    (hr : ∀ v h' W', Q' v h' W' → h.size ≤ h'.size → WP p l e R s m args below meth c Z EL b Q pc' L (v.toList ++ rest) h' (W' ++ W) (k + rm.cells) (n + rm.slots)) :
    WP p l e R s m args below meth c Z EL b Q pc L st h W k n := by
  subst hp hst
  intro T vm0 k0 locs cells slots X eT hS hk hb' hC hO hW hF hc hn
  have hZ0 : Z.Warmed39 (s.setVm vm0).vm := C.z hS
  have hsz' : (mkF m pc L.toArray (argsL.reverse ++ .ref a :: rest)).locals.size = c.maxLocals := by rw [C.2.2.1, ← hsz]; simp
  obtain ⟨cB, kB, qa, qb, qc⟩ := isOf hZ0 eT E
  have hnf : NotFace (s.setVm vm0) y := notFace_of_selects (args := #[]) (mv hZ0 wf)
  cases b with
  | false =>
    obtain ⟨v, vm1, B, -, X', hS', hg, P, q⟩ := X.virtualBackS C.1 (C.o hS) (mv hZ0 w1) (mv hZ0 w2) hnf (mv hZ0 w5) (mv hZ0 w6) hy (M.backS (W := V) hZ0 w4 w3 hf hl C.ew hC.1 hO (hW.sub hV)) qa qc (g := mkF m pc L.toArray (argsL.reverse ++ .ref a :: rest)) rfl hsz' (Steps.refl _) (lenOf hpd hal) rfl (by show 2 * 0 + _ ≤ _; omega) (hb C.2.1 hd) (fun _ _ => ⟨rfl, eT, by show cells + _ ≤ _; omega, by show slots + _ ≤ _; omega⟩)
    obtain ⟨s2, v2, q2, r⟩ := WP.after (V := V) C hc0 hn0 hr eT hS hk hb' hC hW hF hc hn X' hS' (Or.inl ⟨rfl, rfl⟩) hg P
    exact ⟨s2, v2, q.trans q2, r⟩
  | true =>
    obtain rfl := C.2.2.2.2.2.2.2.2.2.2 rfl
    obtain ⟨v, vm1, B, -, X', P, q⟩ := X.virtualBack C.1 (C.o hS) (mv hZ0 w1) (mv hZ0 w2) hnf (mv hZ0 w5) (mv hZ0 w6) hy (M.back (W := V) hZ0 w4 w3 hf hl hC.1 hO (hW.sub hV)) qa qc (g := mkF m pc L.toArray (argsL.reverse ++ .ref a :: rest)) rfl hsz' (Steps.refl _) (lenOf hpd hal) rfl (by show 2 * 0 + _ ≤ _; omega) (hb C.2.1 hd) (fun _ _ => ⟨rfl, eT, by show cells + _ ≤ _; omega, by show slots + _ ≤ _; omega⟩)
    have hg : T.heap.size ≤ B.U.heap.size := by obtain ⟨_, _, _, _, _, _, _, _, _, q8⟩ := P; rw [eT]; exact q8.2.1
    obtain ⟨s2, v2, q2, r⟩ := WP.after (V := V) C hc0 hn0 hr eT hS hk hb' hC hW hF hc hn X' ((State.WarmedH.refl _).since _) (Or.inr ⟨rfl, rfl⟩) hg P
    exact ⟨s2, v2, q.trans q2, r⟩
theorem callV (C : Cx p m meth c s Z a0 EL b own nm bytes maxL ret) {pc' index : Nat} {K : String} {y z : MethodName} {ybytes : ByteArray} {ymax : Nat} {yret : Option FieldType} {rm : Room} {V : List Nat} {Q' : Option Value → Heap → List Nat → Prop} {a : Nat} {argsL rest : List Value} {ps : List FieldType} {pr : Option FieldType} {Wt : Nat}
    (w1 : (Cond.methodLink own index y).before a0 Z = true) (w2 : (Cond.declares y).before a0 Z = true) (wf : (Cond.selects y.cls y y).before a0 Z = true) (w5 : (Cond.selects K y z).before a0 Z = true) (w6 : (Cond.instanceMethod z).before a0 Z = true) (w3 : (Cond.initialized z.cls).before a0 Z = true) (w4 : (Cond.code z ybytes ymax yret).before a0 Z = true) (hy : y.cls ≠ "java/lang/invoke/MethodHandle" ∧ y.cls ≠ "java/lang/invoke/VarHandle")
    (E : Exa Z h a K) (M : Con l Z EL b z ybytes ymax yret [] rm (.ref a :: argsL).toArray h V Q') (hV : ∀ x ∈ V, x ∈ W) (hpd : parseMethodDescriptor y.desc = some ⟨ps, pr⟩) (hal : argsL.length = ps.length) (hst : st = argsL.reverse ++ .ref a :: rest) (hsz : L.length = maxL)
    (hd : decode bytes pc = .ok (.invokevirtual index, 3)) (hp : pc + 3 = pc') (hWt : (rest.map fun v => v.category).sum ≤ Wt) (hf : rm.frames + 1 ≤ R.frames) (hl : Wt + (ymax + 11) + rm.locals ≤ R.locals) (hc0 : k + rm.cells ≤ R.cells) (hn0 : n + rm.slots ≤ R.slots)
    (hr : ∀ v h' W', Q' v h' W' → h.size ≤ h'.size → WP p l e R s m args below meth c Z EL b Q pc' L (v.toList ++ rest) h' W (k + rm.cells) (n + rm.slots)) :
    WP p l e R s m args below meth c Z EL b Q pc L st h W k n :=
  callVW C w1 w2 wf w5 w6 w3 w4 hy E M hV hpd hal hst hsz hd hp hWt hf hl hc0 hn0 fun v h' W' q g => (hr v h' W' q g).wk fun x hx => List.mem_append_right _ hx
end Calls
end Jvm.Ow
namespace Jvm.Ow
open Sem ClassFile Op Lib Bundle Jvm.Stand Jvm.Free Jvm.LawKit Jvm.RoadKit
theorem room_le {s : State} {pl : Platform} {r r' : Room} (h : s.hasRoom pl r' = true) (h1 : r.frames ≤ r'.frames) (h2 : r.cells ≤ r'.cells) (h3 : r.slots ≤ r'.slots) (h4 : r.locals ≤ r'.locals) : s.hasRoom pl r = true := by
  exact State.hasRoom_ride (by omega) (by omega) rfl rfl (by omega) (by omega) (State.hasRoom_slotsTrue h) h
/-- a contract with more room than it asks -/
theorem Con.rm {l : Launch} {Z : State} {EL : List (String × Nat)} {b : Bool} {y : MethodName} {bytes : ByteArray} {maxL : Nat} {ret : Option FieldType} {ws : List Jvm.Cond} {rm rm' : Room} {as' : Array Value} {h : Heap} {W : List Nat} {Q : Option Value → Heap → List Nat → Prop}
    (M : Con l Z EL b y bytes maxL ret ws rm as' h W Q) (h1 : rm.frames ≤ rm'.frames) (h2 : rm.cells ≤ rm'.cells) (h3 : rm.slots ≤ rm'.slots) (h4 : rm.locals ≤ rm'.locals) : Con l Z EL b y bytes maxL ret ws rm' as' h W Q := by
  intro p e a1 a2 a3 s m args below hf ha hP hK
  obtain ⟨q1, q2, q3, q4, q5, q6, q7, q8⟩ := (Spec.appliesLoose_iff hf).mp ha
  obtain ⟨n, o, x1, x2, x3, v, L, x4, x5, x6, x7, x8⟩ := M p e a1 a2 a3 s m args below hf ((Spec.appliesLoose_iff hf).mpr ⟨q1, q2, q3, q4, q5, q6, room_le q7 h1 h2 h3 h4, q8⟩) hP hK
  exact ⟨n, o, x1, x2, x3, v, L, x4, x5, x6, ⟨x7.1, x7.2.1, x7.2.2.1, State.sameButNew.mono x7.2.2.2 h2 h3⟩, fun hb => ⟨(x8 hb).1, (x8 hb).2.1, State.sameButNew.mono (x8 hb).2.2 h2 h3⟩⟩
end Jvm.Ow
namespace Jvm.Ow
open Sem ClassFile Op Lib
theorem locals_all {vs : List Value} {n : Nat} {L : List Slot} (hc : ∀ v ∈ vs, ¬ v.category = 2) (hL : vs.map Slot.val ++ List.replicate (n - vs.length) .unset = L) : argsToLocals vs.toArray n = L.toArray := by
  subst hL
  have f : ∀ (ws : List Value) (acc : Array Slot), (∀ v ∈ ws, ¬ v.category = 2) → ws.foldl (fun acc v => if v.category = 2 then (acc.push (.val v)).push .second else acc.push (.val v)) acc = acc ++ (ws.map Slot.val).toArray := by
    intro ws
    induction ws with
    | nil => intro acc _; simp
    | cons w ws ih => intro acc h; rw [List.foldl_cons, if_neg (h w (by simp)), ih _ (fun v hv => h v (by simp [hv]))]; simp
  unfold argsToLocals
  have e := f vs #[] hc
  simp only [List.size_toArray, List.foldl_toArray']
  rw [e]
  simp
end Jvm.Ow
namespace Jvm.Ow
open Sem ClassFile Op Lib Bundle Jvm.Stand Jvm.Free Jvm.LawKit Jvm.RoadKit
/-! branches, said as plain propositions -/
theorem dec_of {P : Prop} [Decidable P] {x : Bool} (h1 : P → x = true) (h2 : ¬ P → x = false) : x = decide P := by
  by_cases q : P
  · rw [h1 q, decide_eq_true q]
  · rw [h2 q, decide_eq_false q]
theorem hEq (x : Int32) : ifCond.holds .eq x = decide (x = 0) := dec_of XT.i0_eq_t XT.i0_eq_f
theorem hNe (x : Int32) : ifCond.holds .ne x = decide (¬ x = 0) := dec_of XT.i0_ne_t (fun q => XT.i0_ne_f (Decidable.not_not.mp q))
theorem hLt (x : Int32) : ifCond.holds .lt x = decide (x < 0) := dec_of XT.i0_lt_t XT.i0_lt_f
theorem hGe (x : Int32) : ifCond.holds .ge x = decide (¬ x < 0) := dec_of XT.i0_ge_t (fun q => XT.i0_ge_f (Decidable.not_not.mp q))
theorem hGt (x : Int32) : ifCond.holds .gt x = decide (0 < x) := dec_of XT.i0_gt_t XT.i0_gt_f
theorem hLe (x : Int32) : ifCond.holds .le x = decide (¬ 0 < x) := dec_of XT.i0_le_t (fun q => XT.i0_le_f (Decidable.not_not.mp q))
theorem kEq (x y : Int32) : if_icmp.holds .eq x y = decide (x = y) := dec_of XT.ii_eq_t XT.ii_eq_f
theorem kNe (x y : Int32) : if_icmp.holds .ne x y = decide (¬ x = y) := dec_of XT.ii_ne_t (fun q => XT.ii_ne_f (Decidable.not_not.mp q))
theorem kLt (x y : Int32) : if_icmp.holds .lt x y = decide (x < y) := dec_of XT.ii_lt_t XT.ii_lt_f
theorem kGe (x y : Int32) : if_icmp.holds .ge x y = decide (¬ x < y) := dec_of XT.ii_ge_t (fun q => XT.ii_ge_f (Decidable.not_not.mp q))
theorem kGt (x y : Int32) : if_icmp.holds .gt x y = decide (y < x) := dec_of XT.ii_gt_t XT.ii_gt_f
theorem kLe (x y : Int32) : if_icmp.holds .le x y = decide (¬ y < x) := dec_of XT.ii_le_t (fun q => XT.ii_le_f (Decidable.not_not.mp q))
theorem aEq (x y : Value) : XT.acmp .eq x y = decide (x = y) := rfl
theorem aNe (x y : Value) : XT.acmp .ne x y = decide (¬ x = y) := rfl
/-! numbers -/
theorem nar_char (x : Int32) : (nar .char x).toInt = x.toInt % 65536 := by
  have := c_i2c x
  show x.toUInt32.toUInt16.toUInt32.toInt32.toInt = _
  omega
theorem nar_byte (x : Int32) : ((nar .byte x).toInt - x.toInt) % 256 = 0 ∧ -128 ≤ (nar .byte x).toInt ∧ (nar .byte x).toInt < 128 := c_i2b x
theorem i32_ext {x y : Int32} (q : x.toInt = y.toInt) : x = y := Int32.toInt_inj.mp q
theorem nar_char_id {x : Int32} (h0 : 0 ≤ x.toInt) (h1 : x.toInt < 65536) : nar .char x = x := i32_ext (by rw [nar_char]; omega)
theorem nar_byte_inj {x y : Int32} (hx : 0 ≤ x.toInt ∧ x.toInt < 256) (hy : 0 ≤ y.toInt ∧ y.toInt < 256) (q : nar .byte x = nar .byte y) : x = y := by
  have h1 := nar_byte x; have h2 := nar_byte y; rw [q] at h1
  exact i32_ext (by omega)
theorem lt32 {x y : Int32} : x < y ↔ x.toInt < y.toInt := Int32.lt_iff_toInt_lt
theorem ofNat_toInt {i : Nat} (hi : i < 2 ^ 31) : (Int32.ofNat i).toInt = (i : Int) := toInt_of rfl hi
theorem ofNat_inj {i j : Nat} (hi : i < 2 ^ 31) (hj : j < 2 ^ 31) (q : Int32.ofNat i = Int32.ofNat j) : i = j := by
  have h1 := ofNat_toInt hi; have h2 := ofNat_toInt hj; rw [q] at h1; omega
/-- the part of a heap fact that a later heap keeps -/
theorem nin1 {x y : Nat} (q : x ≠ y) : x ∉ [y] := fun z => q (List.mem_singleton.mp z)
theorem Keep.z {h h' : Heap} (E : Ext h h') : Keep h h' [] := (Keep.refl h []).ext E
/-! a String of Latin-1 signs -/
def StrL (Z : State) (h : Heap) (a d : Nat) (cs : List Int32) : Prop :=
  Exa Z h a "java/lang/String" ∧ Fld Z h a "java/lang/String" "value" "[B" (.ref d) ∧ Fld Z h a "java/lang/String" "coder" "B" (.int 0) ∧ ArI Z h d .byte (cs.map (nar .byte)) ∧ ∀ c ∈ cs, 0 ≤ c.toInt ∧ c.toInt < 256
theorem StrL.keep {Z : State} {h h' : Heap} {a d : Nat} {cs : List Int32} {ws : List Nat} (S : StrL Z h a d cs) (K : Keep h h' ws) (ha : a ∉ ws) (hd : d ∉ ws) : StrL Z h' a d cs :=
  ⟨S.1.keep K, S.2.1.keep K ha, S.2.2.1.keep K ha, S.2.2.2.1.keep K hd, S.2.2.2.2⟩
theorem StrL.ext {Z : State} {h h' : Heap} {a d : Nat} {cs : List Int32} (S : StrL Z h a d cs) (E : Ext h h') : StrL Z h' a d cs := S.keep (Keep.z E) nin0 nin0
theorem StrL.lt {Z : State} {h : Heap} {a d : Nat} {cs : List Int32} (S : StrL Z h a d cs) : a < h.size ∧ d < h.size := ⟨S.1.lt, S.2.2.2.1.lt⟩
theorem StrL.len {Z : State} {h : Heap} {a d : Nat} {cs : List Int32} (S : StrL Z h a d cs) : cs.length < 2 ^ 31 := by simpa using S.2.2.2.1.2
/-- how many signs from the left are Latin-1 -/
def lead (xs : List Int32) : Nat := (xs.takeWhile fun x => decide (x.toInt < 256)).length
theorem lead_le (xs : List Int32) : lead xs ≤ xs.length := by
  induction xs with
  | nil => simp [lead]
  | cons x xs ih =>
    unfold lead at ih ⊢
    by_cases q : x.toInt < 256
    · simp [q]; exact ih
    · simp [q]
theorem lead_all {xs : List Int32} (q : ∀ x ∈ xs, x.toInt < 256) : lead xs = xs.length := by
  induction xs with
  | nil => rfl
  | cons x xs ih =>
    unfold lead at ih ⊢
    have h1 := q x (by simp)
    have h2 := ih fun y hy => q y (by simp [hy])
    simp [h1, h2]
theorem lead_at {xs : List Int32} {i : Nat} (hi : i < xs.length) (q : ∀ j, j < i → (xs.getD j 0).toInt < 256) (r : ¬ (xs.getD i 0).toInt < 256) : lead xs = i := by
  induction xs generalizing i with
  | nil => simp at hi
  | cons x xs ih =>
    unfold lead at ih ⊢
    cases i with
    | zero => simp at r ⊢; simp [show ¬ x.toInt < 256 by omega]
    | succ i =>
      have h0 := q 0 (by omega)
      simp at h0 hi r
      have := ih hi (fun j hj => by have := q (j + 1) (by omega); simpa using this) (by simpa using r)
      simp [h0, this]
theorem take_snoc {xs : List Int32} {i : Nat} (hi : i < xs.length) : xs.take (i + 1) = xs.take i ++ [xs.getD i 0] := by rw [List.take_add_one]; simp [hi]
theorem take_step {xs : List Int32} {i r : Nat} (hi : i < xs.length) (f : Int32 → Int32) : (((xs.take i).map f) ++ List.replicate (r + 1) (0 : Int32)).set i (f (xs.getD i 0)) = ((xs.take (i + 1)).map f) ++ List.replicate r 0 := by
  have h1 : ((xs.take i).map f).length = i := by simp; omega
  rw [List.set_append_right _ _ (by omega), h1, Nat.sub_self, List.replicate_succ, List.set_cons_zero, take_snoc hi, List.map_append, List.append_assoc]
  rfl
end Jvm.Ow
namespace Jvm.Ow
open Sem ClassFile Op Lib Bundle Jvm.Stand Jvm.Free Jvm.LawKit Jvm.RoadKit
theorem cat_ref (a : Nat) : (Value.ref a).category = 1 := rfl
theorem cat_int (x : Int32) : (Value.int x).category = 1 := rfl
theorem cat_null : Value.null.category = 1 := rfl
theorem narO {v : Value} (hv : v.isRef = true) {t : String} : narrow (.object t) v = v := by cases v <;> first | rfl | (cases hv; done)
theorem fitO {v : Value} (hv : v.isRef = true) {t : String} : fits (.object t) v = true := by cases v <;> first | rfl | (cases hv; done)
theorem narZ {x : Int32} (hx : x = 0 ∨ x = 1) : narrow .boolean (.int x) = .int x := by rcases hx with rfl | rfl <;> rfl
theorem fitZ {x : Int32} (hx : x = 0 ∨ x = 1) : fits .boolean (.int x) = true := by rcases hx with rfl | rfl <;> rfl
theorem nar01 {x : Int32} (hx : x = 0 ∨ x = 1) : nar .boolean x = x := by rcases hx with rfl | rfl <;> rfl
end Jvm.Ow
namespace Jvm.Ow
open Sem ClassFile Op Lib Bundle Jvm.Stand Jvm.Free Jvm.LawKit Jvm.RoadKit
/-- what indexOf says: the first place at or behind i that holds ch, or -1 -/
def Idx (cs : List Int32) (ch : Int32) (i : Nat) (v : Int32) : Prop :=
  (∃ j, i ≤ j ∧ j < cs.length ∧ cs.getD j 0 = ch ∧ (∀ k, i ≤ k → k < j → ¬ cs.getD k 0 = ch) ∧ v = Int32.ofNat j) ∨ ((∀ k, i ≤ k → k < cs.length → ¬ cs.getD k 0 = ch) ∧ v = -1)
theorem getD_mem {cs : List Int32} {i : Nat} (hi : i < cs.length) : cs.getD i 0 ∈ cs := by
  rw [List.getD_eq_getElem?_getD, List.getElem?_eq_getElem hi]; exact List.getElem_mem hi
theorem map_getD {cs : List Int32} {i : Nat} {f : Int32 → Int32} (hi : i < cs.length) : (cs.map f).getD i 0 = f (cs.getD i 0) := by
  simp [List.getD_eq_getElem?_getD, hi]
theorem zero_toInt : ((0 : Int32)).toInt = 0 := rfl
end Jvm.Ow
namespace Jvm.Ow
open Sem ClassFile Op Lib Bundle Jvm.Stand Jvm.Free Jvm.LawKit Jvm.RoadKit
theorem Idx.one {cs : List Int32} {ch : Int32} {i : Nat} {v w : Int32} (A : Idx cs ch i v) (B : Idx cs ch i w) : v = w := by
  rcases A with ⟨j, a1, a2, a3, a4, rfl⟩ | ⟨a1, rfl⟩ <;> rcases B with ⟨k, b1, b2, b3, b4, rfl⟩ | ⟨b1, rfl⟩
  · rcases Nat.lt_trichotomy j k with q | q | q
    · exact absurd a3 (b4 j a1 q)
    · rw [q]
    · exact absurd b3 (a4 k b1 q)
  · exact absurd a3 (b1 j a1 a2)
  · exact absurd b3 (a1 k b1 b2)
  · rfl
theorem charR (x : Int32) : 0 ≤ (nar .char x).toInt ∧ (nar .char x).toInt < 65536 := by rw [nar_char]; omega
end Jvm.Ow
namespace Jvm.Ow
open Sem ClassFile Op Lib Bundle Jvm.Stand Jvm.Free Jvm.LawKit Jvm.RoadKit
/-- a static that the sheet's words give a value -/
theorem staEq {s : State} {args : Array Value} {C n d : String} {x : Int32} (w1 : (Cond.initializedFor C n d).before args s = true) (w2 : (Cond.eq (Term.static C n d) (Term.int x)).before args s = true) : Sta s s.heap C n d (.int x) := by
  have q := Cond.before_iff.mp w2
  obtain ⟨u, v, h1, h2, k1, k2⟩ := cmp_v (Or.inl q)
  have h3 : (Term.int x).eval args s none [] s = some (.int x) := Term.int_eval x
  obtain rfl : v = .int x := Option.some.inj (h2.symm.trans h3)
  obtain ⟨z, rfl⟩ := k2
  obtain rfl := gotT (Cond.eq_ints h1 h3) q
  exact Sta.start h1 (Or.inl w1)
end Jvm.Ow
namespace Jvm.Ow
open Sem ClassFile Op Lib Bundle Jvm.Stand Jvm.Free Jvm.LawKit Jvm.RoadKit
section Copy
variable {p : Program} {l : Launch} {e : Env} {R : Room} {s : State} {m : MethodId} {args : Array Value} {below : List Frame} {meth : Method} {c : Code} {Z : State} {a0 : Array Value} {EL : List (String × Nat)} {b : Bool} {own nm : String} {bytes : ByteArray} {maxL : Nat} {ret : Option FieldType} {Q : Option Value → Heap → List Nat → Prop}
  {pc : Nat} {L : List Slot} {st : List Value} {h : Heap} {W : List Nat} {k n : Nat}
theorem stretch_eq (xs : List Int32) (i q : Nat) (h : i + q ≤ xs.length) : (List.range q).map (fun t => (xs.map Value.int).getD (i + t) (.int 0)) = ((xs.drop i).take q).map Value.int := by
  apply List.ext_getElem
  · simp; omega
  · intro t h1 h2
    simp at h1 h2
    simp [List.getD_eq_getElem?_getD, show i + t < xs.length by omega]
theorem acopy (C : Cx p m meth c s Z a0 EL b own nm bytes maxL ret) {pc' index : Nat} {x y : Nat} {ty : FieldType} {xs ys : List Int32} {sp dp nn : Int32} {i j q : Nat}
    (w1 : (Cond.methodLink own index Jvm.Stand.acN).before a0 Z = true) (w2 : (Cond.native Jvm.Stand.acN).before a0 Z = true) (w3 : (Cond.static Jvm.Stand.acN).before a0 Z = true) (w4 : (Cond.initialized "java/lang/System").before a0 Z = true)
    (A : ArI Z h x ty xs) (B : ArI Z h y ty ys) (hk : refKind ty = false) (hi : sp.toInt = (i : Int)) (hj : dp.toInt = (j : Int)) (hq : nn.toInt = (q : Int)) (h4 : i + q ≤ xs.length) (h5 : j + q ≤ ys.length) (hyW : y ∈ W)
    (hd : decode bytes pc = .ok (.invokestatic index, 3)) (hp : pc + 3 = pc') (hsz : L.length = maxL) (hf : 1 ≤ R.frames) {Wt : Nat} (hWt : (st.map fun v => v.category).sum ≤ Wt) (hlo : Wt + (nativeFrameWords "java/lang/System" "arraycopy" 5 + 11) ≤ R.locals)
    (hr : ∀ h', Keep h h' [y] → ArI Z h' y ty (ys.take j ++ (xs.drop i).take q ++ ys.drop (j + q)) → WP p l e R s m args below meth c Z EL b Q pc' L st h' W k n) :
    WP p l e R s m args below meth c Z EL b Q pc L (.int nn :: .int dp :: .ref y :: .int sp :: .ref x :: st) h W k n := by
  subst hp
  intro T vm0 k0 locs cells slots X eT hS hk0 hb' hC hO hW hF hc hn
  obtain ⟨⟨ka, Av⟩, la⟩ := A
  obtain ⟨⟨kb, Bv⟩, lb⟩ := B
  obtain ⟨i1, i2⟩ := idx_ok hi
  obtain ⟨j1, j2⟩ := idx_ok hj
  obtain ⟨q1, q2⟩ := idx_ok hq
  have hsz' : (mkF m pc L.toArray (.int nn :: .int dp :: .ref y :: .int sp :: .ref x :: st)).locals.size = c.maxLocals := by rw [C.2.2.1, ← hsz]; simp
  obtain ⟨T', h', L', X', e', N', K', B', go⟩ := cpA X C.1 (C.z hS) (C.o hS) w1 w2 w3 w4 eT Av Bv (us := ((xs.drop i).take q).map Value.int) (Or.inl ⟨rfl, hk⟩) i1 j1 q1 (by rw [i2, q2, ofNat_clamp la]; exact h4) (by rw [j2, q2, ofNat_clamp lb]; exact h5)
    (by rw [i2, q2]; exact (stretch_eq xs i q h4).symm) (by rw [j2, q2]; simpa using h5) hF (hW y hyW).1 (g := mkF m pc L.toArray (.int nn :: .int dp :: .ref y :: .int sp :: .ref x :: st)) rfl hsz' rfl (hb C.2.1 hd) hf (W := Wt) (by show 2 * 0 + _ ≤ _; omega) hlo
  have hl : (ys.take j ++ (xs.drop i).take q ++ ys.drop (j + q)).length = ys.length := by simp; omega
  have A' := CHr.keep K' (fun z hz => by rw [List.mem_singleton.mp hz]; exact (hW y hyW).2.2) hC.1
  have hO' := hO.keep K' (fun z hz => by rw [List.mem_singleton.mp hz]; exact (hW y hyW).1)
  obtain ⟨s2, v, st2, r⟩ := hr h' K' ⟨⟨kb, by rw [hl]; rw [j2, q2] at B'; simpa [List.map_append, List.map_take, List.map_drop] using B'⟩, by rw [hl]; exact lb⟩ T' vm0 k0 L' cells slots X' e' hS (Nat.le_trans hk0 K'.1) hb' (hC.trans A') hO' (hW.r A') N' hc hn
  exact ⟨s2, v, go _ st2, r⟩
end Copy
end Jvm.Ow
namespace Jvm.Ow
open Sem ClassFile Op Lib Bundle Jvm.Stand Jvm.Free Jvm.LawKit Jvm.RoadKit
theorem eq32 {x y : Int32} : x = y ↔ x.toInt = y.toInt := ⟨fun q => by rw [q], i32_ext⟩
theorem ArI.same_len {Z : State} {h : Heap} {a : Nat} {ty ty' : FieldType} {xs ys : List Int32} (A : ArI Z h a ty xs) (B : ArI Z h a ty' ys) : xs.length = ys.length := by
  obtain ⟨c1, A1, s1, -⟩ := A.cell
  obtain ⟨c2, A2, s2, -⟩ := B.cell
  have := A1.1.symm.trans A2.1
  cases this
  omega
/-- the capital letters of Latin-1 -/
def upp (c : Int32) : Prop := (65 ≤ c.toInt ∧ c.toInt ≤ 90) ∨ (192 ≤ c.toInt ∧ c.toInt ≤ 222 ∧ ¬ c.toInt = 215)
instance (c : Int32) : Decidable (upp c) := by unfold upp; infer_instance
def low (c : Int32) : Int32 := if upp c then c + 32 else c
/-- CharacterDataLatin1.toLowerCase, as its body reckons -/
def clo (c : Int32) : Int32 := if ¬ c < 65 then (if ¬ 122 < (c ||| 32) then (c ||| 32) else if (c ||| 32) < 224 then c else if 254 < (c ||| 32) then c else if (c ||| 32) = 247 then c else (c ||| 32)) else c
theorem clo_low0 : ∀ n : Fin 256, clo (Int32.ofNat n.val) = low (Int32.ofNat n.val) := by decide +kernel
theorem of_range {c : Int32} (h0 : 0 ≤ c.toInt) (h1 : c.toInt < 256) : ∃ n : Fin 256, c = Int32.ofNat n.val := by
  refine ⟨⟨c.toInt.toNat, by omega⟩, i32_ext ?_⟩
  rw [ofNat_toInt (by show c.toInt.toNat < 2 ^ 31; omega)]
  show c.toInt = ((c.toInt.toNat : Nat) : Int)
  omega
theorem clo_low {c : Int32} (h0 : 0 ≤ c.toInt) (h1 : c.toInt < 256) : clo c = low c := by
  obtain ⟨n, rfl⟩ := of_range h0 h1; exact clo_low0 n
theorem add32v {c : Int32} (h0 : 0 ≤ c.toInt) (h1 : c.toInt < 256) : (c + 32).toInt = c.toInt + 32 := by
  have h := c_iadd c 32
  have r := rng32 (c + 32)
  have e : ((32 : Int32)).toInt = 32 := rfl
  rw [e] at h; omega
theorem low_rng {c : Int32} (h0 : 0 ≤ c.toInt) (h1 : c.toInt < 256) : 0 ≤ (low c).toInt ∧ (low c).toInt < 256 := by
  unfold low
  by_cases q : upp c
  · rw [if_pos q, add32v h0 h1]; unfold upp at q; omega
  · rw [if_neg q]; exact ⟨h0, h1⟩
theorem byte_back {c : Int32} (h0 : 0 ≤ c.toInt) (h1 : c.toInt < 256) : nar .byte c &&& 255 = c := by
  apply i32_ext
  have h := c_mask (nar .byte c) 255 8 (by decide) (by decide)
  have b := nar_byte c
  have e : ((2 ^ 8 : Nat) : Int) = 256 := rfl
  rw [h, e]; omega
theorem getD_rng {cs : List Int32} {i : Nat} {P : Int32 → Prop} (h : ∀ c ∈ cs, P c) (hi : i < cs.length) : P (cs.getD i 0) := h _ (by rw [List.getD_eq_getElem?_getD, List.getElem?_eq_getElem hi]; exact List.getElem_mem hi)
theorem map_id_of {cs : List Int32} {f : Int32 → Int32} (h : ∀ j, j < cs.length → f (cs.getD j 0) = cs.getD j 0) : cs.map f = cs := by
  apply List.ext_getElem (by simp)
  intro j h1 h2
  have := h j h2
  simpa [List.getD_eq_getElem?_getD, h2] using this
theorem take_map_id {cs : List Int32} {f : Int32 → Int32} {i : Nat} (hi : i ≤ cs.length) (h : ∀ j, j < i → f (cs.getD j 0) = cs.getD j 0) : (cs.map f).take i = cs.take i := by
  apply List.ext_getElem (by simp)
  intro j h1 h2
  simp at h1 h2
  have := h j (by omega)
  simpa [List.getD_eq_getElem?_getD, show j < cs.length by omega] using this
theorem nar_byte_nar' (x : Int32) : nar .byte (nar .byte x) = nar .byte x := i32_ext (by have h1 := nar_byte (nar .byte x); have h2 := nar_byte x; omega)
theorem mask255 (x : Int32) : 0 ≤ (nar .char (x &&& 255)).toInt ∧ (nar .char (x &&& 255)).toInt < 256 := by
  have h := c_mask x 255 8 (by decide) (by decide)
  rw [nar_char, h]
  omega
theorem and3 (x : Int32) : ∃ i : Nat, i ≤ 3 ∧ x &&& 3 = Int32.ofNat i := by
  have h := c_mask x 3 2 (by decide) (by decide)
  refine ⟨(x.toInt % 4).toNat, by omega, i32_ext ?_⟩
  rw [h, ofNat_toInt (by omega)]
  have : ((2 ^ 2 : Nat) : Int) = 4 := by decide
  omega
theorem ArI.ne0 {Z : State} {h : Heap} {a b : Nat} {ty ty' : FieldType} {xs : List Int32} {c : Cell} (A : Arr Z h a c ty) (h0 : c.slots.size = 0) (B : ArI Z h b ty' xs) (hx : 0 < xs.length) : a ≠ b := fun q => by
  subst q
  obtain ⟨c2, A2, s2, -⟩ := B.cell
  have := A.1.symm.trans A2.1
  cases this
  omega
end Jvm.Ow
namespace Jvm.Ow
open Sem ClassFile Op Lib Bundle Jvm.Stand Jvm.Free Jvm.LawKit Jvm.RoadKit
theorem sub_ofNat {i j : Nat} (h : i ≤ j) (hj : j < 2 ^ 31) : Int32.ofNat j - Int32.ofNat i = Int32.ofNat (j - i) := by
  apply i32_ext
  have h1 := c_isub (Int32.ofNat j) (Int32.ofNat i)
  have h2 := rng32 (Int32.ofNat j - Int32.ofNat i)
  rw [ofNat_toInt hj, ofNat_toInt (by omega)] at h1
  rw [ofNat_toInt (by omega)]
  omega
theorem add_ofNat {i j : Nat} (h : i + j < 2 ^ 31) : Int32.ofNat i + Int32.ofNat j = Int32.ofNat (i + j) := by
  apply i32_ext
  have h1 := c_iadd (Int32.ofNat i) (Int32.ofNat j)
  have h2 := rng32 (Int32.ofNat i + Int32.ofNat j)
  rw [ofNat_toInt (by omega), ofNat_toInt (by omega)] at h1
  rw [ofNat_toInt (by omega)]
  omega
theorem dec_ofNat {i : Nat} (h : i + 1 < 2 ^ 31) : Int32.ofNat (i + 1) + (-1) = Int32.ofNat i := by
  apply i32_ext
  have h1 := c_iadd (Int32.ofNat (i + 1)) (-1)
  have h2 := rng32 (Int32.ofNat (i + 1) + (-1))
  have h3 : ((-1 : Int32)).toInt = -1 := rfl
  rw [ofNat_toInt (by omega), h3] at h1
  rw [ofNat_toInt (by omega)]
  omega
theorem pred_ofNat {i : Nat} (h : i + 1 < 2 ^ 31) : Int32.ofNat (i + 1) - 1 = Int32.ofNat i := sub_ofNat (i := 1) (j := i + 1) (by omega) h
/-- Java's white space among the Latin-1 signs -/
def wsp (c : Int32) : Prop := (9 ≤ c.toInt ∧ c.toInt ≤ 13) ∨ (28 ≤ c.toInt ∧ c.toInt ≤ 32)
instance (c : Int32) : Decidable (wsp c) := by unfold wsp; infer_instance
/-- the places where the stripped text begins and ends -/
def Str0 (cs : List Int32) (s e : Nat) : Prop := s ≤ cs.length ∧ e ≤ cs.length ∧ (∀ k, k < s → wsp (cs.getD k 0)) ∧ (s = cs.length ∨ ¬ wsp (cs.getD s 0)) ∧ (∀ k, e ≤ k → k < cs.length → wsp (cs.getD k 0)) ∧ (e = 0 ∨ ¬ wsp (cs.getD (e - 1) 0))
theorem StrL.uniq {Z : State} {h : Heap} {a d d' : Nat} {cs ds : List Int32} (S : StrL Z h a d cs) (T : StrL Z h a d' ds) : cs = ds := by
  have hd : d = d' := by
    rcases Nat.decEq d d' with q | q
    · exact absurd rfl (Fld.ne S.2.1 T.2.1 (fun e => q (Value.ref.inj e)))
    · exact q
  subst hd
  have hl := S.2.2.2.1.same_len T.2.2.2.1
  simp at hl
  obtain ⟨c1, A1, s1, g1⟩ := S.2.2.2.1.cell
  obtain ⟨c2, A2, s2, g2⟩ := T.2.2.2.1.cell
  have := A1.1.symm.trans A2.1
  cases this
  apply List.ext_getElem hl
  intro i h1 h2
  have hN : cs.length < 2 ^ 31 := S.len
  have e1 := (g1 (j := Int32.ofNat i) (i := i) (ofNat_toInt (by omega)) (by simpa using h1)).2
  have e2 := (g2 (j := Int32.ofNat i) (i := i) (ofNat_toInt (by omega)) (by simpa using h2)).2
  have e3 := e1.symm.trans e2
  simp [List.getD_eq_getElem?_getD, h1, h2] at e3
  exact nar_byte_inj (S.2.2.2.2 _ (List.getElem_mem h1)) (T.2.2.2.2 _ (List.getElem_mem h2)) e3
/-- an array of ints that the sheet's words list -/
theorem ArI.table {Z : State} {a0 : Array Value} {t : Term} {ty : FieldType} {xs : List Int32} (hf : Fit Z) (hx : xs.length < 2 ^ 31) (w1 : (Cond.arrayOf t ty).before a0 Z = true) (w2 : (Cond.eq (Term.length t) (Term.int (Int32.ofNat xs.length))).before a0 Z = true)
    (w3 : ∀ j, j < xs.length → (Cond.eq (Term.elem t (Term.int (Int32.ofNat j))) (Term.int (xs.getD j 0))).before a0 Z = true) : ∃ a : Nat, t.eval a0 Z none [] Z = some (.ref a) ∧ ArI Z Z.heap a ty xs := by
  obtain ⟨a, e1⟩ := arr_v (Cond.before_iff.mp w1)
  obtain ⟨c, A⟩ := Arr.start e1 (Cond.before_iff.mp w1)
  have e5 := eqv_i (Term.int_eval _) (Cond.before_iff.mp w2)
  have e6 := A.fin (Vm.Alike.refl _)
  have e7 : (if c.slots.size < 2 ^ 31 then some (Value.int c.slots.size.toInt32) else none) = some (.int (Int32.ofNat xs.length)) := by
    have q : (Term.length t).eval a0 Z none [] Z = (if c.slots.size < 2 ^ 31 then some (.int c.slots.size.toInt32) else none) := by simp [Term.eval, e1, e6]
    exact q.symm.trans e5
  split at e7
  · rename_i hl
    have e8 : c.slots.size.toInt32 = Int32.ofNat xs.length := by injection e7 with e7; injection e7
    have e9 : c.slots.size = xs.length := ofNat_inj hl hx e8
    have e10 : ∀ j, j < xs.length → c.slots[j]? = some (.int (xs.getD j 0)) := fun j hj => by
      have q := eqv_i (Term.int_eval _) (Cond.before_iff.mp (w3 j hj))
      have hn : ¬ (Int32.ofNat j) < 0 := by rw [lt32, ofNat_toInt (by omega)]; show ¬ ((j : Int) < 0); omega
      rw [elem_f e1 (Term.int_eval _) e6 hn, ofNat_clamp (by omega)] at q
      exact q
    have hL : ∀ (ys : List Int32) (i : Nat), (∀ j, j < ys.length → c.slots[i + j]? = some (.int (ys.getD j 0))) → HasL c i (ys.map Value.int) := by
      intro ys
      induction ys with
      | nil => intro i _; trivial
      | cons y ys ih => intro i hq; exact ⟨by simpa using hq 0 (by simp), ih (i + 1) (fun j hj => by have := hq (j + 1) (by simp; omega); simpa [Nat.add_assoc, Nat.add_comm 1] using this)⟩
    refine ⟨a, e1, ⟨c.cls, Arv.start hf A hl e8 (by rw [lt32, ofNat_toInt hx]; show ¬ ((xs.length : Int) < 0); omega) (by rw [ofNat_clamp hx]; simp) (hL xs 0 (fun j hj => by simpa using e10 j hj))⟩, hx⟩
  · cases e7
end Jvm.Ow
namespace Jvm.Ow
open Sem ClassFile Op Lib Bundle Jvm.Stand Jvm.Free Jvm.LawKit Jvm.RoadKit
theorem ifd {C : Prop} [Decidable C] {a b r : Nat} (h : r = if C then a else b) : (C ∧ r = a) ∨ (¬ C ∧ r = b) := by
  by_cases q : C
  · rw [if_pos q] at h; exact Or.inl ⟨q, h⟩
  · rw [if_neg q] at h; exact Or.inr ⟨q, h⟩
theorem bit (P : Prop) [Decidable P] : ∃ b : Nat, (P ↔ b = 1) ∧ b ≤ 1 := by
  by_cases q : P
  · exact ⟨1, by simp [q], by omega⟩
  · exact ⟨0, by simp [q], by omega⟩
theorem getD_take {L : List Int32} {p k : Nat} (hk : k < p) : (L.take p).getD k 0 = L.getD k 0 := by
  simp [List.getD_eq_getElem?_getD, hk]
theorem chainP {c0 c1 c2 c3 : Int32} {n p r3 r2 r1 r0 : Nat} (hn : n ≤ 4) (Q1 : p ≤ n) (Q2 : ∀ k, k < p → ¬ ([c0, c1, c2, c3].take n).getD k 0 = 59) (Q3 : p = n ∨ ([c0, c1, c2, c3].take n).getD p 0 = 59)
    (e3 : r3 = if 3 < n ∧ c3 = 59 then 3 else n) (e2 : r2 = if 2 < n ∧ c2 = 59 then 2 else r3) (e1 : r1 = if 1 < n ∧ c1 = 59 then 1 else r2) (e0 : r0 = if 0 < n ∧ c0 = 59 then 0 else r1) : r0 = p := by
  obtain ⟨b0, B0, -⟩ := bit (c0 = 59)
  obtain ⟨b1, B1, -⟩ := bit (c1 = 59)
  obtain ⟨b2, B2, -⟩ := bit (c2 = 59)
  obtain ⟨b3, B3, -⟩ := bit (c3 = 59)
  have a0 : 0 < p → ¬ b0 = 1 := fun q z => Q2 0 q (by rw [getD_take (by omega)]; exact B0.mpr z)
  have a1 : 1 < p → ¬ b1 = 1 := fun q z => Q2 1 q (by rw [getD_take (by omega)]; exact B1.mpr z)
  have a2 : 2 < p → ¬ b2 = 1 := fun q z => Q2 2 q (by rw [getD_take (by omega)]; exact B2.mpr z)
  have a3 : 3 < p → ¬ b3 = 1 := fun q z => Q2 3 q (by rw [getD_take (by omega)]; exact B3.mpr z)
  have a4 : p = n ∨ (p = 0 ∧ b0 = 1) ∨ (p = 1 ∧ b1 = 1) ∨ (p = 2 ∧ b2 = 1) ∨ (p = 3 ∧ b3 = 1) := by
    by_cases hs : p = n
    · exact Or.inl hs
    · have q := Q3.resolve_left hs
      rw [getD_take (by omega)] at q
      obtain rfl | rfl | rfl | rfl : p = 0 ∨ p = 1 ∨ p = 2 ∨ p = 3 := by omega
      · exact Or.inr (Or.inl ⟨rfl, B0.mp q⟩)
      · exact Or.inr (Or.inr (Or.inl ⟨rfl, B1.mp q⟩))
      · exact Or.inr (Or.inr (Or.inr (Or.inl ⟨rfl, B2.mp q⟩)))
      · exact Or.inr (Or.inr (Or.inr (Or.inr ⟨rfl, B3.mp q⟩)))
  have d3 := ifd e3
  have d2 := ifd e2
  have d1 := ifd e1
  have d0 := ifd e0
  rw [B3] at d3; rw [B2] at d2; rw [B1] at d1; rw [B0] at d0
  clear e3 e2 e1 e0 Q2 Q3 B0 B1 B2 B3
  omega
theorem chainS {c0 c1 c2 c3 : Int32} {p s e r3 r2 r1 r0 f0 f1 f2 f3 : Nat} (hp : p ≤ 4) (Q : Str0 ([c0, c1, c2, c3].take p) s e)
    (e3 : r3 = if 3 < p ∧ ¬ wsp c3 then 3 else p) (e2 : r2 = if 2 < p ∧ ¬ wsp c2 then 2 else r3) (e1 : r1 = if 1 < p ∧ ¬ wsp c1 then 1 else r2) (e0 : r0 = if 0 < p ∧ ¬ wsp c0 then 0 else r1)
    (g0 : f0 = if 0 < p ∧ ¬ wsp c0 then 1 else 0) (g1 : f1 = if 1 < p ∧ ¬ wsp c1 then 2 else f0) (g2 : f2 = if 2 < p ∧ ¬ wsp c2 then 3 else f1) (g3 : f3 = if 3 < p ∧ ¬ wsp c3 then 4 else f2) : r0 = s ∧ f3 = e := by
  obtain ⟨q1, q2, q3, q4, q5, q6⟩ := Q
  have hl : ([c0, c1, c2, c3].take p).length = p := by simp; omega
  rw [hl] at q1 q2 q4 q5
  obtain ⟨b0, B0, -⟩ := bit (wsp c0)
  obtain ⟨b1, B1, -⟩ := bit (wsp c1)
  obtain ⟨b2, B2, -⟩ := bit (wsp c2)
  obtain ⟨b3, B3, -⟩ := bit (wsp c3)
  have a0 : 0 < s → b0 = 1 := fun q => B0.mp (by have := q3 0 q; rwa [getD_take (by omega)] at this)
  have a1 : 1 < s → b1 = 1 := fun q => B1.mp (by have := q3 1 q; rwa [getD_take (by omega)] at this)
  have a2 : 2 < s → b2 = 1 := fun q => B2.mp (by have := q3 2 q; rwa [getD_take (by omega)] at this)
  have a3 : 3 < s → b3 = 1 := fun q => B3.mp (by have := q3 3 q; rwa [getD_take (by omega)] at this)
  have a4 : s = p ∨ (s = 0 ∧ ¬ b0 = 1) ∨ (s = 1 ∧ ¬ b1 = 1) ∨ (s = 2 ∧ ¬ b2 = 1) ∨ (s = 3 ∧ ¬ b3 = 1) := by
    by_cases hs : s = p
    · exact Or.inl hs
    · have q := q4.resolve_left hs
      rw [getD_take (by omega)] at q
      obtain rfl | rfl | rfl | rfl : s = 0 ∨ s = 1 ∨ s = 2 ∨ s = 3 := by omega
      · exact Or.inr (Or.inl ⟨rfl, fun z => q (B0.mpr z)⟩)
      · exact Or.inr (Or.inr (Or.inl ⟨rfl, fun z => q (B1.mpr z)⟩))
      · exact Or.inr (Or.inr (Or.inr (Or.inl ⟨rfl, fun z => q (B2.mpr z)⟩)))
      · exact Or.inr (Or.inr (Or.inr (Or.inr ⟨rfl, fun z => q (B3.mpr z)⟩)))
  have t0 : e ≤ 0 → 0 < p → b0 = 1 := fun q z => B0.mp (by have := q5 0 q z; rwa [getD_take (by omega)] at this)
  have t1 : e ≤ 1 → 1 < p → b1 = 1 := fun q z => B1.mp (by have := q5 1 q z; rwa [getD_take (by omega)] at this)
  have t2 : e ≤ 2 → 2 < p → b2 = 1 := fun q z => B2.mp (by have := q5 2 q z; rwa [getD_take (by omega)] at this)
  have t3 : e ≤ 3 → 3 < p → b3 = 1 := fun q z => B3.mp (by have := q5 3 q z; rwa [getD_take (by omega)] at this)
  have t4 : e = 0 ∨ (e = 1 ∧ ¬ b0 = 1) ∨ (e = 2 ∧ ¬ b1 = 1) ∨ (e = 3 ∧ ¬ b2 = 1) ∨ (e = 4 ∧ ¬ b3 = 1) := by
    by_cases hs : e = 0
    · exact Or.inl hs
    · have q := q6.resolve_left hs
      rw [getD_take (by omega)] at q
      obtain rfl | rfl | rfl | rfl : e = 1 ∨ e = 2 ∨ e = 3 ∨ e = 4 := by omega
      · exact Or.inr (Or.inl ⟨rfl, fun z => q (B0.mpr z)⟩)
      · exact Or.inr (Or.inr (Or.inl ⟨rfl, fun z => q (B1.mpr z)⟩))
      · exact Or.inr (Or.inr (Or.inr (Or.inl ⟨rfl, fun z => q (B2.mpr z)⟩)))
      · exact Or.inr (Or.inr (Or.inr (Or.inr ⟨rfl, fun z => q (B3.mpr z)⟩)))
  have d3 := ifd e3
  have d2 := ifd e2
  have d1 := ifd e1
  have d0 := ifd e0
  have v3 := ifd g3
  have v2 := ifd g2
  have v1 := ifd g1
  have v0 := ifd g0
  rw [B3] at d3 v3; rw [B2] at d2 v2; rw [B1] at d1 v1; rw [B0] at d0 v0
  clear e3 e2 e1 e0 g0 g1 g2 g3 q3 q4 q5 q6 B0 B1 B2 B3
  constructor
  · clear t0 t1 t2 t3 t4 v0 v1 v2 v3; omega
  · clear a0 a1 a2 a3 a4 d0 d1 d2 d3; omega
theorem rem_small (x : Int32) (k : Nat) (hk : 0 < k) (hk2 : k < 2 ^ 31) : ∃ i : Nat, i < k ∧ (x &&& 2147483647) % Int32.ofNat k = Int32.ofNat i := by
  have h := c_mask x 2147483647 31 (by decide) (by decide)
  have e : ((2 ^ 31 : Nat) : Int) = 2147483648 := by decide
  rw [e] at h
  have h0 : 0 ≤ (x &&& 2147483647).toInt := by omega
  have hm : ((x &&& 2147483647) % Int32.ofNat k).toInt = (x &&& 2147483647).toInt % (k : Int) := by
    rw [Int32.toInt_mod, ofNat_toInt hk2, Int.tmod_eq_emod_of_nonneg h0]
  have r0 : 0 ≤ (x &&& 2147483647).toInt % (k : Int) := Int.emod_nonneg _ (by omega)
  have r1 : (x &&& 2147483647).toInt % (k : Int) < k := Int.emod_lt_of_pos _ (by omega)
  exact ⟨((x &&& 2147483647).toInt % (k : Int)).toNat, by omega, i32_ext (by rw [hm, ofNat_toInt (by omega)]; omega)⟩
theorem max0 {s e : Nat} (hs : s < 2 ^ 31) (he : e < 2 ^ 31) : (if (0 : Int32) < Int32.ofNat e - Int32.ofNat s then Int32.ofNat e - Int32.ofNat s else 0) = Int32.ofNat (e - s) := by
  by_cases q : s ≤ e
  · rw [sub_ofNat q he]
    by_cases z : e - s = 0
    · rw [z]; rfl
    · rw [if_pos (by rw [lt32, ofNat_toInt (by omega)]; show (0 : Int) < _; omega)]
  · have h1 := c_isub (Int32.ofNat e) (Int32.ofNat s)
    have h2 := rng32 (Int32.ofNat e - Int32.ofNat s)
    rw [ofNat_toInt hs, ofNat_toInt he] at h1
    rw [if_neg (by rw [lt32]; show ¬ ((0 : Int) < _); omega), show e - s = 0 by omega]; rfl
theorem outAt {L : List Int32} {s e k : Nat} (he : e ≤ L.length) (hk : k < e - s) : (((L.take e).drop s).map low).getD k 0 = low (L.getD (s + k) 0) := by
  rw [map_getD (by simp; omega)]
  congr 1
  simp [List.getD_eq_getElem?_getD, List.getElem?_take, show s + k < e by omega]
end Jvm.Ow
namespace Jvm.Ow
open Sem ClassFile Op Lib Bundle Jvm.Stand Jvm.Free Jvm.LawKit Jvm.RoadKit
def base16 : List Int32 := [97, 112, 112, 108, 105, 99, 97, 116, 105, 111, 110, 47, 106, 115, 111, 110]
def plus5 : List Int32 := [43, 106, 115, 111, 110]
def wsI (x : Int) : Prop := (9 ≤ x ∧ x ≤ 13) ∨ (28 ≤ x ∧ x ≤ 32)
def bI (k : Nat) : Int := (base16.getD k 0).toInt
def pI (k : Nat) : Int := (plus5.getD k 0).toInt
/-- what the essence's three places say of the (lowered) signs -/
def Cut (F : Nat → Int) (n p s e : Nat) : Prop := (p ≤ n) ∧ (∀ k, k < p → F k ≠ 59) ∧ (p = n ∨ F p = 59) ∧ (s ≤ p) ∧ (e ≤ p) ∧ (∀ k, k < s → wsI (F k)) ∧ (s = p ∨ ¬ wsI (F s)) ∧ (∀ k, e ≤ k → k < p → wsI (F k)) ∧ (e = 0 ∨ ¬ wsI (F (e - 1)))
theorem Cut.p_le {F : Nat → Int} {n p s e : Nat} (C : Cut F n p s e) : p ≤ n := C.1
theorem Cut.no59 {F : Nat → Int} {n p s e : Nat} (C : Cut F n p s e) : ∀ k, k < p → F k ≠ 59 := C.2.1
theorem Cut.at59 {F : Nat → Int} {n p s e : Nat} (C : Cut F n p s e) : p = n ∨ F p = 59 := C.2.2.1
theorem Cut.s_le {F : Nat → Int} {n p s e : Nat} (C : Cut F n p s e) : s ≤ p := C.2.2.2.1
theorem Cut.e_le {F : Nat → Int} {n p s e : Nat} (C : Cut F n p s e) : e ≤ p := C.2.2.2.2.1
theorem Cut.s_ws {F : Nat → Int} {n p s e : Nat} (C : Cut F n p s e) : ∀ k, k < s → wsI (F k) := C.2.2.2.2.2.1
theorem Cut.s_at {F : Nat → Int} {n p s e : Nat} (C : Cut F n p s e) : s = p ∨ ¬ wsI (F s) := C.2.2.2.2.2.2.1
theorem Cut.e_ws {F : Nat → Int} {n p s e : Nat} (C : Cut F n p s e) : ∀ k, e ≤ k → k < p → wsI (F k) := C.2.2.2.2.2.2.2.1
theorem Cut.e_at {F : Nat → Int} {n p s e : Nat} (C : Cut F n p s e) : e = 0 ∨ ¬ wsI (F (e - 1)) := C.2.2.2.2.2.2.2.2
def isB (F : Nat → Int) (s e : Nat) : Prop := s + 16 = e ∧ ∀ k, k < 16 → F (s + k) = bI k
def isP (F : Nat → Int) (s e : Nat) : Prop := s + 5 ≤ e ∧ ∀ k, k < 5 → F (e - 5 + k) = pI k
theorem bI_ne : ∀ k, k < 16 → bI k ≠ 59 ∧ bI k ≠ 43 ∧ ¬ wsI (bI k) := by
  intro k hk
  have : ∀ j : Fin 16, bI j.val ≠ 59 ∧ bI j.val ≠ 43 ∧ 33 ≤ bI j.val := by decide +kernel
  have q := this ⟨k, hk⟩
  refine ⟨q.1, q.2.1, ?_⟩
  have := q.2.2
  unfold wsI; simp only at this; omega
theorem pI_ne : ∀ k, k < 5 → pI k ≠ 59 ∧ ¬ wsI (pI k) := by
  intro k hk
  have : ∀ j : Fin 5, pI j.val ≠ 59 ∧ 33 ≤ pI j.val := by decide +kernel
  have q := this ⟨k, hk⟩
  refine ⟨q.1, ?_⟩
  have := q.2
  unfold wsI; simp only at this; omega
theorem pI_n : ∀ k, k < 4 → pI k ≠ 110 := by
  intro k hk
  have : ∀ j : Fin 4, pI j.val ≠ 110 := by decide +kernel
  exact this ⟨k, hk⟩
def padI (k : Nat) : Int := if k = 1 then 32 else if k = 2 then 9 else 120
theorem padI_3 : padI 3 = 120 := rfl
theorem padI_ne (k : Nat) : padI k ≠ 59 ∧ padI k ≠ 43 ∧ padI k ≠ 97 := by unfold padI; split; omega; split <;> omega
theorem padI_ws {k : Nat} (h0 : 0 < k) (h : k ≤ 3) (h3 : k ≠ 3) : wsI (padI k) := by
  obtain rfl | rfl : k = 1 ∨ k = 2 := by omega
  · unfold padI wsI; simp
  · unfold padI wsI; simp
/-- the shared part: no ';' before z = the end of core and trail; where p and e lie -/
theorem Cut.p_eq {F : Nat → Int} {n p s e z : Nat} (C : Cut F n p s e) (hz : z ≤ n) (h1 : ∀ k, k < z → F k ≠ 59) (h2 : z = n ∨ F z = 59) : p = z := by
  rcases Nat.lt_trichotomy p z with q | q | q
  · rcases C.at59 with r | r
    · omega
    · exact absurd r (h1 p q)
  · exact q
  · rcases h2 with r | r
    · have := C.p_le; omega
    · exact absurd r (C.no59 z q)
theorem Cut.p_bound {F : Nat → Int} {n p s e z : Nat} (C : Cut F n p s e) (h : F z = 59) : p ≤ z := Nat.le_of_not_lt fun q => C.no59 z q h
theorem Cut.e_ge {F : Nat → Int} {n p s e z : Nat} (C : Cut F n p s e) (hz : z < p) (h : ¬ wsI (F z)) : z < e := Nat.lt_of_not_le fun q => h (C.e_ws z q hz)
theorem Cut.e_ne {F : Nat → Int} {n p s e z : Nat} (C : Cut F n p s e) (h : wsI (F z)) : e ≠ z + 1 := fun q => by
  rcases C.e_at with r | r
  · omega
  · rw [q] at r; exact r h
theorem Cut.s_le' {F : Nat → Int} {n p s e z : Nat} (C : Cut F n p s e) (h : ¬ wsI (F z)) : s ≤ z := Nat.le_of_not_lt fun q => h (C.s_ws z q)
theorem plainA {F : Nat → Int} {n p s e la q lead trail t : Nat} {c : Int} (C : Cut F n p s e) (hn : n = la + 16 + (if trail = 0 then 0 else 1) + t) (hla : la = if lead = 0 then 0 else 1) (hlead : lead ≤ 3) (htrail : trail ≤ 3) (hq : q ≤ 16)
    (hl : lead ≠ 0 → F 0 = padI lead) (hb : ∀ j, j < 16 → j ≠ q → F (la + j) = bI j) (hc : q < 16 → F (la + q) = c) (ht : trail ≠ 0 → F (la + 16) = padI trail) (h59 : 1 ≤ t → F (la + 16 + (if trail = 0 then 0 else 1)) = 59) :
    (isB F s e ∨ isP F s e) ↔ (trail ≠ 3 ∧ ((lead ≠ 3 ∧ (q = 16 ∨ c = bI q)) ∨ (q = 11 ∧ c = 43))) := by
  have hpl := C.e_le
  have h1 : ∀ k, k < la → lead ≠ 0 ∧ k = 0 := fun k hk => by by_cases z : lead = 0; rw [if_pos z] at hla; omega; rw [if_neg z] at hla; exact ⟨z, by omega⟩
  have hla1 : la ≤ 1 := by split at hla <;> omega
  have n110 : ¬ wsI 110 := by unfold wsI; omega
  have n111 : ¬ wsI 111 := by unfold wsI; omega
  have n97 : ¬ wsI 97 := by unfold wsI; omega
  have n43 : ¬ wsI 43 := by unfold wsI; omega
  have n120 : ¬ wsI 120 := by unfold wsI; omega
  by_cases hsemi : q < 16 ∧ c = 59
  · obtain ⟨hq', rfl⟩ := hsemi
    have hp := C.p_bound (hc hq')
    refine ⟨fun J => ?_, fun R => ?_⟩
    · exfalso
      rcases J with ⟨j1, j2⟩ | ⟨j1, j2⟩
      · have e0 : s = 0 ∧ la = 1 := by omega
        have f0 := j2 0 (by omega)
        obtain ⟨z, -⟩ := h1 0 (by omega)
        rw [e0.1] at f0
        have := hl z
        rw [Nat.add_zero] at f0
        rw [this] at f0
        exact (padI_ne lead).2.2 f0
      · have f0 := j2 0 (by omega)
        rw [Nat.add_zero] at f0
        have f0' : F (e - 5) = 43 := f0
        by_cases z : e - 5 < la
        · obtain ⟨z1, z2⟩ := h1 _ z
          rw [z2, hl z1] at f0'
          exact (padI_ne lead).2.1 f0'
        · have := hb (e - 5 - la) (by omega) (by omega)
          rw [show la + (e - 5 - la) = e - 5 by omega, f0'] at this
          exact (bI_ne _ (by omega)).2.1 this.symm
    · exfalso
      rcases R.2 with ⟨-, r | r⟩ | ⟨-, r⟩
      · omega
      · exact (bI_ne q hq').1 r.symm
      · omega
  · have hcore : ∀ j, j < 16 → F (la + j) ≠ 59 := fun j hj => by
      by_cases z : j = q
      · rw [z, hc (by omega)]; exact fun w => hsemi ⟨by omega, w⟩
      · rw [hb j hj z]; exact (bI_ne j hj).1
    have hpre : ∀ k, k < la + 16 → F k ≠ 59 := fun k hk => by
      by_cases z : k < la
      · obtain ⟨z1, z2⟩ := h1 _ z
        rw [z2, hl z1]; exact (padI_ne lead).1
      · have := hcore (k - la) (by omega); rwa [show la + (k - la) = k by omega] at this
    have hpeq : p = la + 16 + (if trail = 0 then 0 else 1) := C.p_eq (by omega) (fun k hk => by
        by_cases z : k < la + 16
        · exact hpre k z
        · by_cases y : trail = 0
          · rw [if_pos y] at hk; omega
          · rw [if_neg y] at hk
            rw [show k = la + 16 by omega, ht y]; exact (padI_ne trail).1) (by
        by_cases z : t = 0
        · left; omega
        · right; exact h59 (by omega))
    have f14 : q ≠ 14 → F (la + 14) = 111 := fun z => hb 14 (by omega) (by omega)
    have f15 : q ≠ 15 → F (la + 15) = 110 := fun z => hb 15 (by omega) (by omega)
    by_cases h3 : trail = 3
    · subst h3
      have f16 : F (la + 16) = 120 := ht (by decide)
      rw [if_neg (by decide)] at hpeq
      have he : la + 16 < e := C.e_ge (by omega) (by rw [f16]; exact n120)
      refine ⟨fun J => ?_, fun R => absurd rfl R.1⟩
      exfalso
      rcases J with ⟨j1, j2⟩ | ⟨j1, j2⟩
      · have := j2 15 (by omega)
        rw [show s + 15 = la + 16 by omega, f16] at this
        exact absurd this (by decide)
      · have := j2 4 (by omega)
        rw [show e - 5 + 4 = la + 16 by omega, f16] at this
        exact absurd this (by decide)
    · have wtr : trail ≠ 0 → wsI (F (la + 16)) := fun z => by rw [ht z]; exact padI_ws (by omega) htrail h3
      have he17 : e ≤ la + 16 := by
        by_cases z : trail = 0
        · rw [if_pos z] at hpeq; omega
        · rw [if_neg z] at hpeq
          have := C.e_ne (wtr z)
          omega
      have hp16 : la + 16 ≤ p := by omega
      by_cases h15 : q = 15 ∧ wsI c
      · obtain ⟨rfl, hw⟩ := h15
        have f := hc (by omega)
        have e1 := C.e_ne (z := la + 15) (by rw [f]; exact hw)
        have e2 : la + 14 < e := C.e_ge (by omega) (by rw [f14 (by omega)]; exact n111)
        refine ⟨fun J => ?_, fun R => ?_⟩
        · exfalso
          rcases J with ⟨j1, j2⟩ | ⟨j1, j2⟩
          · have e0 : s = 0 ∧ la = 1 := by omega
            have f0 := j2 0 (by omega)
            obtain ⟨z, -⟩ := h1 0 (by omega)
            rw [e0.1, Nat.add_zero, hl z] at f0
            exact (padI_ne lead).2.2 f0
          · have := j2 4 (by omega)
            rw [show e - 5 + 4 = la + 14 by omega, f14 (by omega)] at this
            exact absurd this (by decide)
        · exfalso
          rcases R.2 with ⟨-, r | r⟩ | ⟨r, -⟩
          · omega
          · rw [r] at hw; exact n110 hw
          · omega
      · have f15n : ¬ wsI (F (la + 15)) := by
          by_cases z : q = 15
          · have f := hc (by omega); rw [z] at f; rw [f]; exact fun w => h15 ⟨z, w⟩
          · rw [f15 z]; exact n110
        have he : e = la + 16 := by have := C.e_ge (z := la + 15) (by omega) f15n; omega
        have hP : isP F s e ↔ (q = 11 ∧ c = 43) := by
          refine ⟨fun ⟨j1, j2⟩ => ?_, fun ⟨r1, r2⟩ => ?_⟩
          · have f := j2 0 (by omega)
            rw [show e - 5 + 0 = la + 11 by omega] at f
            by_cases z : q = 11
            · have g := hc (by omega); rw [z] at g
              exact ⟨z, by rw [← g, f]; rfl⟩
            · rw [hb 11 (by omega) (by omega)] at f; exact absurd f (by decide)
          · have g := hc (by omega)
            rw [r1, r2] at g
            have hs := C.s_le' (z := la + 11) (by rw [g]; exact n43)
            refine ⟨by omega, fun k hk => ?_⟩
            rw [show e - 5 + k = la + (11 + k) by omega]
            by_cases z : k = 0
            · rw [z, Nat.add_zero, g]; rfl
            · rw [hb (11 + k) (by omega) (by omega)]
              obtain rfl | rfl | rfl | rfl : k = 1 ∨ k = 2 ∨ k = 3 ∨ k = 4 := by omega
              all_goals rfl
        have hB : isB F s e ↔ (lead ≠ 3 ∧ (q = 16 ∨ c = bI q)) := by
          refine ⟨fun ⟨j1, j2⟩ => ⟨fun z => ?_, ?_⟩, fun ⟨r1, r2⟩ => ?_⟩
          · have : la = 1 := by rw [hla, if_neg (by omega)]
            have w := C.s_ws 0 (by omega)
            rw [hl (by omega), z, padI_3] at w
            exact n120 w
          · by_cases z : q = 16
            · exact Or.inl z
            · right
              have f := j2 q (by omega)
              rw [show s = la by omega, hc (by omega)] at f
              exact f
          · have all : ∀ k, k < 16 → F (la + k) = bI k := fun k hk => by
              by_cases z : k = q
              · rw [z, hc (by omega)]
                rcases r2 with r | r
                · omega
                · exact r
              · exact hb k hk z
            have s1 := C.s_le' (z := la) (by have := all 0 (by omega); rw [Nat.add_zero] at this; rw [this]; exact n97)
            have s2 : la ≤ s := Nat.le_of_not_lt fun z => by
              obtain ⟨z1, z2⟩ := h1 s z
              rcases C.s_at with w | w
              · omega
              · rw [z2, hl z1] at w; exact w (padI_ws (by omega) hlead r1)
            refine ⟨by omega, fun k hk => ?_⟩
            rw [show s = la by omega]; exact all k hk
        rw [hB, hP]
        exact ⟨fun J => ⟨h3, J⟩, fun R => R.2⟩
theorem plainB {F : Nat → Int} {n p s e la q lead trail t : Nat} {c : Int} (C : Cut F n p s e) (hn : n = la + 8 + (if trail = 0 then 0 else 1) + t) (hla : la = if lead = 0 then 0 else 1) (htt : t ≤ 2) (htrail : trail ≤ 3) (hq : q ≤ 5)
    (hl : lead ≠ 0 → F 0 = padI lead) (hb : ∀ j, j < 5 → j ≠ q → F (la + 3 + j) = pI j) (hc : q < 5 → F (la + 3 + q) = c) (ht : trail ≠ 0 → F (la + 8) = padI trail) (h59 : 1 ≤ t → F (la + 8 + (if trail = 0 then 0 else 1)) = 59) :
    (isB F s e ∨ isP F s e) ↔ (trail ≠ 3 ∧ F la ≠ 59 ∧ F (la + 1) ≠ 59 ∧ F (la + 2) ≠ 59 ∧ (q = 5 ∨ c = pI q)) := by
  have hpl := C.e_le
  have hpn := C.p_le
  have h1 : ∀ k, k < la → lead ≠ 0 ∧ k = 0 := fun k hk => by by_cases z : lead = 0; rw [if_pos z] at hla; omega; rw [if_neg z] at hla; exact ⟨z, by omega⟩
  have hla1 : la ≤ 1 := by split at hla <;> omega
  have hn12 : n ≤ 12 := by split at hn <;> omega
  have n110 : ¬ wsI 110 := by unfold wsI; omega
  have n111 : ¬ wsI 111 := by unfold wsI; omega
  have n43 : ¬ wsI 43 := by unfold wsI; omega
  have n120 : ¬ wsI 120 := by unfold wsI; omega
  have hnB : ¬ isB F s e := fun J => by have := J.1; omega
  have hlast : isP F s e → F (e - 1) = 110 := fun J => by
    have f := J.2 4 (by omega)
    have := J.1
    rw [show e - 5 + 4 = e - 1 by omega] at f; exact f
  -- no ';' in front of the core, none in it: where p and e lie
  have key : F la ≠ 59 → F (la + 1) ≠ 59 → F (la + 2) ≠ 59 → (q < 5 → c ≠ 59) → p = la + 8 + (if trail = 0 then 0 else 1) := fun d0 d1 d2 hc59 =>
    C.p_eq (by omega) (fun k hk => by
      by_cases z : k < la
      · obtain ⟨z1, z2⟩ := h1 _ z
        rw [z2, hl z1]; exact (padI_ne lead).1
      · by_cases z3 : k < la + 3
        · obtain r | r | r : k = la ∨ k = la + 1 ∨ k = la + 2 := by omega
          · rw [r]; exact d0
          · rw [r]; exact d1
          · rw [r]; exact d2
        · by_cases z4 : k < la + 8
          · rw [show k = la + 3 + (k - la - 3) by omega]
            by_cases z5 : k - la - 3 = q
            · rw [z5, hc (by omega)]; exact hc59 (by omega)
            · rw [hb _ (by omega) z5]; exact (pI_ne _ (by omega)).1
          · by_cases y : trail = 0
            · rw [if_pos y] at hk; omega
            · rw [if_neg y] at hk
              rw [show k = la + 8 by omega, ht y]; exact (padI_ne trail).1) (by
      by_cases z : t = 0
      · left; omega
      · right; exact h59 (by omega))
  have he8 : trail ≠ 3 → p = la + 8 + (if trail = 0 then 0 else 1) → e ≤ la + 8 := fun h3 hpeq => by
    by_cases z : trail = 0
    · rw [if_pos z] at hpeq; omega
    · rw [if_neg z] at hpeq
      have := C.e_ne (z := la + 8) (by rw [ht z]; exact padI_ws (by omega) htrail h3)
      omega
  refine ⟨fun J => ?_, fun R => ?_⟩
  · have P := J.resolve_left hnB
    have f := hlast P
    have hs := P.1
    have d0 : F la ≠ 59 := fun z => by have := C.p_bound z; omega
    have d1 : F (la + 1) ≠ 59 := fun z => by have := C.p_bound z; omega
    have d2 : F (la + 2) ≠ 59 := fun z => by have := C.p_bound z; omega
    have hc59 : q < 5 → c ≠ 59 := fun hq' z => by
      have hp := C.p_bound (z := la + 3 + q) (by rw [hc hq', z])
      rw [show e - 1 = la + 3 + (e - 1 - la - 3) by omega, hb _ (by omega) (by omega)] at f
      exact pI_n _ (by omega) f
    have hpeq := key d0 d1 d2 hc59
    have h3 : trail ≠ 3 := fun z => by
      have f8 : F (la + 8) = 120 := by rw [ht (by omega), z]; rfl
      rw [if_neg (by omega)] at hpeq
      have := C.e_ge (z := la + 8) (by omega) (by rw [f8]; exact n120)
      rw [show e - 1 = la + 8 by omega, f8] at f
      omega
    refine ⟨h3, d0, d1, d2, ?_⟩
    have he := he8 h3 hpeq
    by_cases hq5 : q = 5
    · exact Or.inl hq5
    · right
      by_cases hx : q = 4 ∧ wsI c
      · exfalso
        have e1 := C.e_ne (z := la + 7) (by have := hc (by omega); rw [show la + 7 = la + 3 + q by omega, this]; exact hx.2)
        have e2 : la + 6 < e := C.e_ge (by omega) (by have := hb 3 (by omega) (by omega); rw [show la + 6 = la + 3 + 3 by omega, this]; exact n111)
        rw [show e - 1 = la + 3 + 3 by omega, hb 3 (by omega) (by omega)] at f
        exact absurd f (by decide)
      · have e2 : la + 7 < e := C.e_ge (by omega) (by
          rw [show la + 7 = la + 3 + 4 by omega]
          by_cases z : q = 4
          · have := hc (by omega); rw [z] at this; rw [this]; exact fun w => hx ⟨z, w⟩
          · rw [hb 4 (by omega) (by omega)]; exact n110)
        have g := P.2 q (by omega)
        rw [show e - 5 + q = la + 3 + q by omega, hc (by omega)] at g
        exact g
  · obtain ⟨h3, d0, d1, d2, r⟩ := R
    have all : ∀ k, k < 5 → F (la + 3 + k) = pI k := fun k hk => by
      by_cases z : k = q
      · rw [z, hc (by omega)]
        rcases r with r | r
        · omega
        · exact r
      · exact hb k hk z
    have hpeq := key d0 d1 d2 (fun hq' z => by
      rcases r with r | r
      · omega
      · rw [r] at z; exact (pI_ne q hq').1 z)
    have he := he8 h3 hpeq
    have e2 : la + 7 < e := C.e_ge (by omega) (by rw [show la + 7 = la + 3 + 4 by omega, all 4 (by omega)]; exact n110)
    have hs := C.s_le' (z := la + 3) (by have := all 0 (by omega); rw [Nat.add_zero] at this; rw [this]; exact n43)
    right
    exact ⟨by omega, fun k hk => by rw [show e - 5 + k = la + 3 + k by omega]; exact all k hk⟩
/-- the two tests on the essence, place by place -/
def EndsL (cs ds : List Int32) : Prop := ds.length ≤ cs.length ∧ ∀ k, k < ds.length → cs.getD (cs.length - ds.length + k) 0 = ds.getD k 0
theorem low59 {c : Int32} (h0 : 0 ≤ c.toInt) (h1 : c.toInt < 256) : (low c).toInt = 59 ↔ c = 59 := by
  have k : ((59 : Int32)).toInt = 59 := rfl
  rw [eq32, k]
  unfold low
  by_cases q : upp c
  · rw [if_pos q, add32v h0 h1]; unfold upp at q; omega
  · rw [if_neg q]
theorem wsp_low {c : Int32} (h0 : 0 ≤ c.toInt) (h1 : c.toInt < 256) : wsp c ↔ wsI (low c).toInt := by
  unfold low wsp wsI
  by_cases q : upp c
  · rw [if_pos q, add32v h0 h1]; unfold upp at q; omega
  · rw [if_neg q]
theorem cut_of {T : List Int32} {p s e : Nat} (hL : ∀ z ∈ T, 0 ≤ z.toInt ∧ z.toInt < 256) (h1 : p ≤ T.length) (h2 : ∀ k, k < p → ¬ T.getD k 0 = 59) (h3 : p = T.length ∨ T.getD p 0 = 59) (Q : Str0 (T.take p) s e) : Cut (fun k => (low (T.getD k 0)).toInt) T.length p s e := by
  obtain ⟨q1, q2, q3, q4, q5, q6⟩ := Q
  have hl : (T.take p).length = p := by simp; omega
  rw [hl] at q1 q2 q4 q5
  have R : ∀ k, k < T.length → 0 ≤ (T.getD k 0).toInt ∧ (T.getD k 0).toInt < 256 := fun k hk => getD_rng hL hk
  unfold Cut
  refine ⟨h1, fun k hk z => h2 k hk ((low59 (R k (by omega)).1 (R k (by omega)).2).mp z), ?_, q1, q2, fun k hk => ?_, ?_, fun k hk hk2 => ?_, ?_⟩
  · by_cases z : p = T.length
    · exact Or.inl z
    · right; exact (low59 (R p (by omega)).1 (R p (by omega)).2).mpr (h3.resolve_left z)
  · have := q3 k hk; rw [getD_take (by omega)] at this; exact (wsp_low (R k (by omega)).1 (R k (by omega)).2).mp this
  · by_cases z : s = p
    · exact Or.inl z
    · right; have := q4.resolve_left z; rw [getD_take (by omega)] at this; exact fun w => this ((wsp_low (R s (by omega)).1 (R s (by omega)).2).mpr w)
  · have := q5 k hk hk2; rw [getD_take (by omega)] at this; exact (wsp_low (R k (by omega)).1 (R k (by omega)).2).mp this
  · by_cases z : e = 0
    · exact Or.inl z
    · right; have := q6.resolve_left z; rw [getD_take (by omega)] at this; exact fun w => this ((wsp_low (R (e - 1) (by omega)).1 (R (e - 1) (by omega)).2).mpr w)
theorem isB_of {T : List Int32} {s e : Nat} (he : e ≤ T.length) : ((T.take e).drop s).map low = base16 ↔ isB (fun k => (low (T.getD k 0)).toInt) s e := by
  have hl : (((T.take e).drop s).map low).length = e - s := by simp; omega
  have h16 : base16.length = 16 := rfl
  refine ⟨fun q => ?_, fun ⟨q1, q2⟩ => ?_⟩
  · have h := congrArg List.length q
    rw [hl, h16] at h
    refine ⟨by omega, fun k hk => ?_⟩
    have : ((((T.take e).drop s).map low).getD k 0).toInt = (base16.getD k 0).toInt := by rw [q]
    rw [outAt he (by omega)] at this
    exact this
  · apply List.ext_getElem (by rw [hl, h16]; omega)
    intro k k1 k2
    have := q2 k (by rw [h16] at k2; exact k2)
    have g := outAt (L := T) (s := s) (e := e) (k := k) he (by rw [hl] at k1; exact k1)
    have e1 : (((T.take e).drop s).map low).getD k 0 = (((T.take e).drop s).map low)[k] := by simp only [List.getD_eq_getElem?_getD, List.getElem?_eq_getElem k1, Option.getD_some]
    have e2 : base16.getD k 0 = base16[k] := by simp only [List.getD_eq_getElem?_getD, List.getElem?_eq_getElem k2, Option.getD_some]
    rw [← e1, ← e2, g]
    exact i32_ext this
theorem isP_of {T : List Int32} {s e : Nat} (he : e ≤ T.length) : EndsL (((T.take e).drop s).map low) plus5 ↔ isP (fun k => (low (T.getD k 0)).toInt) s e := by
  have hl : (((T.take e).drop s).map low).length = e - s := by simp; omega
  have h5 : plus5.length = 5 := rfl
  unfold EndsL isP
  rw [hl, h5]
  refine ⟨fun ⟨q1, q2⟩ => ⟨by omega, fun k hk => ?_⟩, fun ⟨q1, q2⟩ => ⟨by omega, fun k hk => ?_⟩⟩
  · have := q2 k hk
    rw [outAt he (by omega), show s + (e - s - 5 + k) = e - 5 + k by omega] at this
    show (low (T.getD (e - 5 + k) 0)).toInt = (plus5.getD k 0).toInt
    rw [this]
  · rw [outAt he (by omega), show s + (e - s - 5 + k) = e - 5 + k by omega]
    exact i32_ext (q2 k hk)
end Jvm.Ow
namespace Jvm.Pilot.@@N@@
open Jvm Jvm.ClassFile Sem Op Lib Jvm.Free Jvm.Stand Jvm.LawKit Jvm.RoadKit Bundle Jvm.Pilot.@@N@@.Jvm.D
theorem pd_0 : parseMethodDescriptor "([CI[BII)I" = some ⟨[(.array .char), .int, (.array .byte), .int, .int], (some .int)⟩ := by decide +kernel
theorem pd_1 : parseMethodDescriptor "([CII)[B" = some ⟨[(.array .char), .int, .int], (some (.array .byte))⟩ := by decide +kernel
theorem pd_2 : parseMethodDescriptor "([BI)B" = some ⟨[(.array .byte), .int], (some .byte)⟩ := by decide +kernel
theorem pd_3 : parseMethodDescriptor "([CIILjava/lang/Void;)V" = some ⟨[(.array .char), .int, .int, (.object "java/lang/Void")], none⟩ := by decide +kernel
theorem pd_4 : parseMethodDescriptor "()B" = some ⟨[], (some .byte)⟩ := by decide +kernel
theorem pd_5 : parseMethodDescriptor "(I)Z" = some ⟨[.int], (some .boolean)⟩ := by decide +kernel
theorem pd_6 : parseMethodDescriptor "(II)I" = some ⟨[.int, .int], (some .int)⟩ := by decide +kernel
theorem pd_7 : parseMethodDescriptor "([BIII)I" = some ⟨[(.array .byte), .int, .int, .int], (some .int)⟩ := by decide +kernel
theorem pd_8 : parseMethodDescriptor "()Ljava/lang/String;" = some ⟨[], (some (.object "java/lang/String"))⟩ := by decide +kernel
theorem pd_9 : parseMethodDescriptor "([BB)V" = some ⟨[(.array .byte), .byte], none⟩ := by decide +kernel
theorem pd_10 : parseMethodDescriptor "(I)I" = some ⟨[.int], (some .int)⟩ := by decide +kernel
theorem pd_11 : parseMethodDescriptor "()Z" = some ⟨[], (some .boolean)⟩ := by decide +kernel
theorem pd_12 : parseMethodDescriptor "(Ljava/lang/String;[BLjava/util/Locale;)Ljava/lang/String;" = some ⟨[(.object "java/lang/String"), (.array .byte), (.object "java/util/Locale")], (some (.object "java/lang/String"))⟩ := by decide +kernel
theorem pd_13 : parseMethodDescriptor "()I" = some ⟨[], (some .int)⟩ := by decide +kernel
theorem pd_14 : parseMethodDescriptor "(IIILjava/util/function/BiFunction;)I" = some ⟨[.int, .int, .int, (.object "java/util/function/BiFunction")], (some .int)⟩ := by decide +kernel
theorem pd_15 : parseMethodDescriptor "(II)V" = some ⟨[.int, .int], none⟩ := by decide +kernel
theorem pd_16 : parseMethodDescriptor "([BII)[B" = some ⟨[(.array .byte), .int, .int], (some (.array .byte))⟩ := by decide +kernel
theorem pd_17 : parseMethodDescriptor "([BII)Ljava/lang/String;" = some ⟨[(.array .byte), .int, .int], (some (.object "java/lang/String"))⟩ := by decide +kernel
theorem pd_18 : parseMethodDescriptor "(III)V" = some ⟨[.int, .int, .int], none⟩ := by decide +kernel
theorem pd_19 : parseMethodDescriptor "([BI)C" = some ⟨[(.array .byte), .int], (some .char)⟩ := by decide +kernel
theorem pd_20 : parseMethodDescriptor "([B)I" = some ⟨[(.array .byte)], (some .int)⟩ := by decide +kernel
theorem pd_21 : parseMethodDescriptor "([B)Ljava/lang/String;" = some ⟨[(.array .byte)], (some (.object "java/lang/String"))⟩ := by decide +kernel
theorem pd_22 : parseMethodDescriptor "(IILjava/util/function/BiFunction;)I" = some ⟨[.int, .int, (.object "java/util/function/BiFunction")], (some .int)⟩ := by decide +kernel
theorem pd_23 : parseMethodDescriptor "(Ljava/util/Locale;)Ljava/lang/String;" = some ⟨[(.object "java/util/Locale")], (some (.object "java/lang/String"))⟩ := by decide +kernel
theorem pd_24 : parseMethodDescriptor "(II)Ljava/lang/String;" = some ⟨[.int, .int], (some (.object "java/lang/String"))⟩ := by decide +kernel
theorem pd_25 : parseMethodDescriptor "([B[B)Z" = some ⟨[(.array .byte), (.array .byte)], (some .boolean)⟩ := by decide +kernel
theorem pd_26 : parseMethodDescriptor "([BI[BII)I" = some ⟨[(.array .byte), .int, (.array .byte), .int, .int], (some .int)⟩ := by decide +kernel
theorem pd_27 : parseMethodDescriptor "(Ljava/lang/String;I)Z" = some ⟨[(.object "java/lang/String"), .int], (some .boolean)⟩ := by decide +kernel
theorem pd_28 : parseMethodDescriptor "(Ljava/lang/String;)Ljava/lang/String;" = some ⟨[(.object "java/lang/String")], (some (.object "java/lang/String"))⟩ := by decide +kernel
theorem pd_29 : parseMethodDescriptor "(Ljava/lang/Object;)Z" = some ⟨[(.object "java/lang/Object")], (some .boolean)⟩ := by decide +kernel
theorem pd_30 : parseMethodDescriptor "(Ljava/lang/String;)Z" = some ⟨[(.object "java/lang/String")], (some .boolean)⟩ := by decide +kernel
theorem pd_31 : parseMethodDescriptor "(I)C" = some ⟨[.int], (some .char)⟩ := by decide +kernel
theorem pd_32 : parseMethodDescriptor "(CII)C" = some ⟨[.char, .int, .int], (some .char)⟩ := by decide +kernel
theorem pd_33 : parseMethodDescriptor "([CILjava/lang/String;II)V" = some ⟨[(.array .char), .int, (.object "java/lang/String"), .int, .int], none⟩ := by decide +kernel
theorem pd_34 : parseMethodDescriptor "(CC)Z" = some ⟨[.char, .char], (some .boolean)⟩ := by decide +kernel
theorem pd_35 : parseMethodDescriptor "([C)V" = some ⟨[(.array .char)], none⟩ := by decide +kernel
theorem pn_0 : plainFor (⟨"java/lang/StringUTF16", "compress", "([CI[BII)I"⟩ : MethodName) = true := by decide +kernel
theorem pn_1 : plainFor (⟨"java/lang/StringUTF16", "compress", "([CII)[B"⟩ : MethodName) = true := by decide +kernel
theorem pn_2 : plainFor (⟨"java/lang/StringUTF16", "coderFromArrayLen", "([BI)B"⟩ : MethodName) = true := by decide +kernel
theorem pn_3 : plainFor (⟨"java/lang/String", "<init>", "([CIILjava/lang/Void;)V"⟩ : MethodName) = true := by decide +kernel
theorem pn_4 : plainFor (⟨"java/lang/String", "<init>", "([C)V"⟩ : MethodName) = true := by decide +kernel
theorem pn_5 : plainFor (⟨"java/lang/String", "coder", "()B"⟩ : MethodName) = true := by decide +kernel
theorem pn_6 : plainFor (⟨"java/lang/String", "length", "()I"⟩ : MethodName) = true := by decide +kernel
theorem pn_7 : plainFor (⟨"java/lang/Math", "min", "(II)I"⟩ : MethodName) = true := by decide +kernel
theorem pn_8 : plainFor (⟨"java/lang/Math", "max", "(II)I"⟩ : MethodName) = true := by decide +kernel
theorem pn_9 : plainFor (⟨"java/lang/StringLatin1", "canEncode", "(I)Z"⟩ : MethodName) = true := by decide +kernel
theorem pn_10 : plainFor (⟨"java/lang/StringLatin1", "indexOfChar", "([BIII)I"⟩ : MethodName) = true := by decide +kernel
theorem pn_11 : plainFor (⟨"java/lang/StringLatin1", "indexOf", "([BIII)I"⟩ : MethodName) = true := by decide +kernel
theorem pn_12 : plainFor (⟨"java/lang/String", "isLatin1", "()Z"⟩ : MethodName) = true := by decide +kernel
theorem pn_13 : plainFor (⟨"java/lang/CharacterDataLatin1", "toLowerCase", "(I)I"⟩ : MethodName) = true := by decide +kernel
theorem pn_14 : plainFor (⟨"sun/util/locale/BaseLocale", "getLanguage", "()Ljava/lang/String;"⟩ : MethodName) = true := by decide +kernel
theorem pn_15 : plainFor (⟨"java/util/Locale", "getLanguage", "()Ljava/lang/String;"⟩ : MethodName) = true := by decide +kernel
theorem pn_16 : plainFor (⟨"java/lang/String", "<init>", "([BB)V"⟩ : MethodName) = true := by decide +kernel
theorem pn_17 : plainFor (⟨"java/lang/StringLatin1", "toLowerCase", "(Ljava/lang/String;[BLjava/util/Locale;)Ljava/lang/String;"⟩ : MethodName) = true := by decide +kernel
theorem pn_18 : plainFor (⟨"java/lang/String", "toLowerCase", "(Ljava/util/Locale;)Ljava/lang/String;"⟩ : MethodName) = true := by decide +kernel
theorem pn_19 : plainFor (⟨"java/lang/String", "indexOf", "(II)I"⟩ : MethodName) = true := by decide +kernel
theorem pn_20 : plainFor (⟨"java/lang/String", "indexOf", "(I)I"⟩ : MethodName) = true := by decide +kernel
theorem pn_21 : plainFor (⟨"jdk/internal/util/Preconditions", "checkFromToIndex", "(IIILjava/util/function/BiFunction;)I"⟩ : MethodName) = true := by decide +kernel
theorem pn_22 : plainFor (⟨"java/lang/String", "checkBoundsBeginEnd", "(III)V"⟩ : MethodName) = true := by decide +kernel
theorem pn_23 : plainFor (⟨"java/util/Arrays", "checkLength", "(II)V"⟩ : MethodName) = true := by decide +kernel
theorem pn_24 : plainFor (⟨"java/util/Arrays", "copyOfRangeByte", "([BII)[B"⟩ : MethodName) = true := by decide +kernel
theorem pn_25 : plainFor (⟨"java/util/Arrays", "copyOfRange", "([BII)[B"⟩ : MethodName) = true := by decide +kernel
theorem pn_26 : plainFor (⟨"java/lang/StringLatin1", "newString", "([BII)Ljava/lang/String;"⟩ : MethodName) = true := by decide +kernel
theorem pn_27 : plainFor (⟨"java/lang/String", "substring", "(II)Ljava/lang/String;"⟩ : MethodName) = true := by decide +kernel
theorem pn_28 : plainFor (⟨"java/lang/StringLatin1", "getChar", "([BI)C"⟩ : MethodName) = true := by decide +kernel
theorem pn_29 : plainFor (⟨"java/lang/CharacterDataLatin1", "getProperties", "(I)I"⟩ : MethodName) = true := by decide +kernel
theorem pn_30 : plainFor (⟨"java/lang/CharacterDataLatin1", "isWhitespace", "(I)Z"⟩ : MethodName) = true := by decide +kernel
theorem pn_31 : plainFor (⟨"java/lang/StringLatin1", "indexOfNonWhitespace", "([B)I"⟩ : MethodName) = true := by decide +kernel
theorem pn_32 : plainFor (⟨"java/lang/StringLatin1", "lastIndexOfNonWhitespace", "([B)I"⟩ : MethodName) = true := by decide +kernel
theorem pn_33 : plainFor (⟨"java/lang/StringLatin1", "strip", "([B)Ljava/lang/String;"⟩ : MethodName) = true := by decide +kernel
theorem pn_34 : plainFor (⟨"java/lang/String", "strip", "()Ljava/lang/String;"⟩ : MethodName) = true := by decide +kernel
theorem pn_35 : plainFor (⟨"jdk/internal/util/Preconditions", "checkIndex", "(IILjava/util/function/BiFunction;)I"⟩ : MethodName) = true := by decide +kernel
theorem pn_36 : plainFor (⟨"java/lang/String", "checkIndex", "(II)V"⟩ : MethodName) = true := by decide +kernel
theorem pn_37 : plainFor (⟨"java/lang/StringLatin1", "charAt", "([BI)C"⟩ : MethodName) = true := by decide +kernel
theorem pn_38 : plainFor (⟨"java/lang/String", "charAt", "(I)C"⟩ : MethodName) = true := by decide +kernel
theorem pn_39 : plainFor (⟨"com/example/archerfish/archerfish/MediaType", "essence", "(Ljava/lang/String;)Ljava/lang/String;"⟩ : MethodName) = true := by decide +kernel
theorem pn_40 : plainFor (⟨"java/lang/StringLatin1", "equals", "([B[B)Z"⟩ : MethodName) = true := by decide +kernel
theorem pn_41 : plainFor (⟨"java/lang/String", "equals", "(Ljava/lang/Object;)Z"⟩ : MethodName) = true := by decide +kernel
theorem pn_42 : plainFor (⟨"jdk/internal/util/ArraysSupport", "mismatch", "([BI[BII)I"⟩ : MethodName) = true := by decide +kernel
theorem pn_43 : plainFor (⟨"java/lang/String", "startsWith", "(Ljava/lang/String;I)Z"⟩ : MethodName) = true := by decide +kernel
theorem pn_44 : plainFor (⟨"java/lang/String", "endsWith", "(Ljava/lang/String;)Z"⟩ : MethodName) = true := by decide +kernel
theorem pn_45 : plainFor (⟨"com/example/archerfish/archerfish/MediaType", "isJson", "(Ljava/lang/String;)Z"⟩ : MethodName) = true := by decide +kernel
theorem pn_46 : plainFor (⟨"com/example/archerfish/archerfish/MediaTypeIsJsonPinLaw", "flip", "(CII)C"⟩ : MethodName) = true := by decide +kernel
theorem pn_47 : plainFor (⟨"com/example/archerfish/archerfish/MediaTypeIsJsonPinLaw", "matches", "(CC)Z"⟩ : MethodName) = true := by decide +kernel
theorem pn_48 : plainFor (⟨"com/example/archerfish/archerfish/MediaTypeIsJsonPinLaw", "pad", "(I)C"⟩ : MethodName) = true := by decide +kernel
theorem pn_49 : plainFor (⟨"com/example/archerfish/archerfish/MediaTypeIsJsonPinLaw", "put", "([CILjava/lang/String;II)V"⟩ : MethodName) = true := by decide +kernel
theorem pn_50 : plainFor (⟨"com/example/archerfish/archerfish/MediaTypeIsJsonPinLaw", "law", "(IIIII)Z"⟩ : MethodName) = true := by decide +kernel
theorem dCL_3 : decode jdk_52_method_21_code 3 = .ok (.iload 5, 2) := by decide +kernel
theorem dCL_5 : decode jdk_52_method_21_code 5 = .ok (.iload 4, 2) := by decide +kernel
theorem dCL_7 : decode jdk_52_method_21_code 7 = .ok (.if_icmp .ge 37, 3) := by decide +kernel
theorem dCL_44 : decode jdk_52_method_21_code 44 = .ok (.iload 4, 2) := by decide +kernel
theorem dCL_46 : decode jdk_52_method_21_code 46 = .ok (.ireturn, 1) := by decide +kernel
theorem dCL_10 : decode jdk_52_method_21_code 10 = .ok (.aload_n 0, 1) := by decide +kernel
theorem dCL_11 : decode jdk_52_method_21_code 11 = .ok (.iload_n 1, 1) := by decide +kernel
theorem dCL_12 : decode jdk_52_method_21_code 12 = .ok (.caload, 1) := by decide +kernel
theorem dCL_13 : decode jdk_52_method_21_code 13 = .ok (.istore 6, 2) := by decide +kernel
theorem dCL_15 : decode jdk_52_method_21_code 15 = .ok (.iload 6, 2) := by decide +kernel
theorem dCL_17 : decode jdk_52_method_21_code 17 = .ok (.sipush 255, 3) := by decide +kernel
theorem dCL_20 : decode jdk_52_method_21_code 20 = .ok (.if_icmp .le 6, 3) := by decide +kernel
theorem dCL_26 : decode jdk_52_method_21_code 26 = .ok (.aload_n 2, 1) := by decide +kernel
theorem dCL_27 : decode jdk_52_method_21_code 27 = .ok (.iload_n 3, 1) := by decide +kernel
theorem dCL_28 : decode jdk_52_method_21_code 28 = .ok (.iload 6, 2) := by decide +kernel
theorem dCL_30 : decode jdk_52_method_21_code 30 = .ok (.i2b, 1) := by decide +kernel
theorem dCL_31 : decode jdk_52_method_21_code 31 = .ok (.bastore, 1) := by decide +kernel
theorem dCL_32 : decode jdk_52_method_21_code 32 = .ok (.iinc 1 1, 3) := by decide +kernel
theorem dCL_35 : decode jdk_52_method_21_code 35 = .ok (.iinc 3 1, 3) := by decide +kernel
theorem dCL_38 : decode jdk_52_method_21_code 38 = .ok (.iinc 5 1, 3) := by decide +kernel
theorem dCL_41 : decode jdk_52_method_21_code 41 = .ok (.goto (-38), 3) := by decide +kernel
theorem dCL_23 : decode jdk_52_method_21_code 23 = .ok (.iload 5, 2) := by decide +kernel
theorem dCL_25 : decode jdk_52_method_21_code 25 = .ok (.ireturn, 1) := by decide +kernel
theorem dCL_0 : decode jdk_52_method_21_code 0 = .ok (.iconst 0, 1) := by decide +kernel
theorem dCL_1 : decode jdk_52_method_21_code 1 = .ok (.istore 5, 2) := by decide +kernel
theorem dCM_0 : decode jdk_52_method_16_code 0 = .ok (.iload_n 2, 1) := by decide +kernel
theorem dCM_1 : decode jdk_52_method_16_code 1 = .ok (.newarray .byte, 2) := by decide +kernel
theorem dCM_3 : decode jdk_52_method_16_code 3 = .ok (.astore_n 3, 1) := by decide +kernel
theorem dCM_4 : decode jdk_52_method_16_code 4 = .ok (.aload_n 0, 1) := by decide +kernel
theorem dCM_5 : decode jdk_52_method_16_code 5 = .ok (.iload_n 1, 1) := by decide +kernel
theorem dCM_6 : decode jdk_52_method_16_code 6 = .ok (.aload_n 3, 1) := by decide +kernel
theorem dCM_7 : decode jdk_52_method_16_code 7 = .ok (.iconst 0, 1) := by decide +kernel
theorem dCM_8 : decode jdk_52_method_16_code 8 = .ok (.iload_n 2, 1) := by decide +kernel
theorem dCM_9 : decode jdk_52_method_16_code 9 = .ok (.invokestatic 115, 3) := by decide +kernel
theorem dCM_12 : decode jdk_52_method_16_code 12 = .ok (.istore 4, 2) := by decide +kernel
theorem dCM_14 : decode jdk_52_method_16_code 14 = .ok (.iload 4, 2) := by decide +kernel
theorem dCM_16 : decode jdk_52_method_16_code 16 = .ok (.iload_n 2, 1) := by decide +kernel
theorem dCM_17 : decode jdk_52_method_16_code 17 = .ok (.if_icmp .eq 40, 3) := by decide +kernel
theorem dCM_57 : decode jdk_52_method_16_code 57 = .ok (.aload_n 3, 1) := by decide +kernel
theorem dCM_58 : decode jdk_52_method_16_code 58 = .ok (.areturn, 1) := by decide +kernel
theorem dCF_0 : decode jdk_52_method_15_code 0 = .ok (.iload_n 1, 1) := by decide +kernel
theorem dCF_1 : decode jdk_52_method_15_code 1 = .ok (.aload_n 0, 1) := by decide +kernel
theorem dCF_2 : decode jdk_52_method_15_code 2 = .ok (.arraylength, 1) := by decide +kernel
theorem dCF_3 : decode jdk_52_method_15_code 3 = .ok (.isub, 1) := by decide +kernel
theorem dCF_4 : decode jdk_52_method_15_code 4 = .ok (.bipush 31, 2) := by decide +kernel
theorem dCF_6 : decode jdk_52_method_15_code 6 = .ok (.iushr, 1) := by decide +kernel
theorem dCF_7 : decode jdk_52_method_15_code 7 = .ok (.i2b, 1) := by decide +kernel
theorem dCF_8 : decode jdk_52_method_15_code 8 = .ok (.ireturn, 1) := by decide +kernel
theorem dI1_0 : decode jdk_42_method_149_code 0 = .ok (.aload_n 0, 1) := by decide +kernel
theorem dI1_1 : decode jdk_42_method_149_code 1 = .ok (.invokespecial 1, 3) := by decide +kernel
theorem dI1_4 : decode jdk_42_method_149_code 4 = .ok (.iload_n 3, 1) := by decide +kernel
theorem dI1_5 : decode jdk_42_method_149_code 5 = .ok (.ifCond .ne 22, 3) := by decide +kernel
theorem dI1_27 : decode jdk_42_method_149_code 27 = .ok (.getstatic 38, 3) := by decide +kernel
theorem dI1_30 : decode jdk_42_method_149_code 30 = .ok (.ifCond .eq 28, 3) := by decide +kernel
theorem dI1_33 : decode jdk_42_method_149_code 33 = .ok (.aload_n 1, 1) := by decide +kernel
theorem dI1_34 : decode jdk_42_method_149_code 34 = .ok (.iload_n 2, 1) := by decide +kernel
theorem dI1_35 : decode jdk_42_method_149_code 35 = .ok (.iload_n 3, 1) := by decide +kernel
theorem dI1_36 : decode jdk_42_method_149_code 36 = .ok (.invokestatic 177, 3) := by decide +kernel
theorem dI1_39 : decode jdk_42_method_149_code 39 = .ok (.astore 5, 2) := by decide +kernel
theorem dI1_41 : decode jdk_42_method_149_code 41 = .ok (.aload_n 0, 1) := by decide +kernel
theorem dI1_42 : decode jdk_42_method_149_code 42 = .ok (.aload 5, 2) := by decide +kernel
theorem dI1_44 : decode jdk_42_method_149_code 44 = .ok (.iload_n 3, 1) := by decide +kernel
theorem dI1_45 : decode jdk_42_method_149_code 45 = .ok (.invokestatic 47, 3) := by decide +kernel
theorem dI1_48 : decode jdk_42_method_149_code 48 = .ok (.putfield 15, 3) := by decide +kernel
theorem dI1_51 : decode jdk_42_method_149_code 51 = .ok (.aload_n 0, 1) := by decide +kernel
theorem dI1_52 : decode jdk_42_method_149_code 52 = .ok (.aload 5, 2) := by decide +kernel
theorem dI1_54 : decode jdk_42_method_149_code 54 = .ok (.putfield 9, 3) := by decide +kernel
theorem dI1_57 : decode jdk_42_method_149_code 57 = .ok (.return_, 1) := by decide +kernel
theorem dI0_0 : decode jdk_42_method_3_code 0 = .ok (.aload_n 0, 1) := by decide +kernel
theorem dI0_1 : decode jdk_42_method_3_code 1 = .ok (.aload_n 1, 1) := by decide +kernel
theorem dI0_2 : decode jdk_42_method_3_code 2 = .ok (.iconst 0, 1) := by decide +kernel
theorem dI0_3 : decode jdk_42_method_3_code 3 = .ok (.aload_n 1, 1) := by decide +kernel
theorem dI0_4 : decode jdk_42_method_3_code 4 = .ok (.arraylength, 1) := by decide +kernel
theorem dI0_5 : decode jdk_42_method_3_code 5 = .ok (.aconst_null, 1) := by decide +kernel
theorem dI0_6 : decode jdk_42_method_3_code 6 = .ok (.invokespecial 27, 3) := by decide +kernel
theorem dI0_9 : decode jdk_42_method_3_code 9 = .ok (.return_, 1) := by decide +kernel
theorem dCO_0 : decode jdk_42_method_152_code 0 = .ok (.getstatic 38, 3) := by decide +kernel
theorem dCO_3 : decode jdk_42_method_152_code 3 = .ok (.ifCond .eq 10, 3) := by decide +kernel
theorem dCO_6 : decode jdk_42_method_152_code 6 = .ok (.aload_n 0, 1) := by decide +kernel
theorem dCO_7 : decode jdk_42_method_152_code 7 = .ok (.getfield 15, 3) := by decide +kernel
theorem dCO_10 : decode jdk_42_method_152_code 10 = .ok (.goto 4, 3) := by decide +kernel
theorem dCO_14 : decode jdk_42_method_152_code 14 = .ok (.ireturn, 1) := by decide +kernel
theorem dLN_0 : decode jdk_42_method_54_code 0 = .ok (.aload_n 0, 1) := by decide +kernel
theorem dLN_1 : decode jdk_42_method_54_code 1 = .ok (.getfield 9, 3) := by decide +kernel
theorem dLN_4 : decode jdk_42_method_54_code 4 = .ok (.arraylength, 1) := by decide +kernel
theorem dLN_5 : decode jdk_42_method_54_code 5 = .ok (.aload_n 0, 1) := by decide +kernel
theorem dLN_6 : decode jdk_42_method_54_code 6 = .ok (.invokevirtual 335, 3) := by decide +kernel
theorem dLN_9 : decode jdk_42_method_54_code 9 = .ok (.ishr, 1) := by decide +kernel
theorem dLN_10 : decode jdk_42_method_54_code 10 = .ok (.ireturn, 1) := by decide +kernel
theorem dMN_0 : decode jdk_29_method_69_code 0 = .ok (.iload_n 0, 1) := by decide +kernel
theorem dMN_1 : decode jdk_29_method_69_code 1 = .ok (.iload_n 1, 1) := by decide +kernel
theorem dMN_2 : decode jdk_29_method_69_code 2 = .ok (.if_icmp .gt 7, 3) := by decide +kernel
theorem dMN_9 : decode jdk_29_method_69_code 9 = .ok (.iload_n 1, 1) := by decide +kernel
theorem dMN_10 : decode jdk_29_method_69_code 10 = .ok (.ireturn, 1) := by decide +kernel
theorem dMN_5 : decode jdk_29_method_69_code 5 = .ok (.iload_n 0, 1) := by decide +kernel
theorem dMN_6 : decode jdk_29_method_69_code 6 = .ok (.goto 4, 3) := by decide +kernel
theorem dMX_0 : decode jdk_29_method_65_code 0 = .ok (.iload_n 0, 1) := by decide +kernel
theorem dMX_1 : decode jdk_29_method_65_code 1 = .ok (.iload_n 1, 1) := by decide +kernel
theorem dMX_2 : decode jdk_29_method_65_code 2 = .ok (.if_icmp .lt 7, 3) := by decide +kernel
theorem dMX_9 : decode jdk_29_method_65_code 9 = .ok (.iload_n 1, 1) := by decide +kernel
theorem dMX_10 : decode jdk_29_method_65_code 10 = .ok (.ireturn, 1) := by decide +kernel
theorem dMX_5 : decode jdk_29_method_65_code 5 = .ok (.iload_n 0, 1) := by decide +kernel
theorem dMX_6 : decode jdk_29_method_65_code 6 = .ok (.goto 4, 3) := by decide +kernel
theorem dCE_0 : decode jdk_43_method_4_code 0 = .ok (.iload_n 0, 1) := by decide +kernel
theorem dCE_1 : decode jdk_43_method_4_code 1 = .ok (.ifCond .lt 14, 3) := by decide +kernel
theorem dCE_4 : decode jdk_43_method_4_code 4 = .ok (.iload_n 0, 1) := by decide +kernel
theorem dCE_5 : decode jdk_43_method_4_code 5 = .ok (.sipush 255, 3) := by decide +kernel
theorem dCE_8 : decode jdk_43_method_4_code 8 = .ok (.if_icmp .gt 7, 3) := by decide +kernel
theorem dCE_15 : decode jdk_43_method_4_code 15 = .ok (.iconst 0, 1) := by decide +kernel
theorem dCE_16 : decode jdk_43_method_4_code 16 = .ok (.ireturn, 1) := by decide +kernel
theorem dCE_11 : decode jdk_43_method_4_code 11 = .ok (.iconst 1, 1) := by decide +kernel
theorem dCE_12 : decode jdk_43_method_4_code 12 = .ok (.goto 4, 3) := by decide +kernel
theorem dLC_0 : decode jdk_43_method_23_code 0 = .ok (.iload_n 1, 1) := by decide +kernel
theorem dLC_1 : decode jdk_43_method_23_code 1 = .ok (.i2b, 1) := by decide +kernel
theorem dLC_2 : decode jdk_43_method_23_code 2 = .ok (.istore 4, 2) := by decide +kernel
theorem dLC_4 : decode jdk_43_method_23_code 4 = .ok (.iload_n 2, 1) := by decide +kernel
theorem dLC_5 : decode jdk_43_method_23_code 5 = .ok (.istore 5, 2) := by decide +kernel
theorem dLC_7 : decode jdk_43_method_23_code 7 = .ok (.iload 5, 2) := by decide +kernel
theorem dLC_9 : decode jdk_43_method_23_code 9 = .ok (.iload_n 3, 1) := by decide +kernel
theorem dLC_10 : decode jdk_43_method_23_code 10 = .ok (.if_icmp .ge 21, 3) := by decide +kernel
theorem dLC_31 : decode jdk_43_method_23_code 31 = .ok (.iconst (-1), 1) := by decide +kernel
theorem dLC_32 : decode jdk_43_method_23_code 32 = .ok (.ireturn, 1) := by decide +kernel
theorem dLC_13 : decode jdk_43_method_23_code 13 = .ok (.aload_n 0, 1) := by decide +kernel
theorem dLC_14 : decode jdk_43_method_23_code 14 = .ok (.iload 5, 2) := by decide +kernel
theorem dLC_16 : decode jdk_43_method_23_code 16 = .ok (.baload, 1) := by decide +kernel
theorem dLC_17 : decode jdk_43_method_23_code 17 = .ok (.iload 4, 2) := by decide +kernel
theorem dLC_19 : decode jdk_43_method_23_code 19 = .ok (.if_icmp .ne 6, 3) := by decide +kernel
theorem dLC_25 : decode jdk_43_method_23_code 25 = .ok (.iinc 5 1, 3) := by decide +kernel
theorem dLC_28 : decode jdk_43_method_23_code 28 = .ok (.goto (-21), 3) := by decide +kernel
theorem dLC_22 : decode jdk_43_method_23_code 22 = .ok (.iload 5, 2) := by decide +kernel
theorem dLC_24 : decode jdk_43_method_23_code 24 = .ok (.ireturn, 1) := by decide +kernel
theorem dLX_0 : decode jdk_43_method_22_code 0 = .ok (.iload_n 1, 1) := by decide +kernel
theorem dLX_1 : decode jdk_43_method_22_code 1 = .ok (.invokestatic 88, 3) := by decide +kernel
theorem dLX_4 : decode jdk_43_method_22_code 4 = .ok (.ifCond .ne 5, 3) := by decide +kernel
theorem dLX_9 : decode jdk_43_method_22_code 9 = .ok (.iload_n 2, 1) := by decide +kernel
theorem dLX_10 : decode jdk_43_method_22_code 10 = .ok (.iconst 0, 1) := by decide +kernel
theorem dLX_11 : decode jdk_43_method_22_code 11 = .ok (.invokestatic 92, 3) := by decide +kernel
theorem dLX_14 : decode jdk_43_method_22_code 14 = .ok (.istore_n 2, 1) := by decide +kernel
theorem dLX_15 : decode jdk_43_method_22_code 15 = .ok (.iload_n 3, 1) := by decide +kernel
theorem dLX_16 : decode jdk_43_method_22_code 16 = .ok (.aload_n 0, 1) := by decide +kernel
theorem dLX_17 : decode jdk_43_method_22_code 17 = .ok (.arraylength, 1) := by decide +kernel
theorem dLX_18 : decode jdk_43_method_22_code 18 = .ok (.invokestatic 38, 3) := by decide +kernel
theorem dLX_21 : decode jdk_43_method_22_code 21 = .ok (.istore_n 3, 1) := by decide +kernel
theorem dLX_22 : decode jdk_43_method_22_code 22 = .ok (.iload_n 2, 1) := by decide +kernel
theorem dLX_23 : decode jdk_43_method_22_code 23 = .ok (.iload_n 3, 1) := by decide +kernel
theorem dLX_24 : decode jdk_43_method_22_code 24 = .ok (.if_icmp .lt 5, 3) := by decide +kernel
theorem dLX_29 : decode jdk_43_method_22_code 29 = .ok (.aload_n 0, 1) := by decide +kernel
theorem dLX_30 : decode jdk_43_method_22_code 30 = .ok (.iload_n 1, 1) := by decide +kernel
theorem dLX_31 : decode jdk_43_method_22_code 31 = .ok (.iload_n 2, 1) := by decide +kernel
theorem dLX_32 : decode jdk_43_method_22_code 32 = .ok (.iload_n 3, 1) := by decide +kernel
theorem dLX_33 : decode jdk_43_method_22_code 33 = .ok (.invokestatic 95, 3) := by decide +kernel
theorem dLX_36 : decode jdk_43_method_22_code 36 = .ok (.ireturn, 1) := by decide +kernel
theorem dLX_27 : decode jdk_43_method_22_code 27 = .ok (.iconst (-1), 1) := by decide +kernel
theorem dLX_28 : decode jdk_43_method_22_code 28 = .ok (.ireturn, 1) := by decide +kernel
theorem dLX_7 : decode jdk_43_method_22_code 7 = .ok (.iconst (-1), 1) := by decide +kernel
theorem dLX_8 : decode jdk_43_method_22_code 8 = .ok (.ireturn, 1) := by decide +kernel
theorem dIL_0 : decode jdk_42_method_154_code 0 = .ok (.getstatic 38, 3) := by decide +kernel
theorem dIL_3 : decode jdk_42_method_154_code 3 = .ok (.ifCond .eq 14, 3) := by decide +kernel
theorem dIL_6 : decode jdk_42_method_154_code 6 = .ok (.aload_n 0, 1) := by decide +kernel
theorem dIL_7 : decode jdk_42_method_154_code 7 = .ok (.getfield 15, 3) := by decide +kernel
theorem dIL_10 : decode jdk_42_method_154_code 10 = .ok (.ifCond .ne 7, 3) := by decide +kernel
theorem dIL_17 : decode jdk_42_method_154_code 17 = .ok (.iconst 0, 1) := by decide +kernel
theorem dIL_18 : decode jdk_42_method_154_code 18 = .ok (.ireturn, 1) := by decide +kernel
theorem dIL_13 : decode jdk_42_method_154_code 13 = .ok (.iconst 1, 1) := by decide +kernel
theorem dIL_14 : decode jdk_42_method_154_code 14 = .ok (.goto 4, 3) := by decide +kernel
theorem dCD_0 : decode jdk_116_method_20_code 0 = .ok (.iload_n 1, 1) := by decide +kernel
theorem dCD_1 : decode jdk_116_method_20_code 1 = .ok (.bipush 65, 2) := by decide +kernel
theorem dCD_3 : decode jdk_116_method_20_code 3 = .ok (.if_icmp .ge 5, 3) := by decide +kernel
theorem dCD_8 : decode jdk_116_method_20_code 8 = .ok (.iload_n 1, 1) := by decide +kernel
theorem dCD_9 : decode jdk_116_method_20_code 9 = .ok (.bipush 32, 2) := by decide +kernel
theorem dCD_11 : decode jdk_116_method_20_code 11 = .ok (.ior, 1) := by decide +kernel
theorem dCD_12 : decode jdk_116_method_20_code 12 = .ok (.istore_n 2, 1) := by decide +kernel
theorem dCD_13 : decode jdk_116_method_20_code 13 = .ok (.iload_n 2, 1) := by decide +kernel
theorem dCD_14 : decode jdk_116_method_20_code 14 = .ok (.bipush 122, 2) := by decide +kernel
theorem dCD_16 : decode jdk_116_method_20_code 16 = .ok (.if_icmp .le 24, 3) := by decide +kernel
theorem dCD_40 : decode jdk_116_method_20_code 40 = .ok (.iload_n 2, 1) := by decide +kernel
theorem dCD_41 : decode jdk_116_method_20_code 41 = .ok (.ireturn, 1) := by decide +kernel
theorem dCD_19 : decode jdk_116_method_20_code 19 = .ok (.iload_n 2, 1) := by decide +kernel
theorem dCD_20 : decode jdk_116_method_20_code 20 = .ok (.sipush 224, 3) := by decide +kernel
theorem dCD_23 : decode jdk_116_method_20_code 23 = .ok (.if_icmp .lt 19, 3) := by decide +kernel
theorem dCD_42 : decode jdk_116_method_20_code 42 = .ok (.iload_n 1, 1) := by decide +kernel
theorem dCD_43 : decode jdk_116_method_20_code 43 = .ok (.ireturn, 1) := by decide +kernel
theorem dCD_26 : decode jdk_116_method_20_code 26 = .ok (.iload_n 2, 1) := by decide +kernel
theorem dCD_27 : decode jdk_116_method_20_code 27 = .ok (.sipush 254, 3) := by decide +kernel
theorem dCD_30 : decode jdk_116_method_20_code 30 = .ok (.if_icmp .gt 12, 3) := by decide +kernel
theorem dCD_33 : decode jdk_116_method_20_code 33 = .ok (.iload_n 2, 1) := by decide +kernel
theorem dCD_34 : decode jdk_116_method_20_code 34 = .ok (.sipush 247, 3) := by decide +kernel
theorem dCD_37 : decode jdk_116_method_20_code 37 = .ok (.if_icmp .eq 5, 3) := by decide +kernel
theorem dCD_6 : decode jdk_116_method_20_code 6 = .ok (.iload_n 1, 1) := by decide +kernel
theorem dCD_7 : decode jdk_116_method_20_code 7 = .ok (.ireturn, 1) := by decide +kernel
theorem dBG_0 : decode jdk_3003_method_5_code 0 = .ok (.aload_n 0, 1) := by decide +kernel
theorem dBG_1 : decode jdk_3003_method_5_code 1 = .ok (.getfield 19, 3) := by decide +kernel
theorem dBG_4 : decode jdk_3003_method_5_code 4 = .ok (.areturn, 1) := by decide +kernel
theorem dLG_0 : decode jdk_2628_method_27_code 0 = .ok (.aload_n 0, 1) := by decide +kernel
theorem dLG_1 : decode jdk_2628_method_27_code 1 = .ok (.getfield 28, 3) := by decide +kernel
theorem dLG_4 : decode jdk_2628_method_27_code 4 = .ok (.invokevirtual 293, 3) := by decide +kernel
theorem dLG_7 : decode jdk_2628_method_27_code 7 = .ok (.areturn, 1) := by decide +kernel
theorem dBI_0 : decode jdk_42_method_151_code 0 = .ok (.aload_n 0, 1) := by decide +kernel
theorem dBI_1 : decode jdk_42_method_151_code 1 = .ok (.invokespecial 1, 3) := by decide +kernel
theorem dBI_4 : decode jdk_42_method_151_code 4 = .ok (.aload_n 0, 1) := by decide +kernel
theorem dBI_5 : decode jdk_42_method_151_code 5 = .ok (.aload_n 1, 1) := by decide +kernel
theorem dBI_6 : decode jdk_42_method_151_code 6 = .ok (.putfield 9, 3) := by decide +kernel
theorem dBI_9 : decode jdk_42_method_151_code 9 = .ok (.aload_n 0, 1) := by decide +kernel
theorem dBI_10 : decode jdk_42_method_151_code 10 = .ok (.iload_n 2, 1) := by decide +kernel
theorem dBI_11 : decode jdk_42_method_151_code 11 = .ok (.putfield 15, 3) := by decide +kernel
theorem dBI_14 : decode jdk_42_method_151_code 14 = .ok (.return_, 1) := by decide +kernel
theorem dSL_0 : decode jdk_43_method_32_code 0 = .ok (.aload_n 2, 1) := by decide +kernel
theorem dSL_1 : decode jdk_43_method_32_code 1 = .ok (.ifnonnull 11, 3) := by decide +kernel
theorem dSL_12 : decode jdk_43_method_32_code 12 = .ok (.aload_n 1, 1) := by decide +kernel
theorem dSL_13 : decode jdk_43_method_32_code 13 = .ok (.arraylength, 1) := by decide +kernel
theorem dSL_55 : decode jdk_43_method_32_code 55 = .ok (.iload_n 3, 1) := by decide +kernel
theorem dSL_56 : decode jdk_43_method_32_code 56 = .ok (.iload 4, 2) := by decide +kernel
theorem dSL_58 : decode jdk_43_method_32_code 58 = .ok (.if_icmp .ne 5, 3) := by decide +kernel
theorem dSL_61 : decode jdk_43_method_32_code 61 = .ok (.aload_n 0, 1) := by decide +kernel
theorem dSL_62 : decode jdk_43_method_32_code 62 = .ok (.areturn, 1) := by decide +kernel
theorem dSL_63 : decode jdk_43_method_32_code 63 = .ok (.aload_n 2, 1) := by decide +kernel
theorem dSL_64 : decode jdk_43_method_32_code 64 = .ok (.invokevirtual 162, 3) := by decide +kernel
theorem dSL_67 : decode jdk_43_method_32_code 67 = .ok (.astore 5, 2) := by decide +kernel
theorem dSL_69 : decode jdk_43_method_32_code 69 = .ok (.aload 5, 2) := by decide +kernel
theorem dSL_71 : decode jdk_43_method_32_code 71 = .ok (.ldc 168, 2) := by decide +kernel
theorem dSL_73 : decode jdk_43_method_32_code 73 = .ok (.if_acmp .eq 17, 3) := by decide +kernel
theorem dSL_76 : decode jdk_43_method_32_code 76 = .ok (.aload 5, 2) := by decide +kernel
theorem dSL_78 : decode jdk_43_method_32_code 78 = .ok (.ldc 170, 2) := by decide +kernel
theorem dSL_80 : decode jdk_43_method_32_code 80 = .ok (.if_acmp .eq 10, 3) := by decide +kernel
theorem dSL_83 : decode jdk_43_method_32_code 83 = .ok (.aload 5, 2) := by decide +kernel
theorem dSL_85 : decode jdk_43_method_32_code 85 = .ok (.ldc 172, 2) := by decide +kernel
theorem dSL_87 : decode jdk_43_method_32_code 87 = .ok (.if_acmp .ne 12, 3) := by decide +kernel
theorem dSL_99 : decode jdk_43_method_32_code 99 = .ok (.iload 4, 2) := by decide +kernel
theorem dSL_101 : decode jdk_43_method_32_code 101 = .ok (.newarray .byte, 2) := by decide +kernel
theorem dSL_103 : decode jdk_43_method_32_code 103 = .ok (.astore 6, 2) := by decide +kernel
theorem dSL_105 : decode jdk_43_method_32_code 105 = .ok (.aload_n 1, 1) := by decide +kernel
theorem dSL_106 : decode jdk_43_method_32_code 106 = .ok (.iconst 0, 1) := by decide +kernel
theorem dSL_107 : decode jdk_43_method_32_code 107 = .ok (.aload 6, 2) := by decide +kernel
theorem dSL_109 : decode jdk_43_method_32_code 109 = .ok (.iconst 0, 1) := by decide +kernel
theorem dSL_110 : decode jdk_43_method_32_code 110 = .ok (.iload_n 3, 1) := by decide +kernel
theorem dSL_111 : decode jdk_43_method_32_code 111 = .ok (.invokestatic 28, 3) := by decide +kernel
theorem dSL_114 : decode jdk_43_method_32_code 114 = .ok (.iload_n 3, 1) := by decide +kernel
theorem dSL_115 : decode jdk_43_method_32_code 115 = .ok (.istore 7, 2) := by decide +kernel
theorem dSL_117 : decode jdk_43_method_32_code 117 = .ok (.iload 7, 2) := by decide +kernel
theorem dSL_119 : decode jdk_43_method_32_code 119 = .ok (.iload 4, 2) := by decide +kernel
theorem dSL_121 : decode jdk_43_method_32_code 121 = .ok (.if_icmp .ge 54, 3) := by decide +kernel
theorem dSL_175 : decode jdk_43_method_32_code 175 = .ok (.new 1, 3) := by decide +kernel
theorem dSL_178 : decode jdk_43_method_32_code 178 = .ok (.dup, 1) := by decide +kernel
theorem dSL_179 : decode jdk_43_method_32_code 179 = .ok (.aload 6, 2) := by decide +kernel
theorem dSL_181 : decode jdk_43_method_32_code 181 = .ok (.iconst 0, 1) := by decide +kernel
theorem dSL_182 : decode jdk_43_method_32_code 182 = .ok (.invokespecial 112, 3) := by decide +kernel
theorem dSL_185 : decode jdk_43_method_32_code 185 = .ok (.areturn, 1) := by decide +kernel
theorem dSL_124 : decode jdk_43_method_32_code 124 = .ok (.aload_n 1, 1) := by decide +kernel
theorem dSL_125 : decode jdk_43_method_32_code 125 = .ok (.iload 7, 2) := by decide +kernel
theorem dSL_127 : decode jdk_43_method_32_code 127 = .ok (.baload, 1) := by decide +kernel
theorem dSL_128 : decode jdk_43_method_32_code 128 = .ok (.sipush 255, 3) := by decide +kernel
theorem dSL_131 : decode jdk_43_method_32_code 131 = .ok (.iand, 1) := by decide +kernel
theorem dSL_132 : decode jdk_43_method_32_code 132 = .ok (.istore 8, 2) := by decide +kernel
theorem dSL_134 : decode jdk_43_method_32_code 134 = .ok (.getstatic 66, 3) := by decide +kernel
theorem dSL_137 : decode jdk_43_method_32_code 137 = .ok (.iload 8, 2) := by decide +kernel
theorem dSL_139 : decode jdk_43_method_32_code 139 = .ok (.invokevirtual 160, 3) := by decide +kernel
theorem dSL_142 : decode jdk_43_method_32_code 142 = .ok (.istore 8, 2) := by decide +kernel
theorem dSL_144 : decode jdk_43_method_32_code 144 = .ok (.iload 8, 2) := by decide +kernel
theorem dSL_146 : decode jdk_43_method_32_code 146 = .ok (.invokestatic 88, 3) := by decide +kernel
theorem dSL_149 : decode jdk_43_method_32_code 149 = .ok (.ifCond .ne 12, 3) := by decide +kernel
theorem dSL_161 : decode jdk_43_method_32_code 161 = .ok (.aload 6, 2) := by decide +kernel
theorem dSL_163 : decode jdk_43_method_32_code 163 = .ok (.iload 7, 2) := by decide +kernel
theorem dSL_165 : decode jdk_43_method_32_code 165 = .ok (.iload 8, 2) := by decide +kernel
theorem dSL_167 : decode jdk_43_method_32_code 167 = .ok (.i2b, 1) := by decide +kernel
theorem dSL_168 : decode jdk_43_method_32_code 168 = .ok (.bastore, 1) := by decide +kernel
theorem dSL_169 : decode jdk_43_method_32_code 169 = .ok (.iinc 7 1, 3) := by decide +kernel
theorem dSL_172 : decode jdk_43_method_32_code 172 = .ok (.goto (-55), 3) := by decide +kernel
theorem dSL_18 : decode jdk_43_method_32_code 18 = .ok (.iload_n 3, 1) := by decide +kernel
theorem dSL_19 : decode jdk_43_method_32_code 19 = .ok (.iload 4, 2) := by decide +kernel
theorem dSL_21 : decode jdk_43_method_32_code 21 = .ok (.if_icmp .ge 34, 3) := by decide +kernel
theorem dSL_24 : decode jdk_43_method_32_code 24 = .ok (.aload_n 1, 1) := by decide +kernel
theorem dSL_25 : decode jdk_43_method_32_code 25 = .ok (.iload_n 3, 1) := by decide +kernel
theorem dSL_26 : decode jdk_43_method_32_code 26 = .ok (.baload, 1) := by decide +kernel
theorem dSL_27 : decode jdk_43_method_32_code 27 = .ok (.sipush 255, 3) := by decide +kernel
theorem dSL_30 : decode jdk_43_method_32_code 30 = .ok (.iand, 1) := by decide +kernel
theorem dSL_31 : decode jdk_43_method_32_code 31 = .ok (.istore 5, 2) := by decide +kernel
theorem dSL_33 : decode jdk_43_method_32_code 33 = .ok (.iload 5, 2) := by decide +kernel
theorem dSL_35 : decode jdk_43_method_32_code 35 = .ok (.getstatic 66, 3) := by decide +kernel
theorem dSL_38 : decode jdk_43_method_32_code 38 = .ok (.iload 5, 2) := by decide +kernel
theorem dSL_40 : decode jdk_43_method_32_code 40 = .ok (.invokevirtual 160, 3) := by decide +kernel
theorem dSL_43 : decode jdk_43_method_32_code 43 = .ok (.if_icmp .eq 6, 3) := by decide +kernel
theorem dSL_49 : decode jdk_43_method_32_code 49 = .ok (.iinc 3 1, 3) := by decide +kernel
theorem dSL_52 : decode jdk_43_method_32_code 52 = .ok (.goto (-34), 3) := by decide +kernel
theorem dSL_46 : decode jdk_43_method_32_code 46 = .ok (.goto 9, 3) := by decide +kernel
theorem dSL_14 : decode jdk_43_method_32_code 14 = .ok (.istore 4, 2) := by decide +kernel
theorem dSL_16 : decode jdk_43_method_32_code 16 = .ok (.iconst 0, 1) := by decide +kernel
theorem dSL_17 : decode jdk_43_method_32_code 17 = .ok (.istore_n 3, 1) := by decide +kernel
theorem dTL_0 : decode jdk_42_method_109_code 0 = .ok (.aload_n 0, 1) := by decide +kernel
theorem dTL_1 : decode jdk_42_method_109_code 1 = .ok (.invokevirtual 492, 3) := by decide +kernel
theorem dTL_4 : decode jdk_42_method_109_code 4 = .ok (.ifCond .eq 15, 3) := by decide +kernel
theorem dTL_7 : decode jdk_42_method_109_code 7 = .ok (.aload_n 0, 1) := by decide +kernel
theorem dTL_8 : decode jdk_42_method_109_code 8 = .ok (.aload_n 0, 1) := by decide +kernel
theorem dTL_9 : decode jdk_42_method_109_code 9 = .ok (.getfield 9, 3) := by decide +kernel
theorem dTL_12 : decode jdk_42_method_109_code 12 = .ok (.aload_n 1, 1) := by decide +kernel
theorem dTL_13 : decode jdk_42_method_109_code 13 = .ok (.invokestatic 839, 3) := by decide +kernel
theorem dTL_16 : decode jdk_42_method_109_code 16 = .ok (.goto 12, 3) := by decide +kernel
theorem dTL_28 : decode jdk_42_method_109_code 28 = .ok (.areturn, 1) := by decide +kernel
theorem dIX_0 : decode jdk_42_method_80_code 0 = .ok (.aload_n 0, 1) := by decide +kernel
theorem dIX_1 : decode jdk_42_method_80_code 1 = .ok (.invokevirtual 492, 3) := by decide +kernel
theorem dIX_4 : decode jdk_42_method_80_code 4 = .ok (.ifCond .eq 19, 3) := by decide +kernel
theorem dIX_7 : decode jdk_42_method_80_code 7 = .ok (.aload_n 0, 1) := by decide +kernel
theorem dIX_8 : decode jdk_42_method_80_code 8 = .ok (.getfield 9, 3) := by decide +kernel
theorem dIX_11 : decode jdk_42_method_80_code 11 = .ok (.iload_n 1, 1) := by decide +kernel
theorem dIX_12 : decode jdk_42_method_80_code 12 = .ok (.iload_n 2, 1) := by decide +kernel
theorem dIX_13 : decode jdk_42_method_80_code 13 = .ok (.aload_n 0, 1) := by decide +kernel
theorem dIX_14 : decode jdk_42_method_80_code 14 = .ok (.invokevirtual 505, 3) := by decide +kernel
theorem dIX_17 : decode jdk_42_method_80_code 17 = .ok (.invokestatic 637, 3) := by decide +kernel
theorem dIX_20 : decode jdk_42_method_80_code 20 = .ok (.goto 16, 3) := by decide +kernel
theorem dIX_36 : decode jdk_42_method_80_code 36 = .ok (.ireturn, 1) := by decide +kernel
theorem dIA_0 : decode jdk_42_method_79_code 0 = .ok (.aload_n 0, 1) := by decide +kernel
theorem dIA_1 : decode jdk_42_method_79_code 1 = .ok (.iload_n 1, 1) := by decide +kernel
theorem dIA_2 : decode jdk_42_method_79_code 2 = .ok (.iconst 0, 1) := by decide +kernel
theorem dIA_3 : decode jdk_42_method_79_code 3 = .ok (.invokevirtual 633, 3) := by decide +kernel
theorem dIA_6 : decode jdk_42_method_79_code 6 = .ok (.ireturn, 1) := by decide +kernel
theorem dFT_0 : decode jdk_41_method_12_code 0 = .ok (.iload_n 0, 1) := by decide +kernel
theorem dFT_1 : decode jdk_41_method_12_code 1 = .ok (.ifCond .lt 13, 3) := by decide +kernel
theorem dFT_4 : decode jdk_41_method_12_code 4 = .ok (.iload_n 0, 1) := by decide +kernel
theorem dFT_5 : decode jdk_41_method_12_code 5 = .ok (.iload_n 1, 1) := by decide +kernel
theorem dFT_6 : decode jdk_41_method_12_code 6 = .ok (.if_icmp .gt 8, 3) := by decide +kernel
theorem dFT_9 : decode jdk_41_method_12_code 9 = .ok (.iload_n 1, 1) := by decide +kernel
theorem dFT_10 : decode jdk_41_method_12_code 10 = .ok (.iload_n 2, 1) := by decide +kernel
theorem dFT_11 : decode jdk_41_method_12_code 11 = .ok (.if_icmp .le 11, 3) := by decide +kernel
theorem dFT_22 : decode jdk_41_method_12_code 22 = .ok (.iload_n 0, 1) := by decide +kernel
theorem dFT_23 : decode jdk_41_method_12_code 23 = .ok (.ireturn, 1) := by decide +kernel
theorem dCB_0 : decode jdk_42_method_158_code 0 = .ok (.iload_n 0, 1) := by decide +kernel
theorem dCB_1 : decode jdk_42_method_158_code 1 = .ok (.iload_n 1, 1) := by decide +kernel
theorem dCB_2 : decode jdk_42_method_158_code 2 = .ok (.iload_n 2, 1) := by decide +kernel
theorem dCB_3 : decode jdk_42_method_158_code 3 = .ok (.getstatic 1053, 3) := by decide +kernel
theorem dCB_6 : decode jdk_42_method_158_code 6 = .ok (.invokestatic 1062, 3) := by decide +kernel
theorem dCB_9 : decode jdk_42_method_158_code 9 = .ok (.pop, 1) := by decide +kernel
theorem dCB_10 : decode jdk_42_method_158_code 10 = .ok (.return_, 1) := by decide +kernel
theorem dCK_0 : decode jdk_65_method_131_code 0 = .ok (.iload_n 1, 1) := by decide +kernel
theorem dCK_1 : decode jdk_65_method_131_code 1 = .ok (.iload_n 0, 1) := by decide +kernel
theorem dCK_2 : decode jdk_65_method_131_code 2 = .ok (.if_icmp .ge 35, 3) := by decide +kernel
theorem dCK_37 : decode jdk_65_method_131_code 37 = .ok (.return_, 1) := by decide +kernel
theorem dCX_0 : decode jdk_65_method_133_code 0 = .ok (.iload_n 1, 1) := by decide +kernel
theorem dCX_1 : decode jdk_65_method_133_code 1 = .ok (.iload_n 2, 1) := by decide +kernel
theorem dCX_2 : decode jdk_65_method_133_code 2 = .ok (.invokestatic 343, 3) := by decide +kernel
theorem dCX_5 : decode jdk_65_method_133_code 5 = .ok (.iload_n 2, 1) := by decide +kernel
theorem dCX_6 : decode jdk_65_method_133_code 6 = .ok (.iload_n 1, 1) := by decide +kernel
theorem dCX_7 : decode jdk_65_method_133_code 7 = .ok (.isub, 1) := by decide +kernel
theorem dCX_8 : decode jdk_65_method_133_code 8 = .ok (.istore_n 3, 1) := by decide +kernel
theorem dCX_9 : decode jdk_65_method_133_code 9 = .ok (.iload_n 3, 1) := by decide +kernel
theorem dCX_10 : decode jdk_65_method_133_code 10 = .ok (.newarray .byte, 2) := by decide +kernel
theorem dCX_12 : decode jdk_65_method_133_code 12 = .ok (.astore 4, 2) := by decide +kernel
theorem dCX_14 : decode jdk_65_method_133_code 14 = .ok (.aload_n 0, 1) := by decide +kernel
theorem dCX_15 : decode jdk_65_method_133_code 15 = .ok (.iload_n 1, 1) := by decide +kernel
theorem dCX_16 : decode jdk_65_method_133_code 16 = .ok (.aload 4, 2) := by decide +kernel
theorem dCX_18 : decode jdk_65_method_133_code 18 = .ok (.iconst 0, 1) := by decide +kernel
theorem dCX_19 : decode jdk_65_method_133_code 19 = .ok (.aload_n 0, 1) := by decide +kernel
theorem dCX_20 : decode jdk_65_method_133_code 20 = .ok (.arraylength, 1) := by decide +kernel
theorem dCX_21 : decode jdk_65_method_133_code 21 = .ok (.iload_n 1, 1) := by decide +kernel
theorem dCX_22 : decode jdk_65_method_133_code 22 = .ok (.isub, 1) := by decide +kernel
theorem dCX_23 : decode jdk_65_method_133_code 23 = .ok (.iload_n 3, 1) := by decide +kernel
theorem dCX_24 : decode jdk_65_method_133_code 24 = .ok (.invokestatic 304, 3) := by decide +kernel
theorem dCX_27 : decode jdk_65_method_133_code 27 = .ok (.invokestatic 150, 3) := by decide +kernel
theorem dCX_30 : decode jdk_65_method_133_code 30 = .ok (.aload 4, 2) := by decide +kernel
theorem dCX_32 : decode jdk_65_method_133_code 32 = .ok (.areturn, 1) := by decide +kernel
theorem dCR_10 : decode jdk_65_method_132_code 10 = .ok (.aload_n 0, 1) := by decide +kernel
theorem dCR_11 : decode jdk_65_method_132_code 11 = .ok (.iload_n 1, 1) := by decide +kernel
theorem dCR_12 : decode jdk_65_method_132_code 12 = .ok (.iload_n 2, 1) := by decide +kernel
theorem dCR_13 : decode jdk_65_method_132_code 13 = .ok (.invokestatic 339, 3) := by decide +kernel
theorem dCR_16 : decode jdk_65_method_132_code 16 = .ok (.areturn, 1) := by decide +kernel
theorem dCR_0 : decode jdk_65_method_132_code 0 = .ok (.iload_n 1, 1) := by decide +kernel
theorem dCR_1 : decode jdk_65_method_132_code 1 = .ok (.ifCond .ne 9, 3) := by decide +kernel
theorem dCR_4 : decode jdk_65_method_132_code 4 = .ok (.iload_n 2, 1) := by decide +kernel
theorem dCR_5 : decode jdk_65_method_132_code 5 = .ok (.aload_n 0, 1) := by decide +kernel
theorem dCR_6 : decode jdk_65_method_132_code 6 = .ok (.arraylength, 1) := by decide +kernel
theorem dCR_7 : decode jdk_65_method_132_code 7 = .ok (.if_icmp .eq 10, 3) := by decide +kernel
theorem dNS_0 : decode jdk_43_method_47_code 0 = .ok (.iload_n 2, 1) := by decide +kernel
theorem dNS_1 : decode jdk_43_method_47_code 1 = .ok (.ifCond .ne 6, 3) := by decide +kernel
theorem dNS_4 : decode jdk_43_method_47_code 4 = .ok (.ldc 151, 2) := by decide +kernel
theorem dNS_6 : decode jdk_43_method_47_code 6 = .ok (.areturn, 1) := by decide +kernel
theorem dNS_7 : decode jdk_43_method_47_code 7 = .ok (.new 1, 3) := by decide +kernel
theorem dNS_10 : decode jdk_43_method_47_code 10 = .ok (.dup, 1) := by decide +kernel
theorem dNS_11 : decode jdk_43_method_47_code 11 = .ok (.aload_n 0, 1) := by decide +kernel
theorem dNS_12 : decode jdk_43_method_47_code 12 = .ok (.iload_n 1, 1) := by decide +kernel
theorem dNS_13 : decode jdk_43_method_47_code 13 = .ok (.iload_n 1, 1) := by decide +kernel
theorem dNS_14 : decode jdk_43_method_47_code 14 = .ok (.iload_n 2, 1) := by decide +kernel
theorem dNS_15 : decode jdk_43_method_47_code 15 = .ok (.iadd, 1) := by decide +kernel
theorem dNS_16 : decode jdk_43_method_47_code 16 = .ok (.invokestatic 232, 3) := by decide +kernel
theorem dNS_19 : decode jdk_43_method_47_code 19 = .ok (.iconst 0, 1) := by decide +kernel
theorem dNS_20 : decode jdk_43_method_47_code 20 = .ok (.invokespecial 112, 3) := by decide +kernel
theorem dNS_23 : decode jdk_43_method_47_code 23 = .ok (.areturn, 1) := by decide +kernel
theorem dSS_22 : decode jdk_42_method_92_code 22 = .ok (.iload_n 2, 1) := by decide +kernel
theorem dSS_23 : decode jdk_42_method_92_code 23 = .ok (.iload_n 1, 1) := by decide +kernel
theorem dSS_24 : decode jdk_42_method_92_code 24 = .ok (.isub, 1) := by decide +kernel
theorem dSS_25 : decode jdk_42_method_92_code 25 = .ok (.istore 4, 2) := by decide +kernel
theorem dSS_27 : decode jdk_42_method_92_code 27 = .ok (.aload_n 0, 1) := by decide +kernel
theorem dSS_28 : decode jdk_42_method_92_code 28 = .ok (.invokevirtual 492, 3) := by decide +kernel
theorem dSS_31 : decode jdk_42_method_92_code 31 = .ok (.ifCond .eq 16, 3) := by decide +kernel
theorem dSS_34 : decode jdk_42_method_92_code 34 = .ok (.aload_n 0, 1) := by decide +kernel
theorem dSS_35 : decode jdk_42_method_92_code 35 = .ok (.getfield 9, 3) := by decide +kernel
theorem dSS_38 : decode jdk_42_method_92_code 38 = .ok (.iload_n 1, 1) := by decide +kernel
theorem dSS_39 : decode jdk_42_method_92_code 39 = .ok (.iload 4, 2) := by decide +kernel
theorem dSS_41 : decode jdk_42_method_92_code 41 = .ok (.invokestatic 685, 3) := by decide +kernel
theorem dSS_44 : decode jdk_42_method_92_code 44 = .ok (.goto 13, 3) := by decide +kernel
theorem dSS_57 : decode jdk_42_method_92_code 57 = .ok (.areturn, 1) := by decide +kernel
theorem dSS_0 : decode jdk_42_method_92_code 0 = .ok (.aload_n 0, 1) := by decide +kernel
theorem dSS_1 : decode jdk_42_method_92_code 1 = .ok (.invokevirtual 505, 3) := by decide +kernel
theorem dSS_4 : decode jdk_42_method_92_code 4 = .ok (.istore_n 3, 1) := by decide +kernel
theorem dSS_5 : decode jdk_42_method_92_code 5 = .ok (.iload_n 1, 1) := by decide +kernel
theorem dSS_6 : decode jdk_42_method_92_code 6 = .ok (.iload_n 2, 1) := by decide +kernel
theorem dSS_7 : decode jdk_42_method_92_code 7 = .ok (.iload_n 3, 1) := by decide +kernel
theorem dSS_8 : decode jdk_42_method_92_code 8 = .ok (.invokestatic 521, 3) := by decide +kernel
theorem dSS_11 : decode jdk_42_method_92_code 11 = .ok (.iload_n 1, 1) := by decide +kernel
theorem dSS_12 : decode jdk_42_method_92_code 12 = .ok (.ifCond .ne 10, 3) := by decide +kernel
theorem dSS_15 : decode jdk_42_method_92_code 15 = .ok (.iload_n 2, 1) := by decide +kernel
theorem dSS_16 : decode jdk_42_method_92_code 16 = .ok (.iload_n 3, 1) := by decide +kernel
theorem dSS_17 : decode jdk_42_method_92_code 17 = .ok (.if_icmp .ne 5, 3) := by decide +kernel
theorem dSS_20 : decode jdk_42_method_92_code 20 = .ok (.aload_n 0, 1) := by decide +kernel
theorem dSS_21 : decode jdk_42_method_92_code 21 = .ok (.areturn, 1) := by decide +kernel
theorem dGX_0 : decode jdk_43_method_44_code 0 = .ok (.aload_n 0, 1) := by decide +kernel
theorem dGX_1 : decode jdk_43_method_44_code 1 = .ok (.iload_n 1, 1) := by decide +kernel
theorem dGX_2 : decode jdk_43_method_44_code 2 = .ok (.baload, 1) := by decide +kernel
theorem dGX_3 : decode jdk_43_method_44_code 3 = .ok (.sipush 255, 3) := by decide +kernel
theorem dGX_6 : decode jdk_43_method_44_code 6 = .ok (.iand, 1) := by decide +kernel
theorem dGX_7 : decode jdk_43_method_44_code 7 = .ok (.i2c, 1) := by decide +kernel
theorem dGX_8 : decode jdk_43_method_44_code 8 = .ok (.ireturn, 1) := by decide +kernel
theorem dGP_0 : decode jdk_116_method_1_code 0 = .ok (.iload_n 1, 1) := by decide +kernel
theorem dGP_1 : decode jdk_116_method_1_code 1 = .ok (.i2c, 1) := by decide +kernel
theorem dGP_2 : decode jdk_116_method_1_code 2 = .ok (.istore_n 2, 1) := by decide +kernel
theorem dGP_3 : decode jdk_116_method_1_code 3 = .ok (.getstatic 1, 3) := by decide +kernel
theorem dGP_6 : decode jdk_116_method_1_code 6 = .ok (.iload_n 2, 1) := by decide +kernel
theorem dGP_7 : decode jdk_116_method_1_code 7 = .ok (.iaload, 1) := by decide +kernel
theorem dGP_8 : decode jdk_116_method_1_code 8 = .ok (.istore_n 3, 1) := by decide +kernel
theorem dGP_9 : decode jdk_116_method_1_code 9 = .ok (.iload_n 3, 1) := by decide +kernel
theorem dGP_10 : decode jdk_116_method_1_code 10 = .ok (.ireturn, 1) := by decide +kernel
theorem dWS_0 : decode jdk_116_method_26_code 0 = .ok (.aload_n 0, 1) := by decide +kernel
theorem dWS_1 : decode jdk_116_method_26_code 1 = .ok (.iload_n 1, 1) := by decide +kernel
theorem dWS_2 : decode jdk_116_method_26_code 2 = .ok (.invokevirtual 15, 3) := by decide +kernel
theorem dWS_5 : decode jdk_116_method_26_code 5 = .ok (.istore_n 2, 1) := by decide +kernel
theorem dWS_6 : decode jdk_116_method_26_code 6 = .ok (.iload_n 2, 1) := by decide +kernel
theorem dWS_7 : decode jdk_116_method_26_code 7 = .ok (.sipush 28672, 3) := by decide +kernel
theorem dWS_10 : decode jdk_116_method_26_code 10 = .ok (.iand, 1) := by decide +kernel
theorem dWS_11 : decode jdk_116_method_26_code 11 = .ok (.sipush 16384, 3) := by decide +kernel
theorem dWS_14 : decode jdk_116_method_26_code 14 = .ok (.if_icmp .ne 7, 3) := by decide +kernel
theorem dWS_21 : decode jdk_116_method_26_code 21 = .ok (.iconst 0, 1) := by decide +kernel
theorem dWS_22 : decode jdk_116_method_26_code 22 = .ok (.ireturn, 1) := by decide +kernel
theorem dWS_17 : decode jdk_116_method_26_code 17 = .ok (.iconst 1, 1) := by decide +kernel
theorem dWS_18 : decode jdk_116_method_26_code 18 = .ok (.goto 4, 3) := by decide +kernel
theorem dNW_0 : decode jdk_43_method_37_code 0 = .ok (.aload_n 0, 1) := by decide +kernel
theorem dNW_1 : decode jdk_43_method_37_code 1 = .ok (.arraylength, 1) := by decide +kernel
theorem dNW_5 : decode jdk_43_method_37_code 5 = .ok (.iload_n 2, 1) := by decide +kernel
theorem dNW_6 : decode jdk_43_method_37_code 6 = .ok (.iload_n 1, 1) := by decide +kernel
theorem dNW_7 : decode jdk_43_method_37_code 7 = .ok (.if_icmp .ge 40, 3) := by decide +kernel
theorem dNW_47 : decode jdk_43_method_37_code 47 = .ok (.iload_n 2, 1) := by decide +kernel
theorem dNW_48 : decode jdk_43_method_37_code 48 = .ok (.ireturn, 1) := by decide +kernel
theorem dNW_10 : decode jdk_43_method_37_code 10 = .ok (.aload_n 0, 1) := by decide +kernel
theorem dNW_11 : decode jdk_43_method_37_code 11 = .ok (.iload_n 2, 1) := by decide +kernel
theorem dNW_12 : decode jdk_43_method_37_code 12 = .ok (.invokestatic 50, 3) := by decide +kernel
theorem dNW_15 : decode jdk_43_method_37_code 15 = .ok (.istore_n 3, 1) := by decide +kernel
theorem dNW_41 : decode jdk_43_method_37_code 41 = .ok (.iinc 2 1, 3) := by decide +kernel
theorem dNW_44 : decode jdk_43_method_37_code 44 = .ok (.goto (-39), 3) := by decide +kernel
theorem dNW_16 : decode jdk_43_method_37_code 16 = .ok (.iload_n 3, 1) := by decide +kernel
theorem dNW_17 : decode jdk_43_method_37_code 17 = .ok (.bipush 32, 2) := by decide +kernel
theorem dNW_19 : decode jdk_43_method_37_code 19 = .ok (.if_icmp .eq 22, 3) := by decide +kernel
theorem dNW_22 : decode jdk_43_method_37_code 22 = .ok (.iload_n 3, 1) := by decide +kernel
theorem dNW_23 : decode jdk_43_method_37_code 23 = .ok (.bipush 9, 2) := by decide +kernel
theorem dNW_25 : decode jdk_43_method_37_code 25 = .ok (.if_icmp .eq 16, 3) := by decide +kernel
theorem dNW_28 : decode jdk_43_method_37_code 28 = .ok (.getstatic 66, 3) := by decide +kernel
theorem dNW_31 : decode jdk_43_method_37_code 31 = .ok (.iload_n 3, 1) := by decide +kernel
theorem dNW_32 : decode jdk_43_method_37_code 32 = .ok (.invokevirtual 211, 3) := by decide +kernel
theorem dNW_35 : decode jdk_43_method_37_code 35 = .ok (.ifCond .ne 6, 3) := by decide +kernel
theorem dNW_38 : decode jdk_43_method_37_code 38 = .ok (.goto 9, 3) := by decide +kernel
theorem dNW_2 : decode jdk_43_method_37_code 2 = .ok (.istore_n 1, 1) := by decide +kernel
theorem dNW_3 : decode jdk_43_method_37_code 3 = .ok (.iconst 0, 1) := by decide +kernel
theorem dNW_4 : decode jdk_43_method_37_code 4 = .ok (.istore_n 2, 1) := by decide +kernel
theorem dLW_0 : decode jdk_43_method_38_code 0 = .ok (.aload_n 0, 1) := by decide +kernel
theorem dLW_1 : decode jdk_43_method_38_code 1 = .ok (.arraylength, 1) := by decide +kernel
theorem dLW_5 : decode jdk_43_method_38_code 5 = .ok (.iconst 0, 1) := by decide +kernel
theorem dLW_6 : decode jdk_43_method_38_code 6 = .ok (.iload_n 2, 1) := by decide +kernel
theorem dLW_7 : decode jdk_43_method_38_code 7 = .ok (.if_icmp .ge 42, 3) := by decide +kernel
theorem dLW_49 : decode jdk_43_method_38_code 49 = .ok (.iload_n 2, 1) := by decide +kernel
theorem dLW_50 : decode jdk_43_method_38_code 50 = .ok (.ireturn, 1) := by decide +kernel
theorem dLW_10 : decode jdk_43_method_38_code 10 = .ok (.aload_n 0, 1) := by decide +kernel
theorem dLW_11 : decode jdk_43_method_38_code 11 = .ok (.iload_n 2, 1) := by decide +kernel
theorem dLW_12 : decode jdk_43_method_38_code 12 = .ok (.iconst 1, 1) := by decide +kernel
theorem dLW_13 : decode jdk_43_method_38_code 13 = .ok (.isub, 1) := by decide +kernel
theorem dLW_14 : decode jdk_43_method_38_code 14 = .ok (.invokestatic 50, 3) := by decide +kernel
theorem dLW_17 : decode jdk_43_method_38_code 17 = .ok (.istore_n 3, 1) := by decide +kernel
theorem dLW_43 : decode jdk_43_method_38_code 43 = .ok (.iinc 2 (-1), 3) := by decide +kernel
theorem dLW_46 : decode jdk_43_method_38_code 46 = .ok (.goto (-41), 3) := by decide +kernel
theorem dLW_18 : decode jdk_43_method_38_code 18 = .ok (.iload_n 3, 1) := by decide +kernel
theorem dLW_19 : decode jdk_43_method_38_code 19 = .ok (.bipush 32, 2) := by decide +kernel
theorem dLW_21 : decode jdk_43_method_38_code 21 = .ok (.if_icmp .eq 22, 3) := by decide +kernel
theorem dLW_24 : decode jdk_43_method_38_code 24 = .ok (.iload_n 3, 1) := by decide +kernel
theorem dLW_25 : decode jdk_43_method_38_code 25 = .ok (.bipush 9, 2) := by decide +kernel
theorem dLW_27 : decode jdk_43_method_38_code 27 = .ok (.if_icmp .eq 16, 3) := by decide +kernel
theorem dLW_30 : decode jdk_43_method_38_code 30 = .ok (.getstatic 66, 3) := by decide +kernel
theorem dLW_33 : decode jdk_43_method_38_code 33 = .ok (.iload_n 3, 1) := by decide +kernel
theorem dLW_34 : decode jdk_43_method_38_code 34 = .ok (.invokevirtual 211, 3) := by decide +kernel
theorem dLW_37 : decode jdk_43_method_38_code 37 = .ok (.ifCond .ne 6, 3) := by decide +kernel
theorem dLW_40 : decode jdk_43_method_38_code 40 = .ok (.goto 9, 3) := by decide +kernel
theorem dLW_2 : decode jdk_43_method_38_code 2 = .ok (.istore_n 1, 1) := by decide +kernel
theorem dLW_3 : decode jdk_43_method_38_code 3 = .ok (.iload_n 1, 1) := by decide +kernel
theorem dLW_4 : decode jdk_43_method_38_code 4 = .ok (.istore_n 2, 1) := by decide +kernel
theorem dS1_0 : decode jdk_43_method_39_code 0 = .ok (.aload_n 0, 1) := by decide +kernel
theorem dS1_1 : decode jdk_43_method_39_code 1 = .ok (.invokestatic 214, 3) := by decide +kernel
theorem dS1_4 : decode jdk_43_method_39_code 4 = .ok (.istore_n 1, 1) := by decide +kernel
theorem dS1_5 : decode jdk_43_method_39_code 5 = .ok (.iload_n 1, 1) := by decide +kernel
theorem dS1_6 : decode jdk_43_method_39_code 6 = .ok (.aload_n 0, 1) := by decide +kernel
theorem dS1_7 : decode jdk_43_method_39_code 7 = .ok (.arraylength, 1) := by decide +kernel
theorem dS1_8 : decode jdk_43_method_39_code 8 = .ok (.if_icmp .ne 6, 3) := by decide +kernel
theorem dS1_11 : decode jdk_43_method_39_code 11 = .ok (.ldc 151, 2) := by decide +kernel
theorem dS1_13 : decode jdk_43_method_39_code 13 = .ok (.areturn, 1) := by decide +kernel
theorem dS1_14 : decode jdk_43_method_39_code 14 = .ok (.aload_n 0, 1) := by decide +kernel
theorem dS1_15 : decode jdk_43_method_39_code 15 = .ok (.invokestatic 217, 3) := by decide +kernel
theorem dS1_18 : decode jdk_43_method_39_code 18 = .ok (.istore_n 2, 1) := by decide +kernel
theorem dS1_19 : decode jdk_43_method_39_code 19 = .ok (.iload_n 1, 1) := by decide +kernel
theorem dS1_29 : decode jdk_43_method_39_code 29 = .ok (.iconst 1, 1) := by decide +kernel
theorem dS1_30 : decode jdk_43_method_39_code 30 = .ok (.goto 4, 3) := by decide +kernel
theorem dS1_34 : decode jdk_43_method_39_code 34 = .ok (.istore_n 3, 1) := by decide +kernel
theorem dS1_35 : decode jdk_43_method_39_code 35 = .ok (.iload_n 3, 1) := by decide +kernel
theorem dS1_36 : decode jdk_43_method_39_code 36 = .ok (.ifCond .eq 14, 3) := by decide +kernel
theorem dS1_39 : decode jdk_43_method_39_code 39 = .ok (.aload_n 0, 1) := by decide +kernel
theorem dS1_40 : decode jdk_43_method_39_code 40 = .ok (.iload_n 1, 1) := by decide +kernel
theorem dS1_41 : decode jdk_43_method_39_code 41 = .ok (.iload_n 2, 1) := by decide +kernel
theorem dS1_42 : decode jdk_43_method_39_code 42 = .ok (.iload_n 1, 1) := by decide +kernel
theorem dS1_43 : decode jdk_43_method_39_code 43 = .ok (.isub, 1) := by decide +kernel
theorem dS1_44 : decode jdk_43_method_39_code 44 = .ok (.invokestatic 210, 3) := by decide +kernel
theorem dS1_47 : decode jdk_43_method_39_code 47 = .ok (.goto 4, 3) := by decide +kernel
theorem dS1_51 : decode jdk_43_method_39_code 51 = .ok (.areturn, 1) := by decide +kernel
theorem dS1_20 : decode jdk_43_method_39_code 20 = .ok (.ifCond .gt 9, 3) := by decide +kernel
theorem dS1_23 : decode jdk_43_method_39_code 23 = .ok (.iload_n 2, 1) := by decide +kernel
theorem dS1_24 : decode jdk_43_method_39_code 24 = .ok (.aload_n 0, 1) := by decide +kernel
theorem dS1_25 : decode jdk_43_method_39_code 25 = .ok (.arraylength, 1) := by decide +kernel
theorem dS1_26 : decode jdk_43_method_39_code 26 = .ok (.if_icmp .ge 7, 3) := by decide +kernel
theorem dS1_33 : decode jdk_43_method_39_code 33 = .ok (.iconst 0, 1) := by decide +kernel
theorem dS1_50 : decode jdk_43_method_39_code 50 = .ok (.aconst_null, 1) := by decide +kernel
theorem dSP_0 : decode jdk_42_method_114_code 0 = .ok (.aload_n 0, 1) := by decide +kernel
theorem dSP_1 : decode jdk_42_method_114_code 1 = .ok (.invokevirtual 492, 3) := by decide +kernel
theorem dSP_4 : decode jdk_42_method_114_code 4 = .ok (.ifCond .eq 13, 3) := by decide +kernel
theorem dSP_7 : decode jdk_42_method_114_code 7 = .ok (.aload_n 0, 1) := by decide +kernel
theorem dSP_8 : decode jdk_42_method_114_code 8 = .ok (.getfield 9, 3) := by decide +kernel
theorem dSP_11 : decode jdk_42_method_114_code 11 = .ok (.invokestatic 864, 3) := by decide +kernel
theorem dSP_14 : decode jdk_42_method_114_code 14 = .ok (.goto 10, 3) := by decide +kernel
theorem dSP_24 : decode jdk_42_method_114_code 24 = .ok (.astore_n 1, 1) := by decide +kernel
theorem dSP_25 : decode jdk_42_method_114_code 25 = .ok (.aload_n 1, 1) := by decide +kernel
theorem dSP_26 : decode jdk_42_method_114_code 26 = .ok (.ifnonnull 7, 3) := by decide +kernel
theorem dSP_29 : decode jdk_42_method_114_code 29 = .ok (.aload_n 0, 1) := by decide +kernel
theorem dSP_30 : decode jdk_42_method_114_code 30 = .ok (.goto 4, 3) := by decide +kernel
theorem dSP_34 : decode jdk_42_method_114_code 34 = .ok (.areturn, 1) := by decide +kernel
theorem dSP_33 : decode jdk_42_method_114_code 33 = .ok (.aload_n 1, 1) := by decide +kernel
theorem dPI_0 : decode jdk_41_method_11_code 0 = .ok (.iload_n 0, 1) := by decide +kernel
theorem dPI_1 : decode jdk_41_method_11_code 1 = .ok (.ifCond .lt 8, 3) := by decide +kernel
theorem dPI_4 : decode jdk_41_method_11_code 4 = .ok (.iload_n 0, 1) := by decide +kernel
theorem dPI_5 : decode jdk_41_method_11_code 5 = .ok (.iload_n 1, 1) := by decide +kernel
theorem dPI_6 : decode jdk_41_method_11_code 6 = .ok (.if_icmp .lt 10, 3) := by decide +kernel
theorem dPI_16 : decode jdk_41_method_11_code 16 = .ok (.iload_n 0, 1) := by decide +kernel
theorem dPI_17 : decode jdk_41_method_11_code 17 = .ok (.ireturn, 1) := by decide +kernel
theorem dCI_0 : decode jdk_42_method_155_code 0 = .ok (.iload_n 0, 1) := by decide +kernel
theorem dCI_1 : decode jdk_42_method_155_code 1 = .ok (.iload_n 1, 1) := by decide +kernel
theorem dCI_2 : decode jdk_42_method_155_code 2 = .ok (.getstatic 1053, 3) := by decide +kernel
theorem dCI_5 : decode jdk_42_method_155_code 5 = .ok (.invokestatic 1059, 3) := by decide +kernel
theorem dCI_8 : decode jdk_42_method_155_code 8 = .ok (.pop, 1) := by decide +kernel
theorem dCI_9 : decode jdk_42_method_155_code 9 = .ok (.return_, 1) := by decide +kernel
theorem dLA_0 : decode jdk_43_method_2_code 0 = .ok (.iload_n 1, 1) := by decide +kernel
theorem dLA_1 : decode jdk_43_method_2_code 1 = .ok (.aload_n 0, 1) := by decide +kernel
theorem dLA_2 : decode jdk_43_method_2_code 2 = .ok (.arraylength, 1) := by decide +kernel
theorem dLA_3 : decode jdk_43_method_2_code 3 = .ok (.invokestatic 9, 3) := by decide +kernel
theorem dLA_6 : decode jdk_43_method_2_code 6 = .ok (.aload_n 0, 1) := by decide +kernel
theorem dLA_7 : decode jdk_43_method_2_code 7 = .ok (.iload_n 1, 1) := by decide +kernel
theorem dLA_8 : decode jdk_43_method_2_code 8 = .ok (.baload, 1) := by decide +kernel
theorem dLA_9 : decode jdk_43_method_2_code 9 = .ok (.sipush 255, 3) := by decide +kernel
theorem dLA_12 : decode jdk_43_method_2_code 12 = .ok (.iand, 1) := by decide +kernel
theorem dLA_13 : decode jdk_43_method_2_code 13 = .ok (.i2c, 1) := by decide +kernel
theorem dLA_14 : decode jdk_43_method_2_code 14 = .ok (.ireturn, 1) := by decide +kernel
theorem dCA_0 : decode jdk_42_method_56_code 0 = .ok (.aload_n 0, 1) := by decide +kernel
theorem dCA_1 : decode jdk_42_method_56_code 1 = .ok (.invokevirtual 492, 3) := by decide +kernel
theorem dCA_4 : decode jdk_42_method_56_code 4 = .ok (.ifCond .eq 12, 3) := by decide +kernel
theorem dCA_7 : decode jdk_42_method_56_code 7 = .ok (.aload_n 0, 1) := by decide +kernel
theorem dCA_8 : decode jdk_42_method_56_code 8 = .ok (.getfield 9, 3) := by decide +kernel
theorem dCA_11 : decode jdk_42_method_56_code 11 = .ok (.iload_n 1, 1) := by decide +kernel
theorem dCA_12 : decode jdk_42_method_56_code 12 = .ok (.invokestatic 495, 3) := by decide +kernel
theorem dCA_15 : decode jdk_42_method_56_code 15 = .ok (.ireturn, 1) := by decide +kernel
theorem dES_21 : decode prog_8_method_3_code 21 = .ok (.invokevirtual 35, 3) := by decide +kernel
theorem dES_24 : decode prog_8_method_3_code 24 = .ok (.getstatic 39, 3) := by decide +kernel
theorem dES_27 : decode prog_8_method_3_code 27 = .ok (.invokevirtual 45, 3) := by decide +kernel
theorem dES_30 : decode prog_8_method_3_code 30 = .ok (.areturn, 1) := by decide +kernel
theorem dES_0 : decode prog_8_method_3_code 0 = .ok (.aload_n 0, 1) := by decide +kernel
theorem dES_1 : decode prog_8_method_3_code 1 = .ok (.bipush 59, 2) := by decide +kernel
theorem dES_3 : decode prog_8_method_3_code 3 = .ok (.invokevirtual 25, 3) := by decide +kernel
theorem dES_6 : decode prog_8_method_3_code 6 = .ok (.istore_n 1, 1) := by decide +kernel
theorem dES_7 : decode prog_8_method_3_code 7 = .ok (.iload_n 1, 1) := by decide +kernel
theorem dES_8 : decode prog_8_method_3_code 8 = .ok (.ifCond .ge 7, 3) := by decide +kernel
theorem dES_15 : decode prog_8_method_3_code 15 = .ok (.aload_n 0, 1) := by decide +kernel
theorem dES_16 : decode prog_8_method_3_code 16 = .ok (.iconst 0, 1) := by decide +kernel
theorem dES_17 : decode prog_8_method_3_code 17 = .ok (.iload_n 1, 1) := by decide +kernel
theorem dES_18 : decode prog_8_method_3_code 18 = .ok (.invokevirtual 31, 3) := by decide +kernel
theorem dES_11 : decode prog_8_method_3_code 11 = .ok (.aload_n 0, 1) := by decide +kernel
theorem dES_12 : decode prog_8_method_3_code 12 = .ok (.goto 9, 3) := by decide +kernel
theorem dLE_0 : decode jdk_43_method_13_code 0 = .ok (.aload_n 0, 1) := by decide +kernel
theorem dLE_1 : decode jdk_43_method_13_code 1 = .ok (.arraylength, 1) := by decide +kernel
theorem dLE_2 : decode jdk_43_method_13_code 2 = .ok (.aload_n 1, 1) := by decide +kernel
theorem dLE_3 : decode jdk_43_method_13_code 3 = .ok (.arraylength, 1) := by decide +kernel
theorem dLE_4 : decode jdk_43_method_13_code 4 = .ok (.if_icmp .ne 30, 3) := by decide +kernel
theorem dLE_34 : decode jdk_43_method_13_code 34 = .ok (.iconst 0, 1) := by decide +kernel
theorem dLE_35 : decode jdk_43_method_13_code 35 = .ok (.ireturn, 1) := by decide +kernel
theorem dLE_7 : decode jdk_43_method_13_code 7 = .ok (.iconst 0, 1) := by decide +kernel
theorem dLE_8 : decode jdk_43_method_13_code 8 = .ok (.istore_n 2, 1) := by decide +kernel
theorem dLE_9 : decode jdk_43_method_13_code 9 = .ok (.iload_n 2, 1) := by decide +kernel
theorem dLE_10 : decode jdk_43_method_13_code 10 = .ok (.aload_n 0, 1) := by decide +kernel
theorem dLE_11 : decode jdk_43_method_13_code 11 = .ok (.arraylength, 1) := by decide +kernel
theorem dLE_12 : decode jdk_43_method_13_code 12 = .ok (.if_icmp .ge 20, 3) := by decide +kernel
theorem dLE_32 : decode jdk_43_method_13_code 32 = .ok (.iconst 1, 1) := by decide +kernel
theorem dLE_33 : decode jdk_43_method_13_code 33 = .ok (.ireturn, 1) := by decide +kernel
theorem dLE_15 : decode jdk_43_method_13_code 15 = .ok (.aload_n 0, 1) := by decide +kernel
theorem dLE_16 : decode jdk_43_method_13_code 16 = .ok (.iload_n 2, 1) := by decide +kernel
theorem dLE_17 : decode jdk_43_method_13_code 17 = .ok (.baload, 1) := by decide +kernel
theorem dLE_18 : decode jdk_43_method_13_code 18 = .ok (.aload_n 1, 1) := by decide +kernel
theorem dLE_19 : decode jdk_43_method_13_code 19 = .ok (.iload_n 2, 1) := by decide +kernel
theorem dLE_20 : decode jdk_43_method_13_code 20 = .ok (.baload, 1) := by decide +kernel
theorem dLE_21 : decode jdk_43_method_13_code 21 = .ok (.if_icmp .eq 5, 3) := by decide +kernel
theorem dLE_26 : decode jdk_43_method_13_code 26 = .ok (.iinc 2 1, 3) := by decide +kernel
theorem dLE_29 : decode jdk_43_method_13_code 29 = .ok (.goto (-20), 3) := by decide +kernel
theorem dLE_24 : decode jdk_43_method_13_code 24 = .ok (.iconst 0, 1) := by decide +kernel
theorem dLE_25 : decode jdk_43_method_13_code 25 = .ok (.ireturn, 1) := by decide +kernel
theorem dEQ_0 : decode jdk_42_method_66_code 0 = .ok (.aload_n 0, 1) := by decide +kernel
theorem dEQ_1 : decode jdk_42_method_66_code 1 = .ok (.aload_n 1, 1) := by decide +kernel
theorem dEQ_2 : decode jdk_42_method_66_code 2 = .ok (.if_acmp .ne 5, 3) := by decide +kernel
theorem dEQ_7 : decode jdk_42_method_66_code 7 = .ok (.aload_n 1, 1) := by decide +kernel
theorem dEQ_8 : decode jdk_42_method_66_code 8 = .ok (.instanceof 10, 3) := by decide +kernel
theorem dEQ_11 : decode jdk_42_method_66_code 11 = .ok (.ifCond .eq 43, 3) := by decide +kernel
theorem dEQ_14 : decode jdk_42_method_66_code 14 = .ok (.aload_n 1, 1) := by decide +kernel
theorem dEQ_15 : decode jdk_42_method_66_code 15 = .ok (.checkcast 10, 3) := by decide +kernel
theorem dEQ_18 : decode jdk_42_method_66_code 18 = .ok (.astore_n 2, 1) := by decide +kernel
theorem dEQ_19 : decode jdk_42_method_66_code 19 = .ok (.getstatic 38, 3) := by decide +kernel
theorem dEQ_22 : decode jdk_42_method_66_code 22 = .ok (.ifCond .eq 14, 3) := by decide +kernel
theorem dEQ_25 : decode jdk_42_method_66_code 25 = .ok (.aload_n 0, 1) := by decide +kernel
theorem dEQ_26 : decode jdk_42_method_66_code 26 = .ok (.getfield 15, 3) := by decide +kernel
theorem dEQ_29 : decode jdk_42_method_66_code 29 = .ok (.aload_n 2, 1) := by decide +kernel
theorem dEQ_30 : decode jdk_42_method_66_code 30 = .ok (.getfield 15, 3) := by decide +kernel
theorem dEQ_33 : decode jdk_42_method_66_code 33 = .ok (.if_icmp .ne 21, 3) := by decide +kernel
theorem dEQ_36 : decode jdk_42_method_66_code 36 = .ok (.aload_n 0, 1) := by decide +kernel
theorem dEQ_37 : decode jdk_42_method_66_code 37 = .ok (.getfield 9, 3) := by decide +kernel
theorem dEQ_40 : decode jdk_42_method_66_code 40 = .ok (.aload_n 2, 1) := by decide +kernel
theorem dEQ_41 : decode jdk_42_method_66_code 41 = .ok (.getfield 9, 3) := by decide +kernel
theorem dEQ_44 : decode jdk_42_method_66_code 44 = .ok (.invokestatic 541, 3) := by decide +kernel
theorem dEQ_47 : decode jdk_42_method_66_code 47 = .ok (.ifCond .eq 7, 3) := by decide +kernel
theorem dEQ_50 : decode jdk_42_method_66_code 50 = .ok (.iconst 1, 1) := by decide +kernel
theorem dEQ_51 : decode jdk_42_method_66_code 51 = .ok (.goto 4, 3) := by decide +kernel
theorem dEQ_55 : decode jdk_42_method_66_code 55 = .ok (.ireturn, 1) := by decide +kernel
theorem dEQ_54 : decode jdk_42_method_66_code 54 = .ok (.iconst 0, 1) := by decide +kernel
theorem dEQ_5 : decode jdk_42_method_66_code 5 = .ok (.iconst 1, 1) := by decide +kernel
theorem dEQ_6 : decode jdk_42_method_66_code 6 = .ok (.ireturn, 1) := by decide +kernel
theorem dMM_0 : decode jdk_48_method_14_code 0 = .ok (.iconst 0, 1) := by decide +kernel
theorem dMM_1 : decode jdk_48_method_14_code 1 = .ok (.istore 5, 2) := by decide +kernel
theorem dMM_3 : decode jdk_48_method_14_code 3 = .ok (.iload 4, 2) := by decide +kernel
theorem dMM_5 : decode jdk_48_method_14_code 5 = .ok (.bipush 7, 2) := by decide +kernel
theorem dMM_7 : decode jdk_48_method_14_code 7 = .ok (.if_icmp .le 63, 3) := by decide +kernel
theorem dMM_70 : decode jdk_48_method_14_code 70 = .ok (.iload 5, 2) := by decide +kernel
theorem dMM_72 : decode jdk_48_method_14_code 72 = .ok (.iload 4, 2) := by decide +kernel
theorem dMM_74 : decode jdk_48_method_14_code 74 = .ok (.if_icmp .ge 27, 3) := by decide +kernel
theorem dMM_101 : decode jdk_48_method_14_code 101 = .ok (.iconst (-1), 1) := by decide +kernel
theorem dMM_102 : decode jdk_48_method_14_code 102 = .ok (.ireturn, 1) := by decide +kernel
theorem dMM_77 : decode jdk_48_method_14_code 77 = .ok (.aload_n 0, 1) := by decide +kernel
theorem dMM_78 : decode jdk_48_method_14_code 78 = .ok (.iload_n 1, 1) := by decide +kernel
theorem dMM_79 : decode jdk_48_method_14_code 79 = .ok (.iload 5, 2) := by decide +kernel
theorem dMM_81 : decode jdk_48_method_14_code 81 = .ok (.iadd, 1) := by decide +kernel
theorem dMM_82 : decode jdk_48_method_14_code 82 = .ok (.baload, 1) := by decide +kernel
theorem dMM_83 : decode jdk_48_method_14_code 83 = .ok (.aload_n 2, 1) := by decide +kernel
theorem dMM_84 : decode jdk_48_method_14_code 84 = .ok (.iload_n 3, 1) := by decide +kernel
theorem dMM_85 : decode jdk_48_method_14_code 85 = .ok (.iload 5, 2) := by decide +kernel
theorem dMM_87 : decode jdk_48_method_14_code 87 = .ok (.iadd, 1) := by decide +kernel
theorem dMM_88 : decode jdk_48_method_14_code 88 = .ok (.baload, 1) := by decide +kernel
theorem dMM_89 : decode jdk_48_method_14_code 89 = .ok (.if_icmp .eq 6, 3) := by decide +kernel
theorem dMM_95 : decode jdk_48_method_14_code 95 = .ok (.iinc 5 1, 3) := by decide +kernel
theorem dMM_98 : decode jdk_48_method_14_code 98 = .ok (.goto (-28), 3) := by decide +kernel
theorem dMM_92 : decode jdk_48_method_14_code 92 = .ok (.iload 5, 2) := by decide +kernel
theorem dMM_94 : decode jdk_48_method_14_code 94 = .ok (.ireturn, 1) := by decide +kernel
theorem dSW_0 : decode jdk_42_method_75_code 0 = .ok (.iload_n 2, 1) := by decide +kernel
theorem dSW_1 : decode jdk_42_method_75_code 1 = .ok (.ifCond .lt 16, 3) := by decide +kernel
theorem dSW_17 : decode jdk_42_method_75_code 17 = .ok (.iconst 0, 1) := by decide +kernel
theorem dSW_18 : decode jdk_42_method_75_code 18 = .ok (.ireturn, 1) := by decide +kernel
theorem dSW_4 : decode jdk_42_method_75_code 4 = .ok (.iload_n 2, 1) := by decide +kernel
theorem dSW_5 : decode jdk_42_method_75_code 5 = .ok (.aload_n 0, 1) := by decide +kernel
theorem dSW_6 : decode jdk_42_method_75_code 6 = .ok (.invokevirtual 505, 3) := by decide +kernel
theorem dSW_9 : decode jdk_42_method_75_code 9 = .ok (.aload_n 1, 1) := by decide +kernel
theorem dSW_10 : decode jdk_42_method_75_code 10 = .ok (.invokevirtual 505, 3) := by decide +kernel
theorem dSW_13 : decode jdk_42_method_75_code 13 = .ok (.isub, 1) := by decide +kernel
theorem dSW_14 : decode jdk_42_method_75_code 14 = .ok (.if_icmp .le 5, 3) := by decide +kernel
theorem dSW_19 : decode jdk_42_method_75_code 19 = .ok (.aload_n 0, 1) := by decide +kernel
theorem dSW_20 : decode jdk_42_method_75_code 20 = .ok (.getfield 9, 3) := by decide +kernel
theorem dSW_23 : decode jdk_42_method_75_code 23 = .ok (.astore_n 3, 1) := by decide +kernel
theorem dSW_24 : decode jdk_42_method_75_code 24 = .ok (.aload_n 1, 1) := by decide +kernel
theorem dSW_25 : decode jdk_42_method_75_code 25 = .ok (.getfield 9, 3) := by decide +kernel
theorem dSW_28 : decode jdk_42_method_75_code 28 = .ok (.astore 4, 2) := by decide +kernel
theorem dSW_30 : decode jdk_42_method_75_code 30 = .ok (.iconst 0, 1) := by decide +kernel
theorem dSW_31 : decode jdk_42_method_75_code 31 = .ok (.istore 5, 2) := by decide +kernel
theorem dSW_33 : decode jdk_42_method_75_code 33 = .ok (.aload 4, 2) := by decide +kernel
theorem dSW_35 : decode jdk_42_method_75_code 35 = .ok (.arraylength, 1) := by decide +kernel
theorem dSW_36 : decode jdk_42_method_75_code 36 = .ok (.istore 6, 2) := by decide +kernel
theorem dSW_38 : decode jdk_42_method_75_code 38 = .ok (.aload_n 0, 1) := by decide +kernel
theorem dSW_39 : decode jdk_42_method_75_code 39 = .ok (.invokevirtual 335, 3) := by decide +kernel
theorem dSW_42 : decode jdk_42_method_75_code 42 = .ok (.istore 7, 2) := by decide +kernel
theorem dSW_44 : decode jdk_42_method_75_code 44 = .ok (.iload 7, 2) := by decide +kernel
theorem dSW_46 : decode jdk_42_method_75_code 46 = .ok (.aload_n 1, 1) := by decide +kernel
theorem dSW_47 : decode jdk_42_method_75_code 47 = .ok (.invokevirtual 335, 3) := by decide +kernel
theorem dSW_50 : decode jdk_42_method_75_code 50 = .ok (.if_icmp .ne 32, 3) := by decide +kernel
theorem dSW_53 : decode jdk_42_method_75_code 53 = .ok (.iload 7, 2) := by decide +kernel
theorem dSW_55 : decode jdk_42_method_75_code 55 = .ok (.iconst 1, 1) := by decide +kernel
theorem dSW_56 : decode jdk_42_method_75_code 56 = .ok (.if_icmp .ne 7, 3) := by decide +kernel
theorem dSW_63 : decode jdk_42_method_75_code 63 = .ok (.aload_n 3, 1) := by decide +kernel
theorem dSW_64 : decode jdk_42_method_75_code 64 = .ok (.iload_n 2, 1) := by decide +kernel
theorem dSW_65 : decode jdk_42_method_75_code 65 = .ok (.aload 4, 2) := by decide +kernel
theorem dSW_67 : decode jdk_42_method_75_code 67 = .ok (.iconst 0, 1) := by decide +kernel
theorem dSW_68 : decode jdk_42_method_75_code 68 = .ok (.iload 6, 2) := by decide +kernel
theorem dSW_70 : decode jdk_42_method_75_code 70 = .ok (.invokestatic 607, 3) := by decide +kernel
theorem dSW_73 : decode jdk_42_method_75_code 73 = .ok (.ifCond .ge 7, 3) := by decide +kernel
theorem dSW_76 : decode jdk_42_method_75_code 76 = .ok (.iconst 1, 1) := by decide +kernel
theorem dSW_77 : decode jdk_42_method_75_code 77 = .ok (.goto 4, 3) := by decide +kernel
theorem dSW_81 : decode jdk_42_method_75_code 81 = .ok (.ireturn, 1) := by decide +kernel
theorem dSW_80 : decode jdk_42_method_75_code 80 = .ok (.iconst 0, 1) := by decide +kernel
theorem dEW_0 : decode jdk_42_method_77_code 0 = .ok (.aload_n 0, 1) := by decide +kernel
theorem dEW_1 : decode jdk_42_method_77_code 1 = .ok (.aload_n 1, 1) := by decide +kernel
theorem dEW_2 : decode jdk_42_method_77_code 2 = .ok (.aload_n 0, 1) := by decide +kernel
theorem dEW_3 : decode jdk_42_method_77_code 3 = .ok (.invokevirtual 505, 3) := by decide +kernel
theorem dEW_6 : decode jdk_42_method_77_code 6 = .ok (.aload_n 1, 1) := by decide +kernel
theorem dEW_7 : decode jdk_42_method_77_code 7 = .ok (.invokevirtual 505, 3) := by decide +kernel
theorem dEW_10 : decode jdk_42_method_77_code 10 = .ok (.isub, 1) := by decide +kernel
theorem dEW_11 : decode jdk_42_method_77_code 11 = .ok (.invokevirtual 624, 3) := by decide +kernel
theorem dEW_14 : decode jdk_42_method_77_code 14 = .ok (.ireturn, 1) := by decide +kernel
theorem dIJ_0 : decode prog_8_method_4_code 0 = .ok (.aload_n 0, 1) := by decide +kernel
theorem dIJ_1 : decode prog_8_method_4_code 1 = .ok (.invokestatic 49, 3) := by decide +kernel
theorem dIJ_4 : decode prog_8_method_4_code 4 = .ok (.astore_n 1, 1) := by decide +kernel
theorem dIJ_5 : decode prog_8_method_4_code 5 = .ok (.ldc 53, 2) := by decide +kernel
theorem dIJ_7 : decode prog_8_method_4_code 7 = .ok (.aload_n 1, 1) := by decide +kernel
theorem dIJ_8 : decode prog_8_method_4_code 8 = .ok (.invokevirtual 55, 3) := by decide +kernel
theorem dIJ_11 : decode prog_8_method_4_code 11 = .ok (.ifCond .ne 12, 3) := by decide +kernel
theorem dIJ_23 : decode prog_8_method_4_code 23 = .ok (.iconst 1, 1) := by decide +kernel
theorem dIJ_24 : decode prog_8_method_4_code 24 = .ok (.goto 4, 3) := by decide +kernel
theorem dIJ_28 : decode prog_8_method_4_code 28 = .ok (.ireturn, 1) := by decide +kernel
theorem dIJ_14 : decode prog_8_method_4_code 14 = .ok (.aload_n 1, 1) := by decide +kernel
theorem dIJ_15 : decode prog_8_method_4_code 15 = .ok (.ldc 59, 2) := by decide +kernel
theorem dIJ_17 : decode prog_8_method_4_code 17 = .ok (.invokevirtual 61, 3) := by decide +kernel
theorem dIJ_20 : decode prog_8_method_4_code 20 = .ok (.ifCond .eq 7, 3) := by decide +kernel
theorem dIJ_27 : decode prog_8_method_4_code 27 = .ok (.iconst 0, 1) := by decide +kernel
theorem dFL_26 : decode method_2_code 26 = .ok (.iload_n 0, 1) := by decide +kernel
theorem dFL_27 : decode method_2_code 27 = .ok (.ireturn, 1) := by decide +kernel
theorem dFL_0 : decode method_2_code 0 = .ok (.iload_n 1, 1) := by decide +kernel
theorem dFL_1 : decode method_2_code 1 = .ok (.iload_n 2, 1) := by decide +kernel
theorem dFL_2 : decode method_2_code 2 = .ok (.iushr, 1) := by decide +kernel
theorem dFL_3 : decode method_2_code 3 = .ok (.iconst 1, 1) := by decide +kernel
theorem dFL_4 : decode method_2_code 4 = .ok (.iand, 1) := by decide +kernel
theorem dFL_5 : decode method_2_code 5 = .ok (.ifCond .eq 21, 3) := by decide +kernel
theorem dFL_8 : decode method_2_code 8 = .ok (.iload_n 0, 1) := by decide +kernel
theorem dFL_9 : decode method_2_code 9 = .ok (.bipush 97, 2) := by decide +kernel
theorem dFL_11 : decode method_2_code 11 = .ok (.if_icmp .lt 15, 3) := by decide +kernel
theorem dFL_14 : decode method_2_code 14 = .ok (.iload_n 0, 1) := by decide +kernel
theorem dFL_15 : decode method_2_code 15 = .ok (.bipush 122, 2) := by decide +kernel
theorem dFL_17 : decode method_2_code 17 = .ok (.if_icmp .gt 9, 3) := by decide +kernel
theorem dFL_20 : decode method_2_code 20 = .ok (.iload_n 0, 1) := by decide +kernel
theorem dFL_21 : decode method_2_code 21 = .ok (.bipush 32, 2) := by decide +kernel
theorem dFL_23 : decode method_2_code 23 = .ok (.isub, 1) := by decide +kernel
theorem dFL_24 : decode method_2_code 24 = .ok (.i2c, 1) := by decide +kernel
theorem dFL_25 : decode method_2_code 25 = .ok (.ireturn, 1) := by decide +kernel
theorem dMT_26 : decode method_3_code 26 = .ok (.iconst 1, 1) := by decide +kernel
theorem dMT_27 : decode method_3_code 27 = .ok (.goto 4, 3) := by decide +kernel
theorem dMT_31 : decode method_3_code 31 = .ok (.ireturn, 1) := by decide +kernel
theorem dMT_30 : decode method_3_code 30 = .ok (.iconst 0, 1) := by decide +kernel
theorem dMT_0 : decode method_3_code 0 = .ok (.iload_n 0, 1) := by decide +kernel
theorem dMT_1 : decode method_3_code 1 = .ok (.iload_n 1, 1) := by decide +kernel
theorem dMT_2 : decode method_3_code 2 = .ok (.if_icmp .eq 24, 3) := by decide +kernel
theorem dMT_5 : decode method_3_code 5 = .ok (.iload_n 1, 1) := by decide +kernel
theorem dMT_6 : decode method_3_code 6 = .ok (.bipush 97, 2) := by decide +kernel
theorem dMT_8 : decode method_3_code 8 = .ok (.if_icmp .lt 22, 3) := by decide +kernel
theorem dMT_11 : decode method_3_code 11 = .ok (.iload_n 1, 1) := by decide +kernel
theorem dMT_12 : decode method_3_code 12 = .ok (.bipush 122, 2) := by decide +kernel
theorem dMT_14 : decode method_3_code 14 = .ok (.if_icmp .gt 16, 3) := by decide +kernel
theorem dMT_17 : decode method_3_code 17 = .ok (.iload_n 0, 1) := by decide +kernel
theorem dMT_18 : decode method_3_code 18 = .ok (.iload_n 1, 1) := by decide +kernel
theorem dMT_19 : decode method_3_code 19 = .ok (.bipush 32, 2) := by decide +kernel
theorem dMT_21 : decode method_3_code 21 = .ok (.isub, 1) := by decide +kernel
theorem dMT_22 : decode method_3_code 22 = .ok (.i2c, 1) := by decide +kernel
theorem dMT_23 : decode method_3_code 23 = .ok (.if_icmp .ne 7, 3) := by decide +kernel
theorem dPA_0 : decode method_4_code 0 = .ok (.iload_n 0, 1) := by decide +kernel
theorem dPA_1 : decode method_4_code 1 = .ok (.iconst 1, 1) := by decide +kernel
theorem dPA_2 : decode method_4_code 2 = .ok (.if_icmp .ne 6, 3) := by decide +kernel
theorem dPA_5 : decode method_4_code 5 = .ok (.bipush 32, 2) := by decide +kernel
theorem dPA_7 : decode method_4_code 7 = .ok (.ireturn, 1) := by decide +kernel
theorem dPA_8 : decode method_4_code 8 = .ok (.iload_n 0, 1) := by decide +kernel
theorem dPA_9 : decode method_4_code 9 = .ok (.iconst 2, 1) := by decide +kernel
theorem dPA_10 : decode method_4_code 10 = .ok (.if_icmp .ne 6, 3) := by decide +kernel
theorem dPA_13 : decode method_4_code 13 = .ok (.bipush 9, 2) := by decide +kernel
theorem dPA_15 : decode method_4_code 15 = .ok (.ireturn, 1) := by decide +kernel
theorem dPA_16 : decode method_4_code 16 = .ok (.bipush 120, 2) := by decide +kernel
theorem dPA_18 : decode method_4_code 18 = .ok (.ireturn, 1) := by decide +kernel
theorem dPT_0 : decode method_5_code 0 = .ok (.iload 4, 2) := by decide +kernel
theorem dPT_2 : decode method_5_code 2 = .ok (.aload_n 2, 1) := by decide +kernel
theorem dPT_3 : decode method_5_code 3 = .ok (.invokevirtual 7, 3) := by decide +kernel
theorem dPT_6 : decode method_5_code 6 = .ok (.if_icmp .ge 21, 3) := by decide +kernel
theorem dPT_27 : decode method_5_code 27 = .ok (.return_, 1) := by decide +kernel
theorem dPT_9 : decode method_5_code 9 = .ok (.aload_n 0, 1) := by decide +kernel
theorem dPT_10 : decode method_5_code 10 = .ok (.iload_n 1, 1) := by decide +kernel
theorem dPT_11 : decode method_5_code 11 = .ok (.iload 4, 2) := by decide +kernel
theorem dPT_13 : decode method_5_code 13 = .ok (.iadd, 1) := by decide +kernel
theorem dPT_14 : decode method_5_code 14 = .ok (.aload_n 2, 1) := by decide +kernel
theorem dPT_15 : decode method_5_code 15 = .ok (.iload 4, 2) := by decide +kernel
theorem dPT_17 : decode method_5_code 17 = .ok (.invokevirtual 13, 3) := by decide +kernel
theorem dPT_20 : decode method_5_code 20 = .ok (.iload_n 3, 1) := by decide +kernel
theorem dPT_21 : decode method_5_code 21 = .ok (.iload 4, 2) := by decide +kernel
theorem dPT_23 : decode method_5_code 23 = .ok (.invokestatic 17, 3) := by decide +kernel
theorem dPT_26 : decode method_5_code 26 = .ok (.castore, 1) := by decide +kernel
theorem tw0 {Z : State} {a0 : Array Value} (hw : ∀ d ∈ tables_1, d.before a0 Z = true) : (Jvm.Cond.stringLink "com/example/archerfish/archerfish/MediaTypeIsJsonPinLaw" (23 : Nat) "application/json").before a0 Z = true := hw _ (List.mem_of_getElem? (i := 0) rfl)
theorem tw1 {Z : State} {a0 : Array Value} (hw : ∀ d ∈ tables_1, d.before a0 Z = true) : (Jvm.Cond.initialized "java/lang/String").before a0 Z = true := hw _ (List.mem_of_getElem? (i := 1) rfl)
theorem tw2 {Z : State} {a0 : Array Value} (hw : ∀ d ∈ tables_1, d.before a0 Z = true) : (Jvm.Cond.instantiable "java/lang/String" (4 : Nat)).before a0 Z = true := hw _ (List.mem_of_getElem? (i := 2) rfl)
theorem tw3 {Z : State} {a0 : Array Value} (hw : ∀ d ∈ tables_1, d.before a0 Z = true) : (Jvm.Cond.arrayClass Jvm.ClassFile.FieldType.byte).before a0 Z = true := hw _ (List.mem_of_getElem? (i := 3) rfl)
theorem tw4 {Z : State} {a0 : Array Value} (hw : ∀ d ∈ tables_1, d.before a0 Z = true) : (Jvm.Cond.laysFinal "java/lang/String" "java/lang/String" "value" "[B").before a0 Z = true := hw _ (List.mem_of_getElem? (i := 4) rfl)
theorem tw5 {Z : State} {a0 : Array Value} (hw : ∀ d ∈ tables_1, d.before a0 Z = true) : (Jvm.Cond.laysFinal "java/lang/String" "java/lang/String" "coder" "B").before a0 Z = true := hw _ (List.mem_of_getElem? (i := 5) rfl)
theorem tw8 {Z : State} {a0 : Array Value} (hw : ∀ d ∈ tables_1, d.before a0 Z = true) : (Jvm.Cond.methodLink "com/example/archerfish/archerfish/MediaTypeIsJsonPinLaw" (7 : Nat) ({ cls := "java/lang/String", name := "length", desc := "()I" } : Jvm.MethodName)).before a0 Z = true := hw _ (List.mem_of_getElem? (i := 8) rfl)
theorem tw9 {Z : State} {a0 : Array Value} (hw : ∀ d ∈ tables_1, d.before a0 Z = true) : (Jvm.Cond.declares ({ cls := "java/lang/String", name := "length", desc := "()I" } : Jvm.MethodName)).before a0 Z = true := hw _ (List.mem_of_getElem? (i := 9) rfl)
theorem tw10 {Z : State} {a0 : Array Value} (hw : ∀ d ∈ tables_1, d.before a0 Z = true) : (Jvm.Cond.instanceMethod ({ cls := "java/lang/String", name := "length", desc := "()I" } : Jvm.MethodName)).before a0 Z = true := hw _ (List.mem_of_getElem? (i := 10) rfl)
theorem tw11 {Z : State} {a0 : Array Value} (hw : ∀ d ∈ tables_1, d.before a0 Z = true) : (Jvm.Cond.selects "java/lang/String" ({ cls := "java/lang/String", name := "length", desc := "()I" } : Jvm.MethodName) ({ cls := "java/lang/String", name := "length", desc := "()I" } : Jvm.MethodName)).before a0 Z = true := hw _ (List.mem_of_getElem? (i := 11) rfl)
theorem tw12 {Z : State} {a0 : Array Value} (hw : ∀ d ∈ tables_1, d.before a0 Z = true) : (Jvm.Cond.code ({ cls := "java/lang/String", name := "length", desc := "()I" } : Jvm.MethodName) jdk_42_method_54_code (1 : Nat) (Option.some Jvm.ClassFile.FieldType.int)).before a0 Z = true := hw _ (List.mem_of_getElem? (i := 12) rfl)
theorem tw13 {Z : State} {a0 : Array Value} (hw : ∀ d ∈ tables_1, d.before a0 Z = true) : (Jvm.Cond.fieldLink "java/lang/String" (9 : Nat) "java/lang/String" "value" "[B").before a0 Z = true := hw _ (List.mem_of_getElem? (i := 13) rfl)
theorem tw14 {Z : State} {a0 : Array Value} (hw : ∀ d ∈ tables_1, d.before a0 Z = true) : (Jvm.Cond.methodLink "java/lang/String" (335 : Nat) ({ cls := "java/lang/String", name := "coder", desc := "()B" } : Jvm.MethodName)).before a0 Z = true := hw _ (List.mem_of_getElem? (i := 14) rfl)
theorem tw15 {Z : State} {a0 : Array Value} (hw : ∀ d ∈ tables_1, d.before a0 Z = true) : (Jvm.Cond.declares ({ cls := "java/lang/String", name := "coder", desc := "()B" } : Jvm.MethodName)).before a0 Z = true := hw _ (List.mem_of_getElem? (i := 15) rfl)
theorem tw16 {Z : State} {a0 : Array Value} (hw : ∀ d ∈ tables_1, d.before a0 Z = true) : (Jvm.Cond.instanceMethod ({ cls := "java/lang/String", name := "coder", desc := "()B" } : Jvm.MethodName)).before a0 Z = true := hw _ (List.mem_of_getElem? (i := 16) rfl)
theorem tw17 {Z : State} {a0 : Array Value} (hw : ∀ d ∈ tables_1, d.before a0 Z = true) : (Jvm.Cond.selects "java/lang/String" ({ cls := "java/lang/String", name := "coder", desc := "()B" } : Jvm.MethodName) ({ cls := "java/lang/String", name := "coder", desc := "()B" } : Jvm.MethodName)).before a0 Z = true := hw _ (List.mem_of_getElem? (i := 17) rfl)
theorem tw18 {Z : State} {a0 : Array Value} (hw : ∀ d ∈ tables_1, d.before a0 Z = true) : (Jvm.Cond.code ({ cls := "java/lang/String", name := "coder", desc := "()B" } : Jvm.MethodName) jdk_42_method_152_code (1 : Nat) (Option.some Jvm.ClassFile.FieldType.byte)).before a0 Z = true := hw _ (List.mem_of_getElem? (i := 18) rfl)
theorem tw19 {Z : State} {a0 : Array Value} (hw : ∀ d ∈ tables_1, d.before a0 Z = true) : (Jvm.Cond.fieldLink "java/lang/String" (38 : Nat) "java/lang/String" "COMPACT_STRINGS" "Z").before a0 Z = true := hw _ (List.mem_of_getElem? (i := 19) rfl)
theorem tw20 {Z : State} {a0 : Array Value} (hw : ∀ d ∈ tables_1, d.before a0 Z = true) : (Jvm.Cond.fieldLink "java/lang/String" (15 : Nat) "java/lang/String" "coder" "B").before a0 Z = true := hw _ (List.mem_of_getElem? (i := 20) rfl)
theorem tw21 {Z : State} {a0 : Array Value} (hw : ∀ d ∈ tables_1, d.before a0 Z = true) : (Jvm.Cond.constant "com/example/archerfish/archerfish/MediaTypeIsJsonPinLaw" (27 : Nat) (2147483647 : Int32)).before a0 Z = true := hw _ (List.mem_of_getElem? (i := 21) rfl)
theorem tw22 {Z : State} {a0 : Array Value} (hw : ∀ d ∈ tables_1, d.before a0 Z = true) : (Jvm.Cond.arrayClass Jvm.ClassFile.FieldType.char).before a0 Z = true := hw _ (List.mem_of_getElem? (i := 22) rfl)
theorem tw23 {Z : State} {a0 : Array Value} (hw : ∀ d ∈ tables_1, d.before a0 Z = true) : (Jvm.Cond.methodLink "com/example/archerfish/archerfish/MediaTypeIsJsonPinLaw" (31 : Nat) ({ cls := "com/example/archerfish/archerfish/MediaTypeIsJsonPinLaw", name := "put", desc := "([CILjava/lang/String;II)V" } : Jvm.MethodName)).before a0 Z = true := hw _ (List.mem_of_getElem? (i := 23) rfl)
theorem tw24 {Z : State} {a0 : Array Value} (hw : ∀ d ∈ tables_1, d.before a0 Z = true) : (Jvm.Cond.static ({ cls := "com/example/archerfish/archerfish/MediaTypeIsJsonPinLaw", name := "put", desc := "([CILjava/lang/String;II)V" } : Jvm.MethodName)).before a0 Z = true := hw _ (List.mem_of_getElem? (i := 24) rfl)
theorem tw25 {Z : State} {a0 : Array Value} (hw : ∀ d ∈ tables_1, d.before a0 Z = true) : (Jvm.Cond.initialized "com/example/archerfish/archerfish/MediaTypeIsJsonPinLaw").before a0 Z = true := hw _ (List.mem_of_getElem? (i := 25) rfl)
theorem tw26 {Z : State} {a0 : Array Value} (hw : ∀ d ∈ tables_1, d.before a0 Z = true) : (Jvm.Cond.code ({ cls := "com/example/archerfish/archerfish/MediaTypeIsJsonPinLaw", name := "put", desc := "([CILjava/lang/String;II)V" } : Jvm.MethodName) method_5_code (5 : Nat) (Option.none : Option Jvm.ClassFile.FieldType)).before a0 Z = true := hw _ (List.mem_of_getElem? (i := 26) rfl)
theorem tw27 {Z : State} {a0 : Array Value} (hw : ∀ d ∈ tables_1, d.before a0 Z = true) : (Jvm.Cond.methodLink "com/example/archerfish/archerfish/MediaTypeIsJsonPinLaw" (13 : Nat) ({ cls := "java/lang/String", name := "charAt", desc := "(I)C" } : Jvm.MethodName)).before a0 Z = true := hw _ (List.mem_of_getElem? (i := 27) rfl)
theorem tw28 {Z : State} {a0 : Array Value} (hw : ∀ d ∈ tables_1, d.before a0 Z = true) : (Jvm.Cond.declares ({ cls := "java/lang/String", name := "charAt", desc := "(I)C" } : Jvm.MethodName)).before a0 Z = true := hw _ (List.mem_of_getElem? (i := 28) rfl)
theorem tw29 {Z : State} {a0 : Array Value} (hw : ∀ d ∈ tables_1, d.before a0 Z = true) : (Jvm.Cond.instanceMethod ({ cls := "java/lang/String", name := "charAt", desc := "(I)C" } : Jvm.MethodName)).before a0 Z = true := hw _ (List.mem_of_getElem? (i := 29) rfl)
theorem tw30 {Z : State} {a0 : Array Value} (hw : ∀ d ∈ tables_1, d.before a0 Z = true) : (Jvm.Cond.selects "java/lang/String" ({ cls := "java/lang/String", name := "charAt", desc := "(I)C" } : Jvm.MethodName) ({ cls := "java/lang/String", name := "charAt", desc := "(I)C" } : Jvm.MethodName)).before a0 Z = true := hw _ (List.mem_of_getElem? (i := 30) rfl)
theorem tw31 {Z : State} {a0 : Array Value} (hw : ∀ d ∈ tables_1, d.before a0 Z = true) : (Jvm.Cond.code ({ cls := "java/lang/String", name := "charAt", desc := "(I)C" } : Jvm.MethodName) jdk_42_method_56_code (2 : Nat) (Option.some Jvm.ClassFile.FieldType.char)).before a0 Z = true := hw _ (List.mem_of_getElem? (i := 31) rfl)
theorem tw32 {Z : State} {a0 : Array Value} (hw : ∀ d ∈ tables_1, d.before a0 Z = true) : (Jvm.Cond.methodLink "java/lang/String" (492 : Nat) ({ cls := "java/lang/String", name := "isLatin1", desc := "()Z" } : Jvm.MethodName)).before a0 Z = true := hw _ (List.mem_of_getElem? (i := 32) rfl)
theorem tw33 {Z : State} {a0 : Array Value} (hw : ∀ d ∈ tables_1, d.before a0 Z = true) : (Jvm.Cond.declares ({ cls := "java/lang/String", name := "isLatin1", desc := "()Z" } : Jvm.MethodName)).before a0 Z = true := hw _ (List.mem_of_getElem? (i := 33) rfl)
theorem tw34 {Z : State} {a0 : Array Value} (hw : ∀ d ∈ tables_1, d.before a0 Z = true) : (Jvm.Cond.instanceMethod ({ cls := "java/lang/String", name := "isLatin1", desc := "()Z" } : Jvm.MethodName)).before a0 Z = true := hw _ (List.mem_of_getElem? (i := 34) rfl)
theorem tw35 {Z : State} {a0 : Array Value} (hw : ∀ d ∈ tables_1, d.before a0 Z = true) : (Jvm.Cond.selects "java/lang/String" ({ cls := "java/lang/String", name := "isLatin1", desc := "()Z" } : Jvm.MethodName) ({ cls := "java/lang/String", name := "isLatin1", desc := "()Z" } : Jvm.MethodName)).before a0 Z = true := hw _ (List.mem_of_getElem? (i := 35) rfl)
theorem tw36 {Z : State} {a0 : Array Value} (hw : ∀ d ∈ tables_1, d.before a0 Z = true) : (Jvm.Cond.code ({ cls := "java/lang/String", name := "isLatin1", desc := "()Z" } : Jvm.MethodName) jdk_42_method_154_code (1 : Nat) (Option.some Jvm.ClassFile.FieldType.boolean)).before a0 Z = true := hw _ (List.mem_of_getElem? (i := 36) rfl)
theorem tw37 {Z : State} {a0 : Array Value} (hw : ∀ d ∈ tables_1, d.before a0 Z = true) : (Jvm.Cond.methodLink "java/lang/String" (495 : Nat) ({ cls := "java/lang/StringLatin1", name := "charAt", desc := "([BI)C" } : Jvm.MethodName)).before a0 Z = true := hw _ (List.mem_of_getElem? (i := 37) rfl)
theorem tw38 {Z : State} {a0 : Array Value} (hw : ∀ d ∈ tables_1, d.before a0 Z = true) : (Jvm.Cond.static ({ cls := "java/lang/StringLatin1", name := "charAt", desc := "([BI)C" } : Jvm.MethodName)).before a0 Z = true := hw _ (List.mem_of_getElem? (i := 38) rfl)
theorem tw39 {Z : State} {a0 : Array Value} (hw : ∀ d ∈ tables_1, d.before a0 Z = true) : (Jvm.Cond.initialized "java/lang/StringLatin1").before a0 Z = true := hw _ (List.mem_of_getElem? (i := 39) rfl)
theorem tw40 {Z : State} {a0 : Array Value} (hw : ∀ d ∈ tables_1, d.before a0 Z = true) : (Jvm.Cond.code ({ cls := "java/lang/StringLatin1", name := "charAt", desc := "([BI)C" } : Jvm.MethodName) jdk_43_method_2_code (2 : Nat) (Option.some Jvm.ClassFile.FieldType.char)).before a0 Z = true := hw _ (List.mem_of_getElem? (i := 40) rfl)
theorem tw41 {Z : State} {a0 : Array Value} (hw : ∀ d ∈ tables_1, d.before a0 Z = true) : (Jvm.Cond.methodLink "java/lang/StringLatin1" (9 : Nat) ({ cls := "java/lang/String", name := "checkIndex", desc := "(II)V" } : Jvm.MethodName)).before a0 Z = true := hw _ (List.mem_of_getElem? (i := 41) rfl)
theorem tw42 {Z : State} {a0 : Array Value} (hw : ∀ d ∈ tables_1, d.before a0 Z = true) : (Jvm.Cond.static ({ cls := "java/lang/String", name := "checkIndex", desc := "(II)V" } : Jvm.MethodName)).before a0 Z = true := hw _ (List.mem_of_getElem? (i := 42) rfl)
theorem tw43 {Z : State} {a0 : Array Value} (hw : ∀ d ∈ tables_1, d.before a0 Z = true) : (Jvm.Cond.code ({ cls := "java/lang/String", name := "checkIndex", desc := "(II)V" } : Jvm.MethodName) jdk_42_method_155_code (2 : Nat) (Option.none : Option Jvm.ClassFile.FieldType)).before a0 Z = true := hw _ (List.mem_of_getElem? (i := 43) rfl)
theorem tw44 {Z : State} {a0 : Array Value} (hw : ∀ d ∈ tables_1, d.before a0 Z = true) : (Jvm.Cond.fieldLink "java/lang/String" (1053 : Nat) "jdk/internal/util/Preconditions" "SIOOBE_FORMATTER" "Ljava/util/function/BiFunction;").before a0 Z = true := hw _ (List.mem_of_getElem? (i := 44) rfl)
theorem tw45 {Z : State} {a0 : Array Value} (hw : ∀ d ∈ tables_1, d.before a0 Z = true) : (Jvm.Cond.initialized "jdk/internal/util/Preconditions").before a0 Z = true := hw _ (List.mem_of_getElem? (i := 45) rfl)
theorem tw46 {Z : State} {a0 : Array Value} (hw : ∀ d ∈ tables_1, d.before a0 Z = true) : (Jvm.Cond.methodLink "java/lang/String" (1059 : Nat) ({ cls := "jdk/internal/util/Preconditions", name := "checkIndex", desc := "(IILjava/util/function/BiFunction;)I" } : Jvm.MethodName)).before a0 Z = true := hw _ (List.mem_of_getElem? (i := 46) rfl)
theorem tw47 {Z : State} {a0 : Array Value} (hw : ∀ d ∈ tables_1, d.before a0 Z = true) : (Jvm.Cond.static ({ cls := "jdk/internal/util/Preconditions", name := "checkIndex", desc := "(IILjava/util/function/BiFunction;)I" } : Jvm.MethodName)).before a0 Z = true := hw _ (List.mem_of_getElem? (i := 47) rfl)
theorem tw48 {Z : State} {a0 : Array Value} (hw : ∀ d ∈ tables_1, d.before a0 Z = true) : (Jvm.Cond.code ({ cls := "jdk/internal/util/Preconditions", name := "checkIndex", desc := "(IILjava/util/function/BiFunction;)I" } : Jvm.MethodName) jdk_41_method_11_code (3 : Nat) (Option.some Jvm.ClassFile.FieldType.int)).before a0 Z = true := hw _ (List.mem_of_getElem? (i := 48) rfl)
theorem tw49 {Z : State} {a0 : Array Value} (hw : ∀ d ∈ tables_1, d.before a0 Z = true) : (Jvm.Cond.methodLink "com/example/archerfish/archerfish/MediaTypeIsJsonPinLaw" (17 : Nat) ({ cls := "com/example/archerfish/archerfish/MediaTypeIsJsonPinLaw", name := "flip", desc := "(CII)C" } : Jvm.MethodName)).before a0 Z = true := hw _ (List.mem_of_getElem? (i := 49) rfl)
theorem tw50 {Z : State} {a0 : Array Value} (hw : ∀ d ∈ tables_1, d.before a0 Z = true) : (Jvm.Cond.static ({ cls := "com/example/archerfish/archerfish/MediaTypeIsJsonPinLaw", name := "flip", desc := "(CII)C" } : Jvm.MethodName)).before a0 Z = true := hw _ (List.mem_of_getElem? (i := 50) rfl)
theorem tw51 {Z : State} {a0 : Array Value} (hw : ∀ d ∈ tables_1, d.before a0 Z = true) : (Jvm.Cond.code ({ cls := "com/example/archerfish/archerfish/MediaTypeIsJsonPinLaw", name := "flip", desc := "(CII)C" } : Jvm.MethodName) method_2_code (3 : Nat) (Option.some Jvm.ClassFile.FieldType.char)).before a0 Z = true := hw _ (List.mem_of_getElem? (i := 51) rfl)
theorem tw52 {Z : State} {a0 : Array Value} (hw : ∀ d ∈ tables_1, d.before a0 Z = true) : (Jvm.Cond.methodLink "com/example/archerfish/archerfish/MediaTypeIsJsonPinLaw" (35 : Nat) ({ cls := "com/example/archerfish/archerfish/MediaTypeIsJsonPinLaw", name := "matches", desc := "(CC)Z" } : Jvm.MethodName)).before a0 Z = true := hw _ (List.mem_of_getElem? (i := 52) rfl)
theorem tw53 {Z : State} {a0 : Array Value} (hw : ∀ d ∈ tables_1, d.before a0 Z = true) : (Jvm.Cond.static ({ cls := "com/example/archerfish/archerfish/MediaTypeIsJsonPinLaw", name := "matches", desc := "(CC)Z" } : Jvm.MethodName)).before a0 Z = true := hw _ (List.mem_of_getElem? (i := 53) rfl)
theorem tw54 {Z : State} {a0 : Array Value} (hw : ∀ d ∈ tables_1, d.before a0 Z = true) : (Jvm.Cond.code ({ cls := "com/example/archerfish/archerfish/MediaTypeIsJsonPinLaw", name := "matches", desc := "(CC)Z" } : Jvm.MethodName) method_3_code (2 : Nat) (Option.some Jvm.ClassFile.FieldType.boolean)).before a0 Z = true := hw _ (List.mem_of_getElem? (i := 54) rfl)
theorem tw55 {Z : State} {a0 : Array Value} (hw : ∀ d ∈ tables_1, d.before a0 Z = true) : (Jvm.Cond.classLink "com/example/archerfish/archerfish/MediaTypeIsJsonPinLaw" (8 : Nat) "java/lang/String").before a0 Z = true := hw _ (List.mem_of_getElem? (i := 55) rfl)
theorem tw56 {Z : State} {a0 : Array Value} (hw : ∀ d ∈ tables_1, d.before a0 Z = true) : (Jvm.Cond.methodLink "com/example/archerfish/archerfish/MediaTypeIsJsonPinLaw" (39 : Nat) ({ cls := "java/lang/String", name := "<init>", desc := "([C)V" } : Jvm.MethodName)).before a0 Z = true := hw _ (List.mem_of_getElem? (i := 56) rfl)
theorem tw57 {Z : State} {a0 : Array Value} (hw : ∀ d ∈ tables_1, d.before a0 Z = true) : (Jvm.Cond.instanceMethod ({ cls := "java/lang/String", name := "<init>", desc := "([C)V" } : Jvm.MethodName)).before a0 Z = true := hw _ (List.mem_of_getElem? (i := 57) rfl)
theorem tw58 {Z : State} {a0 : Array Value} (hw : ∀ d ∈ tables_1, d.before a0 Z = true) : (Jvm.Cond.code ({ cls := "java/lang/String", name := "<init>", desc := "([C)V" } : Jvm.MethodName) jdk_42_method_3_code (2 : Nat) (Option.none : Option Jvm.ClassFile.FieldType)).before a0 Z = true := hw _ (List.mem_of_getElem? (i := 58) rfl)
theorem tw59 {Z : State} {a0 : Array Value} (hw : ∀ d ∈ tables_1, d.before a0 Z = true) : (Jvm.Cond.methodLink "java/lang/String" (27 : Nat) ({ cls := "java/lang/String", name := "<init>", desc := "([CIILjava/lang/Void;)V" } : Jvm.MethodName)).before a0 Z = true := hw _ (List.mem_of_getElem? (i := 59) rfl)
theorem tw60 {Z : State} {a0 : Array Value} (hw : ∀ d ∈ tables_1, d.before a0 Z = true) : (Jvm.Cond.instanceMethod ({ cls := "java/lang/String", name := "<init>", desc := "([CIILjava/lang/Void;)V" } : Jvm.MethodName)).before a0 Z = true := hw _ (List.mem_of_getElem? (i := 60) rfl)
theorem tw62 {Z : State} {a0 : Array Value} (hw : ∀ d ∈ tables_1, d.before a0 Z = true) : (Jvm.Cond.code ({ cls := "java/lang/String", name := "<init>", desc := "([CIILjava/lang/Void;)V" } : Jvm.MethodName) jdk_42_method_149_code (6 : Nat) (Option.none : Option Jvm.ClassFile.FieldType)).before a0 Z = true := hw _ (List.mem_of_getElem? (i := 62) rfl)
theorem tw63 {Z : State} {a0 : Array Value} (hw : ∀ d ∈ tables_1, d.before a0 Z = true) : (Jvm.Cond.methodLink "java/lang/String" (1 : Nat) ({ cls := "java/lang/Object", name := "<init>", desc := "()V" } : Jvm.MethodName)).before a0 Z = true := hw _ (List.mem_of_getElem? (i := 63) rfl)
theorem tw64 {Z : State} {a0 : Array Value} (hw : ∀ d ∈ tables_1, d.before a0 Z = true) : (Jvm.Cond.instanceMethod ({ cls := "java/lang/Object", name := "<init>", desc := "()V" } : Jvm.MethodName)).before a0 Z = true := hw _ (List.mem_of_getElem? (i := 64) rfl)
theorem tw65 {Z : State} {a0 : Array Value} (hw : ∀ d ∈ tables_1, d.before a0 Z = true) : (Jvm.Cond.code ({ cls := "java/lang/Object", name := "<init>", desc := "()V" } : Jvm.MethodName) object_method_1_code (1 : Nat) (Option.none : Option Jvm.ClassFile.FieldType)).before a0 Z = true := hw _ (List.mem_of_getElem? (i := 65) rfl)
theorem tw66 {Z : State} {a0 : Array Value} (hw : ∀ d ∈ tables_1, d.before a0 Z = true) : (Jvm.Cond.methodLink "java/lang/String" (177 : Nat) ({ cls := "java/lang/StringUTF16", name := "compress", desc := "([CII)[B" } : Jvm.MethodName)).before a0 Z = true := hw _ (List.mem_of_getElem? (i := 66) rfl)
theorem tw67 {Z : State} {a0 : Array Value} (hw : ∀ d ∈ tables_1, d.before a0 Z = true) : (Jvm.Cond.static ({ cls := "java/lang/StringUTF16", name := "compress", desc := "([CII)[B" } : Jvm.MethodName)).before a0 Z = true := hw _ (List.mem_of_getElem? (i := 67) rfl)
theorem tw68 {Z : State} {a0 : Array Value} (hw : ∀ d ∈ tables_1, d.before a0 Z = true) : (Jvm.Cond.initialized "java/lang/StringUTF16").before a0 Z = true := hw _ (List.mem_of_getElem? (i := 68) rfl)
theorem tw69 {Z : State} {a0 : Array Value} (hw : ∀ d ∈ tables_1, d.before a0 Z = true) : (Jvm.Cond.code ({ cls := "java/lang/StringUTF16", name := "compress", desc := "([CII)[B" } : Jvm.MethodName) jdk_52_method_16_code (6 : Nat) (Option.some (Jvm.ClassFile.FieldType.array Jvm.ClassFile.FieldType.byte))).before a0 Z = true := hw _ (List.mem_of_getElem? (i := 69) rfl)
theorem tw70 {Z : State} {a0 : Array Value} (hw : ∀ d ∈ tables_1, d.before a0 Z = true) : (Jvm.Cond.methodLink "java/lang/StringUTF16" (115 : Nat) ({ cls := "java/lang/StringUTF16", name := "compress", desc := "([CI[BII)I" } : Jvm.MethodName)).before a0 Z = true := hw _ (List.mem_of_getElem? (i := 70) rfl)
theorem tw71 {Z : State} {a0 : Array Value} (hw : ∀ d ∈ tables_1, d.before a0 Z = true) : (Jvm.Cond.static ({ cls := "java/lang/StringUTF16", name := "compress", desc := "([CI[BII)I" } : Jvm.MethodName)).before a0 Z = true := hw _ (List.mem_of_getElem? (i := 71) rfl)
theorem tw72 {Z : State} {a0 : Array Value} (hw : ∀ d ∈ tables_1, d.before a0 Z = true) : (Jvm.Cond.code ({ cls := "java/lang/StringUTF16", name := "compress", desc := "([CI[BII)I" } : Jvm.MethodName) jdk_52_method_21_code (7 : Nat) (Option.some Jvm.ClassFile.FieldType.int)).before a0 Z = true := hw _ (List.mem_of_getElem? (i := 72) rfl)
theorem tw73 {Z : State} {a0 : Array Value} (hw : ∀ d ∈ tables_1, d.before a0 Z = true) : (Jvm.Cond.methodLink "java/lang/String" (47 : Nat) ({ cls := "java/lang/StringUTF16", name := "coderFromArrayLen", desc := "([BI)B" } : Jvm.MethodName)).before a0 Z = true := hw _ (List.mem_of_getElem? (i := 73) rfl)
theorem tw74 {Z : State} {a0 : Array Value} (hw : ∀ d ∈ tables_1, d.before a0 Z = true) : (Jvm.Cond.static ({ cls := "java/lang/StringUTF16", name := "coderFromArrayLen", desc := "([BI)B" } : Jvm.MethodName)).before a0 Z = true := hw _ (List.mem_of_getElem? (i := 74) rfl)
theorem tw75 {Z : State} {a0 : Array Value} (hw : ∀ d ∈ tables_1, d.before a0 Z = true) : (Jvm.Cond.code ({ cls := "java/lang/StringUTF16", name := "coderFromArrayLen", desc := "([BI)B" } : Jvm.MethodName) jdk_52_method_15_code (2 : Nat) (Option.some Jvm.ClassFile.FieldType.byte)).before a0 Z = true := hw _ (List.mem_of_getElem? (i := 75) rfl)
theorem tw76 {Z : State} {a0 : Array Value} (hw : ∀ d ∈ tables_1, d.before a0 Z = true) : (Jvm.Cond.methodLink "com/example/archerfish/archerfish/MediaTypeIsJsonPinLaw" (42 : Nat) ({ cls := "com/example/archerfish/archerfish/MediaType", name := "isJson", desc := "(Ljava/lang/String;)Z" } : Jvm.MethodName)).before a0 Z = true := hw _ (List.mem_of_getElem? (i := 76) rfl)
theorem tw77 {Z : State} {a0 : Array Value} (hw : ∀ d ∈ tables_1, d.before a0 Z = true) : (Jvm.Cond.static ({ cls := "com/example/archerfish/archerfish/MediaType", name := "isJson", desc := "(Ljava/lang/String;)Z" } : Jvm.MethodName)).before a0 Z = true := hw _ (List.mem_of_getElem? (i := 77) rfl)
theorem tw78 {Z : State} {a0 : Array Value} (hw : ∀ d ∈ tables_1, d.before a0 Z = true) : (Jvm.Cond.initialized "com/example/archerfish/archerfish/MediaType").before a0 Z = true := hw _ (List.mem_of_getElem? (i := 78) rfl)
theorem tw79 {Z : State} {a0 : Array Value} (hw : ∀ d ∈ tables_1, d.before a0 Z = true) : (Jvm.Cond.code ({ cls := "com/example/archerfish/archerfish/MediaType", name := "isJson", desc := "(Ljava/lang/String;)Z" } : Jvm.MethodName) prog_8_method_4_code (2 : Nat) (Option.some Jvm.ClassFile.FieldType.boolean)).before a0 Z = true := hw _ (List.mem_of_getElem? (i := 79) rfl)
theorem tw80 {Z : State} {a0 : Array Value} (hw : ∀ d ∈ tables_1, d.before a0 Z = true) : (Jvm.Cond.methodLink "com/example/archerfish/archerfish/MediaType" (49 : Nat) ({ cls := "com/example/archerfish/archerfish/MediaType", name := "essence", desc := "(Ljava/lang/String;)Ljava/lang/String;" } : Jvm.MethodName)).before a0 Z = true := hw _ (List.mem_of_getElem? (i := 80) rfl)
theorem tw81 {Z : State} {a0 : Array Value} (hw : ∀ d ∈ tables_1, d.before a0 Z = true) : (Jvm.Cond.static ({ cls := "com/example/archerfish/archerfish/MediaType", name := "essence", desc := "(Ljava/lang/String;)Ljava/lang/String;" } : Jvm.MethodName)).before a0 Z = true := hw _ (List.mem_of_getElem? (i := 81) rfl)
theorem tw82 {Z : State} {a0 : Array Value} (hw : ∀ d ∈ tables_1, d.before a0 Z = true) : (Jvm.Cond.code ({ cls := "com/example/archerfish/archerfish/MediaType", name := "essence", desc := "(Ljava/lang/String;)Ljava/lang/String;" } : Jvm.MethodName) prog_8_method_3_code (2 : Nat) (Option.some (Jvm.ClassFile.FieldType.object "java/lang/String"))).before a0 Z = true := hw _ (List.mem_of_getElem? (i := 82) rfl)
theorem tw83 {Z : State} {a0 : Array Value} (hw : ∀ d ∈ tables_1, d.before a0 Z = true) : (Jvm.Cond.methodLink "com/example/archerfish/archerfish/MediaType" (25 : Nat) ({ cls := "java/lang/String", name := "indexOf", desc := "(I)I" } : Jvm.MethodName)).before a0 Z = true := hw _ (List.mem_of_getElem? (i := 83) rfl)
theorem tw84 {Z : State} {a0 : Array Value} (hw : ∀ d ∈ tables_1, d.before a0 Z = true) : (Jvm.Cond.declares ({ cls := "java/lang/String", name := "indexOf", desc := "(I)I" } : Jvm.MethodName)).before a0 Z = true := hw _ (List.mem_of_getElem? (i := 84) rfl)
theorem tw85 {Z : State} {a0 : Array Value} (hw : ∀ d ∈ tables_1, d.before a0 Z = true) : (Jvm.Cond.instanceMethod ({ cls := "java/lang/String", name := "indexOf", desc := "(I)I" } : Jvm.MethodName)).before a0 Z = true := hw _ (List.mem_of_getElem? (i := 85) rfl)
theorem tw86 {Z : State} {a0 : Array Value} (hw : ∀ d ∈ tables_1, d.before a0 Z = true) : (Jvm.Cond.selects "java/lang/String" ({ cls := "java/lang/String", name := "indexOf", desc := "(I)I" } : Jvm.MethodName) ({ cls := "java/lang/String", name := "indexOf", desc := "(I)I" } : Jvm.MethodName)).before a0 Z = true := hw _ (List.mem_of_getElem? (i := 86) rfl)
theorem tw87 {Z : State} {a0 : Array Value} (hw : ∀ d ∈ tables_1, d.before a0 Z = true) : (Jvm.Cond.code ({ cls := "java/lang/String", name := "indexOf", desc := "(I)I" } : Jvm.MethodName) jdk_42_method_79_code (2 : Nat) (Option.some Jvm.ClassFile.FieldType.int)).before a0 Z = true := hw _ (List.mem_of_getElem? (i := 87) rfl)
theorem tw88 {Z : State} {a0 : Array Value} (hw : ∀ d ∈ tables_1, d.before a0 Z = true) : (Jvm.Cond.methodLink "java/lang/String" (633 : Nat) ({ cls := "java/lang/String", name := "indexOf", desc := "(II)I" } : Jvm.MethodName)).before a0 Z = true := hw _ (List.mem_of_getElem? (i := 88) rfl)
theorem tw89 {Z : State} {a0 : Array Value} (hw : ∀ d ∈ tables_1, d.before a0 Z = true) : (Jvm.Cond.declares ({ cls := "java/lang/String", name := "indexOf", desc := "(II)I" } : Jvm.MethodName)).before a0 Z = true := hw _ (List.mem_of_getElem? (i := 89) rfl)
theorem tw90 {Z : State} {a0 : Array Value} (hw : ∀ d ∈ tables_1, d.before a0 Z = true) : (Jvm.Cond.instanceMethod ({ cls := "java/lang/String", name := "indexOf", desc := "(II)I" } : Jvm.MethodName)).before a0 Z = true := hw _ (List.mem_of_getElem? (i := 90) rfl)
theorem tw91 {Z : State} {a0 : Array Value} (hw : ∀ d ∈ tables_1, d.before a0 Z = true) : (Jvm.Cond.selects "java/lang/String" ({ cls := "java/lang/String", name := "indexOf", desc := "(II)I" } : Jvm.MethodName) ({ cls := "java/lang/String", name := "indexOf", desc := "(II)I" } : Jvm.MethodName)).before a0 Z = true := hw _ (List.mem_of_getElem? (i := 91) rfl)
theorem tw92 {Z : State} {a0 : Array Value} (hw : ∀ d ∈ tables_1, d.before a0 Z = true) : (Jvm.Cond.code ({ cls := "java/lang/String", name := "indexOf", desc := "(II)I" } : Jvm.MethodName) jdk_42_method_80_code (3 : Nat) (Option.some Jvm.ClassFile.FieldType.int)).before a0 Z = true := hw _ (List.mem_of_getElem? (i := 92) rfl)
theorem tw93 {Z : State} {a0 : Array Value} (hw : ∀ d ∈ tables_1, d.before a0 Z = true) : (Jvm.Cond.methodLink "java/lang/String" (505 : Nat) ({ cls := "java/lang/String", name := "length", desc := "()I" } : Jvm.MethodName)).before a0 Z = true := hw _ (List.mem_of_getElem? (i := 93) rfl)
theorem tw94 {Z : State} {a0 : Array Value} (hw : ∀ d ∈ tables_1, d.before a0 Z = true) : (Jvm.Cond.methodLink "java/lang/String" (637 : Nat) ({ cls := "java/lang/StringLatin1", name := "indexOf", desc := "([BIII)I" } : Jvm.MethodName)).before a0 Z = true := hw _ (List.mem_of_getElem? (i := 94) rfl)
theorem tw95 {Z : State} {a0 : Array Value} (hw : ∀ d ∈ tables_1, d.before a0 Z = true) : (Jvm.Cond.static ({ cls := "java/lang/StringLatin1", name := "indexOf", desc := "([BIII)I" } : Jvm.MethodName)).before a0 Z = true := hw _ (List.mem_of_getElem? (i := 95) rfl)
theorem tw96 {Z : State} {a0 : Array Value} (hw : ∀ d ∈ tables_1, d.before a0 Z = true) : (Jvm.Cond.code ({ cls := "java/lang/StringLatin1", name := "indexOf", desc := "([BIII)I" } : Jvm.MethodName) jdk_43_method_22_code (4 : Nat) (Option.some Jvm.ClassFile.FieldType.int)).before a0 Z = true := hw _ (List.mem_of_getElem? (i := 96) rfl)
theorem tw97 {Z : State} {a0 : Array Value} (hw : ∀ d ∈ tables_1, d.before a0 Z = true) : (Jvm.Cond.methodLink "java/lang/StringLatin1" (88 : Nat) ({ cls := "java/lang/StringLatin1", name := "canEncode", desc := "(I)Z" } : Jvm.MethodName)).before a0 Z = true := hw _ (List.mem_of_getElem? (i := 97) rfl)
theorem tw98 {Z : State} {a0 : Array Value} (hw : ∀ d ∈ tables_1, d.before a0 Z = true) : (Jvm.Cond.static ({ cls := "java/lang/StringLatin1", name := "canEncode", desc := "(I)Z" } : Jvm.MethodName)).before a0 Z = true := hw _ (List.mem_of_getElem? (i := 98) rfl)
theorem tw99 {Z : State} {a0 : Array Value} (hw : ∀ d ∈ tables_1, d.before a0 Z = true) : (Jvm.Cond.code ({ cls := "java/lang/StringLatin1", name := "canEncode", desc := "(I)Z" } : Jvm.MethodName) jdk_43_method_4_code (1 : Nat) (Option.some Jvm.ClassFile.FieldType.boolean)).before a0 Z = true := hw _ (List.mem_of_getElem? (i := 99) rfl)
theorem tw100 {Z : State} {a0 : Array Value} (hw : ∀ d ∈ tables_1, d.before a0 Z = true) : (Jvm.Cond.methodLink "java/lang/StringLatin1" (92 : Nat) ({ cls := "java/lang/Math", name := "max", desc := "(II)I" } : Jvm.MethodName)).before a0 Z = true := hw _ (List.mem_of_getElem? (i := 100) rfl)
theorem tw101 {Z : State} {a0 : Array Value} (hw : ∀ d ∈ tables_1, d.before a0 Z = true) : (Jvm.Cond.static ({ cls := "java/lang/Math", name := "max", desc := "(II)I" } : Jvm.MethodName)).before a0 Z = true := hw _ (List.mem_of_getElem? (i := 101) rfl)
theorem tw102 {Z : State} {a0 : Array Value} (hw : ∀ d ∈ tables_1, d.before a0 Z = true) : (Jvm.Cond.initialized "java/lang/Math").before a0 Z = true := hw _ (List.mem_of_getElem? (i := 102) rfl)
theorem tw103 {Z : State} {a0 : Array Value} (hw : ∀ d ∈ tables_1, d.before a0 Z = true) : (Jvm.Cond.code ({ cls := "java/lang/Math", name := "max", desc := "(II)I" } : Jvm.MethodName) jdk_29_method_65_code (2 : Nat) (Option.some Jvm.ClassFile.FieldType.int)).before a0 Z = true := hw _ (List.mem_of_getElem? (i := 103) rfl)
theorem tw104 {Z : State} {a0 : Array Value} (hw : ∀ d ∈ tables_1, d.before a0 Z = true) : (Jvm.Cond.methodLink "java/lang/StringLatin1" (38 : Nat) ({ cls := "java/lang/Math", name := "min", desc := "(II)I" } : Jvm.MethodName)).before a0 Z = true := hw _ (List.mem_of_getElem? (i := 104) rfl)
theorem tw105 {Z : State} {a0 : Array Value} (hw : ∀ d ∈ tables_1, d.before a0 Z = true) : (Jvm.Cond.static ({ cls := "java/lang/Math", name := "min", desc := "(II)I" } : Jvm.MethodName)).before a0 Z = true := hw _ (List.mem_of_getElem? (i := 105) rfl)
theorem tw106 {Z : State} {a0 : Array Value} (hw : ∀ d ∈ tables_1, d.before a0 Z = true) : (Jvm.Cond.code ({ cls := "java/lang/Math", name := "min", desc := "(II)I" } : Jvm.MethodName) jdk_29_method_69_code (2 : Nat) (Option.some Jvm.ClassFile.FieldType.int)).before a0 Z = true := hw _ (List.mem_of_getElem? (i := 106) rfl)
theorem tw107 {Z : State} {a0 : Array Value} (hw : ∀ d ∈ tables_1, d.before a0 Z = true) : (Jvm.Cond.methodLink "java/lang/StringLatin1" (95 : Nat) ({ cls := "java/lang/StringLatin1", name := "indexOfChar", desc := "([BIII)I" } : Jvm.MethodName)).before a0 Z = true := hw _ (List.mem_of_getElem? (i := 107) rfl)
theorem tw108 {Z : State} {a0 : Array Value} (hw : ∀ d ∈ tables_1, d.before a0 Z = true) : (Jvm.Cond.static ({ cls := "java/lang/StringLatin1", name := "indexOfChar", desc := "([BIII)I" } : Jvm.MethodName)).before a0 Z = true := hw _ (List.mem_of_getElem? (i := 108) rfl)
theorem tw109 {Z : State} {a0 : Array Value} (hw : ∀ d ∈ tables_1, d.before a0 Z = true) : (Jvm.Cond.code ({ cls := "java/lang/StringLatin1", name := "indexOfChar", desc := "([BIII)I" } : Jvm.MethodName) jdk_43_method_23_code (6 : Nat) (Option.some Jvm.ClassFile.FieldType.int)).before a0 Z = true := hw _ (List.mem_of_getElem? (i := 109) rfl)
theorem tw110 {Z : State} {a0 : Array Value} (hw : ∀ d ∈ tables_1, d.before a0 Z = true) : (Jvm.Cond.methodLink "com/example/archerfish/archerfish/MediaType" (35 : Nat) ({ cls := "java/lang/String", name := "strip", desc := "()Ljava/lang/String;" } : Jvm.MethodName)).before a0 Z = true := hw _ (List.mem_of_getElem? (i := 110) rfl)
theorem tw111 {Z : State} {a0 : Array Value} (hw : ∀ d ∈ tables_1, d.before a0 Z = true) : (Jvm.Cond.declares ({ cls := "java/lang/String", name := "strip", desc := "()Ljava/lang/String;" } : Jvm.MethodName)).before a0 Z = true := hw _ (List.mem_of_getElem? (i := 111) rfl)
theorem tw112 {Z : State} {a0 : Array Value} (hw : ∀ d ∈ tables_1, d.before a0 Z = true) : (Jvm.Cond.instanceMethod ({ cls := "java/lang/String", name := "strip", desc := "()Ljava/lang/String;" } : Jvm.MethodName)).before a0 Z = true := hw _ (List.mem_of_getElem? (i := 112) rfl)
theorem tw113 {Z : State} {a0 : Array Value} (hw : ∀ d ∈ tables_1, d.before a0 Z = true) : (Jvm.Cond.selects "java/lang/String" ({ cls := "java/lang/String", name := "strip", desc := "()Ljava/lang/String;" } : Jvm.MethodName) ({ cls := "java/lang/String", name := "strip", desc := "()Ljava/lang/String;" } : Jvm.MethodName)).before a0 Z = true := hw _ (List.mem_of_getElem? (i := 113) rfl)
theorem tw114 {Z : State} {a0 : Array Value} (hw : ∀ d ∈ tables_1, d.before a0 Z = true) : (Jvm.Cond.code ({ cls := "java/lang/String", name := "strip", desc := "()Ljava/lang/String;" } : Jvm.MethodName) jdk_42_method_114_code (2 : Nat) (Option.some (Jvm.ClassFile.FieldType.object "java/lang/String"))).before a0 Z = true := hw _ (List.mem_of_getElem? (i := 114) rfl)
theorem tw115 {Z : State} {a0 : Array Value} (hw : ∀ d ∈ tables_1, d.before a0 Z = true) : (Jvm.Cond.methodLink "java/lang/String" (864 : Nat) ({ cls := "java/lang/StringLatin1", name := "strip", desc := "([B)Ljava/lang/String;" } : Jvm.MethodName)).before a0 Z = true := hw _ (List.mem_of_getElem? (i := 115) rfl)
theorem tw116 {Z : State} {a0 : Array Value} (hw : ∀ d ∈ tables_1, d.before a0 Z = true) : (Jvm.Cond.static ({ cls := "java/lang/StringLatin1", name := "strip", desc := "([B)Ljava/lang/String;" } : Jvm.MethodName)).before a0 Z = true := hw _ (List.mem_of_getElem? (i := 116) rfl)
theorem tw117 {Z : State} {a0 : Array Value} (hw : ∀ d ∈ tables_1, d.before a0 Z = true) : (Jvm.Cond.code ({ cls := "java/lang/StringLatin1", name := "strip", desc := "([B)Ljava/lang/String;" } : Jvm.MethodName) jdk_43_method_39_code (4 : Nat) (Option.some (Jvm.ClassFile.FieldType.object "java/lang/String"))).before a0 Z = true := hw _ (List.mem_of_getElem? (i := 117) rfl)
theorem tw118 {Z : State} {a0 : Array Value} (hw : ∀ d ∈ tables_1, d.before a0 Z = true) : (Jvm.Cond.methodLink "java/lang/StringLatin1" (214 : Nat) ({ cls := "java/lang/StringLatin1", name := "indexOfNonWhitespace", desc := "([B)I" } : Jvm.MethodName)).before a0 Z = true := hw _ (List.mem_of_getElem? (i := 118) rfl)
theorem tw119 {Z : State} {a0 : Array Value} (hw : ∀ d ∈ tables_1, d.before a0 Z = true) : (Jvm.Cond.static ({ cls := "java/lang/StringLatin1", name := "indexOfNonWhitespace", desc := "([B)I" } : Jvm.MethodName)).before a0 Z = true := hw _ (List.mem_of_getElem? (i := 119) rfl)
theorem tw120 {Z : State} {a0 : Array Value} (hw : ∀ d ∈ tables_1, d.before a0 Z = true) : (Jvm.Cond.code ({ cls := "java/lang/StringLatin1", name := "indexOfNonWhitespace", desc := "([B)I" } : Jvm.MethodName) jdk_43_method_37_code (4 : Nat) (Option.some Jvm.ClassFile.FieldType.int)).before a0 Z = true := hw _ (List.mem_of_getElem? (i := 120) rfl)
theorem tw121 {Z : State} {a0 : Array Value} (hw : ∀ d ∈ tables_1, d.before a0 Z = true) : (Jvm.Cond.methodLink "java/lang/StringLatin1" (50 : Nat) ({ cls := "java/lang/StringLatin1", name := "getChar", desc := "([BI)C" } : Jvm.MethodName)).before a0 Z = true := hw _ (List.mem_of_getElem? (i := 121) rfl)
theorem tw122 {Z : State} {a0 : Array Value} (hw : ∀ d ∈ tables_1, d.before a0 Z = true) : (Jvm.Cond.static ({ cls := "java/lang/StringLatin1", name := "getChar", desc := "([BI)C" } : Jvm.MethodName)).before a0 Z = true := hw _ (List.mem_of_getElem? (i := 122) rfl)
theorem tw123 {Z : State} {a0 : Array Value} (hw : ∀ d ∈ tables_1, d.before a0 Z = true) : (Jvm.Cond.code ({ cls := "java/lang/StringLatin1", name := "getChar", desc := "([BI)C" } : Jvm.MethodName) jdk_43_method_44_code (2 : Nat) (Option.some Jvm.ClassFile.FieldType.char)).before a0 Z = true := hw _ (List.mem_of_getElem? (i := 123) rfl)
theorem tw124 {Z : State} {a0 : Array Value} (hw : ∀ d ∈ tables_1, d.before a0 Z = true) : (Jvm.Cond.fieldLink "java/lang/StringLatin1" (66 : Nat) "java/lang/CharacterDataLatin1" "instance" "Ljava/lang/CharacterDataLatin1;").before a0 Z = true := hw _ (List.mem_of_getElem? (i := 124) rfl)
theorem tw125 {Z : State} {a0 : Array Value} (hw : ∀ d ∈ tables_1, d.before a0 Z = true) : (Jvm.Cond.initialized "java/lang/CharacterDataLatin1").before a0 Z = true := hw _ (List.mem_of_getElem? (i := 125) rfl)
theorem tw126 {Z : State} {a0 : Array Value} (hw : ∀ d ∈ tables_1, d.before a0 Z = true) : (Jvm.Cond.methodLink "java/lang/StringLatin1" (211 : Nat) ({ cls := "java/lang/CharacterDataLatin1", name := "isWhitespace", desc := "(I)Z" } : Jvm.MethodName)).before a0 Z = true := hw _ (List.mem_of_getElem? (i := 126) rfl)
theorem tw127 {Z : State} {a0 : Array Value} (hw : ∀ d ∈ tables_1, d.before a0 Z = true) : (Jvm.Cond.declares ({ cls := "java/lang/CharacterDataLatin1", name := "isWhitespace", desc := "(I)Z" } : Jvm.MethodName)).before a0 Z = true := hw _ (List.mem_of_getElem? (i := 127) rfl)
theorem tw128 {Z : State} {a0 : Array Value} (hw : ∀ d ∈ tables_1, d.before a0 Z = true) : (Jvm.Cond.instanceMethod ({ cls := "java/lang/CharacterDataLatin1", name := "isWhitespace", desc := "(I)Z" } : Jvm.MethodName)).before a0 Z = true := hw _ (List.mem_of_getElem? (i := 128) rfl)
theorem tw129 {Z : State} {a0 : Array Value} (hw : ∀ d ∈ tables_1, d.before a0 Z = true) : (Jvm.Cond.selects "java/lang/CharacterDataLatin1" ({ cls := "java/lang/CharacterDataLatin1", name := "isWhitespace", desc := "(I)Z" } : Jvm.MethodName) ({ cls := "java/lang/CharacterDataLatin1", name := "isWhitespace", desc := "(I)Z" } : Jvm.MethodName)).before a0 Z = true := hw _ (List.mem_of_getElem? (i := 129) rfl)
theorem tw130 {Z : State} {a0 : Array Value} (hw : ∀ d ∈ tables_1, d.before a0 Z = true) : (Jvm.Cond.code ({ cls := "java/lang/CharacterDataLatin1", name := "isWhitespace", desc := "(I)Z" } : Jvm.MethodName) jdk_116_method_26_code (3 : Nat) (Option.some Jvm.ClassFile.FieldType.boolean)).before a0 Z = true := hw _ (List.mem_of_getElem? (i := 130) rfl)
theorem tw131 {Z : State} {a0 : Array Value} (hw : ∀ d ∈ tables_1, d.before a0 Z = true) : (Jvm.Cond.methodLink "java/lang/CharacterDataLatin1" (15 : Nat) ({ cls := "java/lang/CharacterDataLatin1", name := "getProperties", desc := "(I)I" } : Jvm.MethodName)).before a0 Z = true := hw _ (List.mem_of_getElem? (i := 131) rfl)
theorem tw132 {Z : State} {a0 : Array Value} (hw : ∀ d ∈ tables_1, d.before a0 Z = true) : (Jvm.Cond.declares ({ cls := "java/lang/CharacterDataLatin1", name := "getProperties", desc := "(I)I" } : Jvm.MethodName)).before a0 Z = true := hw _ (List.mem_of_getElem? (i := 132) rfl)
theorem tw133 {Z : State} {a0 : Array Value} (hw : ∀ d ∈ tables_1, d.before a0 Z = true) : (Jvm.Cond.instanceMethod ({ cls := "java/lang/CharacterDataLatin1", name := "getProperties", desc := "(I)I" } : Jvm.MethodName)).before a0 Z = true := hw _ (List.mem_of_getElem? (i := 133) rfl)
theorem tw134 {Z : State} {a0 : Array Value} (hw : ∀ d ∈ tables_1, d.before a0 Z = true) : (Jvm.Cond.selects "java/lang/CharacterDataLatin1" ({ cls := "java/lang/CharacterDataLatin1", name := "getProperties", desc := "(I)I" } : Jvm.MethodName) ({ cls := "java/lang/CharacterDataLatin1", name := "getProperties", desc := "(I)I" } : Jvm.MethodName)).before a0 Z = true := hw _ (List.mem_of_getElem? (i := 134) rfl)
theorem tw135 {Z : State} {a0 : Array Value} (hw : ∀ d ∈ tables_1, d.before a0 Z = true) : (Jvm.Cond.code ({ cls := "java/lang/CharacterDataLatin1", name := "getProperties", desc := "(I)I" } : Jvm.MethodName) jdk_116_method_1_code (4 : Nat) (Option.some Jvm.ClassFile.FieldType.int)).before a0 Z = true := hw _ (List.mem_of_getElem? (i := 135) rfl)
theorem tw136 {Z : State} {a0 : Array Value} (hw : ∀ d ∈ tables_1, d.before a0 Z = true) : (Jvm.Cond.fieldLink "java/lang/CharacterDataLatin1" (1 : Nat) "java/lang/CharacterDataLatin1" "A" "[I").before a0 Z = true := hw _ (List.mem_of_getElem? (i := 136) rfl)
theorem tw137 {Z : State} {a0 : Array Value} (hw : ∀ d ∈ tables_1, d.before a0 Z = true) : (Jvm.Cond.methodLink "java/lang/StringLatin1" (217 : Nat) ({ cls := "java/lang/StringLatin1", name := "lastIndexOfNonWhitespace", desc := "([B)I" } : Jvm.MethodName)).before a0 Z = true := hw _ (List.mem_of_getElem? (i := 137) rfl)
theorem tw138 {Z : State} {a0 : Array Value} (hw : ∀ d ∈ tables_1, d.before a0 Z = true) : (Jvm.Cond.static ({ cls := "java/lang/StringLatin1", name := "lastIndexOfNonWhitespace", desc := "([B)I" } : Jvm.MethodName)).before a0 Z = true := hw _ (List.mem_of_getElem? (i := 138) rfl)
theorem tw139 {Z : State} {a0 : Array Value} (hw : ∀ d ∈ tables_1, d.before a0 Z = true) : (Jvm.Cond.code ({ cls := "java/lang/StringLatin1", name := "lastIndexOfNonWhitespace", desc := "([B)I" } : Jvm.MethodName) jdk_43_method_38_code (4 : Nat) (Option.some Jvm.ClassFile.FieldType.int)).before a0 Z = true := hw _ (List.mem_of_getElem? (i := 139) rfl)
theorem tw140 {Z : State} {a0 : Array Value} (hw : ∀ d ∈ tables_1, d.before a0 Z = true) : (Jvm.Cond.fieldLink "com/example/archerfish/archerfish/MediaType" (39 : Nat) "java/util/Locale" "ROOT" "Ljava/util/Locale;").before a0 Z = true := hw _ (List.mem_of_getElem? (i := 140) rfl)
theorem tw141 {Z : State} {a0 : Array Value} (hw : ∀ d ∈ tables_1, d.before a0 Z = true) : (Jvm.Cond.initialized "java/util/Locale").before a0 Z = true := hw _ (List.mem_of_getElem? (i := 141) rfl)
theorem tw142 {Z : State} {a0 : Array Value} (hw : ∀ d ∈ tables_1, d.before a0 Z = true) : (Jvm.Cond.methodLink "com/example/archerfish/archerfish/MediaType" (45 : Nat) ({ cls := "java/lang/String", name := "toLowerCase", desc := "(Ljava/util/Locale;)Ljava/lang/String;" } : Jvm.MethodName)).before a0 Z = true := hw _ (List.mem_of_getElem? (i := 142) rfl)
theorem tw143 {Z : State} {a0 : Array Value} (hw : ∀ d ∈ tables_1, d.before a0 Z = true) : (Jvm.Cond.declares ({ cls := "java/lang/String", name := "toLowerCase", desc := "(Ljava/util/Locale;)Ljava/lang/String;" } : Jvm.MethodName)).before a0 Z = true := hw _ (List.mem_of_getElem? (i := 143) rfl)
theorem tw144 {Z : State} {a0 : Array Value} (hw : ∀ d ∈ tables_1, d.before a0 Z = true) : (Jvm.Cond.instanceMethod ({ cls := "java/lang/String", name := "toLowerCase", desc := "(Ljava/util/Locale;)Ljava/lang/String;" } : Jvm.MethodName)).before a0 Z = true := hw _ (List.mem_of_getElem? (i := 144) rfl)
theorem tw145 {Z : State} {a0 : Array Value} (hw : ∀ d ∈ tables_1, d.before a0 Z = true) : (Jvm.Cond.selects "java/lang/String" ({ cls := "java/lang/String", name := "toLowerCase", desc := "(Ljava/util/Locale;)Ljava/lang/String;" } : Jvm.MethodName) ({ cls := "java/lang/String", name := "toLowerCase", desc := "(Ljava/util/Locale;)Ljava/lang/String;" } : Jvm.MethodName)).before a0 Z = true := hw _ (List.mem_of_getElem? (i := 145) rfl)
theorem tw146 {Z : State} {a0 : Array Value} (hw : ∀ d ∈ tables_1, d.before a0 Z = true) : (Jvm.Cond.code ({ cls := "java/lang/String", name := "toLowerCase", desc := "(Ljava/util/Locale;)Ljava/lang/String;" } : Jvm.MethodName) jdk_42_method_109_code (2 : Nat) (Option.some (Jvm.ClassFile.FieldType.object "java/lang/String"))).before a0 Z = true := hw _ (List.mem_of_getElem? (i := 146) rfl)
theorem tw147 {Z : State} {a0 : Array Value} (hw : ∀ d ∈ tables_1, d.before a0 Z = true) : (Jvm.Cond.methodLink "java/lang/String" (839 : Nat) ({ cls := "java/lang/StringLatin1", name := "toLowerCase", desc := "(Ljava/lang/String;[BLjava/util/Locale;)Ljava/lang/String;" } : Jvm.MethodName)).before a0 Z = true := hw _ (List.mem_of_getElem? (i := 147) rfl)
theorem tw148 {Z : State} {a0 : Array Value} (hw : ∀ d ∈ tables_1, d.before a0 Z = true) : (Jvm.Cond.static ({ cls := "java/lang/StringLatin1", name := "toLowerCase", desc := "(Ljava/lang/String;[BLjava/util/Locale;)Ljava/lang/String;" } : Jvm.MethodName)).before a0 Z = true := hw _ (List.mem_of_getElem? (i := 148) rfl)
theorem tw149 {Z : State} {a0 : Array Value} (hw : ∀ d ∈ tables_1, d.before a0 Z = true) : (Jvm.Cond.code ({ cls := "java/lang/StringLatin1", name := "toLowerCase", desc := "(Ljava/lang/String;[BLjava/util/Locale;)Ljava/lang/String;" } : Jvm.MethodName) jdk_43_method_32_code (9 : Nat) (Option.some (Jvm.ClassFile.FieldType.object "java/lang/String"))).before a0 Z = true := hw _ (List.mem_of_getElem? (i := 149) rfl)
theorem tw150 {Z : State} {a0 : Array Value} (hw : ∀ d ∈ tables_1, d.before a0 Z = true) : (Jvm.Cond.methodLink "java/lang/StringLatin1" (160 : Nat) ({ cls := "java/lang/CharacterDataLatin1", name := "toLowerCase", desc := "(I)I" } : Jvm.MethodName)).before a0 Z = true := hw _ (List.mem_of_getElem? (i := 150) rfl)
theorem tw151 {Z : State} {a0 : Array Value} (hw : ∀ d ∈ tables_1, d.before a0 Z = true) : (Jvm.Cond.declares ({ cls := "java/lang/CharacterDataLatin1", name := "toLowerCase", desc := "(I)I" } : Jvm.MethodName)).before a0 Z = true := hw _ (List.mem_of_getElem? (i := 151) rfl)
theorem tw152 {Z : State} {a0 : Array Value} (hw : ∀ d ∈ tables_1, d.before a0 Z = true) : (Jvm.Cond.instanceMethod ({ cls := "java/lang/CharacterDataLatin1", name := "toLowerCase", desc := "(I)I" } : Jvm.MethodName)).before a0 Z = true := hw _ (List.mem_of_getElem? (i := 152) rfl)
theorem tw153 {Z : State} {a0 : Array Value} (hw : ∀ d ∈ tables_1, d.before a0 Z = true) : (Jvm.Cond.selects "java/lang/CharacterDataLatin1" ({ cls := "java/lang/CharacterDataLatin1", name := "toLowerCase", desc := "(I)I" } : Jvm.MethodName) ({ cls := "java/lang/CharacterDataLatin1", name := "toLowerCase", desc := "(I)I" } : Jvm.MethodName)).before a0 Z = true := hw _ (List.mem_of_getElem? (i := 153) rfl)
theorem tw154 {Z : State} {a0 : Array Value} (hw : ∀ d ∈ tables_1, d.before a0 Z = true) : (Jvm.Cond.code ({ cls := "java/lang/CharacterDataLatin1", name := "toLowerCase", desc := "(I)I" } : Jvm.MethodName) jdk_116_method_20_code (3 : Nat) (Option.some Jvm.ClassFile.FieldType.int)).before a0 Z = true := hw _ (List.mem_of_getElem? (i := 154) rfl)
theorem tw155 {Z : State} {a0 : Array Value} (hw : ∀ d ∈ tables_1, d.before a0 Z = true) : (Jvm.Cond.methodLink "java/lang/StringLatin1" (162 : Nat) ({ cls := "java/util/Locale", name := "getLanguage", desc := "()Ljava/lang/String;" } : Jvm.MethodName)).before a0 Z = true := hw _ (List.mem_of_getElem? (i := 155) rfl)
theorem tw156 {Z : State} {a0 : Array Value} (hw : ∀ d ∈ tables_1, d.before a0 Z = true) : (Jvm.Cond.declares ({ cls := "java/util/Locale", name := "getLanguage", desc := "()Ljava/lang/String;" } : Jvm.MethodName)).before a0 Z = true := hw _ (List.mem_of_getElem? (i := 156) rfl)
theorem tw157 {Z : State} {a0 : Array Value} (hw : ∀ d ∈ tables_1, d.before a0 Z = true) : (Jvm.Cond.instanceMethod ({ cls := "java/util/Locale", name := "getLanguage", desc := "()Ljava/lang/String;" } : Jvm.MethodName)).before a0 Z = true := hw _ (List.mem_of_getElem? (i := 157) rfl)
theorem tw158 {Z : State} {a0 : Array Value} (hw : ∀ d ∈ tables_1, d.before a0 Z = true) : (Jvm.Cond.selects "java/util/Locale" ({ cls := "java/util/Locale", name := "getLanguage", desc := "()Ljava/lang/String;" } : Jvm.MethodName) ({ cls := "java/util/Locale", name := "getLanguage", desc := "()Ljava/lang/String;" } : Jvm.MethodName)).before a0 Z = true := hw _ (List.mem_of_getElem? (i := 158) rfl)
theorem tw159 {Z : State} {a0 : Array Value} (hw : ∀ d ∈ tables_1, d.before a0 Z = true) : (Jvm.Cond.code ({ cls := "java/util/Locale", name := "getLanguage", desc := "()Ljava/lang/String;" } : Jvm.MethodName) jdk_2628_method_27_code (1 : Nat) (Option.some (Jvm.ClassFile.FieldType.object "java/lang/String"))).before a0 Z = true := hw _ (List.mem_of_getElem? (i := 159) rfl)
theorem tw160 {Z : State} {a0 : Array Value} (hw : ∀ d ∈ tables_1, d.before a0 Z = true) : (Jvm.Cond.fieldLink "java/util/Locale" (28 : Nat) "java/util/Locale" "baseLocale" "Lsun/util/locale/BaseLocale;").before a0 Z = true := hw _ (List.mem_of_getElem? (i := 160) rfl)
theorem tw162 {Z : State} {a0 : Array Value} (hw : ∀ d ∈ tables_1, d.before a0 Z = true) : (Jvm.Cond.methodLink "java/util/Locale" (293 : Nat) ({ cls := "sun/util/locale/BaseLocale", name := "getLanguage", desc := "()Ljava/lang/String;" } : Jvm.MethodName)).before a0 Z = true := hw _ (List.mem_of_getElem? (i := 162) rfl)
theorem tw163 {Z : State} {a0 : Array Value} (hw : ∀ d ∈ tables_1, d.before a0 Z = true) : (Jvm.Cond.declares ({ cls := "sun/util/locale/BaseLocale", name := "getLanguage", desc := "()Ljava/lang/String;" } : Jvm.MethodName)).before a0 Z = true := hw _ (List.mem_of_getElem? (i := 163) rfl)
theorem tw164 {Z : State} {a0 : Array Value} (hw : ∀ d ∈ tables_1, d.before a0 Z = true) : (Jvm.Cond.instanceMethod ({ cls := "sun/util/locale/BaseLocale", name := "getLanguage", desc := "()Ljava/lang/String;" } : Jvm.MethodName)).before a0 Z = true := hw _ (List.mem_of_getElem? (i := 164) rfl)
theorem tw165 {Z : State} {a0 : Array Value} (hw : ∀ d ∈ tables_1, d.before a0 Z = true) : (Jvm.Cond.selects "sun/util/locale/BaseLocale" ({ cls := "sun/util/locale/BaseLocale", name := "getLanguage", desc := "()Ljava/lang/String;" } : Jvm.MethodName) ({ cls := "sun/util/locale/BaseLocale", name := "getLanguage", desc := "()Ljava/lang/String;" } : Jvm.MethodName)).before a0 Z = true := hw _ (List.mem_of_getElem? (i := 165) rfl)
theorem tw166 {Z : State} {a0 : Array Value} (hw : ∀ d ∈ tables_1, d.before a0 Z = true) : (Jvm.Cond.initialized "sun/util/locale/BaseLocale").before a0 Z = true := hw _ (List.mem_of_getElem? (i := 166) rfl)
theorem tw167 {Z : State} {a0 : Array Value} (hw : ∀ d ∈ tables_1, d.before a0 Z = true) : (Jvm.Cond.code ({ cls := "sun/util/locale/BaseLocale", name := "getLanguage", desc := "()Ljava/lang/String;" } : Jvm.MethodName) jdk_3003_method_5_code (1 : Nat) (Option.some (Jvm.ClassFile.FieldType.object "java/lang/String"))).before a0 Z = true := hw _ (List.mem_of_getElem? (i := 167) rfl)
theorem tw168 {Z : State} {a0 : Array Value} (hw : ∀ d ∈ tables_1, d.before a0 Z = true) : (Jvm.Cond.fieldLink "sun/util/locale/BaseLocale" (19 : Nat) "sun/util/locale/BaseLocale" "language" "Ljava/lang/String;").before a0 Z = true := hw _ (List.mem_of_getElem? (i := 168) rfl)
theorem tw170 {Z : State} {a0 : Array Value} (hw : ∀ d ∈ tables_1, d.before a0 Z = true) : (Jvm.Cond.stringLink "java/lang/StringLatin1" (168 : Nat) "tr").before a0 Z = true := hw _ (List.mem_of_getElem? (i := 170) rfl)
theorem tw171 {Z : State} {a0 : Array Value} (hw : ∀ d ∈ tables_1, d.before a0 Z = true) : (Jvm.Cond.stringLink "java/lang/StringLatin1" (170 : Nat) "az").before a0 Z = true := hw _ (List.mem_of_getElem? (i := 171) rfl)
theorem tw172 {Z : State} {a0 : Array Value} (hw : ∀ d ∈ tables_1, d.before a0 Z = true) : (Jvm.Cond.stringLink "java/lang/StringLatin1" (172 : Nat) "lt").before a0 Z = true := hw _ (List.mem_of_getElem? (i := 172) rfl)
theorem tw173 {Z : State} {a0 : Array Value} (hw : ∀ d ∈ tables_1, d.before a0 Z = true) : (Jvm.Cond.methodLink "java/lang/StringLatin1" (28 : Nat) ({ cls := "java/lang/System", name := "arraycopy", desc := "(Ljava/lang/Object;ILjava/lang/Object;II)V" } : Jvm.MethodName)).before a0 Z = true := hw _ (List.mem_of_getElem? (i := 173) rfl)
theorem tw174 {Z : State} {a0 : Array Value} (hw : ∀ d ∈ tables_1, d.before a0 Z = true) : (Jvm.Cond.static ({ cls := "java/lang/System", name := "arraycopy", desc := "(Ljava/lang/Object;ILjava/lang/Object;II)V" } : Jvm.MethodName)).before a0 Z = true := hw _ (List.mem_of_getElem? (i := 174) rfl)
theorem tw175 {Z : State} {a0 : Array Value} (hw : ∀ d ∈ tables_1, d.before a0 Z = true) : (Jvm.Cond.initialized "java/lang/System").before a0 Z = true := hw _ (List.mem_of_getElem? (i := 175) rfl)
theorem tw176 {Z : State} {a0 : Array Value} (hw : ∀ d ∈ tables_1, d.before a0 Z = true) : (Jvm.Cond.native ({ cls := "java/lang/System", name := "arraycopy", desc := "(Ljava/lang/Object;ILjava/lang/Object;II)V" } : Jvm.MethodName)).before a0 Z = true := hw _ (List.mem_of_getElem? (i := 176) rfl)
theorem tw177 {Z : State} {a0 : Array Value} (hw : ∀ d ∈ tables_1, d.before a0 Z = true) : (Jvm.Cond.classLink "java/lang/StringLatin1" (1 : Nat) "java/lang/String").before a0 Z = true := hw _ (List.mem_of_getElem? (i := 177) rfl)
theorem tw178 {Z : State} {a0 : Array Value} (hw : ∀ d ∈ tables_1, d.before a0 Z = true) : (Jvm.Cond.methodLink "java/lang/StringLatin1" (112 : Nat) ({ cls := "java/lang/String", name := "<init>", desc := "([BB)V" } : Jvm.MethodName)).before a0 Z = true := hw _ (List.mem_of_getElem? (i := 178) rfl)
theorem tw179 {Z : State} {a0 : Array Value} (hw : ∀ d ∈ tables_1, d.before a0 Z = true) : (Jvm.Cond.instanceMethod ({ cls := "java/lang/String", name := "<init>", desc := "([BB)V" } : Jvm.MethodName)).before a0 Z = true := hw _ (List.mem_of_getElem? (i := 179) rfl)
theorem tw180 {Z : State} {a0 : Array Value} (hw : ∀ d ∈ tables_1, d.before a0 Z = true) : (Jvm.Cond.code ({ cls := "java/lang/String", name := "<init>", desc := "([BB)V" } : Jvm.MethodName) jdk_42_method_151_code (3 : Nat) (Option.none : Option Jvm.ClassFile.FieldType)).before a0 Z = true := hw _ (List.mem_of_getElem? (i := 180) rfl)
theorem tw181 {Z : State} {a0 : Array Value} (hw : ∀ d ∈ tables_1, d.before a0 Z = true) : (Jvm.Cond.stringLink "com/example/archerfish/archerfish/MediaType" (53 : Nat) "application/json").before a0 Z = true := hw _ (List.mem_of_getElem? (i := 181) rfl)
theorem tw182 {Z : State} {a0 : Array Value} (hw : ∀ d ∈ tables_1, d.before a0 Z = true) : (Jvm.Cond.methodLink "com/example/archerfish/archerfish/MediaType" (55 : Nat) ({ cls := "java/lang/String", name := "equals", desc := "(Ljava/lang/Object;)Z" } : Jvm.MethodName)).before a0 Z = true := hw _ (List.mem_of_getElem? (i := 182) rfl)
theorem tw183 {Z : State} {a0 : Array Value} (hw : ∀ d ∈ tables_1, d.before a0 Z = true) : (Jvm.Cond.declares ({ cls := "java/lang/String", name := "equals", desc := "(Ljava/lang/Object;)Z" } : Jvm.MethodName)).before a0 Z = true := hw _ (List.mem_of_getElem? (i := 183) rfl)
theorem tw184 {Z : State} {a0 : Array Value} (hw : ∀ d ∈ tables_1, d.before a0 Z = true) : (Jvm.Cond.instanceMethod ({ cls := "java/lang/String", name := "equals", desc := "(Ljava/lang/Object;)Z" } : Jvm.MethodName)).before a0 Z = true := hw _ (List.mem_of_getElem? (i := 184) rfl)
theorem tw185 {Z : State} {a0 : Array Value} (hw : ∀ d ∈ tables_1, d.before a0 Z = true) : (Jvm.Cond.selects "java/lang/String" ({ cls := "java/lang/String", name := "equals", desc := "(Ljava/lang/Object;)Z" } : Jvm.MethodName) ({ cls := "java/lang/String", name := "equals", desc := "(Ljava/lang/Object;)Z" } : Jvm.MethodName)).before a0 Z = true := hw _ (List.mem_of_getElem? (i := 185) rfl)
theorem tw186 {Z : State} {a0 : Array Value} (hw : ∀ d ∈ tables_1, d.before a0 Z = true) : (Jvm.Cond.code ({ cls := "java/lang/String", name := "equals", desc := "(Ljava/lang/Object;)Z" } : Jvm.MethodName) jdk_42_method_66_code (3 : Nat) (Option.some Jvm.ClassFile.FieldType.boolean)).before a0 Z = true := hw _ (List.mem_of_getElem? (i := 186) rfl)
theorem tw187 {Z : State} {a0 : Array Value} (hw : ∀ d ∈ tables_1, d.before a0 Z = true) : (Jvm.Cond.classLink "java/lang/String" (10 : Nat) "java/lang/String").before a0 Z = true := hw _ (List.mem_of_getElem? (i := 187) rfl)
theorem tw188 {Z : State} {a0 : Array Value} (hw : ∀ d ∈ tables_1, d.before a0 Z = true) : (Jvm.Cond.methodLink "java/lang/String" (541 : Nat) ({ cls := "java/lang/StringLatin1", name := "equals", desc := "([B[B)Z" } : Jvm.MethodName)).before a0 Z = true := hw _ (List.mem_of_getElem? (i := 188) rfl)
theorem tw189 {Z : State} {a0 : Array Value} (hw : ∀ d ∈ tables_1, d.before a0 Z = true) : (Jvm.Cond.static ({ cls := "java/lang/StringLatin1", name := "equals", desc := "([B[B)Z" } : Jvm.MethodName)).before a0 Z = true := hw _ (List.mem_of_getElem? (i := 189) rfl)
theorem tw190 {Z : State} {a0 : Array Value} (hw : ∀ d ∈ tables_1, d.before a0 Z = true) : (Jvm.Cond.code ({ cls := "java/lang/StringLatin1", name := "equals", desc := "([B[B)Z" } : Jvm.MethodName) jdk_43_method_13_code (3 : Nat) (Option.some Jvm.ClassFile.FieldType.boolean)).before a0 Z = true := hw _ (List.mem_of_getElem? (i := 190) rfl)
theorem tw191 {Z : State} {a0 : Array Value} (hw : ∀ d ∈ tables_1, d.before a0 Z = true) : (Jvm.Cond.stringLink "com/example/archerfish/archerfish/MediaType" (59 : Nat) "+json").before a0 Z = true := hw _ (List.mem_of_getElem? (i := 191) rfl)
theorem tw192 {Z : State} {a0 : Array Value} (hw : ∀ d ∈ tables_1, d.before a0 Z = true) : (Jvm.Cond.methodLink "com/example/archerfish/archerfish/MediaType" (61 : Nat) ({ cls := "java/lang/String", name := "endsWith", desc := "(Ljava/lang/String;)Z" } : Jvm.MethodName)).before a0 Z = true := hw _ (List.mem_of_getElem? (i := 192) rfl)
theorem tw193 {Z : State} {a0 : Array Value} (hw : ∀ d ∈ tables_1, d.before a0 Z = true) : (Jvm.Cond.declares ({ cls := "java/lang/String", name := "endsWith", desc := "(Ljava/lang/String;)Z" } : Jvm.MethodName)).before a0 Z = true := hw _ (List.mem_of_getElem? (i := 193) rfl)
theorem tw194 {Z : State} {a0 : Array Value} (hw : ∀ d ∈ tables_1, d.before a0 Z = true) : (Jvm.Cond.instanceMethod ({ cls := "java/lang/String", name := "endsWith", desc := "(Ljava/lang/String;)Z" } : Jvm.MethodName)).before a0 Z = true := hw _ (List.mem_of_getElem? (i := 194) rfl)
theorem tw195 {Z : State} {a0 : Array Value} (hw : ∀ d ∈ tables_1, d.before a0 Z = true) : (Jvm.Cond.selects "java/lang/String" ({ cls := "java/lang/String", name := "endsWith", desc := "(Ljava/lang/String;)Z" } : Jvm.MethodName) ({ cls := "java/lang/String", name := "endsWith", desc := "(Ljava/lang/String;)Z" } : Jvm.MethodName)).before a0 Z = true := hw _ (List.mem_of_getElem? (i := 195) rfl)
theorem tw196 {Z : State} {a0 : Array Value} (hw : ∀ d ∈ tables_1, d.before a0 Z = true) : (Jvm.Cond.code ({ cls := "java/lang/String", name := "endsWith", desc := "(Ljava/lang/String;)Z" } : Jvm.MethodName) jdk_42_method_77_code (2 : Nat) (Option.some Jvm.ClassFile.FieldType.boolean)).before a0 Z = true := hw _ (List.mem_of_getElem? (i := 196) rfl)
theorem tw197 {Z : State} {a0 : Array Value} (hw : ∀ d ∈ tables_1, d.before a0 Z = true) : (Jvm.Cond.methodLink "java/lang/String" (624 : Nat) ({ cls := "java/lang/String", name := "startsWith", desc := "(Ljava/lang/String;I)Z" } : Jvm.MethodName)).before a0 Z = true := hw _ (List.mem_of_getElem? (i := 197) rfl)
theorem tw198 {Z : State} {a0 : Array Value} (hw : ∀ d ∈ tables_1, d.before a0 Z = true) : (Jvm.Cond.declares ({ cls := "java/lang/String", name := "startsWith", desc := "(Ljava/lang/String;I)Z" } : Jvm.MethodName)).before a0 Z = true := hw _ (List.mem_of_getElem? (i := 198) rfl)
theorem tw199 {Z : State} {a0 : Array Value} (hw : ∀ d ∈ tables_1, d.before a0 Z = true) : (Jvm.Cond.instanceMethod ({ cls := "java/lang/String", name := "startsWith", desc := "(Ljava/lang/String;I)Z" } : Jvm.MethodName)).before a0 Z = true := hw _ (List.mem_of_getElem? (i := 199) rfl)
theorem tw200 {Z : State} {a0 : Array Value} (hw : ∀ d ∈ tables_1, d.before a0 Z = true) : (Jvm.Cond.selects "java/lang/String" ({ cls := "java/lang/String", name := "startsWith", desc := "(Ljava/lang/String;I)Z" } : Jvm.MethodName) ({ cls := "java/lang/String", name := "startsWith", desc := "(Ljava/lang/String;I)Z" } : Jvm.MethodName)).before a0 Z = true := hw _ (List.mem_of_getElem? (i := 200) rfl)
theorem tw201 {Z : State} {a0 : Array Value} (hw : ∀ d ∈ tables_1, d.before a0 Z = true) : (Jvm.Cond.code ({ cls := "java/lang/String", name := "startsWith", desc := "(Ljava/lang/String;I)Z" } : Jvm.MethodName) jdk_42_method_75_code (8 : Nat) (Option.some Jvm.ClassFile.FieldType.boolean)).before a0 Z = true := hw _ (List.mem_of_getElem? (i := 201) rfl)
theorem tw202 {Z : State} {a0 : Array Value} (hw : ∀ d ∈ tables_1, d.before a0 Z = true) : (Jvm.Cond.methodLink "java/lang/String" (607 : Nat) ({ cls := "jdk/internal/util/ArraysSupport", name := "mismatch", desc := "([BI[BII)I" } : Jvm.MethodName)).before a0 Z = true := hw _ (List.mem_of_getElem? (i := 202) rfl)
theorem tw203 {Z : State} {a0 : Array Value} (hw : ∀ d ∈ tables_1, d.before a0 Z = true) : (Jvm.Cond.static ({ cls := "jdk/internal/util/ArraysSupport", name := "mismatch", desc := "([BI[BII)I" } : Jvm.MethodName)).before a0 Z = true := hw _ (List.mem_of_getElem? (i := 203) rfl)
theorem tw204 {Z : State} {a0 : Array Value} (hw : ∀ d ∈ tables_1, d.before a0 Z = true) : (Jvm.Cond.initialized "jdk/internal/util/ArraysSupport").before a0 Z = true := hw _ (List.mem_of_getElem? (i := 204) rfl)
theorem tw205 {Z : State} {a0 : Array Value} (hw : ∀ d ∈ tables_1, d.before a0 Z = true) : (Jvm.Cond.code ({ cls := "jdk/internal/util/ArraysSupport", name := "mismatch", desc := "([BI[BII)I" } : Jvm.MethodName) jdk_48_method_14_code (8 : Nat) (Option.some Jvm.ClassFile.FieldType.int)).before a0 Z = true := hw _ (List.mem_of_getElem? (i := 205) rfl)
theorem tw206 {Z : State} {a0 : Array Value} (hw : ∀ d ∈ tables_1, d.before a0 Z = true) : (Jvm.Cond.stringLink "com/example/archerfish/archerfish/MediaTypeIsJsonPinLaw" (25 : Nat) "+json").before a0 Z = true := hw _ (List.mem_of_getElem? (i := 206) rfl)
theorem tw207 {Z : State} {a0 : Array Value} (hw : ∀ d ∈ tables_1, d.before a0 Z = true) : (Jvm.Cond.methodLink "com/example/archerfish/archerfish/MediaTypeIsJsonPinLaw" (28 : Nat) ({ cls := "com/example/archerfish/archerfish/MediaTypeIsJsonPinLaw", name := "pad", desc := "(I)C" } : Jvm.MethodName)).before a0 Z = true := hw _ (List.mem_of_getElem? (i := 207) rfl)
theorem tw208 {Z : State} {a0 : Array Value} (hw : ∀ d ∈ tables_1, d.before a0 Z = true) : (Jvm.Cond.static ({ cls := "com/example/archerfish/archerfish/MediaTypeIsJsonPinLaw", name := "pad", desc := "(I)C" } : Jvm.MethodName)).before a0 Z = true := hw _ (List.mem_of_getElem? (i := 208) rfl)
theorem tw209 {Z : State} {a0 : Array Value} (hw : ∀ d ∈ tables_1, d.before a0 Z = true) : (Jvm.Cond.code ({ cls := "com/example/archerfish/archerfish/MediaTypeIsJsonPinLaw", name := "pad", desc := "(I)C" } : Jvm.MethodName) method_4_code (1 : Nat) (Option.some Jvm.ClassFile.FieldType.char)).before a0 Z = true := hw _ (List.mem_of_getElem? (i := 209) rfl)
theorem tw210 {Z : State} {a0 : Array Value} (hw : ∀ d ∈ tables_1, d.before a0 Z = true) : (Jvm.Cond.methodLink "java/lang/StringLatin1" (210 : Nat) ({ cls := "java/lang/StringLatin1", name := "newString", desc := "([BII)Ljava/lang/String;" } : Jvm.MethodName)).before a0 Z = true := hw _ (List.mem_of_getElem? (i := 210) rfl)
theorem tw211 {Z : State} {a0 : Array Value} (hw : ∀ d ∈ tables_1, d.before a0 Z = true) : (Jvm.Cond.static ({ cls := "java/lang/StringLatin1", name := "newString", desc := "([BII)Ljava/lang/String;" } : Jvm.MethodName)).before a0 Z = true := hw _ (List.mem_of_getElem? (i := 211) rfl)
theorem tw212 {Z : State} {a0 : Array Value} (hw : ∀ d ∈ tables_1, d.before a0 Z = true) : (Jvm.Cond.code ({ cls := "java/lang/StringLatin1", name := "newString", desc := "([BII)Ljava/lang/String;" } : Jvm.MethodName) jdk_43_method_47_code (3 : Nat) (Option.some (Jvm.ClassFile.FieldType.object "java/lang/String"))).before a0 Z = true := hw _ (List.mem_of_getElem? (i := 212) rfl)
theorem tw213 {Z : State} {a0 : Array Value} (hw : ∀ d ∈ tables_1, d.before a0 Z = true) : (Jvm.Cond.methodLink "java/lang/StringLatin1" (232 : Nat) ({ cls := "java/util/Arrays", name := "copyOfRange", desc := "([BII)[B" } : Jvm.MethodName)).before a0 Z = true := hw _ (List.mem_of_getElem? (i := 213) rfl)
theorem tw214 {Z : State} {a0 : Array Value} (hw : ∀ d ∈ tables_1, d.before a0 Z = true) : (Jvm.Cond.static ({ cls := "java/util/Arrays", name := "copyOfRange", desc := "([BII)[B" } : Jvm.MethodName)).before a0 Z = true := hw _ (List.mem_of_getElem? (i := 214) rfl)
theorem tw215 {Z : State} {a0 : Array Value} (hw : ∀ d ∈ tables_1, d.before a0 Z = true) : (Jvm.Cond.initialized "java/util/Arrays").before a0 Z = true := hw _ (List.mem_of_getElem? (i := 215) rfl)
theorem tw216 {Z : State} {a0 : Array Value} (hw : ∀ d ∈ tables_1, d.before a0 Z = true) : (Jvm.Cond.code ({ cls := "java/util/Arrays", name := "copyOfRange", desc := "([BII)[B" } : Jvm.MethodName) jdk_65_method_132_code (3 : Nat) (Option.some (Jvm.ClassFile.FieldType.array Jvm.ClassFile.FieldType.byte))).before a0 Z = true := hw _ (List.mem_of_getElem? (i := 216) rfl)
theorem tw217 {Z : State} {a0 : Array Value} (hw : ∀ d ∈ tables_1, d.before a0 Z = true) : (Jvm.Cond.methodLink "java/util/Arrays" (339 : Nat) ({ cls := "java/util/Arrays", name := "copyOfRangeByte", desc := "([BII)[B" } : Jvm.MethodName)).before a0 Z = true := hw _ (List.mem_of_getElem? (i := 217) rfl)
theorem tw218 {Z : State} {a0 : Array Value} (hw : ∀ d ∈ tables_1, d.before a0 Z = true) : (Jvm.Cond.static ({ cls := "java/util/Arrays", name := "copyOfRangeByte", desc := "([BII)[B" } : Jvm.MethodName)).before a0 Z = true := hw _ (List.mem_of_getElem? (i := 218) rfl)
theorem tw219 {Z : State} {a0 : Array Value} (hw : ∀ d ∈ tables_1, d.before a0 Z = true) : (Jvm.Cond.code ({ cls := "java/util/Arrays", name := "copyOfRangeByte", desc := "([BII)[B" } : Jvm.MethodName) jdk_65_method_133_code (5 : Nat) (Option.some (Jvm.ClassFile.FieldType.array Jvm.ClassFile.FieldType.byte))).before a0 Z = true := hw _ (List.mem_of_getElem? (i := 219) rfl)
theorem tw220 {Z : State} {a0 : Array Value} (hw : ∀ d ∈ tables_1, d.before a0 Z = true) : (Jvm.Cond.methodLink "java/util/Arrays" (343 : Nat) ({ cls := "java/util/Arrays", name := "checkLength", desc := "(II)V" } : Jvm.MethodName)).before a0 Z = true := hw _ (List.mem_of_getElem? (i := 220) rfl)
theorem tw221 {Z : State} {a0 : Array Value} (hw : ∀ d ∈ tables_1, d.before a0 Z = true) : (Jvm.Cond.static ({ cls := "java/util/Arrays", name := "checkLength", desc := "(II)V" } : Jvm.MethodName)).before a0 Z = true := hw _ (List.mem_of_getElem? (i := 221) rfl)
theorem tw222 {Z : State} {a0 : Array Value} (hw : ∀ d ∈ tables_1, d.before a0 Z = true) : (Jvm.Cond.code ({ cls := "java/util/Arrays", name := "checkLength", desc := "(II)V" } : Jvm.MethodName) jdk_65_method_131_code (2 : Nat) (Option.none : Option Jvm.ClassFile.FieldType)).before a0 Z = true := hw _ (List.mem_of_getElem? (i := 222) rfl)
theorem tw223 {Z : State} {a0 : Array Value} (hw : ∀ d ∈ tables_1, d.before a0 Z = true) : (Jvm.Cond.methodLink "java/util/Arrays" (304 : Nat) ({ cls := "java/lang/Math", name := "min", desc := "(II)I" } : Jvm.MethodName)).before a0 Z = true := hw _ (List.mem_of_getElem? (i := 223) rfl)
theorem tw224 {Z : State} {a0 : Array Value} (hw : ∀ d ∈ tables_1, d.before a0 Z = true) : (Jvm.Cond.methodLink "java/util/Arrays" (150 : Nat) ({ cls := "java/lang/System", name := "arraycopy", desc := "(Ljava/lang/Object;ILjava/lang/Object;II)V" } : Jvm.MethodName)).before a0 Z = true := hw _ (List.mem_of_getElem? (i := 224) rfl)
theorem tw225 {Z : State} {a0 : Array Value} (hw : ∀ d ∈ tables_1, d.before a0 Z = true) : (Jvm.Cond.methodLink "com/example/archerfish/archerfish/MediaType" (31 : Nat) ({ cls := "java/lang/String", name := "substring", desc := "(II)Ljava/lang/String;" } : Jvm.MethodName)).before a0 Z = true := hw _ (List.mem_of_getElem? (i := 225) rfl)
theorem tw226 {Z : State} {a0 : Array Value} (hw : ∀ d ∈ tables_1, d.before a0 Z = true) : (Jvm.Cond.declares ({ cls := "java/lang/String", name := "substring", desc := "(II)Ljava/lang/String;" } : Jvm.MethodName)).before a0 Z = true := hw _ (List.mem_of_getElem? (i := 226) rfl)
theorem tw227 {Z : State} {a0 : Array Value} (hw : ∀ d ∈ tables_1, d.before a0 Z = true) : (Jvm.Cond.instanceMethod ({ cls := "java/lang/String", name := "substring", desc := "(II)Ljava/lang/String;" } : Jvm.MethodName)).before a0 Z = true := hw _ (List.mem_of_getElem? (i := 227) rfl)
theorem tw228 {Z : State} {a0 : Array Value} (hw : ∀ d ∈ tables_1, d.before a0 Z = true) : (Jvm.Cond.selects "java/lang/String" ({ cls := "java/lang/String", name := "substring", desc := "(II)Ljava/lang/String;" } : Jvm.MethodName) ({ cls := "java/lang/String", name := "substring", desc := "(II)Ljava/lang/String;" } : Jvm.MethodName)).before a0 Z = true := hw _ (List.mem_of_getElem? (i := 228) rfl)
theorem tw229 {Z : State} {a0 : Array Value} (hw : ∀ d ∈ tables_1, d.before a0 Z = true) : (Jvm.Cond.code ({ cls := "java/lang/String", name := "substring", desc := "(II)Ljava/lang/String;" } : Jvm.MethodName) jdk_42_method_92_code (5 : Nat) (Option.some (Jvm.ClassFile.FieldType.object "java/lang/String"))).before a0 Z = true := hw _ (List.mem_of_getElem? (i := 229) rfl)
theorem tw230 {Z : State} {a0 : Array Value} (hw : ∀ d ∈ tables_1, d.before a0 Z = true) : (Jvm.Cond.methodLink "java/lang/String" (521 : Nat) ({ cls := "java/lang/String", name := "checkBoundsBeginEnd", desc := "(III)V" } : Jvm.MethodName)).before a0 Z = true := hw _ (List.mem_of_getElem? (i := 230) rfl)
theorem tw231 {Z : State} {a0 : Array Value} (hw : ∀ d ∈ tables_1, d.before a0 Z = true) : (Jvm.Cond.static ({ cls := "java/lang/String", name := "checkBoundsBeginEnd", desc := "(III)V" } : Jvm.MethodName)).before a0 Z = true := hw _ (List.mem_of_getElem? (i := 231) rfl)
theorem tw232 {Z : State} {a0 : Array Value} (hw : ∀ d ∈ tables_1, d.before a0 Z = true) : (Jvm.Cond.code ({ cls := "java/lang/String", name := "checkBoundsBeginEnd", desc := "(III)V" } : Jvm.MethodName) jdk_42_method_158_code (3 : Nat) (Option.none : Option Jvm.ClassFile.FieldType)).before a0 Z = true := hw _ (List.mem_of_getElem? (i := 232) rfl)
theorem tw233 {Z : State} {a0 : Array Value} (hw : ∀ d ∈ tables_1, d.before a0 Z = true) : (Jvm.Cond.methodLink "java/lang/String" (1062 : Nat) ({ cls := "jdk/internal/util/Preconditions", name := "checkFromToIndex", desc := "(IIILjava/util/function/BiFunction;)I" } : Jvm.MethodName)).before a0 Z = true := hw _ (List.mem_of_getElem? (i := 233) rfl)
theorem tw234 {Z : State} {a0 : Array Value} (hw : ∀ d ∈ tables_1, d.before a0 Z = true) : (Jvm.Cond.static ({ cls := "jdk/internal/util/Preconditions", name := "checkFromToIndex", desc := "(IIILjava/util/function/BiFunction;)I" } : Jvm.MethodName)).before a0 Z = true := hw _ (List.mem_of_getElem? (i := 234) rfl)
theorem tw235 {Z : State} {a0 : Array Value} (hw : ∀ d ∈ tables_1, d.before a0 Z = true) : (Jvm.Cond.code ({ cls := "jdk/internal/util/Preconditions", name := "checkFromToIndex", desc := "(IIILjava/util/function/BiFunction;)I" } : Jvm.MethodName) jdk_41_method_12_code (4 : Nat) (Option.some Jvm.ClassFile.FieldType.int)).before a0 Z = true := hw _ (List.mem_of_getElem? (i := 235) rfl)
theorem tw236 {Z : State} {a0 : Array Value} (hw : ∀ d ∈ tables_1, d.before a0 Z = true) : (Jvm.Cond.methodLink "java/lang/String" (685 : Nat) ({ cls := "java/lang/StringLatin1", name := "newString", desc := "([BII)Ljava/lang/String;" } : Jvm.MethodName)).before a0 Z = true := hw _ (List.mem_of_getElem? (i := 236) rfl)
theorem tw237 {Z : State} {a0 : Array Value} (hw : ∀ d ∈ tables_1, d.before a0 Z = true) : (Jvm.Cond.stringLink "java/lang/StringLatin1" (151 : Nat) "").before a0 Z = true := hw _ (List.mem_of_getElem? (i := 237) rfl)
open Jvm.Ow (ArI WP Con)
abbrev EL1 : List (String × Nat) := consts_1
abbrev bb : Bool := false
/-- Locale.ROOT and what it holds -/
def LocOk (Z : State) (lc bl lg lv : Nat) : Prop := Sta Z Z.heap "java/util/Locale" "ROOT" "Ljava/util/Locale;" (.ref lc) ∧ Exa Z Z.heap lc "java/util/Locale" ∧ Fld Z Z.heap lc "java/util/Locale" "baseLocale" "Lsun/util/locale/BaseLocale;" (.ref bl) ∧ Exa Z Z.heap bl "sun/util/locale/BaseLocale" ∧ Fld Z Z.heap bl "sun/util/locale/BaseLocale" "language" "Ljava/lang/String;" (.ref lg) ∧ Fld Z Z.heap lg "java/lang/String" "value" "[B" (.ref lv) ∧ ∃ c : Cell, Arr Z Z.heap lv c .byte ∧ c.slots.size = 0
abbrev tRoot : Term := Term.static "java/util/Locale" "ROOT" "Ljava/util/Locale;"
abbrev tBase : Term := Term.field tRoot "java/util/Locale" "baseLocale" "Lsun/util/locale/BaseLocale;"
abbrev tLang : Term := Term.field tBase "sun/util/locale/BaseLocale" "language" "Ljava/lang/String;"
abbrev tLval : Term := Term.field tLang "java/lang/String" "value" "[B"
theorem len_if {t : Term} {args : Array Value} {s : State} {x : Addr} {cl : Cell} (ht : t.eval args s none [] s = some (.ref x)) (ha : s.arrayAt? x = some cl) : (Term.length t).eval args s none [] s = (if cl.slots.size < 2 ^ 31 then some (.int cl.slots.size.toInt32) else none) := by simp [Term.eval, ht, ha]
theorem LocOk.start {Z : State} {a0 : Array Value} (h0 : (Cond.initializedFor "java/util/Locale" "ROOT" "Ljava/util/Locale;").before a0 Z = true) (h1 : (Cond.exactly tRoot "java/util/Locale").before a0 Z = true) (h2 : (Cond.exactly tBase "sun/util/locale/BaseLocale").before a0 Z = true) (h3 : (Cond.exactly tLang "java/lang/String").before a0 Z = true) (h4 : (Cond.arrayOf tLval .byte).before a0 Z = true) (h5 : (Cond.eq (Term.length tLval) (Term.int 0)).before a0 Z = true) : ∃ lc bl lg lv : Nat, LocOk Z lc bl lg lv := by
  obtain ⟨lc, e1⟩ := exa_v (Cond.before_iff.mp h1)
  obtain ⟨bl, e2⟩ := exa_v (Cond.before_iff.mp h2)
  obtain ⟨lg, e3⟩ := exa_v (Cond.before_iff.mp h3)
  obtain ⟨lv, e4⟩ := arr_v (Cond.before_iff.mp h4)
  obtain ⟨c, A⟩ := Arr.start e4 (Cond.before_iff.mp h4)
  refine ⟨lc, bl, lg, lv, Sta.start e1 (Or.inl h0), Exa.start e1 (Cond.before_iff.mp h1), Fld.start ((fld_at e1).symm.trans e2), Exa.start e2 (Cond.before_iff.mp h2), Fld.start ((fld_at e2).symm.trans e3), Fld.start ((fld_at e3).symm.trans e4), c, A, ?_⟩
  have e5 := eqv_i (Term.int_eval (0)) (Cond.before_iff.mp h5)
  have e6 := A.fin (Vm.Alike.refl _)
  have e7 : (if c.slots.size < 2 ^ 31 then some (Value.int c.slots.size.toInt32) else none) = some (.int 0) := by
    exact (len_if e4 e6).symm.trans e5
  split at e7
  · rename_i hl
    have e8 : c.slots.size.toInt32 = 0 := by injection e7 with e7; injection e7
    have e9 := len_toInt hl
    rw [e8] at e9
    have : ((0 : Int32)).toInt = 0 := rfl
    omega
  · cases e7
def CdOk (Z : State) (ci : Nat) : Prop := Sta Z Z.heap "java/lang/CharacterDataLatin1" "instance" "Ljava/lang/CharacterDataLatin1;" (.ref ci) ∧ Exa Z Z.heap ci "java/lang/CharacterDataLatin1"
theorem CdOk.start {Z : State} {a0 : Array Value} (h0 : (Cond.initializedFor "java/lang/CharacterDataLatin1" "instance" "Ljava/lang/CharacterDataLatin1;").before a0 Z = true) (h1 : (Cond.exactly (Term.static "java/lang/CharacterDataLatin1" "instance" "Ljava/lang/CharacterDataLatin1;") "java/lang/CharacterDataLatin1").before a0 Z = true) : ∃ ci : Nat, CdOk Z ci := by
  obtain ⟨ci, e1⟩ := exa_v (Cond.before_iff.mp h1)
  exact ⟨ci, Sta.start e1 (Or.inl h0), Exa.start e1 (Cond.before_iff.mp h1)⟩

def AT : List Int32 := ((jdkStatics_1.drop 17).take 256).map fun c => match c with | Jvm.Cond.eq _ (Jvm.Term.int v) => v | _ => 0
abbrev tCA : Term := Term.static "java/lang/CharacterDataLatin1" "A" "[I"
set_option maxRecDepth 65536 in
theorem AT_len : AT.length = 256 := by decide +kernel
set_option maxRecDepth 65536 in
theorem AT_set : ∀ j : Fin 256, jdkStatics_1[17 + j.val]? = some (Cond.eq (Term.elem tCA (Term.int (Int32.ofNat j.val))) (Term.int (AT.getD j.val 0))) := by decide +kernel
set_option maxRecDepth 65536 in
theorem AT_ws0 : ∀ n : Fin 256, ((AT.getD n.val 0) &&& 28672 = 16384) ↔ Ow.wsp (Int32.ofNat n.val) := by decide +kernel
theorem AT_ws {ch : Int32} (h0 : 0 ≤ ch.toInt) (h1 : ch.toInt < 256) : ((AT.getD ch.toInt.toNat 0) &&& 28672 = 16384) ↔ Ow.wsp ch := by
  obtain ⟨n, rfl⟩ := Ow.of_range h0 h1
  rw [Ow.ofNat_toInt (by have := n.isLt; omega)]
  exact AT_ws0 n
theorem AT_start {Z : State} {a0 : Array Value} (hf : Fit Z) (hs : ∀ d ∈ jdkStatics_1, d.before a0 Z = true) (w0 : (Cond.initializedFor "java/lang/CharacterDataLatin1" "A" "[I").before a0 Z = true) (w1 : (Cond.arrayOf tCA .int).before a0 Z = true) (w2 : (Cond.eq (Term.length tCA) (Term.int 256)).before a0 Z = true) : ∃ ta : Nat, Sta Z Z.heap "java/lang/CharacterDataLatin1" "A" "[I" (.ref ta) ∧ ArI Z Z.heap ta .int AT := by
  obtain ⟨a, e, A⟩ := Ow.ArI.table (xs := AT) hf (by rw [AT_len]; decide) w1 (by rw [AT_len]; exact w2) (fun j hj => hs _ (List.mem_of_getElem? (AT_set ⟨j, by rw [AT_len] at hj; exact hj⟩)))
  exact ⟨a, Sta.start e (Or.inl w0), A⟩
def Glob (Z : State) (a0 : Array Value) : Prop := (∀ d ∈ tables_1, d.before a0 Z = true) ∧ (∃ cv : Int32, ¬ cv = 0 ∧ Sta Z Z.heap "java/lang/String" "COMPACT_STRINGS" "Z" (.int cv)) ∧ (∃ lc bl lg lv : Nat, LocOk Z lc bl lg lv) ∧ (∃ ci : Nat, CdOk Z ci) ∧ (∃ ta : Nat, Sta Z Z.heap "java/lang/CharacterDataLatin1" "A" "[I" (.ref ta) ∧ ArI Z Z.heap ta .int AT) ∧ (∃ w : Value, Sta Z Z.heap "jdk/internal/util/Preconditions" "SIOOBE_FORMATTER" "Ljava/util/function/BiFunction;" w ∧ w.isRef = true)
theorem locG {Z : State} {a0 : Array Value} (G : Glob Z a0) : ∃ lc bl lg lv : Nat, LocOk Z lc bl lg lv := G.2.2.1
theorem cdG {Z : State} {a0 : Array Value} (G : Glob Z a0) : ∃ ci : Nat, CdOk Z ci := G.2.2.2.1
theorem tabG {Z : State} {a0 : Array Value} (G : Glob Z a0) : ∃ ta : Nat, Sta Z Z.heap "java/lang/CharacterDataLatin1" "A" "[I" (.ref ta) ∧ ArI Z Z.heap ta .int AT := G.2.2.2.2.1
theorem sioG {Z : State} {a0 : Array Value} (G : Glob Z a0) : ∃ w : Value, Sta Z Z.heap "jdk/internal/util/Preconditions" "SIOOBE_FORMATTER" "Ljava/util/function/BiFunction;" w ∧ w.isRef = true := G.2.2.2.2.2
theorem ewG {Z : State} {a0 : Array Value} (G : Glob Z a0) : EW Z a0 EL1 := EW.cons (tw181 G.1) (by decide) (EW.cons (tw191 G.1) (by decide) (EW.cons (tw0 G.1) (by decide) (EW.cons (tw206 G.1) (by decide) (EW.cons (tw237 G.1) (by decide) (EW.cons (tw170 G.1) (by decide) (EW.cons (tw171 G.1) (by decide) (EW.cons (tw172 G.1) (by decide) EW.nil)))))))
theorem saG {Z : State} {a0 : Array Value} (G : Glob Z a0) : bb = false → ∀ a ∈ Bundle.stringAtoms, a.before a0 Z = true := fun _ a ha => G.1 a ((by decide +kernel : ∀ a ∈ Bundle.stringAtoms, a ∈ tables_1) a ha)
theorem bbG : bb = true → EL1 = [] := fun q => nomatch q
section StrL
variable {l : Launch} {Z : State} {a0 : Array Value}
abbrev rm0 : Room := { frames := 0, cells := 0, slots := 0, locals := 0 }
set_option maxHeartbeats 4000000 in
theorem con_CL (G : Glob Z a0) (x y : Nat) (xs : List Int32) (h : Heap) (W : List Nat) (X : ArI Z h x .char xs) (Y : ArI Z h y .byte (List.replicate xs.length 0)) (hy : y ∈ W) (hxy : x ≠ y) :
    Ow.Con l Z EL1 bb (⟨"java/lang/StringUTF16", "compress", "([CI[BII)I"⟩ : MethodName) jdk_52_method_21_code 7 (Option.some Jvm.ClassFile.FieldType.int) [] rm0 #[.ref x, .int 0, .ref y, .int 0, .int (Int32.ofNat xs.length)] h W
      (fun v h' W' => v = some (.int (Int32.ofNat (Ow.lead xs))) ∧ Keep h h' [y] ∧ (Ow.lead xs = xs.length → ArI Z h' y .byte (xs.map (nar .byte)))) := by
  refine Ow.Con.intro (a0 := a0) pn_0 (ewG G) (saG G) bbG [.val (.ref x), .val (.int 0), .val (.ref y), .val (.int 0), .val (.int (Int32.ofNat xs.length)), .unset, .unset] (by first | exact Ow.locals_all (by simp [Value.category]) rfl | rfl | (simp [argsToLocals, Value.category]; done)) ?_
  intro p e s m below meth c C hO
  have hN : xs.length < 2 ^ 31 := X.2
  have loop : ∀ (r i : Nat) (h1 : Heap) (o6 : Slot), i + r = xs.length → (∀ j, j < i → (xs.getD j 0).toInt < 256) → Keep h h1 [y] → ArI Z h1 y .byte ((xs.take i).map (nar .byte) ++ List.replicate r 0) → Ow.okS (some o6) = true →
      Ow.WP p l e rm0 s m #[.ref x, .int 0, .ref y, .int 0, .int (Int32.ofNat xs.length)] below meth c Z EL1 bb (fun v h' W' => v = some (.int (Int32.ofNat (Ow.lead xs))) ∧ Keep h h' [y] ∧ (Ow.lead xs = xs.length → ArI Z h' y .byte (xs.map (nar .byte))))
        3 [.val (.ref x), .val (.int (Int32.ofNat i)), .val (.ref y), .val (.int (Int32.ofNat i)), .val (.int (Int32.ofNat xs.length)), .val (.int (Int32.ofNat i)), o6] [] h1 W 0 0 := by
    intro r
    induction r with
    | zero =>
      intro i h1 o6 hi hq K V ho6
      obtain rfl : i = xs.length := by omega
      refine Ow.iload C dCL_3 (pc' := 5) rfl rfl ?_
      refine Ow.iload C dCL_5 (pc' := 7) rfl rfl ?_
      refine Ow.icmpY C 44 dCL_7 (XT.ii_ge_t (by rw [Ow.lt32]; omega)) (by decide) (by decide) ?_
      refine Ow.iload C dCL_44 (pc' := 46) rfl rfl ?_
      have hl : Ow.lead xs = xs.length := Ow.lead_all fun z hz => by
        obtain ⟨j, hj, rfl⟩ := List.mem_iff_getElem.mp hz
        have := hq j hj
        simpa [List.getD_eq_getElem?_getD, hj] using this
      refine Ow.retI C rfl dCL_46 (by first | decide | (dsimp only; omega) | (simp [Value.category]; done) | (simp [Value.category]; omega)) (by first | decide | (dsimp only; omega) | (simp [Value.category]; done) | (simp [Value.category]; omega)) [] (by simp) ⟨by rw [hl], K, fun _ => by simpa using V⟩
    | succ r ih =>
      intro i h1 o6 hi hq K V ho6
      have hlt : i < xs.length := by omega
      have X1 := X.keep K (Ow.nin1 hxy)
      refine Ow.iload C dCL_3 (pc' := 5) rfl rfl ?_
      refine Ow.iload C dCL_5 (pc' := 7) rfl rfl ?_
      refine Ow.icmpN C dCL_7 (pc' := 10) rfl (XT.ii_ge_f (by rw [Ow.lt32, Ow.ofNat_toInt (by omega), Ow.ofNat_toInt hN]; omega)) ?_
      refine Ow.aloadN C dCL_10 (pc' := 11) rfl rfl rfl ?_
      refine Ow.iloadN C dCL_11 (pc' := 12) rfl rfl ?_
      refine Ow.caload C X1 (i := i) (Ow.ofNat_toInt (by omega)) hlt dCL_12 (pc' := 13) rfl ?_
      refine Ow.istore C dCL_13 (pc' := 15) rfl ho6 ?_
      dsimp only [List.set]
      refine Ow.iload C dCL_15 (pc' := 17) rfl rfl ?_
      refine Ow.sipush C (255 : Int32) dCL_17 (pc' := 20) rfl rfl ?_
      refine Ow.icmp C 26 23 dCL_20 (Ow.kLe _ _) (by decide) (by decide) rfl (fun hc => ?_) (fun hc => ?_)
      · have hc' : (xs.getD i 0).toInt < 256 := by rw [Ow.lt32] at hc; have : ((255 : Int32)).toInt = 255 := rfl; omega
        refine Ow.aloadN C dCL_26 (pc' := 27) rfl rfl rfl ?_
        refine Ow.iloadN C dCL_27 (pc' := 28) rfl rfl ?_
        refine Ow.iload C dCL_28 (pc' := 30) rfl rfl ?_
        refine Ow.i2b C dCL_30 (pc' := 31) rfl ?_
        refine Ow.bastore C V (i := i) (Ow.ofNat_toInt (by omega)) (by simp; omega) hy dCL_31 (pc' := 32) rfl (fun h2 K2 V2 => ?_)
        rw [show nar .byte (nar .byte (xs.getD i 0)) = nar .byte (xs.getD i 0) from Ow.i32_ext (by have h1 := Ow.nar_byte (nar .byte (xs.getD i 0)); have h2 := Ow.nar_byte (xs.getD i 0); omega)] at V2
        rw [Ow.take_step hlt] at V2
        refine Ow.iinc C (1 : Int32) dCL_32 (pc' := 35) rfl rfl rfl ?_
        dsimp only [List.set]
        refine Ow.iinc C (1 : Int32) dCL_35 (pc' := 38) rfl rfl rfl ?_
        dsimp only [List.set]
        refine Ow.iinc C (1 : Int32) dCL_38 (pc' := 41) rfl rfl rfl ?_
        dsimp only [List.set]
        refine Ow.goto C 3 dCL_41 (by decide) (by decide) ?_
        rw [← inc_ofNat]
        exact ih (i + 1) h2 _ (by omega) (fun j hj => by
          rcases Nat.lt_succ_iff_lt_or_eq.mp hj with q | rfl
          · exact hq j q
          · exact hc') (K.trans K2 (fun x hx => Or.inl hx)) V2 rfl
      · have hc' : ¬ (xs.getD i 0).toInt < 256 := by rw [Ow.lt32] at hc; have : ((255 : Int32)).toInt = 255 := rfl; omega
        refine Ow.iload C dCL_23 (pc' := 25) rfl rfl ?_
        have hl := Ow.lead_at hlt hq hc'
        refine Ow.retI C rfl dCL_25 (by first | decide | (dsimp only; omega) | (simp [Value.category]; done) | (simp [Value.category]; omega)) (by first | decide | (dsimp only; omega) | (simp [Value.category]; done) | (simp [Value.category]; omega)) [] (by simp) ⟨by rw [hl], K, fun q => by omega⟩
  refine Ow.iconst C (0 : Int32) dCL_0 (pc' := 1) rfl rfl ?_
  refine Ow.istore C dCL_1 (pc' := 3) rfl rfl ?_
  dsimp only [List.set]
  exact loop xs.length 0 h .unset (by omega) (fun j hj => by omega) (Keep.refl _ _) (by simpa using Y) rfl
abbrev rmCM (B : Nat) : Room := { frames := 1, cells := 1, slots := B, locals := 18 }
set_option maxHeartbeats 4000000 in
theorem con_CM (G : Glob Z a0) (B : Nat) (x : Nat) (xs : List Int32) (h : Heap) (W : List Nat) (X : ArI Z h x .char xs) (hL : ∀ z ∈ xs, 0 ≤ z.toInt ∧ z.toInt < 256) (hB : xs.length ≤ B) (hB2 : B ≤ 4000) :
    Ow.Con l Z EL1 bb (⟨"java/lang/StringUTF16", "compress", "([CII)[B"⟩ : MethodName) jdk_52_method_16_code 6 (Option.some (Jvm.ClassFile.FieldType.array Jvm.ClassFile.FieldType.byte)) [] (rmCM B) #[.ref x, .int 0, .int (Int32.ofNat xs.length)] h W
      (fun v h' W' => ∃ y : Nat, v = some (.ref y) ∧ h.size ≤ y ∧ Keep h h' [] ∧ ArI Z h' y .byte (xs.map (nar .byte))) := by
  refine Ow.Con.intro (a0 := a0) pn_1 (ewG G) (saG G) bbG [.val (.ref x), .val (.int 0), .val (.int (Int32.ofNat xs.length)), .unset, .unset, .unset] (by first | exact Ow.locals_all (by simp [Value.category]) rfl | rfl | (simp [argsToLocals, Value.category]; done)) ?_
  intro p e s m below meth c C hO
  have hx : x < h.size := X.lt
  refine Ow.iloadN C dCM_0 (pc' := 1) rfl rfl ?_
  refine Ow.newarr C (ty := .byte) (cap := xs.length) rfl rfl (tw3 G.1) dCM_1 (pc' := 3) rfl rfl (by omega) (by dsimp only; omega) (by dsimp only; omega) (fun h1 a1 s1 z1 l1 E1 V1 => ?_)
  refine Ow.astoreN C dCM_3 (pc' := 4) rfl rfl rfl ?_
  dsimp only [List.set]
  refine Ow.aloadN C dCM_4 (pc' := 5) rfl rfl rfl ?_
  refine Ow.iloadN C dCM_5 (pc' := 6) rfl rfl ?_
  refine Ow.aloadN C dCM_6 (pc' := 7) rfl rfl rfl ?_
  refine Ow.iconst C (0 : Int32) dCM_7 (pc' := 8) rfl rfl ?_
  refine Ow.iloadN C dCM_8 (pc' := 9) rfl rfl ?_
  refine Ow.callS C (tw70 G.1) (tw71 G.1) (tw68 G.1) (tw72 G.1) (by decide) (con_CL G x a1 xs h1 (a1 :: W) (X.ext E1) V1 (by simp) (by omega)) (fun _ q => q) pd_0 rfl rfl rfl dCM_9 (pc' := 12) rfl (Wt := 0) (Nat.le_refl _) (by first | decide | (dsimp only; omega) | (simp [Value.category]; done) | (simp [Value.category]; omega)) (by first | decide | (dsimp only; omega) | (simp [Value.category]; done) | (simp [Value.category]; omega)) (by first | decide | (dsimp only; omega) | (simp [Value.category]; done) | (simp [Value.category]; omega)) (by first | decide | (dsimp only; omega) | (simp [Value.category]; done) | (simp [Value.category]; omega)) (fun v2 h2 W2 ⟨e2, K2, V2⟩ s2 => ?_)
  subst e2
  have hl : Ow.lead xs = xs.length := Ow.lead_all fun z hz => (hL z hz).2
  rw [hl]
  dsimp only [Option.toList, List.cons_append, List.nil_append]
  refine Ow.istore C dCM_12 (pc' := 14) rfl rfl ?_
  dsimp only [List.set]
  refine Ow.iload C dCM_14 (pc' := 16) rfl rfl ?_
  refine Ow.iloadN C dCM_16 (pc' := 17) rfl rfl ?_
  refine Ow.icmpY C 57 dCM_17 (XT.ii_eq_t rfl) (by decide) (by decide) ?_
  refine Ow.aloadN C dCM_57 (pc' := 58) rfl rfl rfl ?_
  refine Ow.retA C rfl rfl rfl dCM_58 (by first | decide | (dsimp only; omega) | (simp [Value.category]; done) | (simp [Value.category]; omega)) (by first | decide | (dsimp only; omega) | (simp [Value.category]; done) | (simp [Value.category]; omega)) [] (by simp) ⟨a1, rfl, by omega, (Ow.Keep.z E1).trans K2 (fun z hz => Or.inr (by rw [List.mem_singleton.mp hz]; omega)), V2 hl⟩
theorem con_CF (G : Glob Z a0) (y : Nat) (ty : FieldType) (ys : List Int32) (N : Nat) (h : Heap) (W : List Nat) (Y : ArI Z h y ty ys) :
    Ow.Con l Z EL1 bb (⟨"java/lang/StringUTF16", "coderFromArrayLen", "([BI)B"⟩ : MethodName) jdk_52_method_15_code 2 (Option.some Jvm.ClassFile.FieldType.byte) [] rm0 #[.ref y, .int (Int32.ofNat N)] h W
      (fun v h' W' => v = some (.int (nar .byte (nar .byte (((Int32.ofNat N - Int32.ofNat ys.length).toUInt32 >>> ((31 : Int32) &&& 31).toUInt32).toInt32)))) ∧ h' = h) := by
  refine Ow.Con.intro (a0 := a0) pn_2 (ewG G) (saG G) bbG [.val (.ref y), .val (.int (Int32.ofNat N))] (by first | exact Ow.locals_all (by simp [Value.category]) rfl | rfl | (simp [argsToLocals, Value.category]; done)) ?_
  intro p e s m below meth c C hO
  refine Ow.iloadN C dCF_0 (pc' := 1) rfl rfl ?_
  refine Ow.aloadN C dCF_1 (pc' := 2) rfl rfl rfl ?_
  refine Ow.arrlen C Y dCF_2 (pc' := 3) rfl ?_
  refine Ow.isub C dCF_3 (pc' := 4) rfl ?_
  refine Ow.bipush C (31 : Int32) dCF_4 (pc' := 6) rfl rfl ?_
  refine Ow.iushr C dCF_6 (pc' := 7) rfl ?_
  refine Ow.i2b C dCF_7 (pc' := 8) rfl ?_
  refine Ow.retN C (t := .byte) rfl (by simp) dCF_8 (by first | decide | (dsimp only; omega) | (simp [Value.category]; done) | (simp [Value.category]; omega)) (by first | decide | (dsimp only; omega) | (simp [Value.category]; done) | (simp [Value.category]; omega)) [] (by simp) ⟨rfl, rfl⟩
theorem cf_lat (N : Nat) : nar .byte (nar .byte (((Int32.ofNat N - Int32.ofNat N).toUInt32 >>> ((31 : Int32) &&& 31).toUInt32).toInt32)) = 0 := by
  rw [Int32.sub_self]; decide
abbrev rmI1 (B : Nat) : Room := { frames := 2, cells := 1, slots := B, locals := 35 }
set_option maxHeartbeats 4000000 in
theorem con_I1 (G : Glob Z a0) (B : Nat) (a x : Nat) (xs : List Int32) (h : Heap) (W : List Nat) (ov oc : Value) (A : Exa Z h a "java/lang/String") (Fv : Fld Z h a "java/lang/String" "value" "[B" ov) (Fc : Fld Z h a "java/lang/String" "coder" "B" oc) (ha : a ∈ W) (X : ArI Z h x .char xs) (h0 : 0 < xs.length) (hL : ∀ z ∈ xs, 0 ≤ z.toInt ∧ z.toInt < 256) (hB : xs.length ≤ B) (hB2 : B ≤ 4000) :
    Ow.Con l Z EL1 bb (⟨"java/lang/String", "<init>", "([CIILjava/lang/Void;)V"⟩ : MethodName) jdk_42_method_149_code 6 (Option.none : Option Jvm.ClassFile.FieldType) [] (rmI1 B) #[.ref a, .ref x, .int 0, .int (Int32.ofNat xs.length), .null] h W
      (fun v h' W' => v = none ∧ ∃ d : Nat, Ow.StrL Z h' a d xs ∧ Keep h h' [a] ∧ h.size ≤ d) := by
  obtain ⟨cv, hcv, hst⟩ := G.2.1
  refine Ow.Con.intro (a0 := a0) pn_3 (ewG G) (saG G) bbG [.val (.ref a), .val (.ref x), .val (.int 0), .val (.int (Int32.ofNat xs.length)), .val .null, .unset] (by first | exact Ow.locals_all (by simp [Value.category]) rfl | rfl | (simp [argsToLocals, Value.category]; done)) ?_
  intro p e s m below meth c C hO
  have hN : xs.length < 2 ^ 31 := X.2
  have haL : a < h.size := A.lt
  refine Ow.aloadN C dI1_0 (pc' := 1) rfl rfl rfl ?_
  refine Ow.initO C (tw63 G.1) (tw64 G.1) (tw65 G.1) dI1_1 (pc' := 4) rfl rfl (by first | decide | (dsimp only; omega) | (simp [Value.category]; done) | (simp [Value.category]; omega)) (by first | decide | (dsimp only; omega) | (simp [Value.category]; done) | (simp [Value.category]; omega)) ?_
  refine Ow.iloadN C dI1_4 (pc' := 5) rfl rfl ?_
  refine Ow.ifCY C 27 dI1_5 (XT.i0_ne_t (fun q => by have := Ow.ofNat_toInt hN; rw [q] at this; have e0 : ((0 : Int32)).toInt = 0 := rfl; omega)) (by decide) (by decide) ?_
  refine Ow.getS C (tw19 G.1) hst dI1_27 (pc' := 30) rfl ?_
  refine Ow.ifCN C dI1_30 (pc' := 33) rfl (XT.i0_eq_f hcv) ?_
  refine Ow.aloadN C dI1_33 (pc' := 34) rfl rfl rfl ?_
  refine Ow.iloadN C dI1_34 (pc' := 35) rfl rfl ?_
  refine Ow.iloadN C dI1_35 (pc' := 36) rfl rfl ?_
  refine Ow.callS C (tw66 G.1) (tw67 G.1) (tw68 G.1) (tw69 G.1) (by decide) (con_CM G B x xs h W X hL hB hB2) (fun _ q => q) pd_1 rfl rfl rfl dI1_36 (pc' := 39) rfl (Wt := 0) (Nat.le_refl _) (by first | decide | (dsimp only; omega) | (simp [Value.category]; done) | (simp [Value.category]; omega)) (by first | decide | (dsimp only; omega) | (simp [Value.category]; done) | (simp [Value.category]; omega)) (by first | decide | (dsimp only; omega) | (simp [Value.category]; done) | (simp [Value.category]; omega)) (by first | decide | (dsimp only; omega) | (simp [Value.category]; done) | (simp [Value.category]; omega)) (fun v2 h2 W2 ⟨d, e2, hd, K2, V2⟩ s2 => ?_)
  subst e2
  dsimp only [Option.toList, List.cons_append, List.nil_append]
  refine Ow.astore C dI1_39 (pc' := 41) rfl rfl rfl ?_
  dsimp only [List.set]
  refine Ow.aloadN C dI1_41 (pc' := 42) rfl rfl rfl ?_
  refine Ow.aload C dI1_42 (pc' := 44) rfl rfl rfl ?_
  refine Ow.iloadN C dI1_44 (pc' := 45) rfl rfl ?_
  refine Ow.callS C (tw73 G.1) (tw74 G.1) (tw68 G.1) (tw75 G.1) (by decide) (con_CF G d .byte (xs.map (nar .byte)) xs.length h2 W V2) (fun _ q => q) pd_2 rfl rfl rfl dI1_45 (pc' := 48) rfl (Wt := 1) (Nat.le_refl _) (by first | decide | (dsimp only; omega) | (simp [Value.category]; done) | (simp [Value.category]; omega)) (by first | decide | (dsimp only; omega) | (simp [Value.category]; done) | (simp [Value.category]; omega)) (by first | decide | (dsimp only; omega) | (simp [Value.category]; done) | (simp [Value.category]; omega)) (by first | decide | (dsimp only; omega) | (simp [Value.category]; done) | (simp [Value.category]; omega)) (fun v3 h3 W3 ⟨e3, e3'⟩ s3 => ?_)
  subst e3 e3'
  rw [List.length_map, cf_lat]
  dsimp only [Option.toList, List.cons_append, List.nil_append]
  have A2 := A.keep K2
  have Fc2 := Fc.keep K2 nin0
  have Fv2 := Fv.keep K2 nin0
  refine Ow.putF C (tw20 G.1) Fc2 A2 (Or.inr ⟨(tw5 G.1), rfl, rfl⟩) (tw2 G.1) (ty := .byte) (by decide) rfl rfl (by first | assumption | (simp; done) | (simp [*]; done)) dI1_48 (pc' := 51) rfl (fun h4 w4 K4 Fc4 => ?_)
  have Fv4 := Fv2.other w4 (Or.inr (slot_ne (Or.inr (tw4 G.1)) (Or.inr (tw5 G.1)) (by decide) (t := .array .byte) (t' := .byte) (by decide) (by decide)))
  have A4 := A2.keep K4
  have V4 := V2.keep K4 (Ow.nin1 (by omega))
  refine Ow.aloadN C dI1_51 (pc' := 52) rfl rfl rfl ?_
  refine Ow.aload C dI1_52 (pc' := 54) rfl rfl rfl ?_
  refine Ow.putF C (tw13 G.1) Fv4 A4 (Or.inr ⟨(tw4 G.1), rfl, rfl⟩) (tw2 G.1) (ty := (.array .byte)) (by decide) rfl rfl (by first | assumption | (simp; done) | (simp [*]; done)) dI1_54 (pc' := 57) rfl (fun h5 w5 K5 Fv5 => ?_)
  have Fc5 := Fc4.other w5 (Or.inr (slot_ne (Or.inr (tw5 G.1)) (Or.inr (tw4 G.1)) (by decide) (t := .byte) (t' := .array .byte) (by decide) (by decide)))
  have V5 := V4.keep K5 (Ow.nin1 (by omega))
  refine Ow.retV C rfl dI1_57 (by first | decide | (dsimp only; omega) | (simp [Value.category]; done) | (simp [Value.category]; omega)) (by first | decide | (dsimp only; omega) | (simp [Value.category]; done) | (simp [Value.category]; omega)) [] (by simp) ⟨rfl, d, ⟨A4.keep K5, Fv5, Fc5, V5, hL⟩, (((Keep.refl h [a]).trans K2 (fun z hz => by cases hz)).trans K4 (fun z hz => Or.inl hz)).trans K5 (fun z hz => Or.inl hz), hd⟩
abbrev rmI0 (B : Nat) : Room := { frames := 3, cells := 1, slots := B, locals := 52 }
set_option maxHeartbeats 4000000 in
theorem con_I0 (G : Glob Z a0) (B : Nat) (a x : Nat) (xs : List Int32) (h : Heap) (W : List Nat) (ov oc : Value) (A : Exa Z h a "java/lang/String") (Fv : Fld Z h a "java/lang/String" "value" "[B" ov) (Fc : Fld Z h a "java/lang/String" "coder" "B" oc) (ha : a ∈ W) (X : ArI Z h x .char xs) (h0 : 0 < xs.length) (hL : ∀ z ∈ xs, 0 ≤ z.toInt ∧ z.toInt < 256) (hB : xs.length ≤ B) (hB2 : B ≤ 4000) :
    Ow.Con l Z EL1 bb (⟨"java/lang/String", "<init>", "([C)V"⟩ : MethodName) jdk_42_method_3_code 2 (Option.none : Option Jvm.ClassFile.FieldType) [] (rmI0 B) #[.ref a, .ref x] h W
      (fun v h' W' => v = none ∧ ∃ d : Nat, Ow.StrL Z h' a d xs ∧ Keep h h' [a] ∧ h.size ≤ d) := by
  refine Ow.Con.intro (a0 := a0) pn_4 (ewG G) (saG G) bbG [.val (.ref a), .val (.ref x)] (by first | exact Ow.locals_all (by simp [Value.category]) rfl | rfl | (simp [argsToLocals, Value.category]; done)) ?_
  intro p e s m below meth c C hO
  refine Ow.aloadN C dI0_0 (pc' := 1) rfl rfl rfl ?_
  refine Ow.aloadN C dI0_1 (pc' := 2) rfl rfl rfl ?_
  refine Ow.iconst C (0 : Int32) dI0_2 (pc' := 3) rfl rfl ?_
  refine Ow.aloadN C dI0_3 (pc' := 4) rfl rfl rfl ?_
  refine Ow.arrlen C X dI0_4 (pc' := 5) rfl ?_
  refine Ow.aconstNull C dI0_5 (pc' := 6) rfl ?_
  refine Ow.callI C rfl (tw59 G.1) (tw60 G.1) (tw1 G.1) (tw62 G.1) (by decide) (con_I1 G B a x xs h W ov oc A Fv Fc ha X h0 hL hB hB2) (fun _ q => q) pd_3 rfl rfl rfl dI0_6 (pc' := 9) rfl (Wt := 0) (Nat.le_refl _) (by first | decide | (dsimp only; omega) | (simp [Value.category]; done) | (simp [Value.category]; omega)) (by first | decide | (dsimp only; omega) | (simp [Value.category]; done) | (simp [Value.category]; omega)) (by first | decide | (dsimp only; omega) | (simp [Value.category]; done) | (simp [Value.category]; omega)) (by first | decide | (dsimp only; omega) | (simp [Value.category]; done) | (simp [Value.category]; omega)) (fun v2 h2 W2 ⟨e2, d, S2, K2, hd⟩ s2 => ?_)
  subst e2
  dsimp only [Option.toList, List.cons_append, List.nil_append]
  refine Ow.retV C rfl dI0_9 (by first | decide | (dsimp only; omega) | (simp [Value.category]; done) | (simp [Value.category]; omega)) (by first | decide | (dsimp only; omega) | (simp [Value.category]; done) | (simp [Value.category]; omega)) [] (by simp) ⟨rfl, d, S2, K2, hd⟩
end StrL

section StrCO
variable {l : Launch} {Z : State} {a0 : Array Value}
theorem con_CO (G : Glob Z a0) (a : Nat) (cd : Int32) (h : Heap) (W : List Nat) (F : Fld Z h a "java/lang/String" "coder" "B" (.int cd)) :
    Ow.Con l Z EL1 bb (⟨"java/lang/String", "coder", "()B"⟩ : MethodName) jdk_42_method_152_code 1 (Option.some Jvm.ClassFile.FieldType.byte) [] rm0 #[.ref a] h W (fun v h' W' => v = some (.int (nar .byte cd)) ∧ h' = h) := by
  obtain ⟨cv, hcv, hst⟩ := G.2.1
  refine Ow.Con.intro (a0 := a0) pn_5 (ewG G) (saG G) bbG [.val (.ref a)] (by first | exact Ow.locals_all (by simp [Value.category]) rfl | rfl | (simp [argsToLocals, Value.category]; done)) ?_
  intro p e s m below meth c C hO
  refine Ow.getS C (tw19 G.1) hst dCO_0 (pc' := 3) rfl ?_
  refine Ow.ifCN C dCO_3 (pc' := 6) rfl (XT.i0_eq_f hcv) ?_
  refine Ow.aloadN C dCO_6 (pc' := 7) rfl rfl rfl ?_
  refine Ow.getF C (tw20 G.1) F dCO_7 (pc' := 10) rfl ?_
  refine Ow.goto C 14 dCO_10 (by decide) (by decide) ?_
  refine Ow.retN C (t := .byte) rfl (by simp) dCO_14 (by first | decide | (dsimp only; omega) | (simp [Value.category]; done) | (simp [Value.category]; omega)) (by first | decide | (dsimp only; omega) | (simp [Value.category]; done) | (simp [Value.category]; omega)) [] (by simp) ⟨rfl, rfl⟩
theorem shr0 (x : Int32) : x >>> (nar .byte 0 &&& 31) = x := by
  apply Ow.i32_ext
  have := c_ishr x (nar .byte 0) 0 (by decide)
  rw [this]; simp
abbrev rmLN : Room := { frames := 1, cells := 0, slots := 0, locals := 13 }
theorem con_LN (G : Glob Z a0) (a d : Nat) (cs : List Int32) (h : Heap) (W : List Nat) (S : Ow.StrL Z h a d cs) :
    Ow.Con l Z EL1 bb (⟨"java/lang/String", "length", "()I"⟩ : MethodName) jdk_42_method_54_code 1 (Option.some Jvm.ClassFile.FieldType.int) [] rmLN #[.ref a] h W (fun v h' W' => v = some (.int (Int32.ofNat cs.length)) ∧ h' = h) := by
  refine Ow.Con.intro (a0 := a0) pn_6 (ewG G) (saG G) bbG [.val (.ref a)] (by first | exact Ow.locals_all (by simp [Value.category]) rfl | rfl | (simp [argsToLocals, Value.category]; done)) ?_
  intro p e s m below meth c C hO
  refine Ow.aloadN C dLN_0 (pc' := 1) rfl rfl rfl ?_
  refine Ow.getF C (tw13 G.1) S.2.1 dLN_1 (pc' := 4) rfl ?_
  refine Ow.arrlen C S.2.2.2.1 dLN_4 (pc' := 5) rfl ?_
  refine Ow.aloadN C dLN_5 (pc' := 6) rfl rfl rfl ?_
  refine Ow.callV C (y := (⟨"java/lang/String", "coder", "()B"⟩ : MethodName)) (z := (⟨"java/lang/String", "coder", "()B"⟩ : MethodName)) (tw14 G.1) (tw15 G.1) (tw17 G.1) (tw17 G.1) (tw16 G.1) (tw1 G.1) (tw18 G.1) (by decide) S.1 (con_CO G a 0 h W S.2.2.1) (fun _ q => q) pd_4 rfl rfl rfl dLN_6 (pc' := 9) rfl (Wt := 1) (Nat.le_refl _) (by first | decide | (dsimp only; omega) | (simp [Value.category]; done) | (simp [Value.category]; omega)) (by first | decide | (dsimp only; omega) | (simp [Value.category]; done) | (simp [Value.category]; omega)) (by first | decide | (dsimp only; omega) | (simp [Value.category]; done) | (simp [Value.category]; omega)) (by first | decide | (dsimp only; omega) | (simp [Value.category]; done) | (simp [Value.category]; omega)) (fun v1 h1 W1 ⟨e1, e1'⟩ s1 => ?_)
  subst e1 e1'
  dsimp only [Option.toList, List.cons_append, List.nil_append]
  refine Ow.ishr C dLN_9 (pc' := 10) rfl ?_
  rw [shr0]
  refine Ow.retI C rfl dLN_10 (by first | decide | (dsimp only; omega) | (simp [Value.category]; done) | (simp [Value.category]; omega)) (by first | decide | (dsimp only; omega) | (simp [Value.category]; done) | (simp [Value.category]; omega)) [] (by simp) ⟨by rw [List.length_map], rfl⟩
end StrCO

section MathMM
variable {l : Launch} {Z : State} {a0 : Array Value}
theorem con_MN (G : Glob Z a0) (x y : Int32) (h : Heap) (W : List Nat) : Ow.Con l Z EL1 bb (⟨"java/lang/Math", "min", "(II)I"⟩ : MethodName) jdk_29_method_69_code 2 (Option.some Jvm.ClassFile.FieldType.int) [] rm0 #[.int x, .int y] h W (fun v h' W' => v = some (.int (if y < x then y else x)) ∧ h' = h) := by
  refine Ow.Con.intro (a0 := a0) pn_7 (ewG G) (saG G) bbG [.val (.int x), .val (.int y)] (by first | exact Ow.locals_all (by simp [Value.category]) rfl | rfl | (simp [argsToLocals, Value.category]; done)) ?_
  intro p e s m below meth c C hO
  refine Ow.iloadN C dMN_0 (pc' := 1) rfl rfl ?_
  refine Ow.iloadN C dMN_1 (pc' := 2) rfl rfl ?_
  refine Ow.icmp C 9 5 dMN_2 (Ow.kGt _ _) (by decide) (by decide) rfl (fun hc => ?_) (fun hc => ?_)
  · refine Ow.iloadN C dMN_9 (pc' := 10) rfl rfl ?_
    refine Ow.retI C rfl dMN_10 (by first | decide | (dsimp only; omega) | (simp [Value.category]; done) | (simp [Value.category]; omega)) (by first | decide | (dsimp only; omega) | (simp [Value.category]; done) | (simp [Value.category]; omega)) [] (by simp) ⟨by rw [if_pos hc], rfl⟩
  · refine Ow.iloadN C dMN_5 (pc' := 6) rfl rfl ?_
    refine Ow.goto C 10 dMN_6 (by decide) (by decide) ?_
    refine Ow.retI C rfl dMN_10 (by first | decide | (dsimp only; omega) | (simp [Value.category]; done) | (simp [Value.category]; omega)) (by first | decide | (dsimp only; omega) | (simp [Value.category]; done) | (simp [Value.category]; omega)) [] (by simp) ⟨by rw [if_neg hc], rfl⟩
theorem con_MX (G : Glob Z a0) (x y : Int32) (h : Heap) (W : List Nat) : Ow.Con l Z EL1 bb (⟨"java/lang/Math", "max", "(II)I"⟩ : MethodName) jdk_29_method_65_code 2 (Option.some Jvm.ClassFile.FieldType.int) [] rm0 #[.int x, .int y] h W (fun v h' W' => v = some (.int (if x < y then y else x)) ∧ h' = h) := by
  refine Ow.Con.intro (a0 := a0) pn_8 (ewG G) (saG G) bbG [.val (.int x), .val (.int y)] (by first | exact Ow.locals_all (by simp [Value.category]) rfl | rfl | (simp [argsToLocals, Value.category]; done)) ?_
  intro p e s m below meth c C hO
  refine Ow.iloadN C dMX_0 (pc' := 1) rfl rfl ?_
  refine Ow.iloadN C dMX_1 (pc' := 2) rfl rfl ?_
  refine Ow.icmp C 9 5 dMX_2 (Ow.kLt _ _) (by decide) (by decide) rfl (fun hc => ?_) (fun hc => ?_)
  · refine Ow.iloadN C dMX_9 (pc' := 10) rfl rfl ?_
    refine Ow.retI C rfl dMX_10 (by first | decide | (dsimp only; omega) | (simp [Value.category]; done) | (simp [Value.category]; omega)) (by first | decide | (dsimp only; omega) | (simp [Value.category]; done) | (simp [Value.category]; omega)) [] (by simp) ⟨by rw [if_pos hc], rfl⟩
  · refine Ow.iloadN C dMX_5 (pc' := 6) rfl rfl ?_
    refine Ow.goto C 10 dMX_6 (by decide) (by decide) ?_
    refine Ow.retI C rfl dMX_10 (by first | decide | (dsimp only; omega) | (simp [Value.category]; done) | (simp [Value.category]; omega)) (by first | decide | (dsimp only; omega) | (simp [Value.category]; done) | (simp [Value.category]; omega)) [] (by simp) ⟨by rw [if_neg hc], rfl⟩
end MathMM

section StrCE
variable {l : Launch} {Z : State} {a0 : Array Value}
theorem con_CE (G : Glob Z a0) (ch : Int32) (h0 : 0 ≤ ch.toInt) (h : Heap) (W : List Nat) : Ow.Con l Z EL1 bb (⟨"java/lang/StringLatin1", "canEncode", "(I)Z"⟩ : MethodName) jdk_43_method_4_code 1 (Option.some Jvm.ClassFile.FieldType.boolean) [] rm0 #[.int ch] h W (fun v h' W' => v = some (.int (if ch.toInt < 256 then 1 else 0)) ∧ h' = h) := by
  refine Ow.Con.intro (a0 := a0) pn_9 (ewG G) (saG G) bbG [.val (.int ch)] (by first | exact Ow.locals_all (by simp [Value.category]) rfl | rfl | (simp [argsToLocals, Value.category]; done)) ?_
  intro p e s m below meth c C hO
  refine Ow.iloadN C dCE_0 (pc' := 1) rfl rfl ?_
  refine Ow.ifCN C dCE_1 (pc' := 4) rfl (XT.i0_lt_f (by rw [Ow.lt32]; rw [Ow.zero_toInt]; omega)) ?_
  refine Ow.iloadN C dCE_4 (pc' := 5) rfl rfl ?_
  refine Ow.sipush C (255 : Int32) dCE_5 (pc' := 8) rfl rfl ?_
  have e255 : ((255 : Int32)).toInt = 255 := rfl
  refine Ow.icmp C 15 11 dCE_8 (Ow.kGt _ _) (by decide) (by decide) rfl (fun hc => ?_) (fun hc => ?_)
  · rw [Ow.lt32] at hc
    refine Ow.iconst C (0 : Int32) dCE_15 (pc' := 16) rfl rfl ?_
    refine Ow.retN C (t := .boolean) rfl (by simp) dCE_16 (by first | decide | (dsimp only; omega) | (simp [Value.category]; done) | (simp [Value.category]; omega)) (by first | decide | (dsimp only; omega) | (simp [Value.category]; done) | (simp [Value.category]; omega)) [] (by simp) ⟨by rw [if_neg (by omega)]; rfl, rfl⟩
  · rw [Ow.lt32] at hc
    refine Ow.iconst C (1 : Int32) dCE_11 (pc' := 12) rfl rfl ?_
    refine Ow.goto C 16 dCE_12 (by decide) (by decide) ?_
    refine Ow.retN C (t := .boolean) rfl (by simp) dCE_16 (by first | decide | (dsimp only; omega) | (simp [Value.category]; done) | (simp [Value.category]; omega)) (by first | decide | (dsimp only; omega) | (simp [Value.category]; done) | (simp [Value.category]; omega)) [] (by simp) ⟨by rw [if_pos (by omega)]; rfl, rfl⟩
end StrCE

section StrIXL
variable {l : Launch} {Z : State} {a0 : Array Value}
theorem con_LC (G : Glob Z a0) (y : Nat) (cs : List Int32) (ch : Int32) (i : Nat) (h : Heap) (W : List Nat) (Y : ArI Z h y .byte (cs.map (nar .byte))) (hL : ∀ c ∈ cs, 0 ≤ c.toInt ∧ c.toInt < 256) (hc : 0 ≤ ch.toInt ∧ ch.toInt < 256) (hi : i ≤ cs.length) :
    Ow.Con l Z EL1 bb (⟨"java/lang/StringLatin1", "indexOfChar", "([BIII)I"⟩ : MethodName) jdk_43_method_23_code 6 (Option.some Jvm.ClassFile.FieldType.int) [] rm0 #[.ref y, .int ch, .int (Int32.ofNat i), .int (Int32.ofNat cs.length)] h W (fun v h' W' => (∃ r, v = some (.int r) ∧ Ow.Idx cs ch i r) ∧ h' = h) := by
  refine Ow.Con.intro (a0 := a0) pn_10 (ewG G) (saG G) bbG [.val (.ref y), .val (.int ch), .val (.int (Int32.ofNat i)), .val (.int (Int32.ofNat cs.length)), .unset, .unset] (by first | exact Ow.locals_all (by simp [Value.category]) rfl | rfl | (simp [argsToLocals, Value.category]; done)) ?_
  intro p e s m below meth c C hO
  have hN : cs.length < 2 ^ 31 := by simpa using Y.2
  refine Ow.iloadN C dLC_0 (pc' := 1) rfl rfl ?_
  refine Ow.i2b C dLC_1 (pc' := 2) rfl ?_
  refine Ow.istore C dLC_2 (pc' := 4) rfl rfl ?_
  dsimp only [List.set]
  refine Ow.iloadN C dLC_4 (pc' := 5) rfl rfl ?_
  refine Ow.istore C dLC_5 (pc' := 7) rfl rfl ?_
  dsimp only [List.set]
  have loop : ∀ (r j : Nat), j + r = cs.length → i ≤ j → (∀ k, i ≤ k → k < j → ¬ cs.getD k 0 = ch) →
      Ow.WP p l e rm0 s m #[.ref y, .int ch, .int (Int32.ofNat i), .int (Int32.ofNat cs.length)] below meth c Z EL1 bb (fun v h' W' => (∃ r, v = some (.int r) ∧ Ow.Idx cs ch i r) ∧ h' = h) 7 [.val (.ref y), .val (.int ch), .val (.int (Int32.ofNat i)), .val (.int (Int32.ofNat cs.length)), .val (.int (nar .byte ch)), .val (.int (Int32.ofNat j))] [] h W 0 0 := by
    intro r
    induction r with
    | zero =>
      intro j hj hij hq
      obtain rfl : j = cs.length := by omega
      refine Ow.iload C dLC_7 (pc' := 9) rfl rfl ?_
      refine Ow.iloadN C dLC_9 (pc' := 10) rfl rfl ?_
      refine Ow.icmpY C 31 dLC_10 (XT.ii_ge_t (by rw [Ow.lt32]; omega)) (by decide) (by decide) ?_
      refine Ow.iconst C (-1 : Int32) dLC_31 (pc' := 32) rfl rfl ?_
      refine Ow.retI C rfl dLC_32 (by first | decide | (dsimp only; omega) | (simp [Value.category]; done) | (simp [Value.category]; omega)) (by first | decide | (dsimp only; omega) | (simp [Value.category]; done) | (simp [Value.category]; omega)) [] (by simp) ⟨⟨_, rfl, Or.inr ⟨hq, rfl⟩⟩, rfl⟩
    | succ r ih =>
      intro j hj hij hq
      have hlt : j < cs.length := by omega
      refine Ow.iload C dLC_7 (pc' := 9) rfl rfl ?_
      refine Ow.iloadN C dLC_9 (pc' := 10) rfl rfl ?_
      refine Ow.icmpN C dLC_10 (pc' := 13) rfl (XT.ii_ge_f (by rw [Ow.lt32, Ow.ofNat_toInt (by omega), Ow.ofNat_toInt hN]; omega)) ?_
      refine Ow.aloadN C dLC_13 (pc' := 14) rfl rfl rfl ?_
      refine Ow.iload C dLC_14 (pc' := 16) rfl rfl ?_
      refine Ow.baload C Y (i := j) (Ow.ofNat_toInt (by omega)) (by simpa using hlt) dLC_16 (pc' := 17) rfl ?_
      rw [Ow.map_getD hlt]
      refine Ow.iload C dLC_17 (pc' := 19) rfl rfl ?_
      refine Ow.icmp C 25 22 dLC_19 (Ow.kNe _ _) (by decide) (by decide) rfl (fun hc2 => ?_) (fun hc2 => ?_)
      · refine Ow.iinc C (1 : Int32) dLC_25 (pc' := 28) rfl rfl rfl ?_
        dsimp only [List.set]
        refine Ow.goto C 7 dLC_28 (by decide) (by decide) ?_
        rw [← inc_ofNat]
        exact ih (j + 1) (by omega) (by omega) (fun k h1 h2 => by
          rcases Nat.lt_succ_iff_lt_or_eq.mp h2 with q | rfl
          · exact hq k h1 q
          · exact fun q => hc2 (by rw [q]))
      · refine Ow.iload C dLC_22 (pc' := 24) rfl rfl ?_
        have he : cs.getD j 0 = ch := Ow.nar_byte_inj (hL _ (Ow.getD_mem hlt)) hc (Decidable.not_not.mp hc2)
        refine Ow.retI C rfl dLC_24 (by first | decide | (dsimp only; omega) | (simp [Value.category]; done) | (simp [Value.category]; omega)) (by first | decide | (dsimp only; omega) | (simp [Value.category]; done) | (simp [Value.category]; omega)) [] (by simp) ⟨⟨_, rfl, Or.inl ⟨j, hij, hlt, he, hq, rfl⟩⟩, rfl⟩
  exact loop (cs.length - i) i (by omega) (Nat.le_refl _) (fun k h1 h2 => by omega)
abbrev rmLX : Room := { frames := 1, cells := 0, slots := 0, locals := 17 }
theorem con_LX (G : Glob Z a0) (y : Nat) (cs : List Int32) (ch : Int32) (i : Nat) (h : Heap) (W : List Nat) (Y : ArI Z h y .byte (cs.map (nar .byte))) (hL : ∀ c ∈ cs, 0 ≤ c.toInt ∧ c.toInt < 256) (hc : 0 ≤ ch.toInt) (hi : i ≤ cs.length) :
    Ow.Con l Z EL1 bb (⟨"java/lang/StringLatin1", "indexOf", "([BIII)I"⟩ : MethodName) jdk_43_method_22_code 4 (Option.some Jvm.ClassFile.FieldType.int) [] rmLX #[.ref y, .int ch, .int (Int32.ofNat i), .int (Int32.ofNat cs.length)] h W (fun v h' W' => (∃ r, v = some (.int r) ∧ Ow.Idx cs ch i r) ∧ h' = h) := by
  refine Ow.Con.intro (a0 := a0) pn_11 (ewG G) (saG G) bbG [.val (.ref y), .val (.int ch), .val (.int (Int32.ofNat i)), .val (.int (Int32.ofNat cs.length))] (by first | exact Ow.locals_all (by simp [Value.category]) rfl | rfl | (simp [argsToLocals, Value.category]; done)) ?_
  intro p e s m below meth c C hO
  have hN : cs.length < 2 ^ 31 := by simpa using Y.2
  refine Ow.iloadN C dLX_0 (pc' := 1) rfl rfl ?_
  refine Ow.callS C (tw97 G.1) (tw98 G.1) (tw39 G.1) (tw99 G.1) (by decide) (con_CE G ch hc h W) (fun _ q => q) pd_5 rfl rfl rfl dLX_1 (pc' := 4) rfl (Wt := 0) (Nat.le_refl _) (by first | decide | (dsimp only; omega) | (simp [Value.category]; done) | (simp [Value.category]; omega)) (by first | decide | (dsimp only; omega) | (simp [Value.category]; done) | (simp [Value.category]; omega)) (by first | decide | (dsimp only; omega) | (simp [Value.category]; done) | (simp [Value.category]; omega)) (by first | decide | (dsimp only; omega) | (simp [Value.category]; done) | (simp [Value.category]; omega)) (fun v1 h1 W1 ⟨e1, e1'⟩ s1 => ?_)
  subst e1 e1'
  dsimp only [Option.toList, List.cons_append, List.nil_append]
  by_cases hq : ch.toInt < 256
  · rw [if_pos hq]
    refine Ow.ifCY C 9 dLX_4 (XT.i0_ne_t (by decide)) (by decide) (by decide) ?_
    refine Ow.iloadN C dLX_9 (pc' := 10) rfl rfl ?_
    refine Ow.iconst C (0 : Int32) dLX_10 (pc' := 11) rfl rfl ?_
    refine Ow.callS C (tw100 G.1) (tw101 G.1) (tw102 G.1) (tw103 G.1) (by decide) (con_MX G (Int32.ofNat i) 0 h1 W) (fun _ q => q) pd_6 rfl rfl rfl dLX_11 (pc' := 14) rfl (Wt := 0) (Nat.le_refl _) (by first | decide | (dsimp only; omega) | (simp [Value.category]; done) | (simp [Value.category]; omega)) (by first | decide | (dsimp only; omega) | (simp [Value.category]; done) | (simp [Value.category]; omega)) (by first | decide | (dsimp only; omega) | (simp [Value.category]; done) | (simp [Value.category]; omega)) (by first | decide | (dsimp only; omega) | (simp [Value.category]; done) | (simp [Value.category]; omega)) (fun v2 h2 W2 ⟨e2, e2'⟩ s2 => ?_)
    rw [if_neg (by rw [Ow.lt32, Ow.zero_toInt, Ow.ofNat_toInt (by omega)]; omega)] at e2
    subst e2 e2'
    dsimp only [Option.toList, List.cons_append, List.nil_append]
    refine Ow.istoreN C dLX_14 (pc' := 15) rfl rfl ?_
    dsimp only [List.set]
    refine Ow.iloadN C dLX_15 (pc' := 16) rfl rfl ?_
    refine Ow.aloadN C dLX_16 (pc' := 17) rfl rfl rfl ?_
    refine Ow.arrlen C Y dLX_17 (pc' := 18) rfl ?_
    rw [List.length_map]
    refine Ow.callS C (tw104 G.1) (tw105 G.1) (tw102 G.1) (tw106 G.1) (by decide) (con_MN G (Int32.ofNat cs.length) (Int32.ofNat cs.length) h2 W) (fun _ q => q) pd_6 rfl rfl rfl dLX_18 (pc' := 21) rfl (Wt := 0) (Nat.le_refl _) (by first | decide | (dsimp only; omega) | (simp [Value.category]; done) | (simp [Value.category]; omega)) (by first | decide | (dsimp only; omega) | (simp [Value.category]; done) | (simp [Value.category]; omega)) (by first | decide | (dsimp only; omega) | (simp [Value.category]; done) | (simp [Value.category]; omega)) (by first | decide | (dsimp only; omega) | (simp [Value.category]; done) | (simp [Value.category]; omega)) (fun v3 h3 W3 ⟨e3, e3'⟩ s3 => ?_)
    rw [ite_self] at e3
    subst e3 e3'
    dsimp only [Option.toList, List.cons_append, List.nil_append]
    refine Ow.istoreN C dLX_21 (pc' := 22) rfl rfl ?_
    dsimp only [List.set]
    refine Ow.iloadN C dLX_22 (pc' := 23) rfl rfl ?_
    refine Ow.iloadN C dLX_23 (pc' := 24) rfl rfl ?_
    by_cases hlt : i < cs.length
    · refine Ow.icmpY C 29 dLX_24 (XT.ii_lt_t (by rw [Ow.lt32, Ow.ofNat_toInt (by omega), Ow.ofNat_toInt hN]; omega)) (by decide) (by decide) ?_
      refine Ow.aloadN C dLX_29 (pc' := 30) rfl rfl rfl ?_
      refine Ow.iloadN C dLX_30 (pc' := 31) rfl rfl ?_
      refine Ow.iloadN C dLX_31 (pc' := 32) rfl rfl ?_
      refine Ow.iloadN C dLX_32 (pc' := 33) rfl rfl ?_
      refine Ow.callS C (tw107 G.1) (tw108 G.1) (tw39 G.1) (tw109 G.1) (by decide) (con_LC G y cs ch i h3 W Y hL ⟨hc, hq⟩ hi) (fun _ q => q) pd_7 rfl rfl rfl dLX_33 (pc' := 36) rfl (Wt := 0) (Nat.le_refl _) (by first | decide | (dsimp only; omega) | (simp [Value.category]; done) | (simp [Value.category]; omega)) (by first | decide | (dsimp only; omega) | (simp [Value.category]; done) | (simp [Value.category]; omega)) (by first | decide | (dsimp only; omega) | (simp [Value.category]; done) | (simp [Value.category]; omega)) (by first | decide | (dsimp only; omega) | (simp [Value.category]; done) | (simp [Value.category]; omega)) (fun v4 h4 W4 ⟨⟨r, e4, hr⟩, e4'⟩ s4 => ?_)
      subst e4 e4'
      dsimp only [Option.toList, List.cons_append, List.nil_append]
      refine Ow.retI C rfl dLX_36 (by first | decide | (dsimp only; omega) | (simp [Value.category]; done) | (simp [Value.category]; omega)) (by first | decide | (dsimp only; omega) | (simp [Value.category]; done) | (simp [Value.category]; omega)) [] (by simp) ⟨⟨_, rfl, hr⟩, rfl⟩
    · refine Ow.icmpN C dLX_24 (pc' := 27) rfl (XT.ii_lt_f (by rw [Ow.lt32, Ow.ofNat_toInt (by omega), Ow.ofNat_toInt hN]; omega)) ?_
      refine Ow.iconst C (-1 : Int32) dLX_27 (pc' := 28) rfl rfl ?_
      refine Ow.retI C rfl dLX_28 (by first | decide | (dsimp only; omega) | (simp [Value.category]; done) | (simp [Value.category]; omega)) (by first | decide | (dsimp only; omega) | (simp [Value.category]; done) | (simp [Value.category]; omega)) [] (by simp) ⟨⟨_, rfl, Or.inr ⟨fun k h1 h2 => by omega, rfl⟩⟩, rfl⟩
  · rw [if_neg hq]
    refine Ow.ifCN C dLX_4 (pc' := 7) rfl (XT.i0_ne_f rfl) ?_
    refine Ow.iconst C (-1 : Int32) dLX_7 (pc' := 8) rfl rfl ?_
    refine Ow.retI C rfl dLX_8 (by first | decide | (dsimp only; omega) | (simp [Value.category]; done) | (simp [Value.category]; omega)) (by first | decide | (dsimp only; omega) | (simp [Value.category]; done) | (simp [Value.category]; omega)) [] (by simp) ⟨⟨_, rfl, Or.inr ⟨fun k h1 h2 q => hq (by rw [← q]; exact (hL _ (Ow.getD_mem h2)).2), rfl⟩⟩, rfl⟩
end StrIXL

section StrLow
variable {l : Launch} {Z : State} {a0 : Array Value}
theorem con_IL (G : Glob Z a0) (a : Nat) (cd : Int32) (h : Heap) (W : List Nat) (F : Fld Z h a "java/lang/String" "coder" "B" (.int cd)) :
    Ow.Con l Z EL1 bb (⟨"java/lang/String", "isLatin1", "()Z"⟩ : MethodName) jdk_42_method_154_code 1 (Option.some Jvm.ClassFile.FieldType.boolean) [] rm0 #[.ref a] h W (fun v h' W' => v = some (.int (if cd = 0 then 1 else 0)) ∧ h' = h) := by
  obtain ⟨cv, hcv, hst⟩ := G.2.1
  refine Ow.Con.intro (a0 := a0) pn_12 (ewG G) (saG G) bbG [.val (.ref a)] (by first | exact Ow.locals_all (by simp [Value.category]) rfl | rfl | (simp [argsToLocals, Value.category]; done)) ?_
  intro p e s m below meth c C hO
  refine Ow.getS C (tw19 G.1) hst dIL_0 (pc' := 3) rfl ?_
  refine Ow.ifCN C dIL_3 (pc' := 6) rfl (XT.i0_eq_f hcv) ?_
  refine Ow.aloadN C dIL_6 (pc' := 7) rfl rfl rfl ?_
  refine Ow.getF C (tw20 G.1) F dIL_7 (pc' := 10) rfl ?_
  refine Ow.ifC C 17 13 dIL_10 (Ow.hNe _) (by decide) (by decide) rfl (fun hc => ?_) (fun hc => ?_)
  · refine Ow.iconst C (0 : Int32) dIL_17 (pc' := 18) rfl rfl ?_
    refine Ow.retN C (t := .boolean) rfl (by simp) dIL_18 (by first | decide | (dsimp only; omega) | (simp [Value.category]; done) | (simp [Value.category]; omega)) (by first | decide | (dsimp only; omega) | (simp [Value.category]; done) | (simp [Value.category]; omega)) [] (by simp) ⟨by rw [if_neg hc]; rfl, rfl⟩
  · refine Ow.iconst C (1 : Int32) dIL_13 (pc' := 14) rfl rfl ?_
    refine Ow.goto C 18 dIL_14 (by decide) (by decide) ?_
    refine Ow.retN C (t := .boolean) rfl (by simp) dIL_18 (by first | decide | (dsimp only; omega) | (simp [Value.category]; done) | (simp [Value.category]; omega)) (by first | decide | (dsimp only; omega) | (simp [Value.category]; done) | (simp [Value.category]; omega)) [] (by simp) ⟨by rw [if_pos (Decidable.not_not.mp hc)]; rfl, rfl⟩
theorem con_CD (G : Glob Z a0) (i : Nat) (ch : Int32) (h0 : 0 ≤ ch.toInt) (h1 : ch.toInt < 256) (h : Heap) (W : List Nat) :
    Ow.Con l Z EL1 bb (⟨"java/lang/CharacterDataLatin1", "toLowerCase", "(I)I"⟩ : MethodName) jdk_116_method_20_code 3 (Option.some Jvm.ClassFile.FieldType.int) [] rm0 #[.ref i, .int ch] h W (fun v h' W' => v = some (.int (Ow.low ch)) ∧ h' = h) := by
  rw [← Ow.clo_low h0 h1]
  refine Ow.Con.intro (a0 := a0) pn_13 (ewG G) (saG G) bbG [.val (.ref i), .val (.int ch), .unset] (by first | exact Ow.locals_all (by simp [Value.category]) rfl | rfl | (simp [argsToLocals, Value.category]; done)) ?_
  intro p e s m below meth c C hO
  have k32 : ((32 : Int32)).toInt = 32 := rfl
  have k65 : ((65 : Int32)).toInt = 65 := rfl
  have k122 : ((122 : Int32)).toInt = 122 := rfl
  have k224 : ((224 : Int32)).toInt = 224 := rfl
  have k247 : ((247 : Int32)).toInt = 247 := rfl
  have k254 : ((254 : Int32)).toInt = 254 := rfl
  refine Ow.iloadN C dCD_0 (pc' := 1) rfl rfl ?_
  refine Ow.bipush C (65 : Int32) dCD_1 (pc' := 3) rfl rfl ?_
  refine Ow.icmp C 8 6 dCD_3 (Ow.kGe _ _) (by decide) (by decide) rfl (fun b1 => ?_) (fun b1 => ?_)
  · refine Ow.iloadN C dCD_8 (pc' := 9) rfl rfl ?_
    refine Ow.bipush C (32 : Int32) dCD_9 (pc' := 11) rfl rfl ?_
    refine Ow.ior C dCD_11 (pc' := 12) rfl ?_
    refine Ow.istoreN C dCD_12 (pc' := 13) rfl rfl ?_
    dsimp only [List.set]
    refine Ow.iloadN C dCD_13 (pc' := 14) rfl rfl ?_
    refine Ow.bipush C (122 : Int32) dCD_14 (pc' := 16) rfl rfl ?_
    refine Ow.icmp C 40 19 dCD_16 (Ow.kLe _ _) (by decide) (by decide) rfl (fun b2 => ?_) (fun b2 => ?_)
    · refine Ow.iloadN C dCD_40 (pc' := 41) rfl rfl ?_
      refine Ow.retI C rfl dCD_41 (by first | decide | (dsimp only; omega) | (simp [Value.category]; done) | (simp [Value.category]; omega)) (by first | decide | (dsimp only; omega) | (simp [Value.category]; done) | (simp [Value.category]; omega)) [] (by simp) ⟨by simp [Ow.clo, *], rfl⟩
    · refine Ow.iloadN C dCD_19 (pc' := 20) rfl rfl ?_
      refine Ow.sipush C (224 : Int32) dCD_20 (pc' := 23) rfl rfl ?_
      refine Ow.icmp C 42 26 dCD_23 (Ow.kLt _ _) (by decide) (by decide) rfl (fun b3 => ?_) (fun b3 => ?_)
      · refine Ow.iloadN C dCD_42 (pc' := 43) rfl rfl ?_
        refine Ow.retI C rfl dCD_43 (by first | decide | (dsimp only; omega) | (simp [Value.category]; done) | (simp [Value.category]; omega)) (by first | decide | (dsimp only; omega) | (simp [Value.category]; done) | (simp [Value.category]; omega)) [] (by simp) ⟨by simp [Ow.clo, *], rfl⟩
      · refine Ow.iloadN C dCD_26 (pc' := 27) rfl rfl ?_
        refine Ow.sipush C (254 : Int32) dCD_27 (pc' := 30) rfl rfl ?_
        refine Ow.icmp C 42 33 dCD_30 (Ow.kGt _ _) (by decide) (by decide) rfl (fun b4 => ?_) (fun b4 => ?_)
        · refine Ow.iloadN C dCD_42 (pc' := 43) rfl rfl ?_
          refine Ow.retI C rfl dCD_43 (by first | decide | (dsimp only; omega) | (simp [Value.category]; done) | (simp [Value.category]; omega)) (by first | decide | (dsimp only; omega) | (simp [Value.category]; done) | (simp [Value.category]; omega)) [] (by simp) ⟨by simp [Ow.clo, *], rfl⟩
        · refine Ow.iloadN C dCD_33 (pc' := 34) rfl rfl ?_
          refine Ow.sipush C (247 : Int32) dCD_34 (pc' := 37) rfl rfl ?_
          refine Ow.icmp C 42 40 dCD_37 (Ow.kEq _ _) (by decide) (by decide) rfl (fun b5 => ?_) (fun b5 => ?_)
          · refine Ow.iloadN C dCD_42 (pc' := 43) rfl rfl ?_
            refine Ow.retI C rfl dCD_43 (by first | decide | (dsimp only; omega) | (simp [Value.category]; done) | (simp [Value.category]; omega)) (by first | decide | (dsimp only; omega) | (simp [Value.category]; done) | (simp [Value.category]; omega)) [] (by simp) ⟨by simp [Ow.clo, *], rfl⟩
          · refine Ow.iloadN C dCD_40 (pc' := 41) rfl rfl ?_
            refine Ow.retI C rfl dCD_41 (by first | decide | (dsimp only; omega) | (simp [Value.category]; done) | (simp [Value.category]; omega)) (by first | decide | (dsimp only; omega) | (simp [Value.category]; done) | (simp [Value.category]; omega)) [] (by simp) ⟨by simp [Ow.clo, *], rfl⟩
  · refine Ow.iloadN C dCD_6 (pc' := 7) rfl rfl ?_
    refine Ow.retI C rfl dCD_7 (by first | decide | (dsimp only; omega) | (simp [Value.category]; done) | (simp [Value.category]; omega)) (by first | decide | (dsimp only; omega) | (simp [Value.category]; done) | (simp [Value.category]; omega)) [] (by simp) ⟨by simp [Ow.clo, *], rfl⟩
theorem con_BG (G : Glob Z a0) (lc bl lg lv : Nat) (K : LocOk Z lc bl lg lv) (h : Heap) (W : List Nat) (E : Ext Z.heap h) : Ow.Con l Z EL1 bb (⟨"sun/util/locale/BaseLocale", "getLanguage", "()Ljava/lang/String;"⟩ : MethodName) jdk_3003_method_5_code 1 (Option.some (Jvm.ClassFile.FieldType.object "java/lang/String")) [] rm0 #[.ref bl] h W (fun v h' W' => v = some (.ref lg) ∧ h' = h) := by
  refine Ow.Con.intro (a0 := a0) pn_14 (ewG G) (saG G) bbG [.val (.ref bl)] (by first | exact Ow.locals_all (by simp [Value.category]) rfl | rfl | (simp [argsToLocals, Value.category]; done)) ?_
  intro p e s m below meth c C hO
  refine Ow.aloadN C dBG_0 (pc' := 1) rfl rfl rfl ?_
  refine Ow.getF C (tw168 G.1) (K.2.2.2.2.1.ext E) dBG_1 (pc' := 4) rfl ?_
  refine Ow.retA C rfl rfl rfl dBG_4 (by first | decide | (dsimp only; omega) | (simp [Value.category]; done) | (simp [Value.category]; omega)) (by first | decide | (dsimp only; omega) | (simp [Value.category]; done) | (simp [Value.category]; omega)) [] (by simp) ⟨rfl, rfl⟩
abbrev rmLG : Room := { frames := 1, cells := 0, slots := 0, locals := 12 }
theorem con_LG (G : Glob Z a0) (lc bl lg lv : Nat) (K : LocOk Z lc bl lg lv) (h : Heap) (W : List Nat) (E : Ext Z.heap h) : Ow.Con l Z EL1 bb (⟨"java/util/Locale", "getLanguage", "()Ljava/lang/String;"⟩ : MethodName) jdk_2628_method_27_code 1 (Option.some (Jvm.ClassFile.FieldType.object "java/lang/String")) [] rmLG #[.ref lc] h W (fun v h' W' => v = some (.ref lg) ∧ h' = h) := by
  refine Ow.Con.intro (a0 := a0) pn_15 (ewG G) (saG G) bbG [.val (.ref lc)] (by first | exact Ow.locals_all (by simp [Value.category]) rfl | rfl | (simp [argsToLocals, Value.category]; done)) ?_
  intro p e s m below meth c C hO
  refine Ow.aloadN C dLG_0 (pc' := 1) rfl rfl rfl ?_
  refine Ow.getF C (tw160 G.1) (K.2.2.1.ext E) dLG_1 (pc' := 4) rfl ?_
  refine Ow.callV C (y := (⟨"sun/util/locale/BaseLocale", "getLanguage", "()Ljava/lang/String;"⟩ : MethodName)) (z := (⟨"sun/util/locale/BaseLocale", "getLanguage", "()Ljava/lang/String;"⟩ : MethodName)) (tw162 G.1) (tw163 G.1) (tw165 G.1) (tw165 G.1) (tw164 G.1) (tw166 G.1) (tw167 G.1) (by decide) (K.2.2.2.1.ext E) (con_BG G lc bl lg lv K h W E) (fun _ q => q) pd_8 rfl rfl rfl dLG_4 (pc' := 7) rfl (Wt := 0) (Nat.le_refl _) (by first | decide | (dsimp only; omega) | (simp [Value.category]; done) | (simp [Value.category]; omega)) (by first | decide | (dsimp only; omega) | (simp [Value.category]; done) | (simp [Value.category]; omega)) (by first | decide | (dsimp only; omega) | (simp [Value.category]; done) | (simp [Value.category]; omega)) (by first | decide | (dsimp only; omega) | (simp [Value.category]; done) | (simp [Value.category]; omega)) (fun v1 h1 W1 ⟨e1, e1'⟩ s1 => ?_)
  subst e1 e1'
  dsimp only [Option.toList, List.cons_append, List.nil_append]
  refine Ow.retA C rfl rfl rfl dLG_7 (by first | decide | (dsimp only; omega) | (simp [Value.category]; done) | (simp [Value.category]; omega)) (by first | decide | (dsimp only; omega) | (simp [Value.category]; done) | (simp [Value.category]; omega)) [] (by simp) ⟨rfl, rfl⟩
abbrev rmBI : Room := { frames := 1, cells := 0, slots := 0, locals := 12 }
set_option maxHeartbeats 4000000 in
theorem con_BI (G : Glob Z a0) (a d : Nat) (cs : List Int32) (h : Heap) (W : List Nat) (ov oc : Value) (A : Exa Z h a "java/lang/String") (Fv : Fld Z h a "java/lang/String" "value" "[B" ov) (Fc : Fld Z h a "java/lang/String" "coder" "B" oc) (ha : a ∈ W) (D : ArI Z h d .byte (cs.map (nar .byte))) (hL : ∀ z ∈ cs, 0 ≤ z.toInt ∧ z.toInt < 256) (hne : d ≠ a) :
    Ow.Con l Z EL1 bb (⟨"java/lang/String", "<init>", "([BB)V"⟩ : MethodName) jdk_42_method_151_code 3 (Option.none : Option Jvm.ClassFile.FieldType) [] rmBI #[.ref a, .ref d, .int 0] h W (fun v h' W' => v = none ∧ Ow.StrL Z h' a d cs ∧ Keep h h' [a]) := by
  refine Ow.Con.intro (a0 := a0) pn_16 (ewG G) (saG G) bbG [.val (.ref a), .val (.ref d), .val (.int 0)] (by first | exact Ow.locals_all (by simp [Value.category]) rfl | rfl | (simp [argsToLocals, Value.category]; done)) ?_
  intro p e s m below meth c C hO
  refine Ow.aloadN C dBI_0 (pc' := 1) rfl rfl rfl ?_
  refine Ow.initO C (tw63 G.1) (tw64 G.1) (tw65 G.1) dBI_1 (pc' := 4) rfl rfl (by first | decide | (dsimp only; omega) | (simp [Value.category]; done) | (simp [Value.category]; omega)) (by first | decide | (dsimp only; omega) | (simp [Value.category]; done) | (simp [Value.category]; omega)) ?_
  refine Ow.aloadN C dBI_4 (pc' := 5) rfl rfl rfl ?_
  refine Ow.aloadN C dBI_5 (pc' := 6) rfl rfl rfl ?_
  refine Ow.putF C (tw13 G.1) Fv A (Or.inr ⟨(tw4 G.1), rfl, rfl⟩) (tw2 G.1) (ty := (.array .byte)) (by decide) rfl rfl (by first | assumption | (simp; done) | (simp [*]; done)) dBI_6 (pc' := 9) rfl (fun h1 w1 K1 Fv1 => ?_)
  have Fc1 := Fc.other w1 (Or.inr (slot_ne (Or.inr (tw5 G.1)) (Or.inr (tw4 G.1)) (by decide) (t := .byte) (t' := .array .byte) (by decide) (by decide)))
  have A1 := A.keep K1
  have D1 := D.keep K1 (Ow.nin1 hne)
  refine Ow.aloadN C dBI_9 (pc' := 10) rfl rfl rfl ?_
  refine Ow.iloadN C dBI_10 (pc' := 11) rfl rfl ?_
  refine Ow.putF C (tw20 G.1) Fc1 A1 (Or.inr ⟨(tw5 G.1), rfl, rfl⟩) (tw2 G.1) (ty := .byte) (by decide) rfl rfl (by first | assumption | (simp; done) | (simp [*]; done)) dBI_11 (pc' := 14) rfl (fun h2 w2 K2 Fc2 => ?_)
  have Fv2 := Fv1.other w2 (Or.inr (slot_ne (Or.inr (tw4 G.1)) (Or.inr (tw5 G.1)) (by decide) (t := .array .byte) (t' := .byte) (by decide) (by decide)))
  refine Ow.retV C rfl dBI_14 (by first | decide | (dsimp only; omega) | (simp [Value.category]; done) | (simp [Value.category]; omega)) (by first | decide | (dsimp only; omega) | (simp [Value.category]; done) | (simp [Value.category]; omega)) [] (by simp) ⟨rfl, ⟨A1.keep K2, Fv2, Fc2, D1.keep K2 (Ow.nin1 hne), hL⟩, K1.trans K2 (fun _ q => Or.inl q)⟩
theorem lit_ne {h : Heap} {lc bl lg lv b d : Nat} {xs : List Int32} (K : LocOk Z lc bl lg lv) (E : Ext Z.heap h) (Fv : Fld Z h b "java/lang/String" "value" "[B" (.ref d)) (D : ArI Z h d .byte xs) (hx : 0 < xs.length) : ¬ (Value.ref lg) = (Value.ref b) := by
  have h1 : lv ≠ d := by
    obtain ⟨c0, A0, z0⟩ := K.2.2.2.2.2.2
    exact Ow.ArI.ne0 (A0.ext E) z0 D hx
  have := Fld.ne (K.2.2.2.2.2.1.ext E) Fv (fun q => h1 (Value.ref.inj q))
  exact fun q => this (Value.ref.inj q)
abbrev rmSL (B : Nat) : Room := { frames := 2, cells := 8, slots := 40 + B, locals := 30 }
set_option maxHeartbeats 40000000 in
theorem con_SL (G : Glob Z a0) (B : Nat) (a d lc bl lg lv ci : Nat) (cs : List Int32) (h : Heap) (W : List Nat) (S : Ow.StrL Z h a d cs) (K : LocOk Z lc bl lg lv) (Ci : Sta Z Z.heap "java/lang/CharacterDataLatin1" "instance" "Ljava/lang/CharacterDataLatin1;" (.ref ci) ∧ Exa Z Z.heap ci "java/lang/CharacterDataLatin1") (hB : cs.length ≤ B) (hB2 : B ≤ 4000) :
    Ow.Con l Z EL1 bb (⟨"java/lang/StringLatin1", "toLowerCase", "(Ljava/lang/String;[BLjava/util/Locale;)Ljava/lang/String;"⟩ : MethodName) jdk_43_method_32_code 9 (Option.some (Jvm.ClassFile.FieldType.object "java/lang/String")) [] (rmSL B) #[.ref a, .ref d, .ref lc] h W
      (fun v h' W' => ∃ a' d' : Nat, v = some (.ref a') ∧ Ow.StrL Z h' a' d' (cs.map Ow.low) ∧ Keep h h' [] ∧ (a' = a ∨ h.size ≤ a')) := by
  refine Ow.Con.intro (a0 := a0) pn_17 (ewG G) (saG G) bbG [.val (.ref a), .val (.ref d), .val (.ref lc), .unset, .unset, .unset, .unset, .unset, .unset] (by first | exact Ow.locals_all (by simp [Value.category]) rfl | rfl | (simp [argsToLocals, Value.category]; done)) ?_
  intro p e s m below meth c C hO
  have hN : cs.length < 2 ^ 31 := S.len
  have hL := S.2.2.2.2
  have V := S.2.2.2.1
  have hdl : d < h.size := S.lt.2
  have Ec := Ci.2.ext hO.2
  refine Ow.aloadN C dSL_0 (pc' := 1) rfl rfl rfl ?_
  refine Ow.ifnonnullY C 12 dSL_1 (by decide) (by decide) ?_
  refine Ow.aloadN C dSL_12 (pc' := 13) rfl rfl rfl ?_
  refine Ow.arrlen C V dSL_13 (pc' := 14) rfl ?_
  rw [List.length_map]
  -- behind the search: i is the first capital's place, or the length
  have J55 : ∀ (i : Nat) (o5 : Slot), i ≤ cs.length → (∀ j, j < i → Ow.low (cs.getD j 0) = cs.getD j 0) → Ow.okS (some o5) = true →
      Ow.WP p l e (rmSL B) s m #[.ref a, .ref d, .ref lc] below meth c Z EL1 bb (fun v h' W' => ∃ a' d' : Nat, v = some (.ref a') ∧ Ow.StrL Z h' a' d' (cs.map Ow.low) ∧ Keep h h' [] ∧ (a' = a ∨ h.size ≤ a'))
        55 [.val (.ref a), .val (.ref d), .val (.ref lc), .val (.int (Int32.ofNat i)), .val (.int (Int32.ofNat cs.length)), o5, .unset, .unset, .unset] [] h W 0 0 := by
    intro i o5 hi hq ho5
    refine Ow.iloadN C dSL_55 (pc' := 56) rfl rfl ?_
    refine Ow.iload C dSL_56 (pc' := 58) rfl rfl ?_
    by_cases hlt : i = cs.length
    · refine Ow.icmpN C dSL_58 (pc' := 61) rfl (XT.ii_ne_f (by rw [hlt])) ?_
      refine Ow.aloadN C dSL_61 (pc' := 62) rfl rfl rfl ?_
      refine Ow.retA C rfl rfl rfl dSL_62 (by first | decide | (dsimp only; omega) | (simp [Value.category]; done) | (simp [Value.category]; omega)) (by first | decide | (dsimp only; omega) | (simp [Value.category]; done) | (simp [Value.category]; omega)) [] (by simp) ⟨a, d, rfl, by rw [Ow.map_id_of (fun j hj => hq j (by omega))]; exact S, Keep.refl _ _, Or.inl rfl⟩
    · have hlt' : i < cs.length := by omega
      refine Ow.icmpY C 63 dSL_58 (XT.ii_ne_t (fun q => hlt (Ow.ofNat_inj (by omega) hN q))) (by decide) (by decide) ?_
      refine Ow.aloadN C dSL_63 (pc' := 64) rfl rfl rfl ?_
      refine Ow.callV C (y := (⟨"java/util/Locale", "getLanguage", "()Ljava/lang/String;"⟩ : MethodName)) (z := (⟨"java/util/Locale", "getLanguage", "()Ljava/lang/String;"⟩ : MethodName)) (tw155 G.1) (tw156 G.1) (tw158 G.1) (tw158 G.1) (tw157 G.1) (tw141 G.1) (tw159 G.1) (by decide) (K.2.1.ext hO.2) (con_LG G lc bl lg lv K h W hO.2) (fun _ q => q) pd_8 rfl rfl rfl dSL_64 (pc' := 67) rfl (Wt := 0) (Nat.le_refl _) (by first | decide | (dsimp only; omega) | (simp [Value.category]; done) | (simp [Value.category]; omega)) (by first | decide | (dsimp only; omega) | (simp [Value.category]; done) | (simp [Value.category]; omega)) (by first | decide | (dsimp only; omega) | (simp [Value.category]; done) | (simp [Value.category]; omega)) (by first | decide | (dsimp only; omega) | (simp [Value.category]; done) | (simp [Value.category]; omega)) (fun v1 h1 W1 ⟨e1, e1'⟩ s1 => ?_)
      subst e1 e1'
      dsimp only [Option.toList, List.cons_append, List.nil_append]
      refine Ow.astore C dSL_67 (pc' := 69) rfl rfl ho5 ?_
      dsimp only [List.set]
      refine Ow.aload C dSL_69 (pc' := 71) rfl rfl rfl ?_
      refine Ow.ldcS C rfl (N := 8) (xs := [116, 114]) (tw170 G.1) (by decide) (by decide) (by decide) dSL_71 (pc' := 73) rfl (by decide) (by decide) (by first | decide | (dsimp only; omega) | (simp [Value.category]; done) | (simp [Value.category]; omega)) (by first | decide | (dsimp only; omega) | (simp [Value.category]; done) | (simp [Value.category]; omega)) (fun h2 b2 d2 E2 B2 Bc2 Bv2 D2 n2 => ?_)
      have O2 := hO.2
      refine Ow.acmpN C dSL_73 (pc' := 76) rfl rfl rfl (XT.aa_eq_f (lit_ne K (hO.ext E2).2 Bv2 D2 (by decide))) ?_
      refine Ow.aload C dSL_76 (pc' := 78) rfl rfl rfl ?_
      refine Ow.ldcS C rfl (N := 8) (xs := [97, 122]) (tw171 G.1) (by decide) (by decide) (by decide) dSL_78 (pc' := 80) rfl (by decide) (by decide) (by first | decide | (dsimp only; omega) | (simp [Value.category]; done) | (simp [Value.category]; omega)) (by first | decide | (dsimp only; omega) | (simp [Value.category]; done) | (simp [Value.category]; omega)) (fun h3 b3 d3 E3 B3 Bc3 Bv3 D3 n3 => ?_)
      refine Ow.acmpN C dSL_80 (pc' := 83) rfl rfl rfl (XT.aa_eq_f (lit_ne K ((hO.ext E2).ext E3).2 Bv3 D3 (by decide))) ?_
      refine Ow.aload C dSL_83 (pc' := 85) rfl rfl rfl ?_
      refine Ow.ldcS C rfl (N := 8) (xs := [108, 116]) (tw172 G.1) (by decide) (by decide) (by decide) dSL_85 (pc' := 87) rfl (by decide) (by decide) (by first | decide | (dsimp only; omega) | (simp [Value.category]; done) | (simp [Value.category]; omega)) (by first | decide | (dsimp only; omega) | (simp [Value.category]; done) | (simp [Value.category]; omega)) (fun h4 b4 d4 E4 B4 Bc4 Bv4 D4 n4 => ?_)
      refine Ow.acmpY C 99 dSL_87 rfl rfl (XT.aa_ne_t (lit_ne K (((hO.ext E2).ext E3).ext E4).2 Bv4 D4 (by decide))) (by decide) (by decide) ?_
      have O4 := (((hO.ext E2).ext E3).ext E4)
      have g2 := E2.1
      have g3 := E3.1
      have g4 := E4.1
      refine Ow.iload C dSL_99 (pc' := 101) rfl rfl ?_
      refine Ow.newarr C (ty := .byte) (cap := cs.length) rfl rfl (tw3 G.1) dSL_101 (pc' := 103) rfl rfl (by omega) (by dsimp only; omega) (by dsimp only; omega) (fun h5 a5 s5 z5 l5 E5 V5 => ?_)
      have V5' := (((V.ext E2).ext E3).ext E4).ext E5
      have nd5 : d ≠ a5 := by omega
      refine Ow.astore C dSL_103 (pc' := 105) rfl rfl rfl ?_
      dsimp only [List.set]
      refine Ow.aloadN C dSL_105 (pc' := 106) rfl rfl rfl ?_
      refine Ow.iconst C (0 : Int32) dSL_106 (pc' := 107) rfl rfl ?_
      refine Ow.aload C dSL_107 (pc' := 109) rfl rfl rfl ?_
      refine Ow.iconst C (0 : Int32) dSL_109 (pc' := 110) rfl rfl ?_
      refine Ow.iloadN C dSL_110 (pc' := 111) rfl rfl ?_
      refine Ow.acopy C (tw173 G.1) (tw176 G.1) (tw174 G.1) (tw175 G.1) V5' V5 rfl (i := 0) (j := 0) (q := i) rfl rfl (Ow.ofNat_toInt (by omega)) (by simp; omega) (by simp; omega) (by simp) dSL_111 (pc' := 114) rfl rfl (by dsimp only; omega) (Wt := 0) (Nat.le_refl _) (by dsimp only; decide) (fun h6 K6 V6 => ?_)
      have V6' : ArI Z h6 a5 .byte (((cs.map Ow.low).take i).map (nar .byte) ++ List.replicate (cs.length - i) 0) := by
        have e : (List.take 0 (List.replicate cs.length (0 : Int32)) ++ List.take i (List.drop 0 (cs.map (nar .byte))) ++ List.drop (0 + i) (List.replicate cs.length 0)) = ((cs.map Ow.low).take i).map (nar .byte) ++ List.replicate (cs.length - i) 0 := by
          rw [Ow.take_map_id hi hq]; simp [List.map_take]
        rw [← e]; exact V6
      have D6 := V5'.keep K6 (Ow.nin1 nd5)
      have g6 := K6.1
      have K06 : Keep h1 h6 [a5] := ((((((Keep.refl h1 [a5]).ext E2).ext E3).ext E4).ext E5).trans K6 (fun _ q => Or.inl q))
      refine Ow.iloadN C dSL_114 (pc' := 115) rfl rfl ?_
      refine Ow.istore C dSL_115 (pc' := 117) rfl rfl ?_
      dsimp only [List.set]
      have loop : ∀ (r j : Nat) (h7 : Heap) (o8 : Slot), j + r = cs.length → Keep h1 h7 [a5] → ArI Z h7 a5 .byte (((cs.map Ow.low).take j).map (nar .byte) ++ List.replicate r 0) → Ow.okS (some o8) = true →
          Ow.WP p l e (rmSL B) s m #[.ref a, .ref d, .ref lc] below meth c Z EL1 bb (fun v h' W' => ∃ a' d' : Nat, v = some (.ref a') ∧ Ow.StrL Z h' a' d' (cs.map Ow.low) ∧ Keep h1 h' [] ∧ (a' = a ∨ h1.size ≤ a'))
            117 [.val (.ref a), .val (.ref d), .val (.ref lc), .val (.int (Int32.ofNat i)), .val (.int (Int32.ofNat cs.length)), .val (.ref lg), .val (.ref a5), .val (.int (Int32.ofNat j)), o8] [] h7 (a5 :: W) 7 (36 + B) := by
        intro r
        induction r with
        | zero =>
          intro j h7 o8 hj K7 V7 ho8
          obtain rfl : j = cs.length := by omega
          have g7 := K7.1
          have V7' : ArI Z h7 a5 .byte ((cs.map Ow.low).map (nar .byte)) := by
            rw [List.take_of_length_le (by simp)] at V7
            simpa using V7
          refine Ow.iload C dSL_117 (pc' := 119) rfl rfl ?_
          refine Ow.iload C dSL_119 (pc' := 121) rfl rfl ?_
          refine Ow.icmpY C 175 dSL_121 (XT.ii_ge_t (by rw [Ow.lt32]; omega)) (by decide) (by decide) ?_
          refine Ow.newO C (tw177 G.1) (tw2 G.1) (tw1 G.1) dSL_175 (pc' := 178) rfl (by first | decide | (dsimp only; omega) | (simp [Value.category]; done) | (simp [Value.category]; omega)) (by first | decide | (dsimp only; omega) | (simp [Value.category]; done) | (simp [Value.category]; omega)) (fun h8 a8 s8 z8 l8 E8 ⟨A8, D8⟩ => ?_)
          refine Ow.dup C dSL_178 (pc' := 179) rfl rfl ?_
          refine Ow.aload C dSL_179 (pc' := 181) rfl rfl rfl ?_
          refine Ow.iconst C (0 : Int32) dSL_181 (pc' := 182) rfl rfl ?_
          have l5 := V7'.lt
          refine Ow.callI C rfl (tw178 G.1) (tw179 G.1) (tw1 G.1) (tw180 G.1) (by decide) (con_BI G a8 a5 (cs.map Ow.low) h8 _ _ _ A8 (D8 (Or.inr (tw4 G.1)) (ty := .array .byte) (by decide)) (D8 (Or.inr (tw5 G.1)) (ty := .byte) (by decide)) (by simp) (V7'.ext E8) (by intro z hz; obtain ⟨y, hy, rfl⟩ := List.mem_map.mp hz; exact Ow.low_rng (hL y hy).1 (hL y hy).2) (by omega)) (fun _ q => q) pd_9 rfl rfl rfl dSL_182 (pc' := 185) rfl (Wt := 1) (Nat.le_refl _) (by first | decide | (dsimp only; omega) | (simp [Value.category]; done) | (simp [Value.category]; omega)) (by first | decide | (dsimp only; omega) | (simp [Value.category]; done) | (simp [Value.category]; omega)) (by first | decide | (dsimp only; omega) | (simp [Value.category]; done) | (simp [Value.category]; omega)) (by first | decide | (dsimp only; omega) | (simp [Value.category]; done) | (simp [Value.category]; omega)) (fun v9 h9 W9 ⟨e9, S9, K9⟩ s9 => ?_)
          subst e9
          dsimp only [Option.toList, List.cons_append, List.nil_append]
          refine Ow.retA C rfl rfl rfl dSL_185 (by first | decide | (dsimp only; omega) | (simp [Value.category]; done) | (simp [Value.category]; omega)) (by first | decide | (dsimp only; omega) | (simp [Value.category]; done) | (simp [Value.category]; omega)) [] (by simp) ⟨a8, a5, rfl, S9, (((Keep.refl h1 []).trans K7 (fun z hz => Or.inr (by rw [List.mem_singleton.mp hz]; omega))).ext E8).trans K9 (fun z hz => Or.inr (by rw [List.mem_singleton.mp hz]; omega)), Or.inr (by omega)⟩
        | succ r ih =>
          intro j h7 o8 hj K7 V7 ho8
          have hj' : j < cs.length := by omega
          have D7 := V.keep K7 (Ow.nin1 nd5)
          have hc := Ow.getD_rng hL hj'
          have hlr := Ow.low_rng hc.1 hc.2
          refine Ow.iload C dSL_117 (pc' := 119) rfl rfl ?_
          refine Ow.iload C dSL_119 (pc' := 121) rfl rfl ?_
          refine Ow.icmpN C dSL_121 (pc' := 124) rfl (XT.ii_ge_f (by rw [Ow.lt32, Ow.ofNat_toInt (by omega), Ow.ofNat_toInt hN]; omega)) ?_
          refine Ow.aloadN C dSL_124 (pc' := 125) rfl rfl rfl ?_
          refine Ow.iload C dSL_125 (pc' := 127) rfl rfl ?_
          refine Ow.baload C D7 (i := j) (Ow.ofNat_toInt (by omega)) (by simpa using hj') dSL_127 (pc' := 128) rfl ?_
          rw [Ow.map_getD hj']
          refine Ow.sipush C (255 : Int32) dSL_128 (pc' := 131) rfl rfl ?_
          refine Ow.iand C dSL_131 (pc' := 132) rfl ?_
          rw [Ow.byte_back hc.1 hc.2]
          refine Ow.istore C dSL_132 (pc' := 134) rfl ho8 ?_
          dsimp only [List.set]
          refine Ow.getS C (tw124 G.1) Ci.1 dSL_134 (pc' := 137) rfl ?_
          refine Ow.iload C dSL_137 (pc' := 139) rfl rfl ?_
          refine Ow.callV C (y := (⟨"java/lang/CharacterDataLatin1", "toLowerCase", "(I)I"⟩ : MethodName)) (z := (⟨"java/lang/CharacterDataLatin1", "toLowerCase", "(I)I"⟩ : MethodName)) (tw150 G.1) (tw151 G.1) (tw153 G.1) (tw153 G.1) (tw152 G.1) (tw125 G.1) (tw154 G.1) (by decide) (Ec.keep K7) (con_CD G ci (cs.getD j 0) hc.1 hc.2 h7 _) (fun _ q => q) pd_10 rfl rfl rfl dSL_139 (pc' := 142) rfl (Wt := 0) (Nat.le_refl _) (by first | decide | (dsimp only; omega) | (simp [Value.category]; done) | (simp [Value.category]; omega)) (by first | decide | (dsimp only; omega) | (simp [Value.category]; done) | (simp [Value.category]; omega)) (by first | decide | (dsimp only; omega) | (simp [Value.category]; done) | (simp [Value.category]; omega)) (by first | decide | (dsimp only; omega) | (simp [Value.category]; done) | (simp [Value.category]; omega)) (fun v8 h8 W8 ⟨e8, e8'⟩ s8 => ?_)
          subst e8 e8'
          dsimp only [Option.toList, List.cons_append, List.nil_append]
          refine Ow.istore C dSL_142 (pc' := 144) rfl rfl ?_
          dsimp only [List.set]
          refine Ow.iload C dSL_144 (pc' := 146) rfl rfl ?_
          refine Ow.callS C (tw97 G.1) (tw98 G.1) (tw39 G.1) (tw99 G.1) (by decide) (con_CE G (Ow.low (cs.getD j 0)) hlr.1 h8 _) (fun _ q => q) pd_5 rfl rfl rfl dSL_146 (pc' := 149) rfl (Wt := 0) (Nat.le_refl _) (by first | decide | (dsimp only; omega) | (simp [Value.category]; done) | (simp [Value.category]; omega)) (by first | decide | (dsimp only; omega) | (simp [Value.category]; done) | (simp [Value.category]; omega)) (by first | decide | (dsimp only; omega) | (simp [Value.category]; done) | (simp [Value.category]; omega)) (by first | decide | (dsimp only; omega) | (simp [Value.category]; done) | (simp [Value.category]; omega)) (fun v9 h9 W9 ⟨e9, e9'⟩ s9 => ?_)
          rw [if_pos hlr.2] at e9
          subst e9 e9'
          dsimp only [Option.toList, List.cons_append, List.nil_append]
          refine Ow.ifCY C 161 dSL_149 (XT.i0_ne_t (by decide)) (by decide) (by decide) ?_
          refine Ow.aload C dSL_161 (pc' := 163) rfl rfl rfl ?_
          refine Ow.iload C dSL_163 (pc' := 165) rfl rfl ?_
          refine Ow.iload C dSL_165 (pc' := 167) rfl rfl ?_
          refine Ow.i2b C dSL_167 (pc' := 168) rfl ?_
          refine Ow.bastore C V7 (i := j) (Ow.ofNat_toInt (by omega)) (by simp; omega) (by simp) dSL_168 (pc' := 169) rfl (fun h10 K10 V10 => ?_)
          rw [Ow.nar_byte_nar'] at V10
          have e10 : Ow.low (cs.getD j 0) = (cs.map Ow.low).getD j 0 := (Ow.map_getD hj').symm
          rw [e10, Ow.take_step (by simpa using hj')] at V10
          refine Ow.iinc C (1 : Int32) dSL_169 (pc' := 172) rfl rfl rfl ?_
          dsimp only [List.set]
          refine Ow.goto C 117 dSL_172 (by decide) (by decide) ?_
          rw [← inc_ofNat]
          exact ih (j + 1) h10 _ (by omega) (K7.trans K10 (fun _ q => Or.inl q)) V10 rfl
      exact (loop (cs.length - i) i h6 .unset (by omega) K06 V6' rfl).room (by simp) (by simp; omega)
  have find : ∀ (r i : Nat) (o5 : Slot), i + r = cs.length → (∀ j, j < i → Ow.low (cs.getD j 0) = cs.getD j 0) → Ow.okS (some o5) = true →
      Ow.WP p l e (rmSL B) s m #[.ref a, .ref d, .ref lc] below meth c Z EL1 bb (fun v h' W' => ∃ a' d' : Nat, v = some (.ref a') ∧ Ow.StrL Z h' a' d' (cs.map Ow.low) ∧ Keep h h' [] ∧ (a' = a ∨ h.size ≤ a'))
        18 [.val (.ref a), .val (.ref d), .val (.ref lc), .val (.int (Int32.ofNat i)), .val (.int (Int32.ofNat cs.length)), o5, .unset, .unset, .unset] [] h W 0 0 := by
    intro r
    induction r with
    | zero =>
      intro i o5 hi hq ho5
      obtain rfl : i = cs.length := by omega
      refine Ow.iloadN C dSL_18 (pc' := 19) rfl rfl ?_
      refine Ow.iload C dSL_19 (pc' := 21) rfl rfl ?_
      refine Ow.icmpY C 55 dSL_21 (XT.ii_ge_t (by rw [Ow.lt32]; omega)) (by decide) (by decide) ?_
      exact J55 _ o5 (Nat.le_refl _) hq ho5
    | succ r ih =>
      intro i o5 hi hq ho5
      have hi' : i < cs.length := by omega
      have hc := Ow.getD_rng hL hi'
      refine Ow.iloadN C dSL_18 (pc' := 19) rfl rfl ?_
      refine Ow.iload C dSL_19 (pc' := 21) rfl rfl ?_
      refine Ow.icmpN C dSL_21 (pc' := 24) rfl (XT.ii_ge_f (by rw [Ow.lt32, Ow.ofNat_toInt (by omega), Ow.ofNat_toInt hN]; omega)) ?_
      refine Ow.aloadN C dSL_24 (pc' := 25) rfl rfl rfl ?_
      refine Ow.iloadN C dSL_25 (pc' := 26) rfl rfl ?_
      refine Ow.baload C V (i := i) (Ow.ofNat_toInt (by omega)) (by simpa using hi') dSL_26 (pc' := 27) rfl ?_
      rw [Ow.map_getD hi']
      refine Ow.sipush C (255 : Int32) dSL_27 (pc' := 30) rfl rfl ?_
      refine Ow.iand C dSL_30 (pc' := 31) rfl ?_
      rw [Ow.byte_back hc.1 hc.2]
      refine Ow.istore C dSL_31 (pc' := 33) rfl ho5 ?_
      dsimp only [List.set]
      refine Ow.iload C dSL_33 (pc' := 35) rfl rfl ?_
      refine Ow.getS C (tw124 G.1) Ci.1 dSL_35 (pc' := 38) rfl ?_
      refine Ow.iload C dSL_38 (pc' := 40) rfl rfl ?_
      refine Ow.callV C (y := (⟨"java/lang/CharacterDataLatin1", "toLowerCase", "(I)I"⟩ : MethodName)) (z := (⟨"java/lang/CharacterDataLatin1", "toLowerCase", "(I)I"⟩ : MethodName)) (tw150 G.1) (tw151 G.1) (tw153 G.1) (tw153 G.1) (tw152 G.1) (tw125 G.1) (tw154 G.1) (by decide) Ec (con_CD G ci (cs.getD i 0) hc.1 hc.2 h _) (fun _ q => q) pd_10 rfl rfl rfl dSL_40 (pc' := 43) rfl (Wt := 1) (Nat.le_refl _) (by first | decide | (dsimp only; omega) | (simp [Value.category]; done) | (simp [Value.category]; omega)) (by first | decide | (dsimp only; omega) | (simp [Value.category]; done) | (simp [Value.category]; omega)) (by first | decide | (dsimp only; omega) | (simp [Value.category]; done) | (simp [Value.category]; omega)) (by first | decide | (dsimp only; omega) | (simp [Value.category]; done) | (simp [Value.category]; omega)) (fun v8 h8 W8 ⟨e8, e8'⟩ s8 => ?_)
      subst e8 e8'
      dsimp only [Option.toList, List.cons_append, List.nil_append]
      refine Ow.icmp C 49 46 dSL_43 (Ow.kEq _ _) (by decide) (by decide) rfl (fun hcc => ?_) (fun hcc => ?_)
      · refine Ow.iinc C (1 : Int32) dSL_49 (pc' := 52) rfl rfl rfl ?_
        dsimp only [List.set]
        refine Ow.goto C 18 dSL_52 (by decide) (by decide) ?_
        rw [← inc_ofNat]
        exact ih (i + 1) _ (by omega) (fun j hj => by
          rcases Nat.lt_succ_iff_lt_or_eq.mp hj with q | rfl
          · exact hq j q
          · exact hcc.symm) rfl
      · refine Ow.goto C 55 dSL_46 (by decide) (by decide) ?_
        exact J55 i _ (by omega) hq rfl
  refine Ow.istore C dSL_14 (pc' := 16) rfl rfl ?_
  dsimp only [List.set]
  refine Ow.iconst C (0 : Int32) dSL_16 (pc' := 17) rfl rfl ?_
  refine Ow.istoreN C dSL_17 (pc' := 18) rfl rfl ?_
  dsimp only [List.set]
  exact find cs.length 0 .unset (by omega) (fun j hj => by omega) rfl
abbrev rmTL (B : Nat) : Room := { frames := 3, cells := 8, slots := 40 + B, locals := 50 }
theorem con_TL (G : Glob Z a0) (B : Nat) (a d lc bl lg lv ci : Nat) (cs : List Int32) (h : Heap) (W : List Nat) (S : Ow.StrL Z h a d cs) (K : LocOk Z lc bl lg lv) (Ci : Sta Z Z.heap "java/lang/CharacterDataLatin1" "instance" "Ljava/lang/CharacterDataLatin1;" (.ref ci) ∧ Exa Z Z.heap ci "java/lang/CharacterDataLatin1") (hB : cs.length ≤ B) (hB2 : B ≤ 4000) :
    Ow.Con l Z EL1 bb (⟨"java/lang/String", "toLowerCase", "(Ljava/util/Locale;)Ljava/lang/String;"⟩ : MethodName) jdk_42_method_109_code 2 (Option.some (Jvm.ClassFile.FieldType.object "java/lang/String")) [] (rmTL B) #[.ref a, .ref lc] h W
      (fun v h' W' => ∃ a' d' : Nat, v = some (.ref a') ∧ Ow.StrL Z h' a' d' (cs.map Ow.low) ∧ Keep h h' [] ∧ (a' = a ∨ h.size ≤ a')) := by
  refine Ow.Con.intro (a0 := a0) pn_18 (ewG G) (saG G) bbG [.val (.ref a), .val (.ref lc)] (by first | exact Ow.locals_all (by simp [Value.category]) rfl | rfl | (simp [argsToLocals, Value.category]; done)) ?_
  intro p e s m below meth c C hO
  refine Ow.aloadN C dTL_0 (pc' := 1) rfl rfl rfl ?_
  refine Ow.callV C (y := (⟨"java/lang/String", "isLatin1", "()Z"⟩ : MethodName)) (z := (⟨"java/lang/String", "isLatin1", "()Z"⟩ : MethodName)) (tw32 G.1) (tw33 G.1) (tw35 G.1) (tw35 G.1) (tw34 G.1) (tw1 G.1) (tw36 G.1) (by decide) S.1 (con_IL G a 0 h W S.2.2.1) (fun _ q => q) pd_11 rfl rfl rfl dTL_1 (pc' := 4) rfl (Wt := 0) (Nat.le_refl _) (by first | decide | (dsimp only; omega) | (simp [Value.category]; done) | (simp [Value.category]; omega)) (by first | decide | (dsimp only; omega) | (simp [Value.category]; done) | (simp [Value.category]; omega)) (by first | decide | (dsimp only; omega) | (simp [Value.category]; done) | (simp [Value.category]; omega)) (by first | decide | (dsimp only; omega) | (simp [Value.category]; done) | (simp [Value.category]; omega)) (fun v1 h1 W1 ⟨e1, e1'⟩ s1 => ?_)
  rw [if_pos rfl] at e1
  subst e1 e1'
  dsimp only [Option.toList, List.cons_append, List.nil_append]
  refine Ow.ifCN C dTL_4 (pc' := 7) rfl (XT.i0_eq_f (by decide)) ?_
  refine Ow.aloadN C dTL_7 (pc' := 8) rfl rfl rfl ?_
  refine Ow.aloadN C dTL_8 (pc' := 9) rfl rfl rfl ?_
  refine Ow.getF C (tw13 G.1) S.2.1 dTL_9 (pc' := 12) rfl ?_
  refine Ow.aloadN C dTL_12 (pc' := 13) rfl rfl rfl ?_
  refine Ow.callS C (tw147 G.1) (tw148 G.1) (tw39 G.1) (tw149 G.1) (by decide) (con_SL G B a d lc bl lg lv ci cs h1 W S K Ci hB hB2) (fun _ q => q) pd_12 rfl rfl rfl dTL_13 (pc' := 16) rfl (Wt := 0) (Nat.le_refl _) (by first | decide | (dsimp only; omega) | (simp [Value.category]; done) | (simp [Value.category]; omega)) (by first | decide | (dsimp only; omega) | (simp [Value.category]; done) | (simp [Value.category]; omega)) (by first | decide | (dsimp only; omega) | (simp [Value.category]; done) | (simp [Value.category]; omega)) (by first | decide | (dsimp only; omega) | (simp [Value.category]; done) | (simp [Value.category]; omega)) (fun v2 h2 W2 ⟨a', d', e2, S2, K2, g2⟩ s2 => ?_)
  subst e2
  dsimp only [Option.toList, List.cons_append, List.nil_append]
  refine Ow.goto C 28 dTL_16 (by decide) (by decide) ?_
  refine Ow.retA C rfl rfl rfl dTL_28 (by first | decide | (dsimp only; omega) | (simp [Value.category]; done) | (simp [Value.category]; omega)) (by first | decide | (dsimp only; omega) | (simp [Value.category]; done) | (simp [Value.category]; omega)) [] (by simp) ⟨a', d', rfl, S2, K2, g2⟩
end StrLow

section StrIXs
variable {l : Launch} {Z : State} {a0 : Array Value}
abbrev rmIX : Room := { frames := 5, cells := 0, slots := 0, locals := 73 }
theorem con_IX (G : Glob Z a0) (a d : Nat) (cs : List Int32) (ch : Int32) (i : Nat) (h : Heap) (W : List Nat) (S : Ow.StrL Z h a d cs) (hc : 0 ≤ ch.toInt ∧ ch.toInt < 65536) (hi : i ≤ cs.length) :
    Ow.Con l Z EL1 bb (⟨"java/lang/String", "indexOf", "(II)I"⟩ : MethodName) jdk_42_method_80_code 3 (Option.some Jvm.ClassFile.FieldType.int) [] rmIX #[.ref a, .int ch, .int (Int32.ofNat i)] h W (fun v h' W' => (∃ r, v = some (.int r) ∧ Ow.Idx cs ch i r) ∧ h' = h) := by
  refine Ow.Con.intro (a0 := a0) pn_19 (ewG G) (saG G) bbG [.val (.ref a), .val (.int ch), .val (.int (Int32.ofNat i))] (by first | exact Ow.locals_all (by simp [Value.category]) rfl | rfl | (simp [argsToLocals, Value.category]; done)) ?_
  intro p e s m below meth c C hO
  refine Ow.aloadN C dIX_0 (pc' := 1) rfl rfl rfl ?_
  refine Ow.callV C (y := (⟨"java/lang/String", "isLatin1", "()Z"⟩ : MethodName)) (z := (⟨"java/lang/String", "isLatin1", "()Z"⟩ : MethodName)) (tw32 G.1) (tw33 G.1) (tw35 G.1) (tw35 G.1) (tw34 G.1) (tw1 G.1) (tw36 G.1) (by decide) S.1 (con_IL G a 0 h W S.2.2.1) (fun _ q => q) pd_11 rfl rfl rfl dIX_1 (pc' := 4) rfl (Wt := 0) (Nat.le_refl _) (by first | decide | (dsimp only; omega) | (simp [Value.category]; done) | (simp [Value.category]; omega)) (by first | decide | (dsimp only; omega) | (simp [Value.category]; done) | (simp [Value.category]; omega)) (by first | decide | (dsimp only; omega) | (simp [Value.category]; done) | (simp [Value.category]; omega)) (by first | decide | (dsimp only; omega) | (simp [Value.category]; done) | (simp [Value.category]; omega)) (fun v1 h1 W1 ⟨e1, e1'⟩ s1 => ?_)
  rw [if_pos rfl] at e1
  subst e1 e1'
  dsimp only [Option.toList, List.cons_append, List.nil_append]
  refine Ow.ifCN C dIX_4 (pc' := 7) rfl (XT.i0_eq_f (by decide)) ?_
  refine Ow.aloadN C dIX_7 (pc' := 8) rfl rfl rfl ?_
  refine Ow.getF C (tw13 G.1) S.2.1 dIX_8 (pc' := 11) rfl ?_
  refine Ow.iloadN C dIX_11 (pc' := 12) rfl rfl ?_
  refine Ow.iloadN C dIX_12 (pc' := 13) rfl rfl ?_
  refine Ow.aloadN C dIX_13 (pc' := 14) rfl rfl rfl ?_
  refine Ow.callV C (y := (⟨"java/lang/String", "length", "()I"⟩ : MethodName)) (z := (⟨"java/lang/String", "length", "()I"⟩ : MethodName)) (tw93 G.1) (tw9 G.1) (tw11 G.1) (tw11 G.1) (tw10 G.1) (tw1 G.1) (tw12 G.1) (by decide) S.1 (con_LN G a d cs _ W S) (fun _ q => q) pd_13 rfl rfl rfl dIX_14 (pc' := 17) rfl (Wt := 3) (Nat.le_refl _) (by first | decide | (dsimp only; omega) | (simp [Value.category]; done) | (simp [Value.category]; omega)) (by first | decide | (dsimp only; omega) | (simp [Value.category]; done) | (simp [Value.category]; omega)) (by first | decide | (dsimp only; omega) | (simp [Value.category]; done) | (simp [Value.category]; omega)) (by first | decide | (dsimp only; omega) | (simp [Value.category]; done) | (simp [Value.category]; omega)) (fun v2 h2 W2 ⟨e2, e2'⟩ s2 => ?_)
  subst e2 e2'
  dsimp only [Option.toList, List.cons_append, List.nil_append]
  refine Ow.callS C (tw94 G.1) (tw95 G.1) (tw39 G.1) (tw96 G.1) (by decide) (con_LX G d cs ch i _ W S.2.2.2.1 S.2.2.2.2 hc.1 hi) (fun _ q => q) pd_7 rfl rfl rfl dIX_17 (pc' := 20) rfl (Wt := 0) (Nat.le_refl _) (by first | decide | (dsimp only; omega) | (simp [Value.category]; done) | (simp [Value.category]; omega)) (by first | decide | (dsimp only; omega) | (simp [Value.category]; done) | (simp [Value.category]; omega)) (by first | decide | (dsimp only; omega) | (simp [Value.category]; done) | (simp [Value.category]; omega)) (by first | decide | (dsimp only; omega) | (simp [Value.category]; done) | (simp [Value.category]; omega)) (fun v3 h3 W3 ⟨⟨r, e3, hr⟩, e3'⟩ s3 => ?_)
  subst e3 e3'
  dsimp only [Option.toList, List.cons_append, List.nil_append]
  refine Ow.goto C 36 dIX_20 (by decide) (by decide) ?_
  refine Ow.retI C rfl dIX_36 (by first | decide | (dsimp only; omega) | (simp [Value.category]; done) | (simp [Value.category]; omega)) (by first | decide | (dsimp only; omega) | (simp [Value.category]; done) | (simp [Value.category]; omega)) [] (by simp) ⟨⟨_, rfl, hr⟩, rfl⟩
abbrev rmIA : Room := { frames := 6, cells := 0, slots := 0, locals := 87 }
theorem con_IA (G : Glob Z a0) (a d : Nat) (cs : List Int32) (ch : Int32) (h : Heap) (W : List Nat) (S : Ow.StrL Z h a d cs) (hc : 0 ≤ ch.toInt ∧ ch.toInt < 65536) :
    Ow.Con l Z EL1 bb (⟨"java/lang/String", "indexOf", "(I)I"⟩ : MethodName) jdk_42_method_79_code 2 (Option.some Jvm.ClassFile.FieldType.int) [] rmIA #[.ref a, .int ch] h W (fun v h' W' => (∃ r, v = some (.int r) ∧ Ow.Idx cs ch 0 r) ∧ h' = h) := by
  refine Ow.Con.intro (a0 := a0) pn_20 (ewG G) (saG G) bbG [.val (.ref a), .val (.int ch)] (by first | exact Ow.locals_all (by simp [Value.category]) rfl | rfl | (simp [argsToLocals, Value.category]; done)) ?_
  intro p e s m below meth c C hO
  refine Ow.aloadN C dIA_0 (pc' := 1) rfl rfl rfl ?_
  refine Ow.iloadN C dIA_1 (pc' := 2) rfl rfl ?_
  refine Ow.iconst C (0 : Int32) dIA_2 (pc' := 3) rfl rfl ?_
  refine Ow.callV C (y := (⟨"java/lang/String", "indexOf", "(II)I"⟩ : MethodName)) (z := (⟨"java/lang/String", "indexOf", "(II)I"⟩ : MethodName)) (tw88 G.1) (tw89 G.1) (tw91 G.1) (tw91 G.1) (tw90 G.1) (tw1 G.1) (tw92 G.1) (by decide) S.1 (con_IX G a d cs ch 0 h W S hc (by omega)) (fun _ q => q) pd_6 rfl rfl rfl dIA_3 (pc' := 6) rfl (Wt := 0) (Nat.le_refl _) (by first | decide | (dsimp only; omega) | (simp [Value.category]; done) | (simp [Value.category]; omega)) (by first | decide | (dsimp only; omega) | (simp [Value.category]; done) | (simp [Value.category]; omega)) (by first | decide | (dsimp only; omega) | (simp [Value.category]; done) | (simp [Value.category]; omega)) (by first | decide | (dsimp only; omega) | (simp [Value.category]; done) | (simp [Value.category]; omega)) (fun v1 h1 W1 ⟨⟨r, e1, hr⟩, e1'⟩ s1 => ?_)
  subst e1 e1'
  dsimp only [Option.toList, List.cons_append, List.nil_append]
  refine Ow.retI C rfl dIA_6 (by first | decide | (dsimp only; omega) | (simp [Value.category]; done) | (simp [Value.category]; omega)) (by first | decide | (dsimp only; omega) | (simp [Value.category]; done) | (simp [Value.category]; omega)) [] (by simp) ⟨⟨_, rfl, hr⟩, rfl⟩
end StrIXs

section StrSub
variable {l : Launch} {Z : State} {a0 : Array Value}
theorem con_FT (G : Glob Z a0) (i j n : Nat) (hij : i ≤ j) (hjn : j ≤ n) (hn : n < 2 ^ 31) (w : Value) (hw : w.isRef = true) (h : Heap) (W : List Nat) :
    Ow.Con l Z EL1 bb (⟨"jdk/internal/util/Preconditions", "checkFromToIndex", "(IIILjava/util/function/BiFunction;)I"⟩ : MethodName) jdk_41_method_12_code 4 (Option.some Jvm.ClassFile.FieldType.int) [] rm0 #[.int (Int32.ofNat i), .int (Int32.ofNat j), .int (Int32.ofNat n), w] h W (fun v h' W' => (∃ x, v = some (.int x)) ∧ h' = h) := by
  refine Ow.Con.intro (a0 := a0) pn_21 (ewG G) (saG G) bbG [.val (.int (Int32.ofNat i)), .val (.int (Int32.ofNat j)), .val (.int (Int32.ofNat n)), .val w] (by first | exact Ow.locals_all (by simp [Ow.cat_ref, Ow.cat_int, Ow.cat_null, XT.cat1 hw]) rfl | rfl | (simp [argsToLocals, Value.category]; done) | simp [argsToLocals, Ow.cat_ref, Ow.cat_int, Ow.cat_null, XT.cat1 hw]) ?_
  intro p e s m below meth c C hO
  refine Ow.iloadN C dFT_0 (pc' := 1) rfl rfl ?_
  refine Ow.ifCN C dFT_1 (pc' := 4) rfl (XT.i0_lt_f (by rw [Ow.lt32, Ow.ofNat_toInt (by omega), Ow.zero_toInt]; omega)) ?_
  refine Ow.iloadN C dFT_4 (pc' := 5) rfl rfl ?_
  refine Ow.iloadN C dFT_5 (pc' := 6) rfl rfl ?_
  refine Ow.icmpN C dFT_6 (pc' := 9) rfl (XT.ii_gt_f (by rw [Ow.lt32, Ow.ofNat_toInt (by omega), Ow.ofNat_toInt (by omega)]; omega)) ?_
  refine Ow.iloadN C dFT_9 (pc' := 10) rfl rfl ?_
  refine Ow.iloadN C dFT_10 (pc' := 11) rfl rfl ?_
  refine Ow.icmpY C 22 dFT_11 (XT.ii_le_t (by rw [Ow.lt32, Ow.ofNat_toInt (by omega), Ow.ofNat_toInt (by omega)]; omega)) (by decide) (by decide) ?_
  refine Ow.iloadN C dFT_22 (pc' := 23) rfl rfl ?_
  refine Ow.retI C rfl dFT_23 (by first | decide | (dsimp only; omega) | (simp [Value.category]; done) | (simp [Value.category]; omega)) (by first | decide | (dsimp only; omega) | (simp [Value.category]; done) | (simp [Value.category]; omega)) [] (by simp) ⟨⟨_, rfl⟩, rfl⟩
abbrev rmCB : Room := { frames := 1, cells := 0, slots := 0, locals := 15 }
theorem con_CB (G : Glob Z a0) (i j n : Nat) (hij : i ≤ j) (hjn : j ≤ n) (hn : n < 2 ^ 31) (h : Heap) (W : List Nat) :
    Ow.Con l Z EL1 bb (⟨"java/lang/String", "checkBoundsBeginEnd", "(III)V"⟩ : MethodName) jdk_42_method_158_code 3 (Option.none : Option Jvm.ClassFile.FieldType) [] rmCB #[.int (Int32.ofNat i), .int (Int32.ofNat j), .int (Int32.ofNat n)] h W (fun v h' W' => v = none ∧ h' = h) := by
  obtain ⟨w, Sw, hw⟩ := sioG G
  refine Ow.Con.intro (a0 := a0) pn_22 (ewG G) (saG G) bbG [.val (.int (Int32.ofNat i)), .val (.int (Int32.ofNat j)), .val (.int (Int32.ofNat n))] (by first | exact Ow.locals_all (by simp [Value.category]) rfl | rfl | (simp [argsToLocals, Value.category]; done)) ?_
  intro p e s m below meth c C hO
  refine Ow.iloadN C dCB_0 (pc' := 1) rfl rfl ?_
  refine Ow.iloadN C dCB_1 (pc' := 2) rfl rfl ?_
  refine Ow.iloadN C dCB_2 (pc' := 3) rfl rfl ?_
  refine Ow.getS C (tw44 G.1) Sw dCB_3 (pc' := 6) rfl ?_
  refine Ow.callS C (tw233 G.1) (tw234 G.1) (tw45 G.1) (tw235 G.1) (by decide) (con_FT G i j n hij hjn hn w hw h W) (fun _ q => q) pd_14 rfl rfl rfl dCB_6 (pc' := 9) rfl (Wt := 0) (Nat.le_refl _) (by first | decide | (dsimp only; omega) | (simp [Value.category]; done) | (simp [Value.category]; omega)) (by first | decide | (dsimp only; omega) | (simp [Value.category]; done) | (simp [Value.category]; omega)) (by first | decide | (dsimp only; omega) | (simp [Value.category]; done) | (simp [Value.category]; omega)) (by first | decide | (dsimp only; omega) | (simp [Value.category]; done) | (simp [Value.category]; omega)) (fun v1 h1 W1 ⟨⟨x1, e1⟩, e1'⟩ s1 => ?_)
  subst e1 e1'
  dsimp only [Option.toList, List.cons_append, List.nil_append]
  refine Ow.pop C dCB_9 (pc' := 10) rfl rfl ?_
  refine Ow.retV C rfl dCB_10 (by first | decide | (dsimp only; omega) | (simp [Value.category]; done) | (simp [Value.category]; omega)) (by first | decide | (dsimp only; omega) | (simp [Value.category]; done) | (simp [Value.category]; omega)) [] (by simp) ⟨rfl, rfl⟩
theorem con_CK (G : Glob Z a0) (i j : Nat) (hij : i ≤ j) (hn : j < 2 ^ 31) (h : Heap) (W : List Nat) :
    Ow.Con l Z EL1 bb (⟨"java/util/Arrays", "checkLength", "(II)V"⟩ : MethodName) jdk_65_method_131_code 2 (Option.none : Option Jvm.ClassFile.FieldType) [] rm0 #[.int (Int32.ofNat i), .int (Int32.ofNat j)] h W (fun v h' W' => v = none ∧ h' = h) := by
  refine Ow.Con.intro (a0 := a0) pn_23 (ewG G) (saG G) bbG [.val (.int (Int32.ofNat i)), .val (.int (Int32.ofNat j))] (by first | exact Ow.locals_all (by simp [Value.category]) rfl | rfl | (simp [argsToLocals, Value.category]; done)) ?_
  intro p e s m below meth c C hO
  refine Ow.iloadN C dCK_0 (pc' := 1) rfl rfl ?_
  refine Ow.iloadN C dCK_1 (pc' := 2) rfl rfl ?_
  refine Ow.icmpY C 37 dCK_2 (XT.ii_ge_t (by rw [Ow.lt32, Ow.ofNat_toInt (by omega), Ow.ofNat_toInt (by omega)]; omega)) (by decide) (by decide) ?_
  refine Ow.retV C rfl dCK_37 (by first | decide | (dsimp only; omega) | (simp [Value.category]; done) | (simp [Value.category]; omega)) (by first | decide | (dsimp only; omega) | (simp [Value.category]; done) | (simp [Value.category]; omega)) [] (by simp) ⟨rfl, rfl⟩
abbrev rmCX (B : Nat) : Room := { frames := 1, cells := 1, slots := B, locals := 18 }
set_option maxHeartbeats 4000000 in
theorem con_CX (G : Glob Z a0) (B d i j : Nat) (xs : List Int32) (hij : i ≤ j) (hjn : j ≤ xs.length) (hB : xs.length ≤ B) (hB2 : B ≤ 4000) (h : Heap) (W : List Nat) (D : ArI Z h d .byte xs) :
    Ow.Con l Z EL1 bb (⟨"java/util/Arrays", "copyOfRangeByte", "([BII)[B"⟩ : MethodName) jdk_65_method_133_code 5 (Option.some (Jvm.ClassFile.FieldType.array Jvm.ClassFile.FieldType.byte)) [] (rmCX B) #[.ref d, .int (Int32.ofNat i), .int (Int32.ofNat j)] h W (fun v h' W' => ∃ y : Nat, v = some (.ref y) ∧ ArI Z h' y .byte ((xs.drop i).take (j - i)) ∧ Keep h h' [] ∧ h.size ≤ y) := by
  refine Ow.Con.intro (a0 := a0) pn_24 (ewG G) (saG G) bbG [.val (.ref d), .val (.int (Int32.ofNat i)), .val (.int (Int32.ofNat j)), .unset, .unset] (by first | exact Ow.locals_all (by simp [Value.category]) rfl | rfl | (simp [argsToLocals, Value.category]; done)) ?_
  intro p e s m below meth c C hO
  have hN := D.2
  refine Ow.iloadN C dCX_0 (pc' := 1) rfl rfl ?_
  refine Ow.iloadN C dCX_1 (pc' := 2) rfl rfl ?_
  refine Ow.callS C (tw220 G.1) (tw221 G.1) (tw215 G.1) (tw222 G.1) (by decide) (con_CK G i j hij (by omega) h W) (fun _ q => q) pd_15 rfl rfl rfl dCX_2 (pc' := 5) rfl (Wt := 0) (Nat.le_refl _) (by first | decide | (dsimp only; omega) | (simp [Value.category]; done) | (simp [Value.category]; omega)) (by first | decide | (dsimp only; omega) | (simp [Value.category]; done) | (simp [Value.category]; omega)) (by first | decide | (dsimp only; omega) | (simp [Value.category]; done) | (simp [Value.category]; omega)) (by first | decide | (dsimp only; omega) | (simp [Value.category]; done) | (simp [Value.category]; omega)) (fun v1 h1 W1 ⟨e1, e1'⟩ s1 => ?_)
  subst e1 e1'
  dsimp only [Option.toList, List.cons_append, List.nil_append]
  refine Ow.iloadN C dCX_5 (pc' := 6) rfl rfl ?_
  refine Ow.iloadN C dCX_6 (pc' := 7) rfl rfl ?_
  refine Ow.isub C dCX_7 (pc' := 8) rfl ?_
  rw [Ow.sub_ofNat hij (by omega)]
  refine Ow.istoreN C dCX_8 (pc' := 9) rfl rfl ?_
  dsimp only [List.set]
  refine Ow.iloadN C dCX_9 (pc' := 10) rfl rfl ?_
  refine Ow.newarr C (ty := .byte) (cap := (j-i)) rfl rfl (tw3 G.1) dCX_10 (pc' := 12) rfl rfl (by omega) (by dsimp only; omega) (by dsimp only; omega) (fun h2 a2 s2 z2 l2 E2 V2 => ?_)
  have D2 := D.ext E2
  have nd : d ≠ a2 := by have := D.lt; omega
  refine Ow.astore C dCX_12 (pc' := 14) rfl rfl rfl ?_
  dsimp only [List.set]
  refine Ow.aloadN C dCX_14 (pc' := 15) rfl rfl rfl ?_
  refine Ow.iloadN C dCX_15 (pc' := 16) rfl rfl ?_
  refine Ow.aload C dCX_16 (pc' := 18) rfl rfl rfl ?_
  refine Ow.iconst C (0 : Int32) dCX_18 (pc' := 19) rfl rfl ?_
  refine Ow.aloadN C dCX_19 (pc' := 20) rfl rfl rfl ?_
  refine Ow.arrlen C D2 dCX_20 (pc' := 21) rfl ?_
  refine Ow.iloadN C dCX_21 (pc' := 22) rfl rfl ?_
  refine Ow.isub C dCX_22 (pc' := 23) rfl ?_
  rw [Ow.sub_ofNat (by omega) hN]
  refine Ow.iloadN C dCX_23 (pc' := 24) rfl rfl ?_
  refine Ow.callS C (tw223 G.1) (tw105 G.1) (tw102 G.1) (tw106 G.1) (by decide) (con_MN G (Int32.ofNat (xs.length - i)) (Int32.ofNat (j - i)) h2 _) (fun _ q => q) pd_6 rfl rfl rfl dCX_24 (pc' := 27) rfl (Wt := 4) (Nat.le_refl _) (by first | decide | (dsimp only; omega) | (simp [Value.category]; done) | (simp [Value.category]; omega)) (by first | decide | (dsimp only; omega) | (simp [Value.category]; done) | (simp [Value.category]; omega)) (by first | decide | (dsimp only; omega) | (simp [Value.category]; done) | (simp [Value.category]; omega)) (by first | decide | (dsimp only; omega) | (simp [Value.category]; done) | (simp [Value.category]; omega)) (fun v3 h3 W3 ⟨e3, e3'⟩ s3 => ?_)
  have e4 : (if Int32.ofNat (j - i) < Int32.ofNat (xs.length - i) then Int32.ofNat (j - i) else Int32.ofNat (xs.length - i)) = Int32.ofNat (j - i) := by
    by_cases q : j = xs.length
    · rw [q, ite_self]
    · rw [if_pos (by rw [Ow.lt32, Ow.ofNat_toInt (by omega), Ow.ofNat_toInt (by omega)]; omega)]
  rw [e4] at e3
  subst e3 e3'
  dsimp only [Option.toList, List.cons_append, List.nil_append]
  refine Ow.acopy C (tw224 G.1) (tw176 G.1) (tw174 G.1) (tw175 G.1) D2 V2 rfl (i := i) (j := 0) (q := j - i) (Ow.ofNat_toInt (by omega)) rfl (Ow.ofNat_toInt (by omega)) (by omega) (by simp) (by simp) dCX_27 (pc' := 30) rfl rfl (by dsimp only; omega) (Wt := 0) (Nat.le_refl _) (by dsimp only; decide) (fun h6 K6 V6 => ?_)
  refine Ow.aload C dCX_30 (pc' := 32) rfl rfl rfl ?_
  refine Ow.retA C rfl rfl rfl dCX_32 (by first | decide | (dsimp only; omega) | (simp [Value.category]; done) | (simp [Value.category]; omega)) (by first | decide | (dsimp only; omega) | (simp [Value.category]; done) | (simp [Value.category]; omega)) [] (by simp) ⟨a2, rfl, by simpa using V6, (Ow.Keep.z E2).trans K6 (fun z hz => Or.inr (by rw [List.mem_singleton.mp hz]; omega)), by omega⟩
abbrev rmCR (B : Nat) : Room := { frames := 2, cells := 1, slots := B, locals := 34 }
set_option maxHeartbeats 4000000 in
theorem con_CR (G : Glob Z a0) (B d i j : Nat) (xs : List Int32) (hij : i ≤ j) (hjn : j ≤ xs.length) (hne : ¬ (i = 0 ∧ j = xs.length)) (hB : xs.length ≤ B) (hB2 : B ≤ 4000) (h : Heap) (W : List Nat) (D : ArI Z h d .byte xs) :
    Ow.Con l Z EL1 bb (⟨"java/util/Arrays", "copyOfRange", "([BII)[B"⟩ : MethodName) jdk_65_method_132_code 3 (Option.some (Jvm.ClassFile.FieldType.array Jvm.ClassFile.FieldType.byte)) [] (rmCR B) #[.ref d, .int (Int32.ofNat i), .int (Int32.ofNat j)] h W (fun v h' W' => ∃ y : Nat, v = some (.ref y) ∧ ArI Z h' y .byte ((xs.drop i).take (j - i)) ∧ Keep h h' [] ∧ h.size ≤ y) := by
  refine Ow.Con.intro (a0 := a0) pn_25 (ewG G) (saG G) bbG [.val (.ref d), .val (.int (Int32.ofNat i)), .val (.int (Int32.ofNat j))] (by first | exact Ow.locals_all (by simp [Value.category]) rfl | rfl | (simp [argsToLocals, Value.category]; done)) ?_
  intro p e s m below meth c C hO
  have hN := D.2
  have J10 : Ow.WP p l e (rmCR B) s m #[.ref d, .int (Int32.ofNat i), .int (Int32.ofNat j)] below meth c Z EL1 bb (fun v h' W' => ∃ y : Nat, v = some (.ref y) ∧ ArI Z h' y .byte ((xs.drop i).take (j - i)) ∧ Keep h h' [] ∧ h.size ≤ y) 10 [.val (.ref d), .val (.int (Int32.ofNat i)), .val (.int (Int32.ofNat j))] [] h W 0 0 := by
    refine Ow.aloadN C dCR_10 (pc' := 11) rfl rfl rfl ?_
    refine Ow.iloadN C dCR_11 (pc' := 12) rfl rfl ?_
    refine Ow.iloadN C dCR_12 (pc' := 13) rfl rfl ?_
    refine Ow.callS C (tw217 G.1) (tw218 G.1) (tw215 G.1) (tw219 G.1) (by decide) (con_CX G B d i j xs hij hjn hB hB2 h W D) (fun _ q => q) pd_16 rfl rfl rfl dCR_13 (pc' := 16) rfl (Wt := 0) (Nat.le_refl _) (by first | decide | (dsimp only; omega) | (simp [Value.category]; done) | (simp [Value.category]; omega)) (by first | decide | (dsimp only; omega) | (simp [Value.category]; done) | (simp [Value.category]; omega)) (by first | decide | (dsimp only; omega) | (simp [Value.category]; done) | (simp [Value.category]; omega)) (by first | decide | (dsimp only; omega) | (simp [Value.category]; done) | (simp [Value.category]; omega)) (fun v1 h1 W1 ⟨y, e1, Y, K1, g1⟩ s1 => ?_)
    subst e1
    dsimp only [Option.toList, List.cons_append, List.nil_append]
    refine Ow.retA C rfl rfl rfl dCR_16 (by first | decide | (dsimp only; omega) | (simp [Value.category]; done) | (simp [Value.category]; omega)) (by first | decide | (dsimp only; omega) | (simp [Value.category]; done) | (simp [Value.category]; omega)) [] (by simp) ⟨y, rfl, Y, K1, g1⟩
  refine Ow.iloadN C dCR_0 (pc' := 1) rfl rfl ?_
  by_cases hi : i = 0
  · refine Ow.ifCN C dCR_1 (pc' := 4) rfl (XT.i0_ne_f (by rw [hi]; rfl)) ?_
    refine Ow.iloadN C dCR_4 (pc' := 5) rfl rfl ?_
    refine Ow.aloadN C dCR_5 (pc' := 6) rfl rfl rfl ?_
    refine Ow.arrlen C D dCR_6 (pc' := 7) rfl ?_
    refine Ow.icmpN C dCR_7 (pc' := 10) rfl (XT.ii_eq_f (fun q => hne ⟨hi, Ow.ofNat_inj (by omega) hN q⟩)) ?_
    exact J10
  · refine Ow.ifCY C 10 dCR_1 (XT.i0_ne_t (fun q => hi (Ow.ofNat_inj (j := 0) (by omega) (by omega) q))) (by decide) (by decide) ?_
    exact J10
abbrev rmNS (B : Nat) : Room := { frames := 3, cells := 2, slots := 4 + B, locals := 50 }
set_option maxHeartbeats 4000000 in
theorem con_NS (G : Glob Z a0) (B d i n : Nat) (cs : List Int32) (hin : i + n ≤ cs.length) (hne : ¬ (i = 0 ∧ n = cs.length)) (hB : cs.length ≤ B) (hB2 : B ≤ 4000) (hL : ∀ z ∈ cs, 0 ≤ z.toInt ∧ z.toInt < 256) (h : Heap) (W : List Nat) (D : ArI Z h d .byte (cs.map (nar .byte))) :
    Ow.Con l Z EL1 bb (⟨"java/lang/StringLatin1", "newString", "([BII)Ljava/lang/String;"⟩ : MethodName) jdk_43_method_47_code 3 (Option.some (Jvm.ClassFile.FieldType.object "java/lang/String")) [] (rmNS B) #[.ref d, .int (Int32.ofNat i), .int (Int32.ofNat n)] h W (fun v h' W' => ∃ a' d' : Nat, v = some (.ref a') ∧ Ow.StrL Z h' a' d' ((cs.drop i).take n) ∧ Keep h h' []) := by
  refine Ow.Con.intro (a0 := a0) pn_26 (ewG G) (saG G) bbG [.val (.ref d), .val (.int (Int32.ofNat i)), .val (.int (Int32.ofNat n))] (by first | exact Ow.locals_all (by simp [Value.category]) rfl | rfl | (simp [argsToLocals, Value.category]; done)) ?_
  intro p e s m below meth c C hO
  have hN : cs.length < 2 ^ 31 := by simpa using D.2
  refine Ow.iloadN C dNS_0 (pc' := 1) rfl rfl ?_
  by_cases hn : n = 0
  · subst hn
    refine Ow.ifCN C dNS_1 (pc' := 4) rfl (XT.i0_ne_f rfl) ?_
    refine Ow.ldcS C rfl (N := 0) (xs := []) (tw237 G.1) (by decide) (by decide) (by decide) dNS_4 (pc' := 6) rfl (by decide) (by decide) (by first | decide | (dsimp only; omega) | (simp [Value.category]; done) | (simp [Value.category]; omega)) (by first | decide | (dsimp only; omega) | (simp [Value.category]; done) | (simp [Value.category]; omega)) (fun h1 b1 d1 E1 B1 Bc1 Bv1 D1 n1 => ?_)
    refine Ow.retA C rfl rfl rfl dNS_6 (by first | decide | (dsimp only; omega) | (simp [Value.category]; done) | (simp [Value.category]; omega)) (by first | decide | (dsimp only; omega) | (simp [Value.category]; done) | (simp [Value.category]; omega)) [] (by simp) ⟨b1, d1, rfl, ⟨B1, Bv1, Bc1, D1, by simp⟩, Ow.Keep.z E1⟩
  · refine Ow.ifCY C 7 dNS_1 (XT.i0_ne_t (fun q => hn (Ow.ofNat_inj (j := 0) (by omega) (by omega) q))) (by decide) (by decide) ?_
    refine Ow.newO C (tw177 G.1) (tw2 G.1) (tw1 G.1) dNS_7 (pc' := 10) rfl (by first | decide | (dsimp only; omega) | (simp [Value.category]; done) | (simp [Value.category]; omega)) (by first | decide | (dsimp only; omega) | (simp [Value.category]; done) | (simp [Value.category]; omega)) (fun h1 a1 s1 z1 l1 E1 ⟨A1, D1⟩ => ?_)
    refine Ow.dup C dNS_10 (pc' := 11) rfl rfl ?_
    refine Ow.aloadN C dNS_11 (pc' := 12) rfl rfl rfl ?_
    refine Ow.iloadN C dNS_12 (pc' := 13) rfl rfl ?_
    refine Ow.iloadN C dNS_13 (pc' := 14) rfl rfl ?_
    refine Ow.iloadN C dNS_14 (pc' := 15) rfl rfl ?_
    refine Ow.iadd C dNS_15 (pc' := 16) rfl ?_
    rw [Ow.add_ofNat (by omega)]
    refine Ow.callS C (tw213 G.1) (tw214 G.1) (tw215 G.1) (tw216 G.1) (by decide) (con_CR G B d i (i + n) (cs.map (nar .byte)) (by omega) (by simp; omega) (by simp; omega) (by simp; omega) hB2 h1 _ (D.ext E1)) (fun _ q => q) pd_16 rfl rfl rfl dNS_16 (pc' := 19) rfl (Wt := 2) (Nat.le_refl _) (by first | decide | (dsimp only; omega) | (simp [Value.category]; done) | (simp [Value.category]; omega)) (by first | decide | (dsimp only; omega) | (simp [Value.category]; done) | (simp [Value.category]; omega)) (by first | decide | (dsimp only; omega) | (simp [Value.category]; done) | (simp [Value.category]; omega)) (by first | decide | (dsimp only; omega) | (simp [Value.category]; done) | (simp [Value.category]; omega)) (fun v2 h2 W2 ⟨y, e2, Y, K2, g2⟩ s2 => ?_)
    subst e2
    dsimp only [Option.toList, List.cons_append, List.nil_append]
    have Y' : ArI Z h2 y .byte (((cs.drop i).take n).map (nar .byte)) := by
      rw [Nat.add_sub_cancel_left] at Y
      simpa [List.map_take, List.map_drop] using Y
    have ny : y ≠ a1 := by omega
    refine Ow.iconst C (0 : Int32) dNS_19 (pc' := 20) rfl rfl ?_
    refine Ow.callI C rfl (tw178 G.1) (tw179 G.1) (tw1 G.1) (tw180 G.1) (by decide) (con_BI G a1 y ((cs.drop i).take n) h2 _ _ _ (A1.keep K2) ((D1 (Or.inr (tw4 G.1)) (ty := .array .byte) (by decide)).keep K2 nin0) ((D1 (Or.inr (tw5 G.1)) (ty := .byte) (by decide)).keep K2 nin0) (by simp) Y' (by intro z hz; exact hL z (List.mem_of_mem_drop (List.mem_of_mem_take hz))) ny) (fun _ q => q) pd_9 rfl rfl rfl dNS_20 (pc' := 23) rfl (Wt := 1) (Nat.le_refl _) (by first | decide | (dsimp only; omega) | (simp [Value.category]; done) | (simp [Value.category]; omega)) (by first | decide | (dsimp only; omega) | (simp [Value.category]; done) | (simp [Value.category]; omega)) (by first | decide | (dsimp only; omega) | (simp [Value.category]; done) | (simp [Value.category]; omega)) (by first | decide | (dsimp only; omega) | (simp [Value.category]; done) | (simp [Value.category]; omega)) (fun v3 h3 W3 ⟨e3, S3, K3⟩ s3 => ?_)
    subst e3
    dsimp only [Option.toList, List.cons_append, List.nil_append]
    refine Ow.retA C rfl rfl rfl dNS_23 (by first | decide | (dsimp only; omega) | (simp [Value.category]; done) | (simp [Value.category]; omega)) (by first | decide | (dsimp only; omega) | (simp [Value.category]; done) | (simp [Value.category]; omega)) [] (by simp) ⟨a1, y, rfl, S3, ((Ow.Keep.z E1).trans K2 (fun _ q => nomatch q)).trans K3 (fun z hz => Or.inr (by rw [List.mem_singleton.mp hz]; omega))⟩
abbrev rmSS (B : Nat) : Room := { frames := 4, cells := 2, slots := 4 + B, locals := 64 }
set_option maxHeartbeats 4000000 in
theorem con_SS (G : Glob Z a0) (B a d i j : Nat) (cs : List Int32) (hij : i ≤ j) (hjn : j ≤ cs.length) (hB : cs.length ≤ B) (hB2 : B ≤ 4000) (h : Heap) (W : List Nat) (S : Ow.StrL Z h a d cs) :
    Ow.Con l Z EL1 bb (⟨"java/lang/String", "substring", "(II)Ljava/lang/String;"⟩ : MethodName) jdk_42_method_92_code 5 (Option.some (Jvm.ClassFile.FieldType.object "java/lang/String")) [] (rmSS B) #[.ref a, .int (Int32.ofNat i), .int (Int32.ofNat j)] h W (fun v h' W' => ∃ a' d' : Nat, v = some (.ref a') ∧ Ow.StrL Z h' a' d' ((cs.drop i).take (j - i)) ∧ Keep h h' []) := by
  refine Ow.Con.intro (a0 := a0) pn_27 (ewG G) (saG G) bbG [.val (.ref a), .val (.int (Int32.ofNat i)), .val (.int (Int32.ofNat j)), .unset, .unset] (by first | exact Ow.locals_all (by simp [Value.category]) rfl | rfl | (simp [argsToLocals, Value.category]; done)) ?_
  intro p e s m below meth c C hO
  have hN : cs.length < 2 ^ 31 := S.len
  have J22 : ¬ (i = 0 ∧ j = cs.length) → Ow.WP p l e (rmSS B) s m #[.ref a, .int (Int32.ofNat i), .int (Int32.ofNat j)] below meth c Z EL1 bb (fun v h' W' => ∃ a' d' : Nat, v = some (.ref a') ∧ Ow.StrL Z h' a' d' ((cs.drop i).take (j - i)) ∧ Keep h h' []) 22 [.val (.ref a), .val (.int (Int32.ofNat i)), .val (.int (Int32.ofNat j)), .val (.int (Int32.ofNat cs.length)), .unset] [] h W 0 0 := by
    intro hq
    refine Ow.iloadN C dSS_22 (pc' := 23) rfl rfl ?_
    refine Ow.iloadN C dSS_23 (pc' := 24) rfl rfl ?_
    refine Ow.isub C dSS_24 (pc' := 25) rfl ?_
    rw [Ow.sub_ofNat hij (by omega)]
    refine Ow.istore C dSS_25 (pc' := 27) rfl rfl ?_
    dsimp only [List.set]
    refine Ow.aloadN C dSS_27 (pc' := 28) rfl rfl rfl ?_
    refine Ow.callV C (y := (⟨"java/lang/String", "isLatin1", "()Z"⟩ : MethodName)) (z := (⟨"java/lang/String", "isLatin1", "()Z"⟩ : MethodName)) (tw32 G.1) (tw33 G.1) (tw35 G.1) (tw35 G.1) (tw34 G.1) (tw1 G.1) (tw36 G.1) (by decide) S.1 (con_IL G a 0 h W S.2.2.1) (fun _ q => q) pd_11 rfl rfl rfl dSS_28 (pc' := 31) rfl (Wt := 0) (Nat.le_refl _) (by first | decide | (dsimp only; omega) | (simp [Value.category]; done) | (simp [Value.category]; omega)) (by first | decide | (dsimp only; omega) | (simp [Value.category]; done) | (simp [Value.category]; omega)) (by first | decide | (dsimp only; omega) | (simp [Value.category]; done) | (simp [Value.category]; omega)) (by first | decide | (dsimp only; omega) | (simp [Value.category]; done) | (simp [Value.category]; omega)) (fun v1 h1 W1 ⟨e1, e1'⟩ s1 => ?_)
    rw [if_pos rfl] at e1
    subst e1 e1'
    dsimp only [Option.toList, List.cons_append, List.nil_append]
    refine Ow.ifCN C dSS_31 (pc' := 34) rfl (XT.i0_eq_f (by decide)) ?_
    refine Ow.aloadN C dSS_34 (pc' := 35) rfl rfl rfl ?_
    refine Ow.getF C (tw13 G.1) S.2.1 dSS_35 (pc' := 38) rfl ?_
    refine Ow.iloadN C dSS_38 (pc' := 39) rfl rfl ?_
    refine Ow.iload C dSS_39 (pc' := 41) rfl rfl ?_
    refine Ow.callS C (tw236 G.1) (tw211 G.1) (tw39 G.1) (tw212 G.1) (by decide) (con_NS G B d i (j - i) cs (by omega) (by omega) hB hB2 S.2.2.2.2 h1 W S.2.2.2.1) (fun _ q => q) pd_17 rfl rfl rfl dSS_41 (pc' := 44) rfl (Wt := 0) (Nat.le_refl _) (by first | decide | (dsimp only; omega) | (simp [Value.category]; done) | (simp [Value.category]; omega)) (by first | decide | (dsimp only; omega) | (simp [Value.category]; done) | (simp [Value.category]; omega)) (by first | decide | (dsimp only; omega) | (simp [Value.category]; done) | (simp [Value.category]; omega)) (by first | decide | (dsimp only; omega) | (simp [Value.category]; done) | (simp [Value.category]; omega)) (fun v2 h2 W2 ⟨a', d', e2, S2, K2⟩ s2 => ?_)
    subst e2
    dsimp only [Option.toList, List.cons_append, List.nil_append]
    refine Ow.goto C 57 dSS_44 (by decide) (by decide) ?_
    refine Ow.retA C rfl rfl rfl dSS_57 (by first | decide | (dsimp only; omega) | (simp [Value.category]; done) | (simp [Value.category]; omega)) (by first | decide | (dsimp only; omega) | (simp [Value.category]; done) | (simp [Value.category]; omega)) [] (by simp) ⟨a', d', rfl, S2, K2⟩
  refine Ow.aloadN C dSS_0 (pc' := 1) rfl rfl rfl ?_
  refine Ow.callV C (y := (⟨"java/lang/String", "length", "()I"⟩ : MethodName)) (z := (⟨"java/lang/String", "length", "()I"⟩ : MethodName)) (tw93 G.1) (tw9 G.1) (tw11 G.1) (tw11 G.1) (tw10 G.1) (tw1 G.1) (tw12 G.1) (by decide) S.1 (con_LN G a d cs h W S) (fun _ q => q) pd_13 rfl rfl rfl dSS_1 (pc' := 4) rfl (Wt := 0) (Nat.le_refl _) (by first | decide | (dsimp only; omega) | (simp [Value.category]; done) | (simp [Value.category]; omega)) (by first | decide | (dsimp only; omega) | (simp [Value.category]; done) | (simp [Value.category]; omega)) (by first | decide | (dsimp only; omega) | (simp [Value.category]; done) | (simp [Value.category]; omega)) (by first | decide | (dsimp only; omega) | (simp [Value.category]; done) | (simp [Value.category]; omega)) (fun v1 h1 W1 ⟨e1, e1'⟩ s1 => ?_)
  subst e1 e1'
  dsimp only [Option.toList, List.cons_append, List.nil_append]
  refine Ow.istoreN C dSS_4 (pc' := 5) rfl rfl ?_
  dsimp only [List.set]
  refine Ow.iloadN C dSS_5 (pc' := 6) rfl rfl ?_
  refine Ow.iloadN C dSS_6 (pc' := 7) rfl rfl ?_
  refine Ow.iloadN C dSS_7 (pc' := 8) rfl rfl ?_
  refine Ow.callS C (tw230 G.1) (tw231 G.1) (tw1 G.1) (tw232 G.1) (by decide) (con_CB G i j cs.length hij hjn hN h1 W) (fun _ q => q) pd_18 rfl rfl rfl dSS_8 (pc' := 11) rfl (Wt := 0) (Nat.le_refl _) (by first | decide | (dsimp only; omega) | (simp [Value.category]; done) | (simp [Value.category]; omega)) (by first | decide | (dsimp only; omega) | (simp [Value.category]; done) | (simp [Value.category]; omega)) (by first | decide | (dsimp only; omega) | (simp [Value.category]; done) | (simp [Value.category]; omega)) (by first | decide | (dsimp only; omega) | (simp [Value.category]; done) | (simp [Value.category]; omega)) (fun v2 h2 W2 ⟨e2, e2'⟩ s2 => ?_)
  subst e2 e2'
  dsimp only [Option.toList, List.cons_append, List.nil_append]
  refine Ow.iloadN C dSS_11 (pc' := 12) rfl rfl ?_
  by_cases hi : i = 0
  · refine Ow.ifCN C dSS_12 (pc' := 15) rfl (XT.i0_ne_f (by rw [hi]; rfl)) ?_
    refine Ow.iloadN C dSS_15 (pc' := 16) rfl rfl ?_
    refine Ow.iloadN C dSS_16 (pc' := 17) rfl rfl ?_
    by_cases hj : j = cs.length
    · refine Ow.icmpN C dSS_17 (pc' := 20) rfl (XT.ii_ne_f (by rw [hj])) ?_
      refine Ow.aloadN C dSS_20 (pc' := 21) rfl rfl rfl ?_
      refine Ow.retA C rfl rfl rfl dSS_21 (by first | decide | (dsimp only; omega) | (simp [Value.category]; done) | (simp [Value.category]; omega)) (by first | decide | (dsimp only; omega) | (simp [Value.category]; done) | (simp [Value.category]; omega)) [] (by simp) ⟨a, d, rfl, by rw [hi, hj]; simpa using S, Keep.refl _ _⟩
    · refine Ow.icmpY C 22 dSS_17 (XT.ii_ne_t (fun q => hj (Ow.ofNat_inj (by omega) hN q))) (by decide) (by decide) ?_
      exact J22 (fun q => hj q.2)
  · refine Ow.ifCY C 22 dSS_12 (XT.i0_ne_t (fun q => hi (Ow.ofNat_inj (j := 0) (by omega) (by omega) q))) (by decide) (by decide) ?_
    exact J22 (fun q => hi q.1)
end StrSub

section StrStrip
variable {l : Launch} {Z : State} {a0 : Array Value}
theorem con_GX (G : Glob Z a0) (d i : Nat) (cs : List Int32) (hi : i < cs.length) (hL : ∀ z ∈ cs, 0 ≤ z.toInt ∧ z.toInt < 256) (h : Heap) (W : List Nat) (D : ArI Z h d .byte (cs.map (nar .byte))) :
    Ow.Con l Z EL1 bb (⟨"java/lang/StringLatin1", "getChar", "([BI)C"⟩ : MethodName) jdk_43_method_44_code 2 (Option.some Jvm.ClassFile.FieldType.char) [] rm0 #[.ref d, .int (Int32.ofNat i)] h W (fun v h' W' => v = some (.int (cs.getD i 0)) ∧ h' = h) := by
  refine Ow.Con.intro (a0 := a0) pn_28 (ewG G) (saG G) bbG [.val (.ref d), .val (.int (Int32.ofNat i))] (by first | exact Ow.locals_all (by simp [Value.category]) rfl | rfl | (simp [argsToLocals, Value.category]; done)) ?_
  intro p e s m below meth c C hO
  have hN : cs.length < 2 ^ 31 := by simpa using D.2
  have hc := Ow.getD_rng hL hi
  refine Ow.aloadN C dGX_0 (pc' := 1) rfl rfl rfl ?_
  refine Ow.iloadN C dGX_1 (pc' := 2) rfl rfl ?_
  refine Ow.baload C D (i := i) (Ow.ofNat_toInt (by omega)) (by simpa using hi) dGX_2 (pc' := 3) rfl ?_
  rw [Ow.map_getD hi]
  refine Ow.sipush C (255 : Int32) dGX_3 (pc' := 6) rfl rfl ?_
  refine Ow.iand C dGX_6 (pc' := 7) rfl ?_
  rw [Ow.byte_back hc.1 hc.2]
  refine Ow.i2c C dGX_7 (pc' := 8) rfl ?_
  rw [Ow.nar_char_id hc.1 (by omega)]
  refine Ow.retN C (t := .char) rfl (by simp) dGX_8 (by first | decide | (dsimp only; omega) | (simp [Value.category]; done) | (simp [Value.category]; omega)) (by first | decide | (dsimp only; omega) | (simp [Value.category]; done) | (simp [Value.category]; omega)) [] (by simp) ⟨by rw [Ow.nar_char_id hc.1 (by omega)], rfl⟩
theorem con_GP (G : Glob Z a0) (ci : Nat) (ch : Int32) (h0 : 0 ≤ ch.toInt) (h1 : ch.toInt < 256) (h : Heap) (W : List Nat) :
    Ow.Con l Z EL1 bb (⟨"java/lang/CharacterDataLatin1", "getProperties", "(I)I"⟩ : MethodName) jdk_116_method_1_code 4 (Option.some Jvm.ClassFile.FieldType.int) [] rm0 #[.ref ci, .int ch] h W (fun v h' W' => v = some (.int (AT.getD ch.toInt.toNat 0)) ∧ h' = h) := by
  obtain ⟨ta, St, At⟩ := tabG G
  refine Ow.Con.intro (a0 := a0) pn_29 (ewG G) (saG G) bbG [.val (.ref ci), .val (.int ch), .unset, .unset] (by first | exact Ow.locals_all (by simp [Value.category]) rfl | rfl | (simp [argsToLocals, Value.category]; done)) ?_
  intro p e s m below meth c C hO
  refine Ow.iloadN C dGP_0 (pc' := 1) rfl rfl ?_
  refine Ow.i2c C dGP_1 (pc' := 2) rfl ?_
  rw [Ow.nar_char_id h0 (by omega)]
  refine Ow.istoreN C dGP_2 (pc' := 3) rfl rfl ?_
  dsimp only [List.set]
  refine Ow.getS C (tw136 G.1) St dGP_3 (pc' := 6) rfl ?_
  refine Ow.iloadN C dGP_6 (pc' := 7) rfl rfl ?_
  refine Ow.iaload C (At.ext hO.2) (i := ch.toInt.toNat) (by omega) (by rw [AT_len]; omega) dGP_7 (pc' := 8) rfl ?_
  refine Ow.istoreN C dGP_8 (pc' := 9) rfl rfl ?_
  dsimp only [List.set]
  refine Ow.iloadN C dGP_9 (pc' := 10) rfl rfl ?_
  refine Ow.retI C rfl dGP_10 (by first | decide | (dsimp only; omega) | (simp [Value.category]; done) | (simp [Value.category]; omega)) (by first | decide | (dsimp only; omega) | (simp [Value.category]; done) | (simp [Value.category]; omega)) [] (by simp) ⟨rfl, rfl⟩
abbrev rmWS : Room := { frames := 1, cells := 0, slots := 0, locals := 15 }
theorem con_WS (G : Glob Z a0) (ci : Nat) (Ci : CdOk Z ci) (ch : Int32) (h0 : 0 ≤ ch.toInt) (h1 : ch.toInt < 256) (h : Heap) (W : List Nat) :
    Ow.Con l Z EL1 bb (⟨"java/lang/CharacterDataLatin1", "isWhitespace", "(I)Z"⟩ : MethodName) jdk_116_method_26_code 3 (Option.some Jvm.ClassFile.FieldType.boolean) [] rmWS #[.ref ci, .int ch] h W (fun v h' W' => v = some (.int (if Ow.wsp ch then 1 else 0)) ∧ h' = h) := by
  refine Ow.Con.intro (a0 := a0) pn_30 (ewG G) (saG G) bbG [.val (.ref ci), .val (.int ch), .unset] (by first | exact Ow.locals_all (by simp [Value.category]) rfl | rfl | (simp [argsToLocals, Value.category]; done)) ?_
  intro p e s m below meth c C hO
  have Ec := Ci.2.ext hO.2
  refine Ow.aloadN C dWS_0 (pc' := 1) rfl rfl rfl ?_
  refine Ow.iloadN C dWS_1 (pc' := 2) rfl rfl ?_
  refine Ow.callV C (y := (⟨"java/lang/CharacterDataLatin1", "getProperties", "(I)I"⟩ : MethodName)) (z := (⟨"java/lang/CharacterDataLatin1", "getProperties", "(I)I"⟩ : MethodName)) (tw131 G.1) (tw132 G.1) (tw134 G.1) (tw134 G.1) (tw133 G.1) (tw125 G.1) (tw135 G.1) (by decide) Ec (con_GP G ci ch h0 h1 h W) (fun _ q => q) pd_10 rfl rfl rfl dWS_2 (pc' := 5) rfl (Wt := 0) (Nat.le_refl _) (by first | decide | (dsimp only; omega) | (simp [Value.category]; done) | (simp [Value.category]; omega)) (by first | decide | (dsimp only; omega) | (simp [Value.category]; done) | (simp [Value.category]; omega)) (by first | decide | (dsimp only; omega) | (simp [Value.category]; done) | (simp [Value.category]; omega)) (by first | decide | (dsimp only; omega) | (simp [Value.category]; done) | (simp [Value.category]; omega)) (fun v1 h1' W1 ⟨e1, e1'⟩ s1 => ?_)
  subst e1 e1'
  dsimp only [Option.toList, List.cons_append, List.nil_append]
  refine Ow.istoreN C dWS_5 (pc' := 6) rfl rfl ?_
  dsimp only [List.set]
  refine Ow.iloadN C dWS_6 (pc' := 7) rfl rfl ?_
  refine Ow.sipush C (28672 : Int32) dWS_7 (pc' := 10) rfl rfl ?_
  refine Ow.iand C dWS_10 (pc' := 11) rfl ?_
  refine Ow.sipush C (16384 : Int32) dWS_11 (pc' := 14) rfl rfl ?_
  have hq := AT_ws h0 h1
  refine Ow.icmp C 21 17 dWS_14 (Ow.kNe _ _) (by decide) (by decide) rfl (fun hc => ?_) (fun hc => ?_)
  · refine Ow.iconst C (0 : Int32) dWS_21 (pc' := 22) rfl rfl ?_
    refine Ow.retN C (t := .boolean) rfl (by simp) dWS_22 (by first | decide | (dsimp only; omega) | (simp [Value.category]; done) | (simp [Value.category]; omega)) (by first | decide | (dsimp only; omega) | (simp [Value.category]; done) | (simp [Value.category]; omega)) [] (by simp) ⟨by rw [if_neg (fun q => hc (hq.mpr q))]; rfl, rfl⟩
  · refine Ow.iconst C (1 : Int32) dWS_17 (pc' := 18) rfl rfl ?_
    refine Ow.goto C 22 dWS_18 (by decide) (by decide) ?_
    refine Ow.retN C (t := .boolean) rfl (by simp) dWS_22 (by first | decide | (dsimp only; omega) | (simp [Value.category]; done) | (simp [Value.category]; omega)) (by first | decide | (dsimp only; omega) | (simp [Value.category]; done) | (simp [Value.category]; omega)) [] (by simp) ⟨by rw [if_pos (hq.mp (Decidable.not_not.mp hc))]; rfl, rfl⟩
abbrev rmNW : Room := { frames := 2, cells := 0, slots := 0, locals := 29 }
set_option maxHeartbeats 4000000 in
theorem con_NW (G : Glob Z a0) (d ci : Nat) (Ci : CdOk Z ci) (cs : List Int32) (hL : ∀ z ∈ cs, 0 ≤ z.toInt ∧ z.toInt < 256) (h : Heap) (W : List Nat) (D : ArI Z h d .byte (cs.map (nar .byte))) :
    Ow.Con l Z EL1 bb (⟨"java/lang/StringLatin1", "indexOfNonWhitespace", "([B)I"⟩ : MethodName) jdk_43_method_37_code 4 (Option.some Jvm.ClassFile.FieldType.int) [] rmNW #[.ref d] h W (fun v h' W' => (∃ i : Nat, v = some (.int (Int32.ofNat i)) ∧ i ≤ cs.length ∧ (∀ k, k < i → Ow.wsp (cs.getD k 0)) ∧ (i = cs.length ∨ ¬ Ow.wsp (cs.getD i 0))) ∧ h' = h) := by
  refine Ow.Con.intro (a0 := a0) pn_31 (ewG G) (saG G) bbG [.val (.ref d), .unset, .unset, .unset] (by first | exact Ow.locals_all (by simp [Value.category]) rfl | rfl | (simp [argsToLocals, Value.category]; done)) ?_
  intro p e s m below meth c C hO
  have hN : cs.length < 2 ^ 31 := by simpa using D.2
  have Ec := Ci.2.ext hO.2
  refine Ow.aloadN C dNW_0 (pc' := 1) rfl rfl rfl ?_
  refine Ow.arrlen C D dNW_1 (pc' := 2) rfl ?_
  rw [List.length_map]
  have loop : ∀ (r i : Nat) (o3 : Slot), i + r = cs.length → (∀ k, k < i → Ow.wsp (cs.getD k 0)) → Ow.okS (some o3) = true →
      Ow.WP p l e rmNW s m #[.ref d] below meth c Z EL1 bb (fun v h' W' => (∃ i : Nat, v = some (.int (Int32.ofNat i)) ∧ i ≤ cs.length ∧ (∀ k, k < i → Ow.wsp (cs.getD k 0)) ∧ (i = cs.length ∨ ¬ Ow.wsp (cs.getD i 0))) ∧ h' = h) 5 [.val (.ref d), .val (.int (Int32.ofNat cs.length)), .val (.int (Int32.ofNat i)), o3] [] h W 0 0 := by
    intro r
    induction r with
    | zero =>
      intro i o3 hi hq ho
      obtain rfl : i = cs.length := by omega
      refine Ow.iloadN C dNW_5 (pc' := 6) rfl rfl ?_
      refine Ow.iloadN C dNW_6 (pc' := 7) rfl rfl ?_
      refine Ow.icmpY C 47 dNW_7 (XT.ii_ge_t (by rw [Ow.lt32]; omega)) (by decide) (by decide) ?_
      refine Ow.iloadN C dNW_47 (pc' := 48) rfl rfl ?_
      refine Ow.retI C rfl dNW_48 (by first | decide | (dsimp only; omega) | (simp [Value.category]; done) | (simp [Value.category]; omega)) (by first | decide | (dsimp only; omega) | (simp [Value.category]; done) | (simp [Value.category]; omega)) [] (by simp) ⟨⟨_, rfl, Nat.le_refl _, hq, Or.inl rfl⟩, rfl⟩
    | succ r ih =>
      intro i o3 hi hq ho
      have hi' : i < cs.length := by omega
      have hc := Ow.getD_rng hL hi'
      refine Ow.iloadN C dNW_5 (pc' := 6) rfl rfl ?_
      refine Ow.iloadN C dNW_6 (pc' := 7) rfl rfl ?_
      refine Ow.icmpN C dNW_7 (pc' := 10) rfl (XT.ii_ge_f (by rw [Ow.lt32, Ow.ofNat_toInt (by omega), Ow.ofNat_toInt hN]; omega)) ?_
      refine Ow.aloadN C dNW_10 (pc' := 11) rfl rfl rfl ?_
      refine Ow.iloadN C dNW_11 (pc' := 12) rfl rfl ?_
      refine Ow.callS C (tw121 G.1) (tw122 G.1) (tw39 G.1) (tw123 G.1) (by decide) (con_GX G d i cs hi' hL h W D) (fun _ q => q) pd_19 rfl rfl rfl dNW_12 (pc' := 15) rfl (Wt := 0) (Nat.le_refl _) (by first | decide | (dsimp only; omega) | (simp [Value.category]; done) | (simp [Value.category]; omega)) (by first | decide | (dsimp only; omega) | (simp [Value.category]; done) | (simp [Value.category]; omega)) (by first | decide | (dsimp only; omega) | (simp [Value.category]; done) | (simp [Value.category]; omega)) (by first | decide | (dsimp only; omega) | (simp [Value.category]; done) | (simp [Value.category]; omega)) (fun v1 h1 W1 ⟨e1, e1'⟩ s1 => ?_)
      subst e1 e1'
      dsimp only [Option.toList, List.cons_append, List.nil_append]
      refine Ow.istoreN C dNW_15 (pc' := 16) rfl ho ?_
      dsimp only [List.set]
      have J41 : Ow.wsp (cs.getD i 0) → Ow.WP p l e rmNW s m #[.ref d] below meth c Z EL1 bb (fun v h' W' => (∃ i : Nat, v = some (.int (Int32.ofNat i)) ∧ i ≤ cs.length ∧ (∀ k, k < i → Ow.wsp (cs.getD k 0)) ∧ (i = cs.length ∨ ¬ Ow.wsp (cs.getD i 0))) ∧ h' = h1) 41 [.val (.ref d), .val (.int (Int32.ofNat cs.length)), .val (.int (Int32.ofNat i)), .val (.int (cs.getD i 0))] [] h1 W 0 0 := by
        intro hw
        refine Ow.iinc C (1 : Int32) dNW_41 (pc' := 44) rfl rfl rfl ?_
        dsimp only [List.set]
        refine Ow.goto C 5 dNW_44 (by decide) (by decide) ?_
        rw [← inc_ofNat]
        exact ih (i + 1) _ (by omega) (fun k hk => by
          rcases Nat.lt_succ_iff_lt_or_eq.mp hk with q | rfl
          · exact hq k q
          · exact hw) rfl
      have k32 : ((32 : Int32)).toInt = 32 := rfl
      have k9 : ((9 : Int32)).toInt = 9 := rfl
      refine Ow.iloadN C dNW_16 (pc' := 17) rfl rfl ?_
      refine Ow.bipush C (32 : Int32) dNW_17 (pc' := 19) rfl rfl ?_
      refine Ow.icmp C 41 22 dNW_19 (Ow.kEq _ _) (by decide) (by decide) rfl (fun q1 => ?_) (fun q1 => ?_)
      · exact J41 (by rw [q1]; decide)
      · refine Ow.iloadN C dNW_22 (pc' := 23) rfl rfl ?_
        refine Ow.bipush C (9 : Int32) dNW_23 (pc' := 25) rfl rfl ?_
        refine Ow.icmp C 41 28 dNW_25 (Ow.kEq _ _) (by decide) (by decide) rfl (fun q2 => ?_) (fun q2 => ?_)
        · exact J41 (by rw [q2]; decide)
        · refine Ow.getS C (tw124 G.1) Ci.1 dNW_28 (pc' := 31) rfl ?_
          refine Ow.iloadN C dNW_31 (pc' := 32) rfl rfl ?_
          refine Ow.callV C (y := (⟨"java/lang/CharacterDataLatin1", "isWhitespace", "(I)Z"⟩ : MethodName)) (z := (⟨"java/lang/CharacterDataLatin1", "isWhitespace", "(I)Z"⟩ : MethodName)) (tw126 G.1) (tw127 G.1) (tw129 G.1) (tw129 G.1) (tw128 G.1) (tw125 G.1) (tw130 G.1) (by decide) Ec (con_WS G ci Ci (cs.getD i 0) hc.1 hc.2 h1 W) (fun _ q => q) pd_5 rfl rfl rfl dNW_32 (pc' := 35) rfl (Wt := 0) (Nat.le_refl _) (by first | decide | (dsimp only; omega) | (simp [Value.category]; done) | (simp [Value.category]; omega)) (by first | decide | (dsimp only; omega) | (simp [Value.category]; done) | (simp [Value.category]; omega)) (by first | decide | (dsimp only; omega) | (simp [Value.category]; done) | (simp [Value.category]; omega)) (by first | decide | (dsimp only; omega) | (simp [Value.category]; done) | (simp [Value.category]; omega)) (fun v2 h2 W2 ⟨e2, e2'⟩ s2 => ?_)
          by_cases q3 : Ow.wsp (cs.getD i 0)
          · rw [if_pos q3] at e2
            subst e2 e2'
            dsimp only [Option.toList, List.cons_append, List.nil_append]
            refine Ow.ifCY C 41 dNW_35 (XT.i0_ne_t (by decide)) (by decide) (by decide) ?_
            exact J41 q3
          · rw [if_neg q3] at e2
            subst e2 e2'
            dsimp only [Option.toList, List.cons_append, List.nil_append]
            refine Ow.ifCN C dNW_35 (pc' := 38) rfl (XT.i0_ne_f rfl) ?_
            refine Ow.goto C 47 dNW_38 (by decide) (by decide) ?_
            refine Ow.iloadN C dNW_47 (pc' := 48) rfl rfl ?_
            refine Ow.retI C rfl dNW_48 (by first | decide | (dsimp only; omega) | (simp [Value.category]; done) | (simp [Value.category]; omega)) (by first | decide | (dsimp only; omega) | (simp [Value.category]; done) | (simp [Value.category]; omega)) [] (by simp) ⟨⟨i, rfl, by omega, hq, Or.inr q3⟩, rfl⟩
  refine Ow.istoreN C dNW_2 (pc' := 3) rfl rfl ?_
  dsimp only [List.set]
  refine Ow.iconst C (0 : Int32) dNW_3 (pc' := 4) rfl rfl ?_
  refine Ow.istoreN C dNW_4 (pc' := 5) rfl rfl ?_
  dsimp only [List.set]
  exact loop cs.length 0 .unset (by omega) (fun k hk => by omega) rfl
set_option maxHeartbeats 4000000 in
theorem con_LW (G : Glob Z a0) (d ci : Nat) (Ci : CdOk Z ci) (cs : List Int32) (hL : ∀ z ∈ cs, 0 ≤ z.toInt ∧ z.toInt < 256) (h : Heap) (W : List Nat) (D : ArI Z h d .byte (cs.map (nar .byte))) :
    Ow.Con l Z EL1 bb (⟨"java/lang/StringLatin1", "lastIndexOfNonWhitespace", "([B)I"⟩ : MethodName) jdk_43_method_38_code 4 (Option.some Jvm.ClassFile.FieldType.int) [] rmNW #[.ref d] h W (fun v h' W' => (∃ i : Nat, v = some (.int (Int32.ofNat i)) ∧ i ≤ cs.length ∧ (∀ k, i ≤ k → k < cs.length → Ow.wsp (cs.getD k 0)) ∧ (i = 0 ∨ ¬ Ow.wsp (cs.getD (i - 1) 0))) ∧ h' = h) := by
  refine Ow.Con.intro (a0 := a0) pn_32 (ewG G) (saG G) bbG [.val (.ref d), .unset, .unset, .unset] (by first | exact Ow.locals_all (by simp [Value.category]) rfl | rfl | (simp [argsToLocals, Value.category]; done)) ?_
  intro p e s m below meth c C hO
  have hN : cs.length < 2 ^ 31 := by simpa using D.2
  have Ec := Ci.2.ext hO.2
  refine Ow.aloadN C dLW_0 (pc' := 1) rfl rfl rfl ?_
  refine Ow.arrlen C D dLW_1 (pc' := 2) rfl ?_
  rw [List.length_map]
  have loop : ∀ (i : Nat) (o3 : Slot), i ≤ cs.length → (∀ k, i ≤ k → k < cs.length → Ow.wsp (cs.getD k 0)) → Ow.okS (some o3) = true →
      Ow.WP p l e rmNW s m #[.ref d] below meth c Z EL1 bb (fun v h' W' => (∃ i : Nat, v = some (.int (Int32.ofNat i)) ∧ i ≤ cs.length ∧ (∀ k, i ≤ k → k < cs.length → Ow.wsp (cs.getD k 0)) ∧ (i = 0 ∨ ¬ Ow.wsp (cs.getD (i - 1) 0))) ∧ h' = h) 5 [.val (.ref d), .val (.int (Int32.ofNat cs.length)), .val (.int (Int32.ofNat i)), o3] [] h W 0 0 := by
    intro i
    induction i with
    | zero =>
      intro o3 hi hq ho
      refine Ow.iconst C (0 : Int32) dLW_5 (pc' := 6) rfl rfl ?_
      refine Ow.iloadN C dLW_6 (pc' := 7) rfl rfl ?_
      refine Ow.icmpY C 49 dLW_7 (XT.ii_ge_t (by decide)) (by decide) (by decide) ?_
      refine Ow.iloadN C dLW_49 (pc' := 50) rfl rfl ?_
      refine Ow.retI C rfl dLW_50 (by first | decide | (dsimp only; omega) | (simp [Value.category]; done) | (simp [Value.category]; omega)) (by first | decide | (dsimp only; omega) | (simp [Value.category]; done) | (simp [Value.category]; omega)) [] (by simp) ⟨⟨0, rfl, by omega, hq, Or.inl rfl⟩, rfl⟩
    | succ i ih =>
      intro o3 hi hq ho
      have hi' : i < cs.length := by omega
      have hc := Ow.getD_rng hL hi'
      refine Ow.iconst C (0 : Int32) dLW_5 (pc' := 6) rfl rfl ?_
      refine Ow.iloadN C dLW_6 (pc' := 7) rfl rfl ?_
      refine Ow.icmpN C dLW_7 (pc' := 10) rfl (XT.ii_ge_f (by rw [Ow.lt32, Ow.ofNat_toInt (by omega), Ow.zero_toInt]; omega)) ?_
      refine Ow.aloadN C dLW_10 (pc' := 11) rfl rfl rfl ?_
      refine Ow.iloadN C dLW_11 (pc' := 12) rfl rfl ?_
      refine Ow.iconst C (1 : Int32) dLW_12 (pc' := 13) rfl rfl ?_
      refine Ow.isub C dLW_13 (pc' := 14) rfl ?_
      rw [Ow.pred_ofNat (by omega)]
      refine Ow.callS C (tw121 G.1) (tw122 G.1) (tw39 G.1) (tw123 G.1) (by decide) (con_GX G d i cs hi' hL h W D) (fun _ q => q) pd_19 rfl rfl rfl dLW_14 (pc' := 17) rfl (Wt := 0) (Nat.le_refl _) (by first | decide | (dsimp only; omega) | (simp [Value.category]; done) | (simp [Value.category]; omega)) (by first | decide | (dsimp only; omega) | (simp [Value.category]; done) | (simp [Value.category]; omega)) (by first | decide | (dsimp only; omega) | (simp [Value.category]; done) | (simp [Value.category]; omega)) (by first | decide | (dsimp only; omega) | (simp [Value.category]; done) | (simp [Value.category]; omega)) (fun v1 h1 W1 ⟨e1, e1'⟩ s1 => ?_)
      subst e1 e1'
      dsimp only [Option.toList, List.cons_append, List.nil_append]
      refine Ow.istoreN C dLW_17 (pc' := 18) rfl ho ?_
      dsimp only [List.set]
      have J43 : Ow.wsp (cs.getD i 0) → Ow.WP p l e rmNW s m #[.ref d] below meth c Z EL1 bb (fun v h' W' => (∃ i : Nat, v = some (.int (Int32.ofNat i)) ∧ i ≤ cs.length ∧ (∀ k, i ≤ k → k < cs.length → Ow.wsp (cs.getD k 0)) ∧ (i = 0 ∨ ¬ Ow.wsp (cs.getD (i - 1) 0))) ∧ h' = h1) 43 [.val (.ref d), .val (.int (Int32.ofNat cs.length)), .val (.int (Int32.ofNat (i + 1))), .val (.int (cs.getD i 0))] [] h1 W 0 0 := by
        intro hw
        refine Ow.iinc C (-1 : Int32) dLW_43 (pc' := 46) rfl rfl rfl ?_
        dsimp only [List.set]
        refine Ow.goto C 5 dLW_46 (by decide) (by decide) ?_
        rw [Ow.dec_ofNat (by omega)]
        exact ih _ (by omega) (fun k hk hk2 => by
          rcases Nat.lt_or_eq_of_le hk with q | rfl
          · exact hq k q hk2
          · exact hw) rfl
      refine Ow.iloadN C dLW_18 (pc' := 19) rfl rfl ?_
      refine Ow.bipush C (32 : Int32) dLW_19 (pc' := 21) rfl rfl ?_
      refine Ow.icmp C 43 24 dLW_21 (Ow.kEq _ _) (by decide) (by decide) rfl (fun q1 => ?_) (fun q1 => ?_)
      · exact J43 (by rw [q1]; decide)
      · refine Ow.iloadN C dLW_24 (pc' := 25) rfl rfl ?_
        refine Ow.bipush C (9 : Int32) dLW_25 (pc' := 27) rfl rfl ?_
        refine Ow.icmp C 43 30 dLW_27 (Ow.kEq _ _) (by decide) (by decide) rfl (fun q2 => ?_) (fun q2 => ?_)
        · exact J43 (by rw [q2]; decide)
        · refine Ow.getS C (tw124 G.1) Ci.1 dLW_30 (pc' := 33) rfl ?_
          refine Ow.iloadN C dLW_33 (pc' := 34) rfl rfl ?_
          refine Ow.callV C (y := (⟨"java/lang/CharacterDataLatin1", "isWhitespace", "(I)Z"⟩ : MethodName)) (z := (⟨"java/lang/CharacterDataLatin1", "isWhitespace", "(I)Z"⟩ : MethodName)) (tw126 G.1) (tw127 G.1) (tw129 G.1) (tw129 G.1) (tw128 G.1) (tw125 G.1) (tw130 G.1) (by decide) Ec (con_WS G ci Ci (cs.getD i 0) hc.1 hc.2 h1 W) (fun _ q => q) pd_5 rfl rfl rfl dLW_34 (pc' := 37) rfl (Wt := 0) (Nat.le_refl _) (by first | decide | (dsimp only; omega) | (simp [Value.category]; done) | (simp [Value.category]; omega)) (by first | decide | (dsimp only; omega) | (simp [Value.category]; done) | (simp [Value.category]; omega)) (by first | decide | (dsimp only; omega) | (simp [Value.category]; done) | (simp [Value.category]; omega)) (by first | decide | (dsimp only; omega) | (simp [Value.category]; done) | (simp [Value.category]; omega)) (fun v2 h2 W2 ⟨e2, e2'⟩ s2 => ?_)
          by_cases q3 : Ow.wsp (cs.getD i 0)
          · rw [if_pos q3] at e2
            subst e2 e2'
            dsimp only [Option.toList, List.cons_append, List.nil_append]
            refine Ow.ifCY C 43 dLW_37 (XT.i0_ne_t (by decide)) (by decide) (by decide) ?_
            exact J43 q3
          · rw [if_neg q3] at e2
            subst e2 e2'
            dsimp only [Option.toList, List.cons_append, List.nil_append]
            refine Ow.ifCN C dLW_37 (pc' := 40) rfl (XT.i0_ne_f rfl) ?_
            refine Ow.goto C 49 dLW_40 (by decide) (by decide) ?_
            refine Ow.iloadN C dLW_49 (pc' := 50) rfl rfl ?_
            refine Ow.retI C rfl dLW_50 (by first | decide | (dsimp only; omega) | (simp [Value.category]; done) | (simp [Value.category]; omega)) (by first | decide | (dsimp only; omega) | (simp [Value.category]; done) | (simp [Value.category]; omega)) [] (by simp) ⟨⟨i + 1, rfl, by omega, hq, Or.inr (by simpa using q3)⟩, rfl⟩
  refine Ow.istoreN C dLW_2 (pc' := 3) rfl rfl ?_
  dsimp only [List.set]
  refine Ow.iloadN C dLW_3 (pc' := 4) rfl rfl ?_
  refine Ow.istoreN C dLW_4 (pc' := 5) rfl rfl ?_
  dsimp only [List.set]
  exact loop cs.length .unset (by omega) (fun k hk hk2 => by omega) rfl
abbrev rmS1 (B : Nat) : Room := { frames := 4, cells := 2, slots := 4 + B, locals := 64 }
set_option maxHeartbeats 4000000 in
theorem con_S1 (G : Glob Z a0) (B d ci : Nat) (Ci : CdOk Z ci) (cs : List Int32) (hB : cs.length ≤ B) (hB2 : B ≤ 4000) (hL : ∀ z ∈ cs, 0 ≤ z.toInt ∧ z.toInt < 256) (h : Heap) (W : List Nat) (D : ArI Z h d .byte (cs.map (nar .byte))) :
    Ow.Con l Z EL1 bb (⟨"java/lang/StringLatin1", "strip", "([B)Ljava/lang/String;"⟩ : MethodName) jdk_43_method_39_code 4 (Option.some (Jvm.ClassFile.FieldType.object "java/lang/String")) [] (rmS1 B) #[.ref d] h W (fun v h' W' => Keep h h' [] ∧ ∃ s e : Nat, Ow.Str0 cs s e ∧ ((v = some .null ∧ s = 0 ∧ e = cs.length) ∨ ∃ a' d' : Nat, v = some (.ref a') ∧ Ow.StrL Z h' a' d' ((cs.take e).drop s))) := by
  refine Ow.Con.intro (a0 := a0) pn_33 (ewG G) (saG G) bbG [.val (.ref d), .unset, .unset, .unset] (by first | exact Ow.locals_all (by simp [Value.category]) rfl | rfl | (simp [argsToLocals, Value.category]; done)) ?_
  intro p e s m below meth c C hO
  have hN : cs.length < 2 ^ 31 := by simpa using D.2
  refine Ow.aloadN C dS1_0 (pc' := 1) rfl rfl rfl ?_
  refine Ow.callS C (tw118 G.1) (tw119 G.1) (tw39 G.1) (tw120 G.1) (by decide) (con_NW G d ci Ci cs hL h W D) (fun _ q => q) pd_20 rfl rfl rfl dS1_1 (pc' := 4) rfl (Wt := 0) (Nat.le_refl _) (by first | decide | (dsimp only; omega) | (simp [Value.category]; done) | (simp [Value.category]; omega)) (by first | decide | (dsimp only; omega) | (simp [Value.category]; done) | (simp [Value.category]; omega)) (by first | decide | (dsimp only; omega) | (simp [Value.category]; done) | (simp [Value.category]; omega)) (by first | decide | (dsimp only; omega) | (simp [Value.category]; done) | (simp [Value.category]; omega)) (fun v1 h1 W1 ⟨⟨b, e1, b1, b2, b3⟩, e1'⟩ s1 => ?_)
  subst e1 e1'
  dsimp only [Option.toList, List.cons_append, List.nil_append]
  refine Ow.istoreN C dS1_4 (pc' := 5) rfl rfl ?_
  dsimp only [List.set]
  refine Ow.iloadN C dS1_5 (pc' := 6) rfl rfl ?_
  refine Ow.aloadN C dS1_6 (pc' := 7) rfl rfl rfl ?_
  refine Ow.arrlen C D dS1_7 (pc' := 8) rfl ?_
  rw [List.length_map]
  by_cases hb : b = cs.length
  · refine Ow.icmpN C dS1_8 (pc' := 11) rfl (XT.ii_ne_f (by rw [hb])) ?_
    refine Ow.ldcS C rfl (N := 0) (xs := []) (tw237 G.1) (by decide) (by decide) (by decide) dS1_11 (pc' := 13) rfl (by decide) (by decide) (by first | decide | (dsimp only; omega) | (simp [Value.category]; done) | (simp [Value.category]; omega)) (by first | decide | (dsimp only; omega) | (simp [Value.category]; done) | (simp [Value.category]; omega)) (fun h2 b2' d2 E2 B2 Bc2 Bv2 D2 n2 => ?_)
    refine Ow.retA C rfl rfl rfl dS1_13 (by first | decide | (dsimp only; omega) | (simp [Value.category]; done) | (simp [Value.category]; omega)) (by first | decide | (dsimp only; omega) | (simp [Value.category]; done) | (simp [Value.category]; omega)) [] (by simp) ⟨Ow.Keep.z E2, b, 0, ⟨by omega, by omega, b2, b3, fun k _ hk => b2 k (by omega), Or.inl rfl⟩, Or.inr ⟨b2', d2, rfl, ⟨B2, Bv2, Bc2, by simpa using D2, by simp⟩⟩⟩
  · refine Ow.icmpY C 14 dS1_8 (XT.ii_ne_t (fun q => hb (Ow.ofNat_inj (by omega) hN q))) (by decide) (by decide) ?_
    have b3' : ¬ Ow.wsp (cs.getD b 0) := b3.resolve_left hb
    have hb' : b < cs.length := by omega
    refine Ow.aloadN C dS1_14 (pc' := 15) rfl rfl rfl ?_
    refine Ow.callS C (tw137 G.1) (tw138 G.1) (tw39 G.1) (tw139 G.1) (by decide) (con_LW G d ci Ci cs hL h1 W D) (fun _ q => q) pd_20 rfl rfl rfl dS1_15 (pc' := 18) rfl (Wt := 0) (Nat.le_refl _) (by first | decide | (dsimp only; omega) | (simp [Value.category]; done) | (simp [Value.category]; omega)) (by first | decide | (dsimp only; omega) | (simp [Value.category]; done) | (simp [Value.category]; omega)) (by first | decide | (dsimp only; omega) | (simp [Value.category]; done) | (simp [Value.category]; omega)) (by first | decide | (dsimp only; omega) | (simp [Value.category]; done) | (simp [Value.category]; omega)) (fun v2 h2 W2 ⟨⟨f, e2, f1, f2, f3⟩, e2'⟩ s2 => ?_)
    subst e2 e2'
    dsimp only [Option.toList, List.cons_append, List.nil_append]
    have hbf : b < f := Nat.lt_of_not_le fun q => b3' (f2 b q hb')
    refine Ow.istoreN C dS1_18 (pc' := 19) rfl rfl ?_
    dsimp only [List.set]
    refine Ow.iloadN C dS1_19 (pc' := 20) rfl rfl ?_
    have J29 : ¬ (b = 0 ∧ f = cs.length) → Ow.WP p l e (rmS1 B) s m #[.ref d] below meth c Z EL1 bb (fun v h' W' => Keep h2 h' [] ∧ ∃ s e : Nat, Ow.Str0 cs s e ∧ ((v = some .null ∧ s = 0 ∧ e = cs.length) ∨ ∃ a' d' : Nat, v = some (.ref a') ∧ Ow.StrL Z h' a' d' ((cs.take e).drop s))) 29 [.val (.ref d), .val (.int (Int32.ofNat b)), .val (.int (Int32.ofNat f)), .unset] [] h2 W 0 0 := by
      intro hq
      refine Ow.iconst C (1 : Int32) dS1_29 (pc' := 30) rfl rfl ?_
      refine Ow.goto C 34 dS1_30 (by decide) (by decide) ?_
      refine Ow.istoreN C dS1_34 (pc' := 35) rfl rfl ?_
      dsimp only [List.set]
      refine Ow.iloadN C dS1_35 (pc' := 36) rfl rfl ?_
      refine Ow.ifCN C dS1_36 (pc' := 39) rfl (XT.i0_eq_f (by decide)) ?_
      refine Ow.aloadN C dS1_39 (pc' := 40) rfl rfl rfl ?_
      refine Ow.iloadN C dS1_40 (pc' := 41) rfl rfl ?_
      refine Ow.iloadN C dS1_41 (pc' := 42) rfl rfl ?_
      refine Ow.iloadN C dS1_42 (pc' := 43) rfl rfl ?_
      refine Ow.isub C dS1_43 (pc' := 44) rfl ?_
      rw [Ow.sub_ofNat (by omega) (by omega)]
      refine Ow.callS C (tw210 G.1) (tw211 G.1) (tw39 G.1) (tw212 G.1) (by decide) (con_NS G B d b (f - b) cs (by omega) (by omega) hB hB2 hL h2 W D) (fun _ q => q) pd_17 rfl rfl rfl dS1_44 (pc' := 47) rfl (Wt := 0) (Nat.le_refl _) (by first | decide | (dsimp only; omega) | (simp [Value.category]; done) | (simp [Value.category]; omega)) (by first | decide | (dsimp only; omega) | (simp [Value.category]; done) | (simp [Value.category]; omega)) (by first | decide | (dsimp only; omega) | (simp [Value.category]; done) | (simp [Value.category]; omega)) (by first | decide | (dsimp only; omega) | (simp [Value.category]; done) | (simp [Value.category]; omega)) (fun v3 h3 W3 ⟨a', d', e3, S3, K3⟩ s3 => ?_)
      subst e3
      dsimp only [Option.toList, List.cons_append, List.nil_append]
      refine Ow.goto C 51 dS1_47 (by decide) (by decide) ?_
      refine Ow.retA C rfl rfl rfl dS1_51 (by first | decide | (dsimp only; omega) | (simp [Value.category]; done) | (simp [Value.category]; omega)) (by first | decide | (dsimp only; omega) | (simp [Value.category]; done) | (simp [Value.category]; omega)) [] (by simp) ⟨K3, b, f, ⟨b1, f1, b2, b3, f2, f3⟩, Or.inr ⟨a', d', rfl, by rw [List.drop_take]; exact S3⟩⟩
    by_cases hb0 : b = 0
    · refine Ow.ifCN C dS1_20 (pc' := 23) rfl (XT.i0_gt_f (by rw [hb0]; decide)) ?_
      refine Ow.iloadN C dS1_23 (pc' := 24) rfl rfl ?_
      refine Ow.aloadN C dS1_24 (pc' := 25) rfl rfl rfl ?_
      refine Ow.arrlen C D dS1_25 (pc' := 26) rfl ?_
      rw [List.length_map]
      by_cases hf : f = cs.length
      · refine Ow.icmpY C 33 dS1_26 (XT.ii_ge_t (by rw [Ow.lt32, hf]; omega)) (by decide) (by decide) ?_
        refine Ow.iconst C (0 : Int32) dS1_33 (pc' := 34) rfl rfl ?_
        refine Ow.istoreN C dS1_34 (pc' := 35) rfl rfl ?_
        dsimp only [List.set]
        refine Ow.iloadN C dS1_35 (pc' := 36) rfl rfl ?_
        refine Ow.ifCY C 50 dS1_36 (XT.i0_eq_t rfl) (by decide) (by decide) ?_
        refine Ow.aconstNull C dS1_50 (pc' := 51) rfl ?_
        refine Ow.retA C rfl rfl rfl dS1_51 (by first | decide | (dsimp only; omega)) (by first | decide | (dsimp only; omega)) [] (by simp) ⟨Keep.refl _ _, b, f, ⟨b1, f1, b2, b3, f2, f3⟩, Or.inl ⟨rfl, hb0, hf⟩⟩
      · refine Ow.icmpN C dS1_26 (pc' := 29) rfl (XT.ii_ge_f (by rw [Ow.lt32, Ow.ofNat_toInt (by omega), Ow.ofNat_toInt hN]; omega)) ?_
        exact J29 (fun q => hf q.2)
    · refine Ow.ifCY C 29 dS1_20 (XT.i0_gt_t (by rw [Ow.lt32, Ow.zero_toInt, Ow.ofNat_toInt (by omega)]; omega)) (by decide) (by decide) ?_
      exact J29 (fun q => hb0 q.1)
abbrev rmSP (B : Nat) : Room := { frames := 5, cells := 2, slots := 4 + B, locals := 79 }
set_option maxHeartbeats 4000000 in
theorem con_SP (G : Glob Z a0) (B a d ci : Nat) (Ci : CdOk Z ci) (cs : List Int32) (hB : cs.length ≤ B) (hB2 : B ≤ 4000) (h : Heap) (W : List Nat) (S : Ow.StrL Z h a d cs) :
    Ow.Con l Z EL1 bb (⟨"java/lang/String", "strip", "()Ljava/lang/String;"⟩ : MethodName) jdk_42_method_114_code 2 (Option.some (Jvm.ClassFile.FieldType.object "java/lang/String")) [] (rmSP B) #[.ref a] h W (fun v h' W' => Keep h h' [] ∧ ∃ s e a' d' : Nat, Ow.Str0 cs s e ∧ v = some (.ref a') ∧ Ow.StrL Z h' a' d' ((cs.take e).drop s)) := by
  refine Ow.Con.intro (a0 := a0) pn_34 (ewG G) (saG G) bbG [.val (.ref a), .unset] (by first | exact Ow.locals_all (by simp [Value.category]) rfl | rfl | (simp [argsToLocals, Value.category]; done)) ?_
  intro p e s m below meth c C hO
  refine Ow.aloadN C dSP_0 (pc' := 1) rfl rfl rfl ?_
  refine Ow.callV C (y := (⟨"java/lang/String", "isLatin1", "()Z"⟩ : MethodName)) (z := (⟨"java/lang/String", "isLatin1", "()Z"⟩ : MethodName)) (tw32 G.1) (tw33 G.1) (tw35 G.1) (tw35 G.1) (tw34 G.1) (tw1 G.1) (tw36 G.1) (by decide) S.1 (con_IL G a 0 h W S.2.2.1) (fun _ q => q) pd_11 rfl rfl rfl dSP_1 (pc' := 4) rfl (Wt := 0) (Nat.le_refl _) (by first | decide | (dsimp only; omega) | (simp [Value.category]; done) | (simp [Value.category]; omega)) (by first | decide | (dsimp only; omega) | (simp [Value.category]; done) | (simp [Value.category]; omega)) (by first | decide | (dsimp only; omega) | (simp [Value.category]; done) | (simp [Value.category]; omega)) (by first | decide | (dsimp only; omega) | (simp [Value.category]; done) | (simp [Value.category]; omega)) (fun v1 h1 W1 ⟨e1, e1'⟩ s1 => ?_)
  rw [if_pos rfl] at e1
  subst e1 e1'
  dsimp only [Option.toList, List.cons_append, List.nil_append]
  refine Ow.ifCN C dSP_4 (pc' := 7) rfl (XT.i0_eq_f (by decide)) ?_
  refine Ow.aloadN C dSP_7 (pc' := 8) rfl rfl rfl ?_
  refine Ow.getF C (tw13 G.1) S.2.1 dSP_8 (pc' := 11) rfl ?_
  refine Ow.callS C (tw115 G.1) (tw116 G.1) (tw39 G.1) (tw117 G.1) (by decide) (con_S1 G B d ci Ci cs hB hB2 S.2.2.2.2 h1 W S.2.2.2.1) (fun _ q => q) pd_21 rfl rfl rfl dSP_11 (pc' := 14) rfl (Wt := 0) (Nat.le_refl _) (by first | decide | (dsimp only; omega) | (simp [Value.category]; done) | (simp [Value.category]; omega)) (by first | decide | (dsimp only; omega) | (simp [Value.category]; done) | (simp [Value.category]; omega)) (by first | decide | (dsimp only; omega) | (simp [Value.category]; done) | (simp [Value.category]; omega)) (by first | decide | (dsimp only; omega) | (simp [Value.category]; done) | (simp [Value.category]; omega)) (fun v2 h2 W2 ⟨K2, b, f, Q, e2⟩ s2 => ?_)
  rcases e2 with ⟨e2, hb, hf⟩ | ⟨a', d', e2, S2⟩
  · subst e2
    dsimp only [Option.toList, List.cons_append, List.nil_append]
    refine Ow.goto C 24 dSP_14 (by decide) (by decide) ?_
    refine Ow.astoreN C dSP_24 (pc' := 25) rfl rfl rfl ?_
    dsimp only [List.set]
    refine Ow.aloadN C dSP_25 (pc' := 26) rfl rfl rfl ?_
    refine Ow.ifnonnullN C dSP_26 (pc' := 29) rfl ?_
    refine Ow.aloadN C dSP_29 (pc' := 30) rfl rfl rfl ?_
    refine Ow.goto C 34 dSP_30 (by decide) (by decide) ?_
    refine Ow.retA C rfl rfl rfl dSP_34 (by first | decide | (dsimp only; omega) | (simp [Value.category]; done) | (simp [Value.category]; omega)) (by first | decide | (dsimp only; omega) | (simp [Value.category]; done) | (simp [Value.category]; omega)) [] (by simp) ⟨K2, b, f, a, d, Q, rfl, by rw [hb, hf]; simpa using S.keep K2 nin0 nin0⟩
  · subst e2
    dsimp only [Option.toList, List.cons_append, List.nil_append]
    refine Ow.goto C 24 dSP_14 (by decide) (by decide) ?_
    refine Ow.astoreN C dSP_24 (pc' := 25) rfl rfl rfl ?_
    dsimp only [List.set]
    refine Ow.aloadN C dSP_25 (pc' := 26) rfl rfl rfl ?_
    refine Ow.ifnonnullY C 33 dSP_26 (by decide) (by decide) ?_
    refine Ow.aloadN C dSP_33 (pc' := 34) rfl rfl rfl ?_
    refine Ow.retA C rfl rfl rfl dSP_34 (by first | decide | (dsimp only; omega) | (simp [Value.category]; done) | (simp [Value.category]; omega)) (by first | decide | (dsimp only; omega) | (simp [Value.category]; done) | (simp [Value.category]; omega)) [] (by simp) ⟨K2, b, f, a', d', Q, rfl, S2⟩
end StrStrip

section StrCh
variable {l : Launch} {Z : State} {a0 : Array Value}
theorem con_PI (G : Glob Z a0) (i n : Nat) (hin : i < n) (hn : n < 2 ^ 31) (w : Value) (hw : w.isRef = true) (h : Heap) (W : List Nat) :
    Ow.Con l Z EL1 bb (⟨"jdk/internal/util/Preconditions", "checkIndex", "(IILjava/util/function/BiFunction;)I"⟩ : MethodName) jdk_41_method_11_code 3 (Option.some Jvm.ClassFile.FieldType.int) [] rm0 #[.int (Int32.ofNat i), .int (Int32.ofNat n), w] h W (fun v h' W' => (∃ x, v = some (.int x)) ∧ h' = h) := by
  refine Ow.Con.intro (a0 := a0) pn_35 (ewG G) (saG G) bbG [.val (.int (Int32.ofNat i)), .val (.int (Int32.ofNat n)), .val w] (by first | exact Ow.locals_all (by simp [Ow.cat_ref, Ow.cat_int, Ow.cat_null, XT.cat1 hw]) rfl | rfl | (simp [argsToLocals, Value.category]; done) | simp [argsToLocals, Ow.cat_ref, Ow.cat_int, Ow.cat_null, XT.cat1 hw]) ?_
  intro p e s m below meth c C hO
  refine Ow.iloadN C dPI_0 (pc' := 1) rfl rfl ?_
  refine Ow.ifCN C dPI_1 (pc' := 4) rfl (XT.i0_lt_f (by rw [Ow.lt32, Ow.ofNat_toInt (by omega), Ow.zero_toInt]; omega)) ?_
  refine Ow.iloadN C dPI_4 (pc' := 5) rfl rfl ?_
  refine Ow.iloadN C dPI_5 (pc' := 6) rfl rfl ?_
  refine Ow.icmpY C 16 dPI_6 (XT.ii_lt_t (by rw [Ow.lt32, Ow.ofNat_toInt (by omega), Ow.ofNat_toInt (by omega)]; omega)) (by decide) (by decide) ?_
  refine Ow.iloadN C dPI_16 (pc' := 17) rfl rfl ?_
  refine Ow.retI C rfl dPI_17 (by first | decide | (dsimp only; omega) | (simp [Value.category]; done) | (simp [Value.category]; omega)) (by first | decide | (dsimp only; omega) | (simp [Value.category]; done) | (simp [Value.category]; omega)) [] (by simp) ⟨⟨_, rfl⟩, rfl⟩
abbrev rmCI : Room := { frames := 1, cells := 0, slots := 0, locals := 14 }
theorem con_CI (G : Glob Z a0) (i n : Nat) (hin : i < n) (hn : n < 2 ^ 31) (h : Heap) (W : List Nat) :
    Ow.Con l Z EL1 bb (⟨"java/lang/String", "checkIndex", "(II)V"⟩ : MethodName) jdk_42_method_155_code 2 (Option.none : Option Jvm.ClassFile.FieldType) [] rmCI #[.int (Int32.ofNat i), .int (Int32.ofNat n)] h W (fun v h' W' => v = none ∧ h' = h) := by
  obtain ⟨w, Sw, hw⟩ := sioG G
  refine Ow.Con.intro (a0 := a0) pn_36 (ewG G) (saG G) bbG [.val (.int (Int32.ofNat i)), .val (.int (Int32.ofNat n))] (by first | exact Ow.locals_all (by simp [Value.category]) rfl | rfl | (simp [argsToLocals, Value.category]; done)) ?_
  intro p e s m below meth c C hO
  refine Ow.iloadN C dCI_0 (pc' := 1) rfl rfl ?_
  refine Ow.iloadN C dCI_1 (pc' := 2) rfl rfl ?_
  refine Ow.getS C (tw44 G.1) Sw dCI_2 (pc' := 5) rfl ?_
  refine Ow.callS C (tw46 G.1) (tw47 G.1) (tw45 G.1) (tw48 G.1) (by decide) (con_PI G i n hin hn w hw h W) (fun _ q => q) pd_22 rfl rfl rfl dCI_5 (pc' := 8) rfl (Wt := 0) (Nat.le_refl _) (by first | decide | (dsimp only; omega) | (simp [Value.category]; done) | (simp [Value.category]; omega)) (by first | decide | (dsimp only; omega) | (simp [Value.category]; done) | (simp [Value.category]; omega)) (by first | decide | (dsimp only; omega) | (simp [Value.category]; done) | (simp [Value.category]; omega)) (by first | decide | (dsimp only; omega) | (simp [Value.category]; done) | (simp [Value.category]; omega)) (fun v1 h1 W1 ⟨⟨x1, e1⟩, e1'⟩ s1 => ?_)
  subst e1 e1'
  dsimp only [Option.toList, List.cons_append, List.nil_append]
  refine Ow.pop C dCI_8 (pc' := 9) rfl rfl ?_
  refine Ow.retV C rfl dCI_9 (by first | decide | (dsimp only; omega) | (simp [Value.category]; done) | (simp [Value.category]; omega)) (by first | decide | (dsimp only; omega) | (simp [Value.category]; done) | (simp [Value.category]; omega)) [] (by simp) ⟨rfl, rfl⟩
abbrev rmLA : Room := { frames := 2, cells := 0, slots := 0, locals := 27 }
theorem con_LA (G : Glob Z a0) (d i : Nat) (cs : List Int32) (hi : i < cs.length) (hL : ∀ z ∈ cs, 0 ≤ z.toInt ∧ z.toInt < 256) (h : Heap) (W : List Nat) (D : ArI Z h d .byte (cs.map (nar .byte))) :
    Ow.Con l Z EL1 bb (⟨"java/lang/StringLatin1", "charAt", "([BI)C"⟩ : MethodName) jdk_43_method_2_code 2 (Option.some Jvm.ClassFile.FieldType.char) [] rmLA #[.ref d, .int (Int32.ofNat i)] h W (fun v h' W' => v = some (.int (cs.getD i 0)) ∧ h' = h) := by
  refine Ow.Con.intro (a0 := a0) pn_37 (ewG G) (saG G) bbG [.val (.ref d), .val (.int (Int32.ofNat i))] (by first | exact Ow.locals_all (by simp [Value.category]) rfl | rfl | (simp [argsToLocals, Value.category]; done)) ?_
  intro p e s m below meth c C hO
  have hN : cs.length < 2 ^ 31 := by simpa using D.2
  have hc := Ow.getD_rng hL hi
  refine Ow.iloadN C dLA_0 (pc' := 1) rfl rfl ?_
  refine Ow.aloadN C dLA_1 (pc' := 2) rfl rfl rfl ?_
  refine Ow.arrlen C D dLA_2 (pc' := 3) rfl ?_
  rw [List.length_map]
  refine Ow.callS C (tw41 G.1) (tw42 G.1) (tw1 G.1) (tw43 G.1) (by decide) (con_CI G i cs.length hi hN h W) (fun _ q => q) pd_15 rfl rfl rfl dLA_3 (pc' := 6) rfl (Wt := 0) (Nat.le_refl _) (by first | decide | (dsimp only; omega) | (simp [Value.category]; done) | (simp [Value.category]; omega)) (by first | decide | (dsimp only; omega) | (simp [Value.category]; done) | (simp [Value.category]; omega)) (by first | decide | (dsimp only; omega) | (simp [Value.category]; done) | (simp [Value.category]; omega)) (by first | decide | (dsimp only; omega) | (simp [Value.category]; done) | (simp [Value.category]; omega)) (fun v1 h1 W1 ⟨e1, e1'⟩ s1 => ?_)
  subst e1 e1'
  dsimp only [Option.toList, List.cons_append, List.nil_append]
  refine Ow.aloadN C dLA_6 (pc' := 7) rfl rfl rfl ?_
  refine Ow.iloadN C dLA_7 (pc' := 8) rfl rfl ?_
  refine Ow.baload C D (i := i) (Ow.ofNat_toInt (by omega)) (by simpa using hi) dLA_8 (pc' := 9) rfl ?_
  rw [Ow.map_getD hi]
  refine Ow.sipush C (255 : Int32) dLA_9 (pc' := 12) rfl rfl ?_
  refine Ow.iand C dLA_12 (pc' := 13) rfl ?_
  rw [Ow.byte_back hc.1 hc.2]
  refine Ow.i2c C dLA_13 (pc' := 14) rfl ?_
  rw [Ow.nar_char_id hc.1 (by omega)]
  refine Ow.retN C (t := .char) rfl (by simp) dLA_14 (by first | decide | (dsimp only; omega) | (simp [Value.category]; done) | (simp [Value.category]; omega)) (by first | decide | (dsimp only; omega) | (simp [Value.category]; done) | (simp [Value.category]; omega)) [] (by simp) ⟨by rw [Ow.nar_char_id hc.1 (by omega)], rfl⟩
abbrev rmCA : Room := { frames := 3, cells := 0, slots := 0, locals := 40 }
theorem con_CA (G : Glob Z a0) (a d i : Nat) (cs : List Int32) (hi : i < cs.length) (h : Heap) (W : List Nat) (S : Ow.StrL Z h a d cs) :
    Ow.Con l Z EL1 bb (⟨"java/lang/String", "charAt", "(I)C"⟩ : MethodName) jdk_42_method_56_code 2 (Option.some Jvm.ClassFile.FieldType.char) [] rmCA #[.ref a, .int (Int32.ofNat i)] h W (fun v h' W' => v = some (.int (cs.getD i 0)) ∧ h' = h) := by
  refine Ow.Con.intro (a0 := a0) pn_38 (ewG G) (saG G) bbG [.val (.ref a), .val (.int (Int32.ofNat i))] (by first | exact Ow.locals_all (by simp [Value.category]) rfl | rfl | (simp [argsToLocals, Value.category]; done)) ?_
  intro p e s m below meth c C hO
  have hc := Ow.getD_rng S.2.2.2.2 hi
  refine Ow.aloadN C dCA_0 (pc' := 1) rfl rfl rfl ?_
  refine Ow.callV C (y := (⟨"java/lang/String", "isLatin1", "()Z"⟩ : MethodName)) (z := (⟨"java/lang/String", "isLatin1", "()Z"⟩ : MethodName)) (tw32 G.1) (tw33 G.1) (tw35 G.1) (tw35 G.1) (tw34 G.1) (tw1 G.1) (tw36 G.1) (by decide) S.1 (con_IL G a 0 h W S.2.2.1) (fun _ q => q) pd_11 rfl rfl rfl dCA_1 (pc' := 4) rfl (Wt := 0) (Nat.le_refl _) (by first | decide | (dsimp only; omega) | (simp [Value.category]; done) | (simp [Value.category]; omega)) (by first | decide | (dsimp only; omega) | (simp [Value.category]; done) | (simp [Value.category]; omega)) (by first | decide | (dsimp only; omega) | (simp [Value.category]; done) | (simp [Value.category]; omega)) (by first | decide | (dsimp only; omega) | (simp [Value.category]; done) | (simp [Value.category]; omega)) (fun v1 h1 W1 ⟨e1, e1'⟩ s1 => ?_)
  rw [if_pos rfl] at e1
  subst e1 e1'
  dsimp only [Option.toList, List.cons_append, List.nil_append]
  refine Ow.ifCN C dCA_4 (pc' := 7) rfl (XT.i0_eq_f (by decide)) ?_
  refine Ow.aloadN C dCA_7 (pc' := 8) rfl rfl rfl ?_
  refine Ow.getF C (tw13 G.1) S.2.1 dCA_8 (pc' := 11) rfl ?_
  refine Ow.iloadN C dCA_11 (pc' := 12) rfl rfl ?_
  refine Ow.callS C (tw37 G.1) (tw38 G.1) (tw39 G.1) (tw40 G.1) (by decide) (con_LA G d i cs hi S.2.2.2.2 h1 W S.2.2.2.1) (fun _ q => q) pd_19 rfl rfl rfl dCA_12 (pc' := 15) rfl (Wt := 0) (Nat.le_refl _) (by first | decide | (dsimp only; omega) | (simp [Value.category]; done) | (simp [Value.category]; omega)) (by first | decide | (dsimp only; omega) | (simp [Value.category]; done) | (simp [Value.category]; omega)) (by first | decide | (dsimp only; omega) | (simp [Value.category]; done) | (simp [Value.category]; omega)) (by first | decide | (dsimp only; omega) | (simp [Value.category]; done) | (simp [Value.category]; omega)) (fun v2 h2 W2 ⟨e2, e2'⟩ s2 => ?_)
  subst e2 e2'
  dsimp only [Option.toList, List.cons_append, List.nil_append]
  refine Ow.retN C (t := .char) rfl (by simp) dCA_15 (by first | decide | (dsimp only; omega) | (simp [Value.category]; done) | (simp [Value.category]; omega)) (by first | decide | (dsimp only; omega) | (simp [Value.category]; done) | (simp [Value.category]; omega)) [] (by simp) ⟨by rw [Ow.nar_char_id hc.1 (by omega)], rfl⟩
end StrCh

section Essence
variable {l : Launch} {Z : State} {a0 : Array Value}
/-- where the first ';' stands, or the length -/
def Semi (cs : List Int32) (p : Nat) : Prop := p ≤ cs.length ∧ (∀ k, k < p → ¬ cs.getD k 0 = 59) ∧ (p = cs.length ∨ cs.getD p 0 = 59)
abbrev rmES (B : Nat) : Room := { frames := 7, cells := 12, slots := 60 + 3 * B, locals := 100 }
set_option maxHeartbeats 4000000 in
theorem con_ES (G : Glob Z a0) (B a d : Nat) (cs : List Int32) (hB : cs.length ≤ B) (hB2 : B ≤ 4000) (h : Heap) (W : List Nat) (S : Ow.StrL Z h a d cs) :
    Ow.Con l Z EL1 bb (⟨"com/example/archerfish/archerfish/MediaType", "essence", "(Ljava/lang/String;)Ljava/lang/String;"⟩ : MethodName) prog_8_method_3_code 2 (Option.some (Jvm.ClassFile.FieldType.object "java/lang/String")) [] (rmES B) #[.ref a] h W (fun v h' W' => Keep h h' [] ∧ ∃ p s e a' d' : Nat, Semi cs p ∧ Ow.Str0 (cs.take p) s e ∧ v = some (.ref a') ∧ Ow.StrL Z h' a' d' ((((cs.take p).take e).drop s).map Ow.low)) := by
  obtain ⟨lc, bl, lg, lv, K⟩ := locG G
  obtain ⟨ci, Ci⟩ := cdG G
  refine Ow.Con.intro (a0 := a0) pn_39 (ewG G) (saG G) bbG [.val (.ref a), .unset] (by first | exact Ow.locals_all (by simp [Value.category]) rfl | rfl | (simp [argsToLocals, Value.category]; done)) ?_
  intro p e s m below meth c C hO
  have hN : cs.length < 2 ^ 31 := S.len
  have J21 : ∀ (p' a1 d1 : Nat) (h1 : Heap) (x : Int32), Semi cs p' → Keep h h1 [] → Ow.StrL Z h1 a1 d1 (cs.take p') →
      Ow.WP p l e (rmES B) s m #[.ref a] below meth c Z EL1 bb (fun v h' W' => Keep h h' [] ∧ ∃ p s e a' d' : Nat, Semi cs p ∧ Ow.Str0 (cs.take p) s e ∧ v = some (.ref a') ∧ Ow.StrL Z h' a' d' ((((cs.take p).take e).drop s).map Ow.low)) 21 [.val (.ref a), .val (.int x)] [.ref a1] h1 W 2 (4 + B) := by
    intro p' a1 d1 h1 x hp K1 S1
    have hl : (cs.take p').length ≤ B := by rw [List.length_take]; omega
    refine Ow.callV C (y := (⟨"java/lang/String", "strip", "()Ljava/lang/String;"⟩ : MethodName)) (z := (⟨"java/lang/String", "strip", "()Ljava/lang/String;"⟩ : MethodName)) (tw110 G.1) (tw111 G.1) (tw113 G.1) (tw113 G.1) (tw112 G.1) (tw1 G.1) (tw114 G.1) (by decide) S1.1 (con_SP G B a1 d1 ci Ci (cs.take p') hl hB2 h1 W S1) (fun _ q => q) pd_8 rfl rfl rfl dES_21 (pc' := 24) rfl (Wt := 0) (Nat.le_refl _) (by first | decide | (dsimp only; omega) | (simp [Value.category]; done) | (simp [Value.category]; omega)) (by first | decide | (dsimp only; omega) | (simp [Value.category]; done) | (simp [Value.category]; omega)) (by first | decide | (dsimp only; omega) | (simp [Value.category]; done) | (simp [Value.category]; omega)) (by first | decide | (dsimp only; omega) | (simp [Value.category]; done) | (simp [Value.category]; omega)) (fun v2 h2 W2 ⟨K2, b, f, a2, d2, Q, e2, S2⟩ s2 => ?_)
    subst e2
    dsimp only [Option.toList, List.cons_append, List.nil_append]
    have hl2 : (((cs.take p').take f).drop b).length ≤ B := by simp; omega
    refine Ow.getS C (tw140 G.1) K.1 dES_24 (pc' := 27) rfl ?_
    refine Ow.callV C (y := (⟨"java/lang/String", "toLowerCase", "(Ljava/util/Locale;)Ljava/lang/String;"⟩ : MethodName)) (z := (⟨"java/lang/String", "toLowerCase", "(Ljava/util/Locale;)Ljava/lang/String;"⟩ : MethodName)) (tw142 G.1) (tw143 G.1) (tw145 G.1) (tw145 G.1) (tw144 G.1) (tw1 G.1) (tw146 G.1) (by decide) S2.1 (con_TL G B a2 d2 lc bl lg lv ci _ h2 W S2 K Ci hl2 hB2) (fun _ q => q) pd_23 rfl rfl rfl dES_27 (pc' := 30) rfl (Wt := 0) (Nat.le_refl _) (by first | decide | (dsimp only; omega) | (simp [Value.category]; done) | (simp [Value.category]; omega)) (by first | decide | (dsimp only; omega) | (simp [Value.category]; done) | (simp [Value.category]; omega)) (by first | decide | (dsimp only; omega) | (simp [Value.category]; done) | (simp [Value.category]; omega)) (by first | decide | (dsimp only; omega) | (simp [Value.category]; done) | (simp [Value.category]; omega)) (fun v3 h3 W3 ⟨a3, d3, e3, S3, K3, g3⟩ s3 => ?_)
    subst e3
    dsimp only [Option.toList, List.cons_append, List.nil_append]
    refine Ow.retA C rfl rfl rfl dES_30 (by first | decide | (dsimp only; omega) | (simp [Value.category]; done) | (simp [Value.category]; omega)) (by first | decide | (dsimp only; omega) | (simp [Value.category]; done) | (simp [Value.category]; omega)) [] (by simp) ⟨(K1.trans K2 (fun _ q => nomatch q)).trans K3 (fun _ q => nomatch q), p', b, f, a3, d3, hp, Q, rfl, S3⟩
  refine Ow.aloadN C dES_0 (pc' := 1) rfl rfl rfl ?_
  refine Ow.bipush C (59 : Int32) dES_1 (pc' := 3) rfl rfl ?_
  refine Ow.callV C (y := (⟨"java/lang/String", "indexOf", "(I)I"⟩ : MethodName)) (z := (⟨"java/lang/String", "indexOf", "(I)I"⟩ : MethodName)) (tw83 G.1) (tw84 G.1) (tw86 G.1) (tw86 G.1) (tw85 G.1) (tw1 G.1) (tw87 G.1) (by decide) S.1 (con_IA G a d cs 59 h W S (by decide)) (fun _ q => q) pd_10 rfl rfl rfl dES_3 (pc' := 6) rfl (Wt := 0) (Nat.le_refl _) (by first | decide | (dsimp only; omega) | (simp [Value.category]; done) | (simp [Value.category]; omega)) (by first | decide | (dsimp only; omega) | (simp [Value.category]; done) | (simp [Value.category]; omega)) (by first | decide | (dsimp only; omega) | (simp [Value.category]; done) | (simp [Value.category]; omega)) (by first | decide | (dsimp only; omega) | (simp [Value.category]; done) | (simp [Value.category]; omega)) (fun v1 h1 W1 ⟨⟨r, e1, hr⟩, e1'⟩ s1 => ?_)
  subst e1 e1'
  dsimp only [Option.toList, List.cons_append, List.nil_append]
  refine Ow.istoreN C dES_6 (pc' := 7) rfl rfl ?_
  dsimp only [List.set]
  refine Ow.iloadN C dES_7 (pc' := 8) rfl rfl ?_
  rcases hr with ⟨j, -, hj, hc, hq, rfl⟩ | ⟨hq, rfl⟩
  · refine Ow.ifCY C 15 dES_8 (XT.i0_ge_t (by rw [Ow.lt32, Ow.ofNat_toInt (by omega), Ow.zero_toInt]; omega)) (by decide) (by decide) ?_
    refine Ow.aloadN C dES_15 (pc' := 16) rfl rfl rfl ?_
    refine Ow.iconst C (0 : Int32) dES_16 (pc' := 17) rfl rfl ?_
    refine Ow.iloadN C dES_17 (pc' := 18) rfl rfl ?_
    refine Ow.callV C (y := (⟨"java/lang/String", "substring", "(II)Ljava/lang/String;"⟩ : MethodName)) (z := (⟨"java/lang/String", "substring", "(II)Ljava/lang/String;"⟩ : MethodName)) (tw225 G.1) (tw226 G.1) (tw228 G.1) (tw228 G.1) (tw227 G.1) (tw1 G.1) (tw229 G.1) (by decide) S.1 (con_SS G B a d 0 j cs (by omega) (by omega) hB hB2 h1 W S) (fun _ q => q) pd_24 rfl rfl rfl dES_18 (pc' := 21) rfl (Wt := 0) (Nat.le_refl _) (by first | decide | (dsimp only; omega) | (simp [Value.category]; done) | (simp [Value.category]; omega)) (by first | decide | (dsimp only; omega) | (simp [Value.category]; done) | (simp [Value.category]; omega)) (by first | decide | (dsimp only; omega) | (simp [Value.category]; done) | (simp [Value.category]; omega)) (by first | decide | (dsimp only; omega) | (simp [Value.category]; done) | (simp [Value.category]; omega)) (fun v2 h2 W2 ⟨a2, d2, e2, S2, K2⟩ s2 => ?_)
    subst e2
    dsimp only [Option.toList, List.cons_append, List.nil_append]
    exact (J21 j a2 d2 h2 _ ⟨by omega, fun k hk => hq k (by omega) hk, Or.inr hc⟩ K2 (by simpa using S2)).room (by omega) (by omega)
  · refine Ow.ifCN C dES_8 (pc' := 11) rfl (XT.i0_ge_f (by decide)) ?_
    refine Ow.aloadN C dES_11 (pc' := 12) rfl rfl rfl ?_
    refine Ow.goto C 21 dES_12 (by decide) (by decide) ?_
    exact (J21 cs.length a d h1 _ ⟨by omega, fun k hk => hq k (by omega) hk, Or.inl rfl⟩ (Keep.refl _ _) (by simpa using S)).room (by omega) (by omega)
end Essence

section StrEQ
variable {l : Launch} {Z : State} {a0 : Array Value}
set_option maxHeartbeats 4000000 in
theorem con_LE (G : Glob Z a0) (x y : Nat) (xs ys : List Int32) (h : Heap) (W : List Nat) (X : ArI Z h x .byte xs) (Y : ArI Z h y .byte ys) :
    Ow.Con l Z EL1 bb (⟨"java/lang/StringLatin1", "equals", "([B[B)Z"⟩ : MethodName) jdk_43_method_13_code 3 (Option.some Jvm.ClassFile.FieldType.boolean) [] rm0 #[.ref x, .ref y] h W (fun v h' W' => v = some (.int (if xs = ys then 1 else 0)) ∧ h' = h) := by
  refine Ow.Con.intro (a0 := a0) pn_40 (ewG G) (saG G) bbG [.val (.ref x), .val (.ref y), .unset] (by first | exact Ow.locals_all (by simp [Value.category]) rfl | rfl | (simp [argsToLocals, Value.category]; done)) ?_
  intro p e s m below meth c C hO
  have hN : xs.length < 2 ^ 31 := X.2
  refine Ow.aloadN C dLE_0 (pc' := 1) rfl rfl rfl ?_
  refine Ow.arrlen C X dLE_1 (pc' := 2) rfl ?_
  refine Ow.aloadN C dLE_2 (pc' := 3) rfl rfl rfl ?_
  refine Ow.arrlen C Y dLE_3 (pc' := 4) rfl ?_
  refine Ow.icmp C 34 7 dLE_4 (Ow.kNe _ _) (by decide) (by decide) rfl (fun hc => ?_) (fun hc => ?_)
  · have hne : ¬ xs = ys := fun q => hc (by rw [q])
    refine Ow.iconst C (0 : Int32) dLE_34 (pc' := 35) rfl rfl ?_
    refine Ow.retN C (t := .boolean) rfl (by simp) dLE_35 (by first | decide | (dsimp only; omega) | (simp [Value.category]; done) | (simp [Value.category]; omega)) (by first | decide | (dsimp only; omega) | (simp [Value.category]; done) | (simp [Value.category]; omega)) [] (by simp) ⟨by rw [if_neg hne]; rfl, rfl⟩
  · have hl : xs.length = ys.length := Ow.ofNat_inj X.2 Y.2 (Decidable.not_not.mp hc)
    refine Ow.iconst C (0 : Int32) dLE_7 (pc' := 8) rfl rfl ?_
    refine Ow.istoreN C dLE_8 (pc' := 9) rfl rfl ?_
    dsimp only [List.set]
    have loop : ∀ (r i : Nat), i + r = xs.length → (∀ j, j < i → xs.getD j 0 = ys.getD j 0) →
        Ow.WP p l e rm0 s m #[.ref x, .ref y] below meth c Z EL1 bb (fun v h' W' => v = some (.int (if xs = ys then 1 else 0)) ∧ h' = h) 9 [.val (.ref x), .val (.ref y), .val (.int (Int32.ofNat i))] [] h W 0 0 := by
      intro r
      induction r with
      | zero =>
        intro i hi hq
        obtain rfl : i = xs.length := by omega
        refine Ow.iloadN C dLE_9 (pc' := 10) rfl rfl ?_
        refine Ow.aloadN C dLE_10 (pc' := 11) rfl rfl rfl ?_
        refine Ow.arrlen C X dLE_11 (pc' := 12) rfl ?_
        refine Ow.icmpY C 32 dLE_12 (XT.ii_ge_t (by rw [Ow.lt32]; omega)) (by decide) (by decide) ?_
        refine Ow.iconst C (1 : Int32) dLE_32 (pc' := 33) rfl rfl ?_
        have he : xs = ys := List.ext_getElem hl fun j h1 h2 => by
          have := hq j h1
          simpa [List.getD_eq_getElem?_getD, h1, h2] using this
        refine Ow.retN C (t := .boolean) rfl (by simp) dLE_33 (by first | decide | (dsimp only; omega) | (simp [Value.category]; done) | (simp [Value.category]; omega)) (by first | decide | (dsimp only; omega) | (simp [Value.category]; done) | (simp [Value.category]; omega)) [] (by simp) ⟨by rw [if_pos he]; rfl, rfl⟩
      | succ r ih =>
        intro i hi hq
        have hlt : i < xs.length := by omega
        refine Ow.iloadN C dLE_9 (pc' := 10) rfl rfl ?_
        refine Ow.aloadN C dLE_10 (pc' := 11) rfl rfl rfl ?_
        refine Ow.arrlen C X dLE_11 (pc' := 12) rfl ?_
        refine Ow.icmpN C dLE_12 (pc' := 15) rfl (XT.ii_ge_f (by rw [Ow.lt32, Ow.ofNat_toInt (by omega), Ow.ofNat_toInt hN]; omega)) ?_
        refine Ow.aloadN C dLE_15 (pc' := 16) rfl rfl rfl ?_
        refine Ow.iloadN C dLE_16 (pc' := 17) rfl rfl ?_
        refine Ow.baload C X (i := i) (Ow.ofNat_toInt (by omega)) hlt dLE_17 (pc' := 18) rfl ?_
        refine Ow.aloadN C dLE_18 (pc' := 19) rfl rfl rfl ?_
        refine Ow.iloadN C dLE_19 (pc' := 20) rfl rfl ?_
        refine Ow.baload C Y (i := i) (Ow.ofNat_toInt (by omega)) (by omega) dLE_20 (pc' := 21) rfl ?_
        refine Ow.icmp C 26 24 dLE_21 (Ow.kEq _ _) (by decide) (by decide) rfl (fun hc2 => ?_) (fun hc2 => ?_)
        · refine Ow.iinc C (1 : Int32) dLE_26 (pc' := 29) rfl rfl rfl ?_
          dsimp only [List.set]
          refine Ow.goto C 9 dLE_29 (by decide) (by decide) ?_
          rw [← inc_ofNat]
          exact ih (i + 1) (by omega) (fun j hj => by
            rcases Nat.lt_succ_iff_lt_or_eq.mp hj with q | rfl
            · exact hq j q
            · exact hc2)
        · have hne : ¬ xs = ys := fun q => hc2 (by rw [q])
          refine Ow.iconst C (0 : Int32) dLE_24 (pc' := 25) rfl rfl ?_
          refine Ow.retN C (t := .boolean) rfl (by simp) dLE_25 (by first | decide | (dsimp only; omega) | (simp [Value.category]; done) | (simp [Value.category]; omega)) (by first | decide | (dsimp only; omega) | (simp [Value.category]; done) | (simp [Value.category]; omega)) [] (by simp) ⟨by rw [if_neg hne]; rfl, rfl⟩
    exact loop xs.length 0 (by omega) (fun j hj => by omega)
theorem map_inj_bytes {cs ds : List Int32} (h1 : ∀ c ∈ cs, 0 ≤ c.toInt ∧ c.toInt < 256) (h2 : ∀ c ∈ ds, 0 ≤ c.toInt ∧ c.toInt < 256) : (cs.map (nar .byte) = ds.map (nar .byte)) ↔ cs = ds := by
  refine ⟨fun q => ?_, fun q => by rw [q]⟩
  induction cs generalizing ds with
  | nil => cases ds with
    | nil => rfl
    | cons d ds => simp at q
  | cons c cs ih => cases ds with
    | nil => simp at q
    | cons d ds =>
      simp only [List.map_cons, List.cons.injEq] at q ⊢
      exact ⟨Ow.nar_byte_inj (h1 c (by simp)) (h2 d (by simp)) q.1, ih (fun z hz => h1 z (by simp [hz])) (fun z hz => h2 z (by simp [hz])) q.2⟩
abbrev rmEQ : Room := { frames := 1, cells := 0, slots := 0, locals := 14 }
set_option maxHeartbeats 4000000 in
theorem con_EQ (G : Glob Z a0) (a d a' d' : Nat) (cs ds : List Int32) (h : Heap) (W : List Nat) (S : Ow.StrL Z h a d cs) (S' : Ow.StrL Z h a' d' ds) (hne : a ≠ a') :
    Ow.Con l Z EL1 bb (⟨"java/lang/String", "equals", "(Ljava/lang/Object;)Z"⟩ : MethodName) jdk_42_method_66_code 3 (Option.some Jvm.ClassFile.FieldType.boolean) [] rmEQ #[.ref a, .ref a'] h W (fun v h' W' => v = some (.int (if cs = ds then 1 else 0)) ∧ h' = h) := by
  obtain ⟨cv, hcv, hst⟩ := G.2.1
  refine Ow.Con.intro (a0 := a0) pn_41 (ewG G) (saG G) bbG [.val (.ref a), .val (.ref a'), .unset] (by first | exact Ow.locals_all (by simp [Value.category]) rfl | rfl | (simp [argsToLocals, Value.category]; done)) ?_
  intro p e s m below meth c C hO
  refine Ow.aloadN C dEQ_0 (pc' := 1) rfl rfl rfl ?_
  refine Ow.aloadN C dEQ_1 (pc' := 2) rfl rfl rfl ?_
  refine Ow.acmpY C 7 dEQ_2 rfl rfl (XT.aa_ne_t (fun q => hne (Value.ref.inj q))) (by decide) (by decide) ?_
  refine Ow.aloadN C dEQ_7 (pc' := 8) rfl rfl rfl ?_
  refine Ow.instY C (tw187 G.1) (Ins.self S'.1) dEQ_8 (pc' := 11) rfl ?_
  refine Ow.ifCN C dEQ_11 (pc' := 14) rfl (XT.i0_eq_f (by decide)) ?_
  refine Ow.aloadN C dEQ_14 (pc' := 15) rfl rfl rfl ?_
  refine Ow.castY C (tw187 G.1) (Ins.self S'.1) dEQ_15 (pc' := 18) rfl ?_
  refine Ow.astoreN C dEQ_18 (pc' := 19) rfl rfl rfl ?_
  dsimp only [List.set]
  refine Ow.getS C (tw19 G.1) hst dEQ_19 (pc' := 22) rfl ?_
  refine Ow.ifCN C dEQ_22 (pc' := 25) rfl (XT.i0_eq_f hcv) ?_
  refine Ow.aloadN C dEQ_25 (pc' := 26) rfl rfl rfl ?_
  refine Ow.getF C (tw20 G.1) S.2.2.1 dEQ_26 (pc' := 29) rfl ?_
  refine Ow.aloadN C dEQ_29 (pc' := 30) rfl rfl rfl ?_
  refine Ow.getF C (tw20 G.1) S'.2.2.1 dEQ_30 (pc' := 33) rfl ?_
  refine Ow.icmpN C dEQ_33 (pc' := 36) rfl (XT.ii_ne_f rfl) ?_
  refine Ow.aloadN C dEQ_36 (pc' := 37) rfl rfl rfl ?_
  refine Ow.getF C (tw13 G.1) S.2.1 dEQ_37 (pc' := 40) rfl ?_
  refine Ow.aloadN C dEQ_40 (pc' := 41) rfl rfl rfl ?_
  refine Ow.getF C (tw13 G.1) S'.2.1 dEQ_41 (pc' := 44) rfl ?_
  refine Ow.callS C (tw188 G.1) (tw189 G.1) (tw39 G.1) (tw190 G.1) (by decide) (con_LE G d d' _ _ h W S.2.2.2.1 S'.2.2.2.1) (fun _ q => q) pd_25 rfl rfl rfl dEQ_44 (pc' := 47) rfl (Wt := 0) (Nat.le_refl _) (by first | decide | (dsimp only; omega) | (simp [Value.category]; done) | (simp [Value.category]; omega)) (by first | decide | (dsimp only; omega) | (simp [Value.category]; done) | (simp [Value.category]; omega)) (by first | decide | (dsimp only; omega) | (simp [Value.category]; done) | (simp [Value.category]; omega)) (by first | decide | (dsimp only; omega) | (simp [Value.category]; done) | (simp [Value.category]; omega)) (fun v1 h1 W1 ⟨e1, e1'⟩ s1 => ?_)
  subst e1 e1'
  dsimp only [Option.toList, List.cons_append, List.nil_append]
  by_cases hq : cs = ds
  · rw [if_pos ((map_inj_bytes S.2.2.2.2 S'.2.2.2.2).mpr hq)]
    refine Ow.ifCN C dEQ_47 (pc' := 50) rfl (XT.i0_eq_f (by decide)) ?_
    refine Ow.iconst C (1 : Int32) dEQ_50 (pc' := 51) rfl rfl ?_
    refine Ow.goto C 55 dEQ_51 (by decide) (by decide) ?_
    refine Ow.retN C (t := .boolean) rfl (by simp) dEQ_55 (by first | decide | (dsimp only; omega) | (simp [Value.category]; done) | (simp [Value.category]; omega)) (by first | decide | (dsimp only; omega) | (simp [Value.category]; done) | (simp [Value.category]; omega)) [] (by simp) ⟨by rw [if_pos hq]; rfl, rfl⟩
  · rw [if_neg (fun q => hq ((map_inj_bytes S.2.2.2.2 S'.2.2.2.2).mp q))]
    refine Ow.ifCY C 54 dEQ_47 (XT.i0_eq_t rfl) (by decide) (by decide) ?_
    refine Ow.iconst C (0 : Int32) dEQ_54 (pc' := 55) rfl rfl ?_
    refine Ow.retN C (t := .boolean) rfl (by simp) dEQ_55 (by first | decide | (dsimp only; omega) | (simp [Value.category]; done) | (simp [Value.category]; omega)) (by first | decide | (dsimp only; omega) | (simp [Value.category]; done) | (simp [Value.category]; omega)) [] (by simp) ⟨by rw [if_neg hq]; rfl, rfl⟩
end StrEQ

section StrEQs
variable {l : Launch} {Z : State} {a0 : Array Value}
theorem con_EQs (G : Glob Z a0) (a : Nat) (h : Heap) (W : List Nat) :
    Ow.Con l Z EL1 bb (⟨"java/lang/String", "equals", "(Ljava/lang/Object;)Z"⟩ : MethodName) jdk_42_method_66_code 3 (Option.some Jvm.ClassFile.FieldType.boolean) [] rm0 #[.ref a, .ref a] h W (fun v h' W' => v = some (.int 1) ∧ h' = h) := by
  refine Ow.Con.intro (a0 := a0) pn_41 (ewG G) (saG G) bbG [.val (.ref a), .val (.ref a), .unset] (by first | exact Ow.locals_all (by simp [Value.category]) rfl | rfl | (simp [argsToLocals, Value.category]; done)) ?_
  intro p e s m below meth c C hO
  refine Ow.aloadN C dEQ_0 (pc' := 1) rfl rfl rfl ?_
  refine Ow.aloadN C dEQ_1 (pc' := 2) rfl rfl rfl ?_
  refine Ow.acmpN C dEQ_2 (pc' := 5) rfl rfl rfl (XT.aa_ne_f rfl) ?_
  refine Ow.iconst C (1 : Int32) dEQ_5 (pc' := 6) rfl rfl ?_
  refine Ow.retN C (t := .boolean) rfl (by simp) dEQ_6 (by first | decide | (dsimp only; omega) | (simp [Value.category]; done) | (simp [Value.category]; omega)) (by first | decide | (dsimp only; omega) | (simp [Value.category]; done) | (simp [Value.category]; omega)) [] (by simp) ⟨rfl, rfl⟩
end StrEQs

section StrEnds
variable {l : Launch} {Z : State} {a0 : Array Value}
theorem con_EQg (G : Glob Z a0) (a d a' d' : Nat) (cs ds : List Int32) (h : Heap) (W : List Nat) (S : Ow.StrL Z h a d cs) (S' : Ow.StrL Z h a' d' ds) :
    Ow.Con l Z EL1 bb (⟨"java/lang/String", "equals", "(Ljava/lang/Object;)Z"⟩ : MethodName) jdk_42_method_66_code 3 (Option.some Jvm.ClassFile.FieldType.boolean) [] rmEQ #[.ref a, .ref a'] h W (fun v h' W' => v = some (.int (if cs = ds then 1 else 0)) ∧ h' = h) := by
  by_cases hne : a = a'
  · subst hne
    have hq := Ow.StrL.uniq S S'
    exact ((con_EQs G a h W).rm (by decide) (by decide) (by decide) (by decide)).mono (fun v h' W' q => ⟨by rw [if_pos hq]; exact q.1, q.2⟩)
  · exact con_EQ G a d a' d' cs ds h W S S' hne
theorem con_MM (G : Glob Z a0) (x y i n : Nat) (xs ys : List Int32) (hx : i + n ≤ xs.length) (hy : n ≤ ys.length) (hn : n ≤ 7) (h : Heap) (W : List Nat) (X : ArI Z h x .byte xs) (Y : ArI Z h y .byte ys) :
    Ow.Con l Z EL1 bb (⟨"jdk/internal/util/ArraysSupport", "mismatch", "([BI[BII)I"⟩ : MethodName) jdk_48_method_14_code 8 (Option.some Jvm.ClassFile.FieldType.int) [] rm0 #[.ref x, .int (Int32.ofNat i), .ref y, .int 0, .int (Int32.ofNat n)] h W (fun v h' W' => (∃ r : Int32, v = some (.int r) ∧ ((r < 0 ∧ ∀ k, k < n → xs.getD (i + k) 0 = ys.getD k 0) ∨ (¬ r < 0 ∧ ¬ ∀ k, k < n → xs.getD (i + k) 0 = ys.getD k 0))) ∧ h' = h) := by
  refine Ow.Con.intro (a0 := a0) pn_42 (ewG G) (saG G) bbG [.val (.ref x), .val (.int (Int32.ofNat i)), .val (.ref y), .val (.int 0), .val (.int (Int32.ofNat n)), .unset, .unset, .unset] (by first | exact Ow.locals_all (by simp [Value.category]) rfl | rfl | (simp [argsToLocals, Value.category]; done)) ?_
  intro p e s m below meth c C hO
  have hN := X.2
  have k7 : ((7 : Int32)).toInt = 7 := rfl
  refine Ow.iconst C (0 : Int32) dMM_0 (pc' := 1) rfl rfl ?_
  refine Ow.istore C dMM_1 (pc' := 3) rfl rfl ?_
  dsimp only [List.set]
  refine Ow.iload C dMM_3 (pc' := 5) rfl rfl ?_
  refine Ow.bipush C (7 : Int32) dMM_5 (pc' := 7) rfl rfl ?_
  refine Ow.icmpY C 70 dMM_7 (XT.ii_le_t (by rw [Ow.lt32, Ow.ofNat_toInt (by omega), k7]; omega)) (by decide) (by decide) ?_
  have loop : ∀ (r k : Nat), k + r = n → (∀ j, j < k → xs.getD (i + j) 0 = ys.getD j 0) →
      Ow.WP p l e rm0 s m #[.ref x, .int (Int32.ofNat i), .ref y, .int 0, .int (Int32.ofNat n)] below meth c Z EL1 bb (fun v h' W' => (∃ r : Int32, v = some (.int r) ∧ ((r < 0 ∧ ∀ k, k < n → xs.getD (i + k) 0 = ys.getD k 0) ∨ (¬ r < 0 ∧ ¬ ∀ k, k < n → xs.getD (i + k) 0 = ys.getD k 0))) ∧ h' = h) 70 [.val (.ref x), .val (.int (Int32.ofNat i)), .val (.ref y), .val (.int 0), .val (.int (Int32.ofNat n)), .val (.int (Int32.ofNat k)), .unset, .unset] [] h W 0 0 := by
    intro r
    induction r with
    | zero =>
      intro k hk hq
      obtain rfl : k = n := by omega
      refine Ow.iload C dMM_70 (pc' := 72) rfl rfl ?_
      refine Ow.iload C dMM_72 (pc' := 74) rfl rfl ?_
      refine Ow.icmpY C 101 dMM_74 (XT.ii_ge_t (by rw [Ow.lt32]; omega)) (by decide) (by decide) ?_
      refine Ow.iconst C (-1 : Int32) dMM_101 (pc' := 102) rfl rfl ?_
      refine Ow.retI C rfl dMM_102 (by first | decide | (dsimp only; omega) | (simp [Value.category]; done) | (simp [Value.category]; omega)) (by first | decide | (dsimp only; omega) | (simp [Value.category]; done) | (simp [Value.category]; omega)) [] (by simp) ⟨⟨_, rfl, Or.inl ⟨by decide, hq⟩⟩, rfl⟩
    | succ r ih =>
      intro k hk hq
      refine Ow.iload C dMM_70 (pc' := 72) rfl rfl ?_
      refine Ow.iload C dMM_72 (pc' := 74) rfl rfl ?_
      refine Ow.icmpN C dMM_74 (pc' := 77) rfl (XT.ii_ge_f (by rw [Ow.lt32, Ow.ofNat_toInt (by omega), Ow.ofNat_toInt (by omega)]; omega)) ?_
      refine Ow.aloadN C dMM_77 (pc' := 78) rfl rfl rfl ?_
      refine Ow.iloadN C dMM_78 (pc' := 79) rfl rfl ?_
      refine Ow.iload C dMM_79 (pc' := 81) rfl rfl ?_
      refine Ow.iadd C dMM_81 (pc' := 82) rfl ?_
      refine Ow.baload C X (i := i + k) (by rw [Ow.add_ofNat (by omega), Ow.ofNat_toInt (by omega)]) (by omega) dMM_82 (pc' := 83) rfl ?_
      refine Ow.aloadN C dMM_83 (pc' := 84) rfl rfl rfl ?_
      refine Ow.iloadN C dMM_84 (pc' := 85) rfl rfl ?_
      refine Ow.iload C dMM_85 (pc' := 87) rfl rfl ?_
      refine Ow.iadd C dMM_87 (pc' := 88) rfl ?_
      refine Ow.baload C Y (i := k) (by rw [show (0 : Int32) + Int32.ofNat k = Int32.ofNat (0 + k) from Ow.add_ofNat (i := 0) (by omega), Ow.ofNat_toInt (by omega)]; omega) (by omega) dMM_88 (pc' := 89) rfl ?_
      refine Ow.icmp C 95 92 dMM_89 (Ow.kEq _ _) (by decide) (by decide) rfl (fun hc => ?_) (fun hc => ?_)
      · refine Ow.iinc C (1 : Int32) dMM_95 (pc' := 98) rfl rfl rfl ?_
        dsimp only [List.set]
        refine Ow.goto C 70 dMM_98 (by decide) (by decide) ?_
        rw [← inc_ofNat]
        exact ih (k + 1) (by omega) (fun j hj => by
          rcases Nat.lt_succ_iff_lt_or_eq.mp hj with q | rfl
          · exact hq j q
          · exact hc)
      · refine Ow.iload C dMM_92 (pc' := 94) rfl rfl ?_
        refine Ow.retI C rfl dMM_94 (by first | decide | (dsimp only; omega) | (simp [Value.category]; done) | (simp [Value.category]; omega)) (by first | decide | (dsimp only; omega) | (simp [Value.category]; done) | (simp [Value.category]; omega)) [] (by simp) ⟨⟨_, rfl, Or.inr ⟨by rw [Ow.lt32, Ow.ofNat_toInt (by omega), Ow.zero_toInt]; omega, fun z => hc (z k (by omega))⟩⟩, rfl⟩
  exact loop n 0 (by omega) (fun j hj => by omega)
abbrev rmSW : Room := { frames := 2, cells := 0, slots := 0, locals := 30 }
theorem con_SWn (G : Glob Z a0) (a a' : Nat) (o : Int32) (ho : o < 0) (h : Heap) (W : List Nat) :
    Ow.Con l Z EL1 bb (⟨"java/lang/String", "startsWith", "(Ljava/lang/String;I)Z"⟩ : MethodName) jdk_42_method_75_code 8 (Option.some Jvm.ClassFile.FieldType.boolean) [] rmSW #[.ref a, .ref a', .int o] h W (fun v h' W' => v = some (.int 0) ∧ h' = h) := by
  refine Ow.Con.intro (a0 := a0) pn_43 (ewG G) (saG G) bbG [.val (.ref a), .val (.ref a'), .val (.int o), .unset, .unset, .unset, .unset, .unset] (by first | exact Ow.locals_all (by simp [Value.category]) rfl | rfl | (simp [argsToLocals, Value.category]; done)) ?_
  intro p e s m below meth c C hO
  refine Ow.iloadN C dSW_0 (pc' := 1) rfl rfl ?_
  refine Ow.ifCY C 17 dSW_1 (XT.i0_lt_t ho) (by decide) (by decide) ?_
  refine Ow.iconst C (0 : Int32) dSW_17 (pc' := 18) rfl rfl ?_
  refine Ow.retN C (t := .boolean) rfl (by simp) dSW_18 (by first | decide | (dsimp only; omega) | (simp [Value.category]; done) | (simp [Value.category]; omega)) (by first | decide | (dsimp only; omega) | (simp [Value.category]; done) | (simp [Value.category]; omega)) [] (by simp) ⟨rfl, rfl⟩
set_option maxHeartbeats 4000000 in
theorem con_SW (G : Glob Z a0) (a d a' d' i : Nat) (cs ds : List Int32) (hi : i + ds.length = cs.length) (hd7 : ds.length ≤ 7) (h : Heap) (W : List Nat) (S : Ow.StrL Z h a d cs) (T : Ow.StrL Z h a' d' ds) :
    Ow.Con l Z EL1 bb (⟨"java/lang/String", "startsWith", "(Ljava/lang/String;I)Z"⟩ : MethodName) jdk_42_method_75_code 8 (Option.some Jvm.ClassFile.FieldType.boolean) [] rmSW #[.ref a, .ref a', .int (Int32.ofNat i)] h W (fun v h' W' => (∃ r : Int32, v = some (.int r) ∧ ((r = 1 ∧ ∀ k, k < ds.length → cs.getD (i + k) 0 = ds.getD k 0) ∨ (r = 0 ∧ ¬ ∀ k, k < ds.length → cs.getD (i + k) 0 = ds.getD k 0))) ∧ h' = h) := by
  refine Ow.Con.intro (a0 := a0) pn_43 (ewG G) (saG G) bbG [.val (.ref a), .val (.ref a'), .val (.int (Int32.ofNat i)), .unset, .unset, .unset, .unset, .unset] (by first | exact Ow.locals_all (by simp [Value.category]) rfl | rfl | (simp [argsToLocals, Value.category]; done)) ?_
  intro p e s m below meth c C hO
  have hN : cs.length < 2 ^ 31 := S.len
  have same : (∀ k, k < ds.length → (cs.map (nar .byte)).getD (i + k) 0 = (ds.map (nar .byte)).getD k 0) ↔ (∀ k, k < ds.length → cs.getD (i + k) 0 = ds.getD k 0) := by
    refine ⟨fun q k hk => ?_, fun q k hk => ?_⟩
    · have z := q k hk
      rw [Ow.map_getD (by omega), Ow.map_getD hk] at z
      exact Ow.nar_byte_inj (Ow.getD_rng S.2.2.2.2 (by omega)) (Ow.getD_rng T.2.2.2.2 hk) z
    · rw [Ow.map_getD (by omega), Ow.map_getD hk, q k hk]
  refine Ow.iloadN C dSW_0 (pc' := 1) rfl rfl ?_
  refine Ow.ifCN C dSW_1 (pc' := 4) rfl (XT.i0_lt_f (by rw [Ow.lt32, Ow.ofNat_toInt (by omega), Ow.zero_toInt]; omega)) ?_
  refine Ow.iloadN C dSW_4 (pc' := 5) rfl rfl ?_
  refine Ow.aloadN C dSW_5 (pc' := 6) rfl rfl rfl ?_
  refine Ow.callV C (y := (⟨"java/lang/String", "length", "()I"⟩ : MethodName)) (z := (⟨"java/lang/String", "length", "()I"⟩ : MethodName)) (tw93 G.1) (tw9 G.1) (tw11 G.1) (tw11 G.1) (tw10 G.1) (tw1 G.1) (tw12 G.1) (by decide) S.1 (con_LN G a d cs h W S) (fun _ q => q) pd_13 rfl rfl rfl dSW_6 (pc' := 9) rfl (Wt := 1) (Nat.le_refl _) (by first | decide | (dsimp only; omega) | (simp [Value.category]; done) | (simp [Value.category]; omega)) (by first | decide | (dsimp only; omega) | (simp [Value.category]; done) | (simp [Value.category]; omega)) (by first | decide | (dsimp only; omega) | (simp [Value.category]; done) | (simp [Value.category]; omega)) (by first | decide | (dsimp only; omega) | (simp [Value.category]; done) | (simp [Value.category]; omega)) (fun v1 h1 W1 ⟨e1, e1'⟩ s1 => ?_)
  subst e1 e1'
  dsimp only [Option.toList, List.cons_append, List.nil_append]
  refine Ow.aloadN C dSW_9 (pc' := 10) rfl rfl rfl ?_
  refine Ow.callV C (y := (⟨"java/lang/String", "length", "()I"⟩ : MethodName)) (z := (⟨"java/lang/String", "length", "()I"⟩ : MethodName)) (tw93 G.1) (tw9 G.1) (tw11 G.1) (tw11 G.1) (tw10 G.1) (tw1 G.1) (tw12 G.1) (by decide) T.1 (con_LN G a' d' ds h1 W T) (fun _ q => q) pd_13 rfl rfl rfl dSW_10 (pc' := 13) rfl (Wt := 2) (Nat.le_refl _) (by first | decide | (dsimp only; omega) | (simp [Value.category]; done) | (simp [Value.category]; omega)) (by first | decide | (dsimp only; omega) | (simp [Value.category]; done) | (simp [Value.category]; omega)) (by first | decide | (dsimp only; omega) | (simp [Value.category]; done) | (simp [Value.category]; omega)) (by first | decide | (dsimp only; omega) | (simp [Value.category]; done) | (simp [Value.category]; omega)) (fun v2 h2 W2 ⟨e2, e2'⟩ s2 => ?_)
  subst e2 e2'
  dsimp only [Option.toList, List.cons_append, List.nil_append]
  refine Ow.isub C dSW_13 (pc' := 14) rfl ?_
  rw [Ow.sub_ofNat (by omega) hN]
  refine Ow.icmpY C 19 dSW_14 (XT.ii_le_t (by rw [Ow.lt32, Ow.ofNat_toInt (by omega), Ow.ofNat_toInt (by omega)]; omega)) (by decide) (by decide) ?_
  refine Ow.aloadN C dSW_19 (pc' := 20) rfl rfl rfl ?_
  refine Ow.getF C (tw13 G.1) S.2.1 dSW_20 (pc' := 23) rfl ?_
  refine Ow.astoreN C dSW_23 (pc' := 24) rfl rfl rfl ?_
  dsimp only [List.set]
  refine Ow.aloadN C dSW_24 (pc' := 25) rfl rfl rfl ?_
  refine Ow.getF C (tw13 G.1) T.2.1 dSW_25 (pc' := 28) rfl ?_
  refine Ow.astore C dSW_28 (pc' := 30) rfl rfl rfl ?_
  dsimp only [List.set]
  refine Ow.iconst C (0 : Int32) dSW_30 (pc' := 31) rfl rfl ?_
  refine Ow.istore C dSW_31 (pc' := 33) rfl rfl ?_
  dsimp only [List.set]
  refine Ow.aload C dSW_33 (pc' := 35) rfl rfl rfl ?_
  refine Ow.arrlen C T.2.2.2.1 dSW_35 (pc' := 36) rfl ?_
  rw [List.length_map]
  refine Ow.istore C dSW_36 (pc' := 38) rfl rfl ?_
  dsimp only [List.set]
  refine Ow.aloadN C dSW_38 (pc' := 39) rfl rfl rfl ?_
  refine Ow.callV C (y := (⟨"java/lang/String", "coder", "()B"⟩ : MethodName)) (z := (⟨"java/lang/String", "coder", "()B"⟩ : MethodName)) (tw14 G.1) (tw15 G.1) (tw17 G.1) (tw17 G.1) (tw16 G.1) (tw1 G.1) (tw18 G.1) (by decide) S.1 (con_CO G a 0 h2 W S.2.2.1) (fun _ q => q) pd_4 rfl rfl rfl dSW_39 (pc' := 42) rfl (Wt := 0) (Nat.le_refl _) (by first | decide | (dsimp only; omega) | (simp [Value.category]; done) | (simp [Value.category]; omega)) (by first | decide | (dsimp only; omega) | (simp [Value.category]; done) | (simp [Value.category]; omega)) (by first | decide | (dsimp only; omega) | (simp [Value.category]; done) | (simp [Value.category]; omega)) (by first | decide | (dsimp only; omega) | (simp [Value.category]; done) | (simp [Value.category]; omega)) (fun v3 h3 W3 ⟨e3, e3'⟩ s3 => ?_)
  rw [show nar .byte (0 : Int32) = 0 from rfl] at e3
  subst e3 e3'
  dsimp only [Option.toList, List.cons_append, List.nil_append]
  refine Ow.istore C dSW_42 (pc' := 44) rfl rfl ?_
  dsimp only [List.set]
  refine Ow.iload C dSW_44 (pc' := 46) rfl rfl ?_
  refine Ow.aloadN C dSW_46 (pc' := 47) rfl rfl rfl ?_
  refine Ow.callV C (y := (⟨"java/lang/String", "coder", "()B"⟩ : MethodName)) (z := (⟨"java/lang/String", "coder", "()B"⟩ : MethodName)) (tw14 G.1) (tw15 G.1) (tw17 G.1) (tw17 G.1) (tw16 G.1) (tw1 G.1) (tw18 G.1) (by decide) T.1 (con_CO G a' 0 h3 W T.2.2.1) (fun _ q => q) pd_4 rfl rfl rfl dSW_47 (pc' := 50) rfl (Wt := 1) (Nat.le_refl _) (by first | decide | (dsimp only; omega) | (simp [Value.category]; done) | (simp [Value.category]; omega)) (by first | decide | (dsimp only; omega) | (simp [Value.category]; done) | (simp [Value.category]; omega)) (by first | decide | (dsimp only; omega) | (simp [Value.category]; done) | (simp [Value.category]; omega)) (by first | decide | (dsimp only; omega) | (simp [Value.category]; done) | (simp [Value.category]; omega)) (fun v4 h4 W4 ⟨e4, e4'⟩ s4 => ?_)
  rw [show nar .byte (0 : Int32) = 0 from rfl] at e4
  subst e4 e4'
  dsimp only [Option.toList, List.cons_append, List.nil_append]
  refine Ow.icmpN C dSW_50 (pc' := 53) rfl (XT.ii_ne_f rfl) ?_
  refine Ow.iload C dSW_53 (pc' := 55) rfl rfl ?_
  refine Ow.iconst C (1 : Int32) dSW_55 (pc' := 56) rfl rfl ?_
  refine Ow.icmpY C 63 dSW_56 (XT.ii_ne_t (by decide)) (by decide) (by decide) ?_
  refine Ow.aloadN C dSW_63 (pc' := 64) rfl rfl rfl ?_
  refine Ow.iloadN C dSW_64 (pc' := 65) rfl rfl ?_
  refine Ow.aload C dSW_65 (pc' := 67) rfl rfl rfl ?_
  refine Ow.iconst C (0 : Int32) dSW_67 (pc' := 68) rfl rfl ?_
  refine Ow.iload C dSW_68 (pc' := 70) rfl rfl ?_
  refine Ow.callS C (tw202 G.1) (tw203 G.1) (tw204 G.1) (tw205 G.1) (by decide) (con_MM G d d' i ds.length (cs.map (nar .byte)) (ds.map (nar .byte)) (by simp; omega) (by simp) hd7 h4 W S.2.2.2.1 T.2.2.2.1) (fun _ q => q) pd_26 rfl rfl rfl dSW_70 (pc' := 73) rfl (Wt := 0) (Nat.le_refl _) (by first | decide | (dsimp only; omega) | (simp [Value.category]; done) | (simp [Value.category]; omega)) (by first | decide | (dsimp only; omega) | (simp [Value.category]; done) | (simp [Value.category]; omega)) (by first | decide | (dsimp only; omega) | (simp [Value.category]; done) | (simp [Value.category]; omega)) (by first | decide | (dsimp only; omega) | (simp [Value.category]; done) | (simp [Value.category]; omega)) (fun v5 h5 W5 ⟨⟨r, e5, hr⟩, e5'⟩ s5 => ?_)
  subst e5 e5'
  dsimp only [Option.toList, List.cons_append, List.nil_append]
  rw [same] at hr
  rcases hr with ⟨q1, q2⟩ | ⟨q1, q2⟩
  · refine Ow.ifCN C dSW_73 (pc' := 76) rfl (XT.i0_ge_f q1) ?_
    refine Ow.iconst C (1 : Int32) dSW_76 (pc' := 77) rfl rfl ?_
    refine Ow.goto C 81 dSW_77 (by decide) (by decide) ?_
    refine Ow.retN C (t := .boolean) rfl (by simp) dSW_81 (by first | decide | (dsimp only; omega) | (simp [Value.category]; done) | (simp [Value.category]; omega)) (by first | decide | (dsimp only; omega) | (simp [Value.category]; done) | (simp [Value.category]; omega)) [] (by simp) ⟨⟨1, rfl, Or.inl ⟨rfl, q2⟩⟩, rfl⟩
  · refine Ow.ifCY C 80 dSW_73 (XT.i0_ge_t q1) (by decide) (by decide) ?_
    refine Ow.iconst C (0 : Int32) dSW_80 (pc' := 81) rfl rfl ?_
    refine Ow.retN C (t := .boolean) rfl (by simp) dSW_81 (by first | decide | (dsimp only; omega) | (simp [Value.category]; done) | (simp [Value.category]; omega)) (by first | decide | (dsimp only; omega) | (simp [Value.category]; done) | (simp [Value.category]; omega)) [] (by simp) ⟨⟨0, rfl, Or.inr ⟨rfl, q2⟩⟩, rfl⟩
abbrev rmEW : Room := { frames := 3, cells := 0, slots := 0, locals := 49 }
set_option maxHeartbeats 4000000 in
theorem con_EW (G : Glob Z a0) (a d a' d' : Nat) (cs ds : List Int32) (hd7 : ds.length ≤ 7) (h : Heap) (W : List Nat) (S : Ow.StrL Z h a d cs) (T : Ow.StrL Z h a' d' ds) :
    Ow.Con l Z EL1 bb (⟨"java/lang/String", "endsWith", "(Ljava/lang/String;)Z"⟩ : MethodName) jdk_42_method_77_code 2 (Option.some Jvm.ClassFile.FieldType.boolean) [] rmEW #[.ref a, .ref a'] h W (fun v h' W' => (∃ r : Int32, v = some (.int r) ∧ ((r = 1 ∧ Ow.EndsL cs ds) ∨ (r = 0 ∧ ¬ Ow.EndsL cs ds))) ∧ h' = h) := by
  refine Ow.Con.intro (a0 := a0) pn_44 (ewG G) (saG G) bbG [.val (.ref a), .val (.ref a')] (by first | exact Ow.locals_all (by simp [Value.category]) rfl | rfl | (simp [argsToLocals, Value.category]; done)) ?_
  intro p e s m below meth c C hO
  have hN : cs.length < 2 ^ 31 := S.len
  refine Ow.aloadN C dEW_0 (pc' := 1) rfl rfl rfl ?_
  refine Ow.aloadN C dEW_1 (pc' := 2) rfl rfl rfl ?_
  refine Ow.aloadN C dEW_2 (pc' := 3) rfl rfl rfl ?_
  refine Ow.callV C (y := (⟨"java/lang/String", "length", "()I"⟩ : MethodName)) (z := (⟨"java/lang/String", "length", "()I"⟩ : MethodName)) (tw93 G.1) (tw9 G.1) (tw11 G.1) (tw11 G.1) (tw10 G.1) (tw1 G.1) (tw12 G.1) (by decide) S.1 (con_LN G a d cs h W S) (fun _ q => q) pd_13 rfl rfl rfl dEW_3 (pc' := 6) rfl (Wt := 2) (Nat.le_refl _) (by first | decide | (dsimp only; omega) | (simp [Value.category]; done) | (simp [Value.category]; omega)) (by first | decide | (dsimp only; omega) | (simp [Value.category]; done) | (simp [Value.category]; omega)) (by first | decide | (dsimp only; omega) | (simp [Value.category]; done) | (simp [Value.category]; omega)) (by first | decide | (dsimp only; omega) | (simp [Value.category]; done) | (simp [Value.category]; omega)) (fun v1 h1 W1 ⟨e1, e1'⟩ s1 => ?_)
  subst e1 e1'
  dsimp only [Option.toList, List.cons_append, List.nil_append]
  refine Ow.aloadN C dEW_6 (pc' := 7) rfl rfl rfl ?_
  refine Ow.callV C (y := (⟨"java/lang/String", "length", "()I"⟩ : MethodName)) (z := (⟨"java/lang/String", "length", "()I"⟩ : MethodName)) (tw93 G.1) (tw9 G.1) (tw11 G.1) (tw11 G.1) (tw10 G.1) (tw1 G.1) (tw12 G.1) (by decide) T.1 (con_LN G a' d' ds h1 W T) (fun _ q => q) pd_13 rfl rfl rfl dEW_7 (pc' := 10) rfl (Wt := 3) (Nat.le_refl _) (by first | decide | (dsimp only; omega) | (simp [Value.category]; done) | (simp [Value.category]; omega)) (by first | decide | (dsimp only; omega) | (simp [Value.category]; done) | (simp [Value.category]; omega)) (by first | decide | (dsimp only; omega) | (simp [Value.category]; done) | (simp [Value.category]; omega)) (by first | decide | (dsimp only; omega) | (simp [Value.category]; done) | (simp [Value.category]; omega)) (fun v2 h2 W2 ⟨e2, e2'⟩ s2 => ?_)
  subst e2 e2'
  dsimp only [Option.toList, List.cons_append, List.nil_append]
  refine Ow.isub C dEW_10 (pc' := 11) rfl ?_
  by_cases hl : ds.length ≤ cs.length
  · rw [Ow.sub_ofNat hl hN]
    refine Ow.callV C (y := (⟨"java/lang/String", "startsWith", "(Ljava/lang/String;I)Z"⟩ : MethodName)) (z := (⟨"java/lang/String", "startsWith", "(Ljava/lang/String;I)Z"⟩ : MethodName)) (tw197 G.1) (tw198 G.1) (tw200 G.1) (tw200 G.1) (tw199 G.1) (tw1 G.1) (tw201 G.1) (by decide) S.1 (con_SW G a d a' d' (cs.length - ds.length) cs ds (by omega) hd7 h2 W S T) (fun _ q => q) pd_27 rfl rfl rfl dEW_11 (pc' := 14) rfl (Wt := 0) (Nat.le_refl _) (by first | decide | (dsimp only; omega) | (simp [Value.category]; done) | (simp [Value.category]; omega)) (by first | decide | (dsimp only; omega) | (simp [Value.category]; done) | (simp [Value.category]; omega)) (by first | decide | (dsimp only; omega) | (simp [Value.category]; done) | (simp [Value.category]; omega)) (by first | decide | (dsimp only; omega) | (simp [Value.category]; done) | (simp [Value.category]; omega)) (fun v3 h3 W3 ⟨⟨r, e3, hr⟩, e3'⟩ s3 => ?_)
    subst e3 e3'
    dsimp only [Option.toList, List.cons_append, List.nil_append]
    rcases hr with ⟨rfl, q2⟩ | ⟨rfl, q2⟩
    · refine Ow.retN C (t := .boolean) rfl (by simp) dEW_14 (by first | decide | (dsimp only; omega) | (simp [Value.category]; done) | (simp [Value.category]; omega)) (by first | decide | (dsimp only; omega) | (simp [Value.category]; done) | (simp [Value.category]; omega)) [] (by simp) ⟨⟨1, rfl, Or.inl ⟨rfl, hl, q2⟩⟩, rfl⟩
    · refine Ow.retN C (t := .boolean) rfl (by simp) dEW_14 (by first | decide | (dsimp only; omega) | (simp [Value.category]; done) | (simp [Value.category]; omega)) (by first | decide | (dsimp only; omega) | (simp [Value.category]; done) | (simp [Value.category]; omega)) [] (by simp) ⟨⟨0, rfl, Or.inr ⟨rfl, fun z => q2 z.2⟩⟩, rfl⟩
  · have hneg : Int32.ofNat cs.length - Int32.ofNat ds.length < 0 := by
      have z1 := c_isub (Int32.ofNat cs.length) (Int32.ofNat ds.length)
      have z2 := rng32 (Int32.ofNat cs.length - Int32.ofNat ds.length)
      rw [Ow.ofNat_toInt hN, Ow.ofNat_toInt (by omega)] at z1
      rw [Ow.lt32, Ow.zero_toInt]; omega
    refine Ow.callV C (y := (⟨"java/lang/String", "startsWith", "(Ljava/lang/String;I)Z"⟩ : MethodName)) (z := (⟨"java/lang/String", "startsWith", "(Ljava/lang/String;I)Z"⟩ : MethodName)) (tw197 G.1) (tw198 G.1) (tw200 G.1) (tw200 G.1) (tw199 G.1) (tw1 G.1) (tw201 G.1) (by decide) S.1 (con_SWn G a a' _ hneg h2 W) (fun _ q => q) pd_27 rfl rfl rfl dEW_11 (pc' := 14) rfl (Wt := 0) (Nat.le_refl _) (by first | decide | (dsimp only; omega) | (simp [Value.category]; done) | (simp [Value.category]; omega)) (by first | decide | (dsimp only; omega) | (simp [Value.category]; done) | (simp [Value.category]; omega)) (by first | decide | (dsimp only; omega) | (simp [Value.category]; done) | (simp [Value.category]; omega)) (by first | decide | (dsimp only; omega) | (simp [Value.category]; done) | (simp [Value.category]; omega)) (fun v3 h3 W3 ⟨e3, e3'⟩ s3 => ?_)
    subst e3 e3'
    dsimp only [Option.toList, List.cons_append, List.nil_append]
    refine Ow.retN C (t := .boolean) rfl (by simp) dEW_14 (by first | decide | (dsimp only; omega) | (simp [Value.category]; done) | (simp [Value.category]; omega)) (by first | decide | (dsimp only; omega) | (simp [Value.category]; done) | (simp [Value.category]; omega)) [] (by simp) ⟨⟨0, rfl, Or.inr ⟨rfl, fun z => hl z.1⟩⟩, rfl⟩
end StrEnds

section Law
variable {l : Launch} {Z : State} {a0 : Array Value}
theorem b16_nar : Ow.base16.map (nar .byte) = [97, 112, 112, 108, 105, 99, 97, 116, 105, 111, 110, 47, 106, 115, 111, 110] := by decide +kernel
theorem p5_nar : Ow.plus5.map (nar .byte) = [43, 106, 115, 111, 110] := by decide +kernel
theorem b16_rng : ∀ z ∈ Ow.base16, 0 ≤ z.toInt ∧ z.toInt < 256 := by decide +kernel
theorem p5_rng : ∀ z ∈ Ow.plus5, 0 ≤ z.toInt ∧ z.toInt < 256 := by decide +kernel
abbrev rmIJ (B : Nat) : Room := { frames := 8, cells := 16, slots := 160 + 3 * B, locals := 120 }
set_option maxHeartbeats 4000000 in
theorem con_IJ (G : Glob Z a0) (B a d : Nat) (T : List Int32) (hB : T.length ≤ B) (hB2 : B ≤ 4000) (h : Heap) (W : List Nat) (S : Ow.StrL Z h a d T) :
    Ow.Con l Z EL1 bb (⟨"com/example/archerfish/archerfish/MediaType", "isJson", "(Ljava/lang/String;)Z"⟩ : MethodName) prog_8_method_4_code 2 (Option.some Jvm.ClassFile.FieldType.boolean) [] (rmIJ B) #[.ref a] h W (fun v h' W' => ∃ (r : Int32) (p s e : Nat), v = some (.int r) ∧ Semi T p ∧ Ow.Str0 (T.take p) s e ∧ ((r = 1 ∧ ((((T.take p).take e).drop s).map Ow.low = Ow.base16 ∨ Ow.EndsL ((((T.take p).take e).drop s).map Ow.low) Ow.plus5)) ∨ (r = 0 ∧ ¬ ((((T.take p).take e).drop s).map Ow.low = Ow.base16 ∨ Ow.EndsL ((((T.take p).take e).drop s).map Ow.low) Ow.plus5)))) := by
  refine Ow.Con.intro (a0 := a0) pn_45 (ewG G) (saG G) bbG [.val (.ref a), .unset] (by first | exact Ow.locals_all (by simp [Value.category]) rfl | rfl | (simp [argsToLocals, Value.category]; done)) ?_
  intro p e s m below meth c C hO
  refine Ow.aloadN C dIJ_0 (pc' := 1) rfl rfl rfl ?_
  refine Ow.callS C (tw80 G.1) (tw81 G.1) (tw78 G.1) (tw82 G.1) (by decide) (con_ES G B a d T hB hB2 h W S) (fun _ q => q) pd_28 rfl rfl rfl dIJ_1 (pc' := 4) rfl (Wt := 0) (Nat.le_refl _) (by first | decide | (dsimp only; omega) | (simp [Value.category]; done) | (simp [Value.category]; omega)) (by first | decide | (dsimp only; omega) | (simp [Value.category]; done) | (simp [Value.category]; omega)) (by first | decide | (dsimp only; omega) | (simp [Value.category]; done) | (simp [Value.category]; omega)) (by first | decide | (dsimp only; omega) | (simp [Value.category]; done) | (simp [Value.category]; omega)) (fun v1 h1 W1 ⟨K1, p', s', e', a1, d1, hS, hQ, e1, S1⟩ s1 => ?_)
  subst e1
  dsimp only [Option.toList, List.cons_append, List.nil_append]
  generalize hR : (((T.take p').take e').drop s').map Ow.low = R at S1
  refine Ow.astoreN C dIJ_4 (pc' := 5) rfl rfl rfl ?_
  dsimp only [List.set]
  refine Ow.ldcS C rfl (N := 64) (xs := [97, 112, 112, 108, 105, 99, 97, 116, 105, 111, 110, 47, 106, 115, 111, 110]) (tw181 G.1) (by decide) (by decide) (by decide) dIJ_5 (pc' := 7) rfl (by decide) (by decide) (by first | decide | (dsimp only; omega) | (simp [Value.category]; done) | (simp [Value.category]; omega)) (by first | decide | (dsimp only; omega) | (simp [Value.category]; done) | (simp [Value.category]; omega)) (fun h2 b2 d2 E2 B2 Bc2 Bv2 D2 n2 => ?_)
  have L2 : Ow.StrL Z h2 b2 d2 Ow.base16 := ⟨B2, Bv2, Bc2, by rw [b16_nar]; exact D2, b16_rng⟩
  have S2 := S1.ext E2
  refine Ow.aloadN C dIJ_7 (pc' := 8) rfl rfl rfl ?_
  refine Ow.callV C (y := (⟨"java/lang/String", "equals", "(Ljava/lang/Object;)Z"⟩ : MethodName)) (z := (⟨"java/lang/String", "equals", "(Ljava/lang/Object;)Z"⟩ : MethodName)) (tw182 G.1) (tw183 G.1) (tw185 G.1) (tw185 G.1) (tw184 G.1) (tw1 G.1) (tw186 G.1) (by decide) L2.1 (con_EQg G b2 d2 a1 d1 _ _ h2 W L2 S2) (fun _ q => q) pd_29 rfl rfl rfl dIJ_8 (pc' := 11) rfl (Wt := 0) (Nat.le_refl _) (by first | decide | (dsimp only; omega) | (simp [Value.category]; done) | (simp [Value.category]; omega)) (by first | decide | (dsimp only; omega) | (simp [Value.category]; done) | (simp [Value.category]; omega)) (by first | decide | (dsimp only; omega) | (simp [Value.category]; done) | (simp [Value.category]; omega)) (by first | decide | (dsimp only; omega) | (simp [Value.category]; done) | (simp [Value.category]; omega)) (fun v3 h3 W3 ⟨e3, e3'⟩ s3 => ?_)
  by_cases q : Ow.base16 = R
  · rw [if_pos q] at e3
    subst e3 e3'
    dsimp only [Option.toList, List.cons_append, List.nil_append]
    refine Ow.ifCY C 23 dIJ_11 (XT.i0_ne_t (by decide)) (by decide) (by decide) ?_
    refine Ow.iconst C (1 : Int32) dIJ_23 (pc' := 24) rfl rfl ?_
    refine Ow.goto C 28 dIJ_24 (by decide) (by decide) ?_
    refine Ow.retN C (t := .boolean) rfl (by simp) dIJ_28 (by first | decide | (dsimp only; omega) | (simp [Value.category]; done) | (simp [Value.category]; omega)) (by first | decide | (dsimp only; omega) | (simp [Value.category]; done) | (simp [Value.category]; omega)) [] (by simp) ⟨1, p', s', e', rfl, hS, hQ, Or.inl ⟨rfl, Or.inl (hR.trans q.symm)⟩⟩
  · rw [if_neg q] at e3
    subst e3 e3'
    dsimp only [Option.toList, List.cons_append, List.nil_append]
    refine Ow.ifCN C dIJ_11 (pc' := 14) rfl (XT.i0_ne_f (by decide)) ?_
    refine Ow.aloadN C dIJ_14 (pc' := 15) rfl rfl rfl ?_
    refine Ow.ldcS C rfl (N := 20) (xs := [43, 106, 115, 111, 110]) (tw191 G.1) (by decide) (by decide) (by decide) dIJ_15 (pc' := 17) rfl (by decide) (by decide) (by first | decide | (dsimp only; omega) | (simp [Value.category]; done) | (simp [Value.category]; omega)) (by first | decide | (dsimp only; omega) | (simp [Value.category]; done) | (simp [Value.category]; omega)) (fun h4 b4 d4 E4 B4 Bc4 Bv4 D4 n4 => ?_)
    have L4 : Ow.StrL Z h4 b4 d4 Ow.plus5 := ⟨B4, Bv4, Bc4, by rw [p5_nar]; exact D4, p5_rng⟩
    have S4 := S2.ext E4
    refine Ow.callV C (y := (⟨"java/lang/String", "endsWith", "(Ljava/lang/String;)Z"⟩ : MethodName)) (z := (⟨"java/lang/String", "endsWith", "(Ljava/lang/String;)Z"⟩ : MethodName)) (tw192 G.1) (tw193 G.1) (tw195 G.1) (tw195 G.1) (tw194 G.1) (tw1 G.1) (tw196 G.1) (by decide) S4.1 (con_EW G a1 d1 b4 d4 _ _ (by decide) h4 W S4 L4) (fun _ q => q) pd_30 rfl rfl rfl dIJ_17 (pc' := 20) rfl (Wt := 0) (Nat.le_refl _) (by first | decide | (dsimp only; omega) | (simp [Value.category]; done) | (simp [Value.category]; omega)) (by first | decide | (dsimp only; omega) | (simp [Value.category]; done) | (simp [Value.category]; omega)) (by first | decide | (dsimp only; omega) | (simp [Value.category]; done) | (simp [Value.category]; omega)) (by first | decide | (dsimp only; omega) | (simp [Value.category]; done) | (simp [Value.category]; omega)) (fun v5 h5 W5 ⟨⟨r, e5, hr⟩, e5'⟩ s5 => ?_)
    subst e5 e5'
    dsimp only [Option.toList, List.cons_append, List.nil_append]
    rcases hr with ⟨rfl, z⟩ | ⟨rfl, z⟩
    · refine Ow.ifCN C dIJ_20 (pc' := 23) rfl (XT.i0_eq_f (by decide)) ?_
      refine Ow.iconst C (1 : Int32) dIJ_23 (pc' := 24) rfl rfl ?_
      refine Ow.goto C 28 dIJ_24 (by decide) (by decide) ?_
      refine Ow.retN C (t := .boolean) rfl (by simp) dIJ_28 (by first | decide | (dsimp only; omega) | (simp [Value.category]; done) | (simp [Value.category]; omega)) (by first | decide | (dsimp only; omega) | (simp [Value.category]; done) | (simp [Value.category]; omega)) [] (by simp) ⟨1, p', s', e', rfl, hS, hQ, Or.inl ⟨rfl, Or.inr (by rw [hR]; exact z)⟩⟩
    · refine Ow.ifCY C 27 dIJ_20 (XT.i0_eq_t rfl) (by decide) (by decide) ?_
      refine Ow.iconst C (0 : Int32) dIJ_27 (pc' := 28) rfl rfl ?_
      refine Ow.retN C (t := .boolean) rfl (by simp) dIJ_28 (by first | decide | (dsimp only; omega) | (simp [Value.category]; done) | (simp [Value.category]; omega)) (by first | decide | (dsimp only; omega) | (simp [Value.category]; done) | (simp [Value.category]; omega)) [] (by simp) ⟨0, p', s', e', rfl, hS, hQ, Or.inr ⟨rfl, fun w => w.elim (fun y => q (y.symm.trans hR)) (fun y => z (by rw [← hR]; exact y))⟩⟩
/-- the signs of the two literals: no capital among them -/
def Plain (o : Int32) : Prop := 33 ≤ o.toInt ∧ o.toInt ≤ 122 ∧ ¬ (65 ≤ o.toInt ∧ o.toInt ≤ 90)
theorem sub32v {c : Int32} (h0 : 32 ≤ c.toInt) (h1 : c.toInt < 256) : (c - 32).toInt = c.toInt - 32 := by
  have h := c_isub c 32
  have r := rng32 (c - 32)
  have e : ((32 : Int32)).toInt = 32 := rfl
  rw [e] at h; omega
theorem lowEq {c o : Int32} (h0 : 0 ≤ c.toInt) (h1 : c.toInt < 256) (ho : Plain o) : Ow.low c = o ↔ (c.toInt = o.toInt ∨ (97 ≤ o.toInt ∧ o.toInt ≤ 122 ∧ c.toInt = o.toInt - 32)) := by
  unfold Plain at ho
  rw [Ow.eq32]
  unfold Ow.low
  by_cases q : Ow.upp c
  · rw [if_pos q, Ow.add32v h0 h1]; unfold Ow.upp at q; omega
  · rw [if_neg q]; unfold Ow.upp at q; omega
theorem con_FL (G : Glob Z a0) (o b k : Int32) (ho : Plain o) (h : Heap) (W : List Nat) : Ow.Con l Z EL1 bb (⟨"com/example/archerfish/archerfish/MediaTypeIsJsonPinLaw", "flip", "(CII)C"⟩ : MethodName) method_2_code 3 (Option.some Jvm.ClassFile.FieldType.char) [] rm0 #[.int o, .int b, .int k] h W (fun v h' W' => ∃ r : Int32, v = some (.int r) ∧ 0 ≤ r.toInt ∧ r.toInt < 256 ∧ Ow.low r = o ∧ h' = h) := by
  have k97 : ((97 : Int32)).toInt = 97 := rfl
  have k122 : ((122 : Int32)).toInt = 122 := rfl
  have ho' := ho
  unfold Plain at ho'
  refine Ow.Con.intro (a0 := a0) pn_46 (ewG G) (saG G) bbG [.val (.int o), .val (.int b), .val (.int k)] (by first | exact Ow.locals_all (by simp [Value.category]) rfl | rfl | (simp [argsToLocals, Value.category]; done)) ?_
  intro p e s m below meth c C hO
  have J26 : Ow.WP p l e rm0 s m #[.int o, .int b, .int k] below meth c Z EL1 bb (fun v h' W' => ∃ r : Int32, v = some (.int r) ∧ 0 ≤ r.toInt ∧ r.toInt < 256 ∧ Ow.low r = o ∧ h' = h) 26 [.val (.int o), .val (.int b), .val (.int k)] [] h W 0 0 := by
    refine Ow.iloadN C dFL_26 (pc' := 27) rfl rfl ?_
    refine Ow.retN C (t := .char) rfl (by simp) dFL_27 (by first | decide | (dsimp only; omega) | (simp [Value.category]; done) | (simp [Value.category]; omega)) (by first | decide | (dsimp only; omega) | (simp [Value.category]; done) | (simp [Value.category]; omega)) [] (by simp) ⟨o, by rw [Ow.nar_char_id (by omega) (by omega)], by omega, by omega, (lowEq (by omega) (by omega) ho).mpr (Or.inl rfl), rfl⟩
  refine Ow.iloadN C dFL_0 (pc' := 1) rfl rfl ?_
  refine Ow.iloadN C dFL_1 (pc' := 2) rfl rfl ?_
  refine Ow.iushr C dFL_2 (pc' := 3) rfl ?_
  refine Ow.iconst C (1 : Int32) dFL_3 (pc' := 4) rfl rfl ?_
  refine Ow.iand C dFL_4 (pc' := 5) rfl ?_
  refine Ow.ifC C 26 8 dFL_5 (Ow.hEq _) (by decide) (by decide) rfl (fun q0 => ?_) (fun q0 => ?_)
  · exact J26
  · refine Ow.iloadN C dFL_8 (pc' := 9) rfl rfl ?_
    refine Ow.bipush C (97 : Int32) dFL_9 (pc' := 11) rfl rfl ?_
    refine Ow.icmp C 26 14 dFL_11 (Ow.kLt _ _) (by decide) (by decide) rfl (fun q1 => ?_) (fun q1 => ?_)
    · exact J26
    · refine Ow.iloadN C dFL_14 (pc' := 15) rfl rfl ?_
      refine Ow.bipush C (122 : Int32) dFL_15 (pc' := 17) rfl rfl ?_
      refine Ow.icmp C 26 20 dFL_17 (Ow.kGt _ _) (by decide) (by decide) rfl (fun q2 => ?_) (fun q2 => ?_)
      · exact J26
      · rw [Ow.lt32] at q1 q2
        have sv := sub32v (c := o) (by omega) (by omega)
        refine Ow.iloadN C dFL_20 (pc' := 21) rfl rfl ?_
        refine Ow.bipush C (32 : Int32) dFL_21 (pc' := 23) rfl rfl ?_
        refine Ow.isub C dFL_23 (pc' := 24) rfl ?_
        refine Ow.i2c C dFL_24 (pc' := 25) rfl ?_
        refine Ow.retN C (t := .char) rfl (by simp) dFL_25 (by first | decide | (dsimp only; omega) | (simp [Value.category]; done) | (simp [Value.category]; omega)) (by first | decide | (dsimp only; omega) | (simp [Value.category]; done) | (simp [Value.category]; omega)) [] (by simp) ⟨o - 32, by rw [Ow.nar_char_id (x := nar .char (o - 32)) (by rw [Ow.nar_char]; omega) (by rw [Ow.nar_char]; omega), Ow.nar_char_id (by omega) (by omega)], by omega, by omega, (lowEq (by omega) (by omega) ho).mpr (Or.inr ⟨by omega, by omega, sv⟩), rfl⟩
theorem con_MT (G : Glob Z a0) (c' o : Int32) (h0 : 0 ≤ c'.toInt) (h1 : c'.toInt < 256) (ho : Plain o) (h : Heap) (W : List Nat) : Ow.Con l Z EL1 bb (⟨"com/example/archerfish/archerfish/MediaTypeIsJsonPinLaw", "matches", "(CC)Z"⟩ : MethodName) method_3_code 2 (Option.some Jvm.ClassFile.FieldType.boolean) [] rm0 #[.int c', .int o] h W (fun v h' W' => v = some (.int (if Ow.low c' = o then 1 else 0)) ∧ h' = h) := by
  have k97 : ((97 : Int32)).toInt = 97 := rfl
  have k122 : ((122 : Int32)).toInt = 122 := rfl
  have ho' := ho
  unfold Plain at ho'
  have hle := lowEq h0 h1 ho
  refine Ow.Con.intro (a0 := a0) pn_47 (ewG G) (saG G) bbG [.val (.int c'), .val (.int o)] (by first | exact Ow.locals_all (by simp [Value.category]) rfl | rfl | (simp [argsToLocals, Value.category]; done)) ?_
  intro p e s m below meth c C hO
  have J26 : Ow.low c' = o → Ow.WP p l e rm0 s m #[.int c', .int o] below meth c Z EL1 bb (fun v h' W' => v = some (.int (if Ow.low c' = o then 1 else 0)) ∧ h' = h) 26 [.val (.int c'), .val (.int o)] [] h W 0 0 := by
    intro q
    refine Ow.iconst C (1 : Int32) dMT_26 (pc' := 27) rfl rfl ?_
    refine Ow.goto C 31 dMT_27 (by decide) (by decide) ?_
    refine Ow.retN C (t := .boolean) rfl (by simp) dMT_31 (by first | decide | (dsimp only; omega) | (simp [Value.category]; done) | (simp [Value.category]; omega)) (by first | decide | (dsimp only; omega) | (simp [Value.category]; done) | (simp [Value.category]; omega)) [] (by simp) ⟨by rw [if_pos q]; rfl, rfl⟩
  have J30 : ¬ Ow.low c' = o → Ow.WP p l e rm0 s m #[.int c', .int o] below meth c Z EL1 bb (fun v h' W' => v = some (.int (if Ow.low c' = o then 1 else 0)) ∧ h' = h) 30 [.val (.int c'), .val (.int o)] [] h W 0 0 := by
    intro q
    refine Ow.iconst C (0 : Int32) dMT_30 (pc' := 31) rfl rfl ?_
    refine Ow.retN C (t := .boolean) rfl (by simp) dMT_31 (by first | decide | (dsimp only; omega) | (simp [Value.category]; done) | (simp [Value.category]; omega)) (by first | decide | (dsimp only; omega) | (simp [Value.category]; done) | (simp [Value.category]; omega)) [] (by simp) ⟨by rw [if_neg q]; rfl, rfl⟩
  refine Ow.iloadN C dMT_0 (pc' := 1) rfl rfl ?_
  refine Ow.iloadN C dMT_1 (pc' := 2) rfl rfl ?_
  refine Ow.icmp C 26 5 dMT_2 (Ow.kEq _ _) (by decide) (by decide) rfl (fun q0 => ?_) (fun q0 => ?_)
  · exact J26 (hle.mpr (Or.inl (by rw [q0])))
  · rw [Ow.eq32] at q0
    refine Ow.iloadN C dMT_5 (pc' := 6) rfl rfl ?_
    refine Ow.bipush C (97 : Int32) dMT_6 (pc' := 8) rfl rfl ?_
    refine Ow.icmp C 30 11 dMT_8 (Ow.kLt _ _) (by decide) (by decide) rfl (fun q1 => ?_) (fun q1 => ?_)
    · rw [Ow.lt32] at q1
      exact J30 (fun z => by have := hle.mp z; omega)
    · rw [Ow.lt32] at q1
      refine Ow.iloadN C dMT_11 (pc' := 12) rfl rfl ?_
      refine Ow.bipush C (122 : Int32) dMT_12 (pc' := 14) rfl rfl ?_
      refine Ow.icmp C 30 17 dMT_14 (Ow.kGt _ _) (by decide) (by decide) rfl (fun q2 => ?_) (fun q2 => ?_)
      · rw [Ow.lt32] at q2
        exact J30 (fun z => by have := hle.mp z; omega)
      · rw [Ow.lt32] at q2
        have sv := sub32v (c := o) (by omega) (by omega)
        refine Ow.iloadN C dMT_17 (pc' := 18) rfl rfl ?_
        refine Ow.iloadN C dMT_18 (pc' := 19) rfl rfl ?_
        refine Ow.bipush C (32 : Int32) dMT_19 (pc' := 21) rfl rfl ?_
        refine Ow.isub C dMT_21 (pc' := 22) rfl ?_
        refine Ow.i2c C dMT_22 (pc' := 23) rfl ?_
        rw [Ow.nar_char_id (by omega) (by omega)]
        refine Ow.icmp C 30 26 dMT_23 (Ow.kNe _ _) (by decide) (by decide) rfl (fun q3 => ?_) (fun q3 => ?_)
        · rw [Ow.eq32] at q3
          exact J30 (fun z => by have := hle.mp z; omega)
        · have q4 := Decidable.not_not.mp q3
          rw [Ow.eq32] at q4
          exact J26 (hle.mpr (Or.inr ⟨by omega, by omega, by omega⟩))
def padC (k : Nat) : Int32 := if k = 1 then 32 else if k = 2 then 9 else 120
theorem padC_low (k : Nat) : (Ow.low (padC k)).toInt = Ow.padI k := by
  unfold padC Ow.padI
  by_cases q : k = 1
  · rw [if_pos q, if_pos q]; decide
  · rw [if_neg q, if_neg q]
    by_cases z : k = 2
    · rw [if_pos z, if_pos z]; decide
    · rw [if_neg z, if_neg z]; decide
theorem padC_rng (k : Nat) : 0 ≤ (padC k).toInt ∧ (padC k).toInt < 256 := by
  unfold padC
  by_cases q : k = 1
  · rw [if_pos q]; decide
  · rw [if_neg q]
    by_cases z : k = 2
    · rw [if_pos z]; decide
    · rw [if_neg z]; decide
theorem con_PA (G : Glob Z a0) (k : Nat) (hk : k ≤ 3) (h : Heap) (W : List Nat) : Ow.Con l Z EL1 bb (⟨"com/example/archerfish/archerfish/MediaTypeIsJsonPinLaw", "pad", "(I)C"⟩ : MethodName) method_4_code 1 (Option.some Jvm.ClassFile.FieldType.char) [] rm0 #[.int (Int32.ofNat k)] h W (fun v h' W' => v = some (.int (padC k)) ∧ h' = h) := by
  refine Ow.Con.intro (a0 := a0) pn_48 (ewG G) (saG G) bbG [.val (.int (Int32.ofNat k))] (by first | exact Ow.locals_all (by simp [Value.category]) rfl | rfl | (simp [argsToLocals, Value.category]; done)) ?_
  intro p e s m below meth c C hO
  refine Ow.iloadN C dPA_0 (pc' := 1) rfl rfl ?_
  refine Ow.iconst C (1 : Int32) dPA_1 (pc' := 2) rfl rfl ?_
  by_cases q : k = 1
  · refine Ow.icmpN C dPA_2 (pc' := 5) rfl (XT.ii_ne_f (by rw [q]; rfl)) ?_
    refine Ow.bipush C (32 : Int32) dPA_5 (pc' := 7) rfl rfl ?_
    refine Ow.retN C (t := .char) rfl (by simp) dPA_7 (by first | decide | (dsimp only; omega) | (simp [Value.category]; done) | (simp [Value.category]; omega)) (by first | decide | (dsimp only; omega) | (simp [Value.category]; done) | (simp [Value.category]; omega)) [] (by simp) ⟨by unfold padC; rw [if_pos q]; rfl, rfl⟩
  · refine Ow.icmpY C 8 dPA_2 (XT.ii_ne_t (fun z => q (Ow.ofNat_inj (j := 1) (by omega) (by omega) z))) (by decide) (by decide) ?_
    refine Ow.iloadN C dPA_8 (pc' := 9) rfl rfl ?_
    refine Ow.iconst C (2 : Int32) dPA_9 (pc' := 10) rfl rfl ?_
    by_cases q2 : k = 2
    · refine Ow.icmpN C dPA_10 (pc' := 13) rfl (XT.ii_ne_f (by rw [q2]; rfl)) ?_
      refine Ow.bipush C (9 : Int32) dPA_13 (pc' := 15) rfl rfl ?_
      refine Ow.retN C (t := .char) rfl (by simp) dPA_15 (by first | decide | (dsimp only; omega) | (simp [Value.category]; done) | (simp [Value.category]; omega)) (by first | decide | (dsimp only; omega) | (simp [Value.category]; done) | (simp [Value.category]; omega)) [] (by simp) ⟨by unfold padC; rw [if_neg q, if_pos q2]; rfl, rfl⟩
    · refine Ow.icmpY C 16 dPA_10 (XT.ii_ne_t (fun z => q2 (Ow.ofNat_inj (j := 2) (by omega) (by omega) z))) (by decide) (by decide) ?_
      refine Ow.bipush C (120 : Int32) dPA_16 (pc' := 18) rfl rfl ?_
      refine Ow.retN C (t := .char) rfl (by simp) dPA_18 (by first | decide | (dsimp only; omega) | (simp [Value.category]; done) | (simp [Value.category]; omega)) (by first | decide | (dsimp only; omega) | (simp [Value.category]; done) | (simp [Value.category]; omega)) [] (by simp) ⟨by unfold padC; rw [if_neg q, if_neg q2]; rfl, rfl⟩
abbrev rmPT : Room := { frames := 4, cells := 0, slots := 0, locals := 60 }
set_option maxHeartbeats 4000000 in
theorem con_PT (G : Glob Z a0) (a ii sb db k : Nat) (B xs : List Int32) (fl : Int32) (hk : k < 16) (h : Heap) (W : List Nat) (S : Ow.StrL Z h sb db B) (hP : ∀ z ∈ B, Plain z) (X : ArI Z h a .char xs) (hat : ii + B.length ≤ xs.length) (ha : a ∈ W) :
    Ow.Con l Z EL1 bb (⟨"com/example/archerfish/archerfish/MediaTypeIsJsonPinLaw", "put", "([CILjava/lang/String;II)V"⟩ : MethodName) method_5_code 5 (Option.none : Option Jvm.ClassFile.FieldType) [] rmPT #[.ref a, .int (Int32.ofNat ii), .ref sb, .int fl, .int (Int32.ofNat k)] h W (fun v h' W' => v = none ∧ Keep h h' [a] ∧ ∃ xs' : List Int32, ArI Z h' a .char xs' ∧ ((xs' = xs ∧ B.length ≤ k) ∨ (k < B.length ∧ ∃ y : Int32, 0 ≤ y.toInt ∧ y.toInt < 256 ∧ Ow.low y = B.getD k 0 ∧ xs' = xs.set (ii + k) y))) := by
  refine Ow.Con.intro (a0 := a0) pn_49 (ewG G) (saG G) bbG [.val (.ref a), .val (.int (Int32.ofNat ii)), .val (.ref sb), .val (.int fl), .val (.int (Int32.ofNat k))] (by first | exact Ow.locals_all (by simp [Value.category]) rfl | rfl | (simp [argsToLocals, Value.category]; done)) ?_
  intro p e s m below meth c C hO
  have hN := X.2
  refine Ow.iload C dPT_0 (pc' := 2) rfl rfl ?_
  refine Ow.aloadN C dPT_2 (pc' := 3) rfl rfl rfl ?_
  refine Ow.callV C (y := (⟨"java/lang/String", "length", "()I"⟩ : MethodName)) (z := (⟨"java/lang/String", "length", "()I"⟩ : MethodName)) (tw8 G.1) (tw9 G.1) (tw11 G.1) (tw11 G.1) (tw10 G.1) (tw1 G.1) (tw12 G.1) (by decide) S.1 (con_LN G sb db B h W S) (fun _ q => q) pd_13 rfl rfl rfl dPT_3 (pc' := 6) rfl (Wt := 1) (Nat.le_refl _) (by first | decide | (dsimp only; omega) | (simp [Value.category]; done) | (simp [Value.category]; omega)) (by first | decide | (dsimp only; omega) | (simp [Value.category]; done) | (simp [Value.category]; omega)) (by first | decide | (dsimp only; omega) | (simp [Value.category]; done) | (simp [Value.category]; omega)) (by first | decide | (dsimp only; omega) | (simp [Value.category]; done) | (simp [Value.category]; omega)) (fun v1 h1 W1 ⟨e1, e1'⟩ s1 => ?_)
  subst e1 e1'
  dsimp only [Option.toList, List.cons_append, List.nil_append]
  by_cases q : B.length ≤ k
  · refine Ow.icmpY C 27 dPT_6 (XT.ii_ge_t (by rw [Ow.lt32, Ow.ofNat_toInt (by omega), Ow.ofNat_toInt (by omega)]; omega)) (by decide) (by decide) ?_
    refine Ow.retV C rfl dPT_27 (by first | decide | (dsimp only; omega) | (simp [Value.category]; done) | (simp [Value.category]; omega)) (by first | decide | (dsimp only; omega) | (simp [Value.category]; done) | (simp [Value.category]; omega)) [] (by simp) ⟨rfl, Keep.refl _ _, xs, X, Or.inl ⟨rfl, q⟩⟩
  · refine Ow.icmpN C dPT_6 (pc' := 9) rfl (XT.ii_ge_f (by rw [Ow.lt32, Ow.ofNat_toInt (by omega), Ow.ofNat_toInt (by omega)]; omega)) ?_
    refine Ow.aloadN C dPT_9 (pc' := 10) rfl rfl rfl ?_
    refine Ow.iloadN C dPT_10 (pc' := 11) rfl rfl ?_
    refine Ow.iload C dPT_11 (pc' := 13) rfl rfl ?_
    refine Ow.iadd C dPT_13 (pc' := 14) rfl ?_
    rw [Ow.add_ofNat (by omega)]
    refine Ow.aloadN C dPT_14 (pc' := 15) rfl rfl rfl ?_
    refine Ow.iload C dPT_15 (pc' := 17) rfl rfl ?_
    refine Ow.callV C (y := (⟨"java/lang/String", "charAt", "(I)C"⟩ : MethodName)) (z := (⟨"java/lang/String", "charAt", "(I)C"⟩ : MethodName)) (tw27 G.1) (tw28 G.1) (tw30 G.1) (tw30 G.1) (tw29 G.1) (tw1 G.1) (tw31 G.1) (by decide) S.1 (con_CA G sb db k B (by omega) h1 W S) (fun _ q => q) pd_31 rfl rfl rfl dPT_17 (pc' := 20) rfl (Wt := 2) (Nat.le_refl _) (by first | decide | (dsimp only; omega) | (simp [Value.category]; done) | (simp [Value.category]; omega)) (by first | decide | (dsimp only; omega) | (simp [Value.category]; done) | (simp [Value.category]; omega)) (by first | decide | (dsimp only; omega) | (simp [Value.category]; done) | (simp [Value.category]; omega)) (by first | decide | (dsimp only; omega) | (simp [Value.category]; done) | (simp [Value.category]; omega)) (fun v2 h2 W2 ⟨e2, e2'⟩ s2 => ?_)
    subst e2 e2'
    dsimp only [Option.toList, List.cons_append, List.nil_append]
    refine Ow.iloadN C dPT_20 (pc' := 21) rfl rfl ?_
    refine Ow.iload C dPT_21 (pc' := 23) rfl rfl ?_
    refine Ow.callS C (tw49 G.1) (tw50 G.1) (tw25 G.1) (tw51 G.1) (by decide) (con_FL G (B.getD k 0) fl (Int32.ofNat k) (Ow.getD_rng hP (by omega)) h2 W) (fun _ q => q) pd_32 rfl rfl rfl dPT_23 (pc' := 26) rfl (Wt := 2) (Nat.le_refl _) (by first | decide | (dsimp only; omega) | (simp [Value.category]; done) | (simp [Value.category]; omega)) (by first | decide | (dsimp only; omega) | (simp [Value.category]; done) | (simp [Value.category]; omega)) (by first | decide | (dsimp only; omega) | (simp [Value.category]; done) | (simp [Value.category]; omega)) (by first | decide | (dsimp only; omega) | (simp [Value.category]; done) | (simp [Value.category]; omega)) (fun v3 h3 W3 ⟨y, e3, y0, y1, y2, e3'⟩ s3 => ?_)
    subst e3 e3'
    dsimp only [Option.toList, List.cons_append, List.nil_append]
    refine Ow.castore C X (i := ii + k) (Ow.ofNat_toInt (by omega)) (by omega) ha dPT_26 (pc' := 27) rfl (fun h4 K4 V4 => ?_)
    rw [Ow.nar_char_id y0 (by omega)] at V4
    refine Ow.retV C rfl dPT_27 (by first | decide | (dsimp only; omega) | (simp [Value.category]; done) | (simp [Value.category]; omega)) (by first | decide | (dsimp only; omega) | (simp [Value.category]; done) | (simp [Value.category]; omega)) [] (by simp) ⟨rfl, K4, _, V4, Or.inr ⟨by omega, y, y0, y1, y2, rfl⟩⟩
theorem b16_plain : ∀ z ∈ Ow.base16, Plain z := by unfold Plain; decide +kernel
theorem p5_plain : ∀ z ∈ Ow.plus5, Plain z := by unfold Plain; decide +kernel
theorem getD_set_eq {xs : List Int32} {i : Nat} {y : Int32} (h : i < xs.length) : (xs.set i y).getD i 0 = y := by simp [List.getD_eq_getElem?_getD, h]
theorem getD_set_ne {xs : List Int32} {i j : Nat} {y : Int32} (h : i ≠ j) : (xs.set i y).getD j 0 = xs.getD j 0 := by simp [List.getD_eq_getElem?_getD, h]
/-- every place holds a Latin-1 sign -/
def RNG (xs : List Int32) : Prop := ∀ j, 0 ≤ (xs.getD j 0).toInt ∧ (xs.getD j 0).toInt < 256
theorem RNG.rep (n : Nat) : RNG (List.replicate n 0) := by
  intro j
  have : (List.replicate n (0 : Int32)).getD j 0 = 0 := by
    rw [List.getD_eq_getElem?_getD, List.getElem?_replicate]; split <;> rfl
  rw [this]; decide
theorem RNG.set {xs : List Int32} {i : Nat} {y : Int32} (R : RNG xs) (hy : 0 ≤ y.toInt ∧ y.toInt < 256) : RNG (xs.set i y) := by
  intro j
  by_cases q : i = j
  · subst q
    by_cases z : i < xs.length
    · rw [getD_set_eq z]; exact hy
    · rw [List.set_eq_of_length_le (by omega)]; exact R i
  · rw [getD_set_ne q]; exact R j
theorem RNG.mem {xs : List Int32} (R : RNG xs) : ∀ z ∈ xs, 0 ≤ z.toInt ∧ z.toInt < 256 := by
  intro z hz
  obtain ⟨j, hj, rfl⟩ := List.mem_iff_getElem.mp hz
  have := R j
  simpa [List.getD_eq_getElem?_getD, hj] using this
/-- the first J places of the literal are laid -/
def Laid (ys : List Int32) (n ii : Nat) (B : List Int32) (J : Nat) (xs : List Int32) : Prop := (xs.length = n) ∧ (RNG xs) ∧ (∀ j, j < ii → xs.getD j 0 = ys.getD j 0) ∧ (∀ j, j < J → j < B.length → Ow.low (xs.getD (ii + j) 0) = B.getD j 0) ∧ (True)
theorem Laid.len {ys xs : List Int32} {n ii J : Nat} {B : List Int32} (P : Laid ys n ii B J xs) : xs.length = n := P.1
theorem Laid.rng {ys xs : List Int32} {n ii J : Nat} {B : List Int32} (P : Laid ys n ii B J xs) : RNG xs := P.2.1
theorem Laid.pre {ys xs : List Int32} {n ii J : Nat} {B : List Int32} (P : Laid ys n ii B J xs) : ∀ j, j < ii → xs.getD j 0 = ys.getD j 0 := P.2.2.1
theorem Laid.low {ys xs : List Int32} {n ii J : Nat} {B : List Int32} (P : Laid ys n ii B J xs) : ∀ j, j < J → j < B.length → Ow.low (xs.getD (ii + j) 0) = B.getD j 0 := P.2.2.2.1
theorem Laid.fit {ys xs : List Int32} {n ii J : Nat} {B : List Int32} (P : Laid ys n ii B J xs) : True := P.2.2.2.2
theorem Laid.start {ys : List Int32} {n ii : Nat} {B : List Int32} (h : ys.length = n) (R : RNG ys) : Laid ys n ii B 0 ys := by
  unfold Laid
  exact ⟨h, R, fun _ _ => rfl, fun j hj => by omega, trivial⟩
theorem Laid.step {ys xs xs' : List Int32} {n ii J : Nat} {B : List Int32} (P : Laid ys n ii B J xs) (h : (xs' = xs ∧ B.length ≤ J) ∨ (J < B.length ∧ ∃ y : Int32, 0 ≤ y.toInt ∧ y.toInt < 256 ∧ Ow.low y = B.getD J 0 ∧ xs' = xs.set (ii + J) y)) (hn : ii + B.length ≤ n) : Laid ys n ii B (J + 1) xs' := by
  rcases h with ⟨rfl, hJ⟩ | ⟨hJ, y, y0, y1, y2, rfl⟩
  · unfold Laid at P ⊢
    exact ⟨P.1, P.2.1, P.2.2.1, fun j hj hB => P.2.2.2.1 j (by omega) hB, trivial⟩
  · show _ ∧ _ ∧ _ ∧ _ ∧ _
    refine ⟨by simp [P.len], P.rng.set ⟨y0, y1⟩, fun j hj => by rw [getD_set_ne (by omega)]; exact P.pre j hj, fun j hj hB => ?_, trivial⟩
    by_cases q : j = J
    · subst q; rw [getD_set_eq (by rw [P.len]; omega)]; exact y2
    · rw [getD_set_ne (by omega)]; exact P.low j (by omega) hB
/-- what the law expects -/
def Expd (md tr ld q : Nat) (cc d0 d1 d2 : Int32) (B : List Int32) : Prop :=
  (md = 1 → tr ≠ 3 ∧ ((ld ≠ 3 ∧ (q = B.length ∨ Ow.low cc = B.getD q 0)) ∨ (q = 11 ∧ cc = 43))) ∧ (md = 0 → tr ≠ 3 ∧ ¬ d0 = 59 ∧ ¬ d1 = 59 ∧ ¬ d2 = 59 ∧ (q = B.length ∨ Ow.low cc = B.getD q 0))
theorem low43 {c : Int32} (h0 : 0 ≤ c.toInt) (h1 : c.toInt < 256) : (Ow.low c).toInt = 43 ↔ c = 43 := by
  have k : ((43 : Int32)).toInt = 43 := rfl
  rw [Ow.eq32, k]
  unfold Ow.low
  by_cases q : Ow.upp c
  · rw [if_pos q, Ow.add32v h0 h1]; unfold Ow.upp at q; omega
  · rw [if_neg q]
theorem law_iff {T B : List Int32} {p s e md ld tr t la off ta q : Nat} {cc d0 d1 d2 : Int32} (hT : ∀ z ∈ T, 0 ≤ z.toInt ∧ z.toInt < 256) (hS : Semi T p) (hQ : Ow.Str0 (T.take p) s e) (hB : (md = 1 ∧ B = Ow.base16) ∨ (md = 0 ∧ B = Ow.plus5))
    (hla : la = if ld = 0 then 0 else 1) (hta : ta = if tr = 0 then 0 else 1) (hoff : off = if md = 1 then 0 else 3) (hld : ld ≤ 3) (htr : tr ≤ 3) (ht : t ≤ 2) (hn : T.length = la + off + B.length + ta + t) (hq : q ≤ B.length)
    (hl : ld ≠ 0 → T.getD 0 0 = padC ld) (hd : md = 0 → T.getD la 0 = d0 ∧ T.getD (la + 1) 0 = d1 ∧ T.getD (la + 2) 0 = d2) (hb : ∀ j, j < B.length → j ≠ q → Ow.low (T.getD (la + off + j) 0) = B.getD j 0) (hc : q < B.length → T.getD (la + off + q) 0 = cc)
    (htt : tr ≠ 0 → T.getD (la + off + B.length) 0 = padC tr) (h59 : 1 ≤ t → T.getD (la + off + B.length + ta) 0 = 59) (rc : 0 ≤ cc.toInt ∧ cc.toInt < 256) (r0 : 0 ≤ d0.toInt ∧ d0.toInt < 256) (r1 : 0 ≤ d1.toInt ∧ d1.toInt < 256) (r2 : 0 ≤ d2.toInt ∧ d2.toInt < 256) :
    ((((T.take p).take e).drop s).map Ow.low = Ow.base16 ∨ Ow.EndsL ((((T.take p).take e).drop s).map Ow.low) Ow.plus5) ↔ Expd md tr ld q cc d0 d1 d2 B := by
  have hp := hS.1
  have he : e ≤ p := by have := hQ.2.1; simp at this; omega
  have tk : (T.take p).take e = T.take e := by rw [List.take_take, Nat.min_eq_left he]
  rw [tk, Ow.isB_of (by omega), Ow.isP_of (by omega)]
  have C := Ow.cut_of hT hS.1 hS.2.1 hS.2.2 hQ
  rcases hB with ⟨rfl, rfl⟩ | ⟨rfl, rfl⟩
  · have o0 : off = 0 := hoff
    subst o0 hta
    have l16 : Ow.base16.length = 16 := rfl
    rw [l16] at hn hq hb hc htt h59
    simp only [Nat.add_zero] at hn hb hc htt h59
    rw [hn] at C
    rw [Ow.plainA (c := (Ow.low cc).toInt) C rfl hla hld htr hq (fun z => by show (Ow.low (T.getD 0 0)).toInt = _; rw [hl z]; exact padC_low ld) (fun j hj hjq => by show (Ow.low (T.getD (la + j) 0)).toInt = _; rw [hb j hj hjq]; rfl) (fun z => by show (Ow.low (T.getD (la + q) 0)).toInt = _; rw [hc z]) (fun z => by show (Ow.low (T.getD (la + 16) 0)).toInt = _; rw [htt z]; exact padC_low tr) (fun z => by show (Ow.low (T.getD (la + 16 + _) 0)).toInt = _; rw [h59 z]; rfl)]
    unfold Expd
    rw [l16, low43 rc.1 rc.2]
    have e1 : (Ow.low cc).toInt = Ow.bI q ↔ Ow.low cc = Ow.base16.getD q 0 := by rw [Ow.eq32]; rfl
    rw [e1]
    exact ⟨fun z => ⟨fun _ => z, fun y => absurd y (by decide)⟩, fun z => z.1 rfl⟩
  · have o0 : off = 3 := hoff
    subst o0 hta
    have l5 : Ow.plus5.length = 5 := rfl
    rw [l5] at hn hq hb hc htt h59
    have a8 : la + 3 + 5 = la + 8 := by omega
    rw [a8] at hn htt h59
    rw [hn] at C
    obtain ⟨f0, f1, f2⟩ := hd rfl
    rw [Ow.plainB (c := (Ow.low cc).toInt) C rfl hla ht htr hq (fun z => by show (Ow.low (T.getD 0 0)).toInt = _; rw [hl z]; exact padC_low ld) (fun j hj hjq => by show (Ow.low (T.getD (la + 3 + j) 0)).toInt = _; rw [hb j hj hjq]; rfl) (fun z => by show (Ow.low (T.getD (la + 3 + q) 0)).toInt = _; rw [hc z]) (fun z => by show (Ow.low (T.getD (la + 8) 0)).toInt = _; rw [htt z]; exact padC_low tr) (fun z => by show (Ow.low (T.getD (la + 8 + _) 0)).toInt = _; rw [h59 z]; rfl)]
    unfold Expd
    have g0 : (Ow.low (T.getD la 0)).toInt = 59 ↔ d0 = 59 := by rw [f0]; exact Ow.low59 r0.1 r0.2
    have g1 : (Ow.low (T.getD (la + 1) 0)).toInt = 59 ↔ d1 = 59 := by rw [f1]; exact Ow.low59 r1.1 r1.2
    have g2 : (Ow.low (T.getD (la + 2) 0)).toInt = 59 ↔ d2 = 59 := by rw [f2]; exact Ow.low59 r2.1 r2.2
    have e1 : (Ow.low cc).toInt = Ow.pI q ↔ Ow.low cc = Ow.plus5.getD q 0 := by rw [Ow.eq32]; rfl
    rw [l5, e1]
    exact ⟨fun z => ⟨fun y => absurd y (by decide), fun _ => ⟨z.1, fun w => z.2.1 (g0.mpr w), fun w => z.2.2.1 (g1.mpr w), fun w => z.2.2.2.1 (g2.mpr w), z.2.2.2.2⟩⟩, fun z => ⟨(z.2 rfl).1, fun w => (z.2 rfl).2.1 (g0.mp w), fun w => (z.2 rfl).2.2.1 (g1.mp w), fun w => (z.2 rfl).2.2.2.1 (g2.mp w), (z.2 rfl).2.2.2.2⟩⟩
set_option maxHeartbeats 40000000 in
theorem con_law (G : Glob Z a0) (sel fl pos chs mo : Int32) : Ow.Con l Z EL1 bb x code maxLocals ret tables_1 room_1 #[.int sel, .int fl, .int pos, .int chs, .int mo] Z.heap [] (fun v h' W' => v = some (.int 1)) := by
  refine Ow.Con.intro (a0 := a0) pn_50 (ewG G) (saG G) bbG [.val (.int sel), .val (.int fl), .val (.int pos), .val (.int chs), .val (.int mo), .unset, .unset, .unset, .unset, .unset, .unset, .unset, .unset, .unset, .unset, .unset, .unset, .unset, .unset, .unset, .unset, .unset, .unset] (by first | exact Ow.locals_all (by simp [Value.category]) rfl | rfl | (simp [argsToLocals, Value.category]; done)) ?_
  intro p e s m below meth c C0 hO
  have C : Ow.Cx p m meth c s Z a0 EL1 bb "com/example/archerfish/archerfish/MediaTypeIsJsonPinLaw" "law" code 23 ret := C0
  refine Ow.iloadN C at_0 (pc' := 1) rfl rfl ?_
  refine Ow.iconst C (1 : Int32) at_1 (pc' := 2) rfl rfl ?_
  refine Ow.iand C at_2 (pc' := 3) rfl ?_
  suffices hJ : ∀ md : Nat, md ≤ 1 → Ow.WP p l e room_1 s m #[.int sel, .int fl, .int pos, .int chs, .int mo] below meth c Z EL1 bb (fun v h' W' => v = some (.int 1)) 11 [.val (.int sel), .val (.int fl), .val (.int pos), .val (.int chs), .val (.int mo), .unset, .unset, .unset, .unset, .unset, .unset, .unset, .unset, .unset, .unset, .unset, .unset, .unset, .unset, .unset, .unset, .unset, .unset] [.int (Int32.ofNat md)] Z.heap [] 0 0 by
    refine Ow.ifC C 10 6 at_3 (Ow.hNe _) (by decide) (by decide) rfl (fun q => ?_) (fun q => ?_)
    · refine Ow.iconst C (0 : Int32) at_10 (pc' := 11) rfl rfl ?_
      exact hJ 0 (by omega)
    · refine Ow.iconst C (1 : Int32) at_6 (pc' := 7) rfl rfl ?_
      refine Ow.goto C 11 at_7 (by decide) (by decide) ?_
      exact hJ 1 (by omega)
  intro md hmd
  refine Ow.istore C at_11 (pc' := 13) rfl rfl ?_
  dsimp only [List.set]
  refine Ow.iloadN C at_13 (pc' := 14) rfl rfl ?_
  refine Ow.iconst C (1 : Int32) at_14 (pc' := 15) rfl rfl ?_
  refine Ow.iushr C at_15 (pc' := 16) rfl ?_
  refine Ow.iconst C (3 : Int32) at_16 (pc' := 17) rfl rfl ?_
  refine Ow.iand C at_17 (pc' := 18) rfl ?_
  refine Ow.istoreG C at_18 (pc' := 20) rfl rfl (fun x6 e_x6 => ?_)
  dsimp only [List.set]
  refine Ow.iloadN C at_20 (pc' := 21) rfl rfl ?_
  refine Ow.iconst C (3 : Int32) at_21 (pc' := 22) rfl rfl ?_
  refine Ow.iushr C at_22 (pc' := 23) rfl ?_
  refine Ow.iconst C (3 : Int32) at_23 (pc' := 24) rfl rfl ?_
  refine Ow.iand C at_24 (pc' := 25) rfl ?_
  refine Ow.istoreG C at_25 (pc' := 27) rfl rfl (fun x7 e_x7 => ?_)
  dsimp only [List.set]
  refine Ow.iloadN C at_27 (pc' := 28) rfl rfl ?_
  refine Ow.iconst C (5 : Int32) at_28 (pc' := 29) rfl rfl ?_
  refine Ow.iushr C at_29 (pc' := 30) rfl ?_
  refine Ow.iconst C (3 : Int32) at_30 (pc' := 31) rfl rfl ?_
  refine Ow.iand C at_31 (pc' := 32) rfl ?_
  refine Ow.istoreG C at_32 (pc' := 34) rfl rfl (fun x8 e_x8 => ?_)
  dsimp only [List.set]
  obtain ⟨ld, hld, e_ld⟩ : ∃ i : Nat, i ≤ 3 ∧ x6 = Int32.ofNat i := by rw [e_x6]; exact Ow.and3 _
  clear e_x6
  subst e_ld
  obtain ⟨tr, htr, e_tr⟩ : ∃ i : Nat, i ≤ 3 ∧ x7 = Int32.ofNat i := by rw [e_x7]; exact Ow.and3 _
  clear e_x7
  subst e_tr
  obtain ⟨tl, htl, e_tl⟩ : ∃ i : Nat, i ≤ 3 ∧ x8 = Int32.ofNat i := by rw [e_x8]; exact Ow.and3 _
  clear e_x8
  subst e_tl
  suffices hJ : ∀ t : Nat, t ≤ 2 → Ow.WP p l e room_1 s m #[.int sel, .int fl, .int pos, .int chs, .int mo] below meth c Z EL1 bb (fun v h' W' => v = some (.int 1)) 43 [.val (.int sel), .val (.int fl), .val (.int pos), .val (.int chs), .val (.int mo), .val (.int (Int32.ofNat md)), .val (.int (Int32.ofNat ld)), .val (.int (Int32.ofNat tr)), .val (.int (Int32.ofNat t)), .unset, .unset, .unset, .unset, .unset, .unset, .unset, .unset, .unset, .unset, .unset, .unset, .unset, .unset] [] Z.heap [] 0 0 by
    refine Ow.iload C at_34 (pc' := 36) rfl rfl ?_
    refine Ow.iconst C (3 : Int32) at_36 (pc' := 37) rfl rfl ?_
    by_cases q : tl = 3
    · refine Ow.icmpN C at_37 (pc' := 40) rfl (XT.ii_ne_f (by rw [q]; rfl)) ?_
      refine Ow.iconst C (2 : Int32) at_40 (pc' := 41) rfl rfl ?_
      refine Ow.istore C at_41 (pc' := 43) rfl rfl ?_
      dsimp only [List.set]
      exact hJ 2 (by omega)
    · refine Ow.icmpY C 43 at_37 (XT.ii_ne_t (fun z => q (Ow.ofNat_inj (j := 3) (by omega) (by omega) z))) (by decide) (by decide) ?_
      exact hJ tl (by omega)
  intro t ht
  refine Ow.iloadN C at_43 (pc' := 44) rfl rfl ?_
  refine Ow.sipush C (255 : Int32) at_44 (pc' := 47) rfl rfl ?_
  refine Ow.iand C at_47 (pc' := 48) rfl ?_
  refine Ow.i2c C at_48 (pc' := 49) rfl ?_
  refine Ow.istoreG C at_49 (pc' := 51) rfl rfl (fun cc e_cc => ?_)
  dsimp only [List.set]
  refine Ow.iloadN C at_51 (pc' := 52) rfl rfl ?_
  refine Ow.bipush C (8 : Int32) at_52 (pc' := 54) rfl rfl ?_
  refine Ow.iushr C at_54 (pc' := 55) rfl ?_
  refine Ow.sipush C (255 : Int32) at_55 (pc' := 58) rfl rfl ?_
  refine Ow.iand C at_58 (pc' := 59) rfl ?_
  refine Ow.i2c C at_59 (pc' := 60) rfl ?_
  refine Ow.istoreG C at_60 (pc' := 62) rfl rfl (fun ee e_ee => ?_)
  dsimp only [List.set]
  refine Ow.iloadN C at_62 (pc' := 63) rfl rfl ?_
  refine Ow.bipush C (16 : Int32) at_63 (pc' := 65) rfl rfl ?_
  refine Ow.iushr C at_65 (pc' := 66) rfl ?_
  refine Ow.sipush C (255 : Int32) at_66 (pc' := 69) rfl rfl ?_
  refine Ow.iand C at_69 (pc' := 70) rfl ?_
  refine Ow.i2c C at_70 (pc' := 71) rfl ?_
  refine Ow.istoreG C at_71 (pc' := 73) rfl rfl (fun d0 e_d0 => ?_)
  dsimp only [List.set]
  refine Ow.iloadN C at_73 (pc' := 74) rfl rfl ?_
  refine Ow.bipush C (24 : Int32) at_74 (pc' := 76) rfl rfl ?_
  refine Ow.iushr C at_76 (pc' := 77) rfl ?_
  refine Ow.sipush C (255 : Int32) at_77 (pc' := 80) rfl rfl ?_
  refine Ow.iand C at_80 (pc' := 81) rfl ?_
  refine Ow.i2c C at_81 (pc' := 82) rfl ?_
  refine Ow.istoreG C at_82 (pc' := 84) rfl rfl (fun d1 e_d1 => ?_)
  dsimp only [List.set]
  refine Ow.iload C at_84 (pc' := 86) rfl rfl ?_
  refine Ow.sipush C (255 : Int32) at_86 (pc' := 89) rfl rfl ?_
  refine Ow.iand C at_89 (pc' := 90) rfl ?_
  refine Ow.i2c C at_90 (pc' := 91) rfl ?_
  refine Ow.istoreG C at_91 (pc' := 93) rfl rfl (fun d2 e_d2 => ?_)
  dsimp only [List.set]
  refine Ow.iload C at_93 (pc' := 95) rfl rfl ?_
  have r_cc : 0 ≤ cc.toInt ∧ cc.toInt < 256 := by rw [e_cc]; exact Ow.mask255 _
  have r_ee : 0 ≤ ee.toInt ∧ ee.toInt < 256 := by rw [e_ee]; exact Ow.mask255 _
  have r_d0 : 0 ≤ d0.toInt ∧ d0.toInt < 256 := by rw [e_d0]; exact Ow.mask255 _
  have r_d1 : 0 ≤ d1.toInt ∧ d1.toInt < 256 := by rw [e_d1]; exact Ow.mask255 _
  have r_d2 : 0 ≤ d2.toInt ∧ d2.toInt < 256 := by rw [e_d2]; exact Ow.mask255 _
  clear e_cc e_ee e_d0 e_d1 e_d2
  suffices hJ : ∀ (B : List Int32) (sb db : Nat) (h1 : Heap), ((md = 1 ∧ B = Ow.base16) ∨ (md = 0 ∧ B = Ow.plus5)) → Ow.StrL Z h1 sb db B → Ow.WP p l e room_1 s m #[.int sel, .int fl, .int pos, .int chs, .int mo] below meth c Z EL1 bb (fun v h' W' => v = some (.int 1)) 105 [.val (.int sel), .val (.int fl), .val (.int pos), .val (.int chs), .val (.int mo), .val (.int (Int32.ofNat md)), .val (.int (Int32.ofNat ld)), .val (.int (Int32.ofNat tr)), .val (.int (Int32.ofNat t)), .val (.int cc), .val (.int ee), .val (.int d0), .val (.int d1), .val (.int d2), .unset, .unset, .unset, .unset, .unset, .unset, .unset, .unset, .unset] [.ref sb] h1 [] 2 68 by
    obtain rfl | rfl : md = 0 ∨ md = 1 := by omega
    · refine Ow.ifCY C 103 at_95 (XT.i0_eq_t rfl) (by decide) (by decide) ?_
      refine Ow.ldcS C rfl (N := 20) (xs := [43, 106, 115, 111, 110]) (tw206 G.1) (by decide) (by decide) (by decide) at_103 (pc' := 105) rfl (by decide) (by decide) (by first | decide | (dsimp only; omega) | (simp [Value.category]; done) | (simp [Value.category]; omega)) (by first | decide | (dsimp only; omega) | (simp [Value.category]; done) | (simp [Value.category]; omega)) (fun hq bq dq Eq Bq Bcq Bvq Dq nq => ?_)
      exact (hJ Ow.plus5 bq dq hq (Or.inr ⟨rfl, rfl⟩) ⟨Bq, Bvq, Bcq, by rw [p5_nar]; exact Dq, p5_rng⟩).room (by decide) (by decide)
    · refine Ow.ifCN C at_95 (pc' := 98) rfl (XT.i0_eq_f (by decide)) ?_
      refine Ow.ldcS C rfl (N := 64) (xs := [97, 112, 112, 108, 105, 99, 97, 116, 105, 111, 110, 47, 106, 115, 111, 110]) (tw0 G.1) (by decide) (by decide) (by decide) at_98 (pc' := 100) rfl (by decide) (by decide) (by first | decide | (dsimp only; omega) | (simp [Value.category]; done) | (simp [Value.category]; omega)) (by first | decide | (dsimp only; omega) | (simp [Value.category]; done) | (simp [Value.category]; omega)) (fun hq bq dq Eq Bq Bcq Bvq Dq nq => ?_)
      refine Ow.goto C 105 at_100 (by decide) (by decide) ?_
      exact (hJ Ow.base16 bq dq hq (Or.inl ⟨rfl, rfl⟩) ⟨Bq, Bvq, Bcq, by rw [b16_nar]; exact Dq, b16_rng⟩).room (by decide) (by decide)
  intro B sb db h1 hB SB
  have hP : ∀ z ∈ B, Plain z := by rcases hB with ⟨-, rfl⟩ | ⟨-, rfl⟩; exact b16_plain; exact p5_plain
  obtain ⟨core, hcore⟩ : ∃ core : Nat, core = if md = 1 then 16 else 8 := ⟨_, rfl⟩
  obtain ⟨off, hoff⟩ : ∃ off : Nat, off = if md = 1 then 0 else 3 := ⟨_, rfl⟩
  obtain ⟨la, hla⟩ : ∃ la : Nat, la = if ld = 0 then 0 else 1 := ⟨_, rfl⟩
  obtain ⟨ta, hta⟩ : ∃ ta : Nat, ta = if tr = 0 then 0 else 1 := ⟨_, rfl⟩
  have hla1 : la ≤ 1 := by split at hla <;> omega
  have hta1 : ta ≤ 1 := by split at hta <;> omega
  have hsz : off + B.length = core ∧ (md = 1 ∧ B.length = 16 ∨ md = 0 ∧ B.length = 5) := by
    rcases hB with ⟨rfl, rfl⟩ | ⟨rfl, rfl⟩
    · subst hcore hoff; exact ⟨rfl, Or.inl ⟨rfl, rfl⟩⟩
    · subst hcore hoff; exact ⟨rfl, Or.inr ⟨rfl, rfl⟩⟩
  have hlen : B.length ≤ 16 := by omega
  have hcore16 : core ≤ 16 := by split at hcore <;> omega
  refine Ow.astore C at_105 (pc' := 107) rfl rfl rfl ?_
  dsimp only [List.set]
  refine Ow.aload C at_107 (pc' := 109) rfl rfl rfl ?_
  refine Ow.callV C (y := (⟨"java/lang/String", "length", "()I"⟩ : MethodName)) (z := (⟨"java/lang/String", "length", "()I"⟩ : MethodName)) (tw8 G.1) (tw9 G.1) (tw11 G.1) (tw11 G.1) (tw10 G.1) (tw1 G.1) (tw12 G.1) (by decide) SB.1 (con_LN G sb db B h1 _ SB) (fun _ q => q) pd_13 rfl rfl rfl at_109 (pc' := 112) rfl (Wt := 0) (Nat.le_refl _) (by first | decide | (dsimp only; omega) | (simp [Value.category]; done) | (simp [Value.category]; omega)) (by first | decide | (dsimp only; omega) | (simp [Value.category]; done) | (simp [Value.category]; omega)) (by first | decide | (dsimp only; omega) | (simp [Value.category]; done) | (simp [Value.category]; omega)) (by first | decide | (dsimp only; omega) | (simp [Value.category]; done) | (simp [Value.category]; omega)) (fun v2 h2 W2 ⟨e2, e2'⟩ s2 => ?_)
  subst e2 e2'
  dsimp only [Option.toList, List.cons_append, List.nil_append]
  refine Ow.istore C at_112 (pc' := 114) rfl rfl ?_
  dsimp only [List.set]
  refine Ow.iload C at_114 (pc' := 116) rfl rfl ?_
  suffices hJ : Ow.WP p l e room_1 s m #[.int sel, .int fl, .int pos, .int chs, .int mo] below meth c Z EL1 bb (fun v h' W' => v = some (.int 1)) 126 [.val (.int sel), .val (.int fl), .val (.int pos), .val (.int chs), .val (.int mo), .val (.int (Int32.ofNat md)), .val (.int (Int32.ofNat ld)), .val (.int (Int32.ofNat tr)), .val (.int (Int32.ofNat t)), .val (.int cc), .val (.int ee), .val (.int d0), .val (.int d1), .val (.int d2), .val (.ref sb), .val (.int (Int32.ofNat B.length)), .unset, .unset, .unset, .unset, .unset, .unset, .unset] [.int (Int32.ofNat core)] h2 [] 2 68 by
    obtain rfl | rfl : md = 0 ∨ md = 1 := by omega
    · refine Ow.ifCY C 124 at_116 (XT.i0_eq_t rfl) (by decide) (by decide) ?_
      refine Ow.bipush C (8 : Int32) at_124 (pc' := 126) rfl rfl ?_
      rw [hcore] at hJ; exact hJ
    · refine Ow.ifCN C at_116 (pc' := 119) rfl (XT.i0_eq_f (by decide)) ?_
      refine Ow.bipush C (16 : Int32) at_119 (pc' := 121) rfl rfl ?_
      refine Ow.goto C 126 at_121 (by decide) (by decide) ?_
      rw [hcore] at hJ; exact hJ
  refine Ow.istore C at_126 (pc' := 128) rfl rfl ?_
  dsimp only [List.set]
  refine Ow.iloadN C at_128 (pc' := 129) rfl rfl ?_
  refine Ow.ldcI C (tw21 G.1) at_129 (pc' := 131) rfl ?_
  refine Ow.iand C at_131 (pc' := 132) rfl ?_
  refine Ow.iload C at_132 (pc' := 134) rfl rfl ?_
  refine Ow.iconst C (1 : Int32) at_134 (pc' := 135) rfl rfl ?_
  refine Ow.iadd C at_135 (pc' := 136) rfl ?_
  rw [← inc_ofNat]
  obtain ⟨q, hq, e_q⟩ := Ow.rem_small pos (B.length + 1) (by omega) (by omega)
  refine Ow.irem C at_136 (pc' := 137) rfl (fun z => absurd (Ow.ofNat_inj (j := 0) (by omega) (by omega) z) (by omega)) ?_
  rw [e_q]
  refine Ow.istore C at_137 (pc' := 139) rfl rfl ?_
  dsimp only [List.set]
  refine Ow.iload C at_139 (pc' := 141) rfl rfl ?_
  suffices hJ : Ow.WP p l e room_1 s m #[.int sel, .int fl, .int pos, .int chs, .int mo] below meth c Z EL1 bb (fun v h' W' => v = some (.int 1)) 149 [.val (.int sel), .val (.int fl), .val (.int pos), .val (.int chs), .val (.int mo), .val (.int (Int32.ofNat md)), .val (.int (Int32.ofNat ld)), .val (.int (Int32.ofNat tr)), .val (.int (Int32.ofNat t)), .val (.int cc), .val (.int ee), .val (.int d0), .val (.int d1), .val (.int d2), .val (.ref sb), .val (.int (Int32.ofNat B.length)), .val (.int (Int32.ofNat core)), .val (.int (Int32.ofNat q)), .unset, .unset, .unset, .unset, .unset] [.int (Int32.ofNat la)] h2 [] 2 68 by
    by_cases z : ld = 0
    · refine Ow.ifCY C 148 at_141 (XT.i0_eq_t (by rw [z]; rfl)) (by decide) (by decide) ?_
      refine Ow.iconst C (0 : Int32) at_148 (pc' := 149) rfl rfl ?_
      rw [hla, if_pos z] at hJ; exact hJ
    · refine Ow.ifCN C at_141 (pc' := 144) rfl (XT.i0_eq_f (fun y => z (Ow.ofNat_inj (j := 0) (by omega) (by omega) y))) ?_
      refine Ow.iconst C (1 : Int32) at_144 (pc' := 145) rfl rfl ?_
      refine Ow.goto C 149 at_145 (by decide) (by decide) ?_
      rw [hla, if_neg z] at hJ; exact hJ
  refine Ow.iload C at_149 (pc' := 151) rfl rfl ?_
  refine Ow.iadd C at_151 (pc' := 152) rfl ?_
  rw [Ow.add_ofNat (by omega)]
  refine Ow.iload C at_152 (pc' := 154) rfl rfl ?_
  suffices hJ : Ow.WP p l e room_1 s m #[.int sel, .int fl, .int pos, .int chs, .int mo] below meth c Z EL1 bb (fun v h' W' => v = some (.int 1)) 162 [.val (.int sel), .val (.int fl), .val (.int pos), .val (.int chs), .val (.int mo), .val (.int (Int32.ofNat md)), .val (.int (Int32.ofNat ld)), .val (.int (Int32.ofNat tr)), .val (.int (Int32.ofNat t)), .val (.int cc), .val (.int ee), .val (.int d0), .val (.int d1), .val (.int d2), .val (.ref sb), .val (.int (Int32.ofNat B.length)), .val (.int (Int32.ofNat core)), .val (.int (Int32.ofNat q)), .unset, .unset, .unset, .unset, .unset] [.int (Int32.ofNat ta), .int (Int32.ofNat (la + core))] h2 [] 2 68 by
    by_cases z : tr = 0
    · refine Ow.ifCY C 161 at_154 (XT.i0_eq_t (by rw [z]; rfl)) (by decide) (by decide) ?_
      refine Ow.iconst C (0 : Int32) at_161 (pc' := 162) rfl rfl ?_
      rw [hta, if_pos z] at hJ; exact hJ
    · refine Ow.ifCN C at_154 (pc' := 157) rfl (XT.i0_eq_f (fun y => z (Ow.ofNat_inj (j := 0) (by omega) (by omega) y))) ?_
      refine Ow.iconst C (1 : Int32) at_157 (pc' := 158) rfl rfl ?_
      refine Ow.goto C 162 at_158 (by decide) (by decide) ?_
      rw [hta, if_neg z] at hJ; exact hJ
  refine Ow.iadd C at_162 (pc' := 163) rfl ?_
  rw [Ow.add_ofNat (by omega)]
  refine Ow.iload C at_163 (pc' := 165) rfl rfl ?_
  refine Ow.iadd C at_165 (pc' := 166) rfl ?_
  rw [Ow.add_ofNat (by omega)]
  refine Ow.istore C at_166 (pc' := 168) rfl rfl ?_
  dsimp only [List.set]
  refine Ow.iload C at_168 (pc' := 170) rfl rfl ?_
  obtain ⟨n, hn⟩ : ∃ n : Nat, n = la + core + ta + t := ⟨_, rfl⟩
  have hn20 : n ≤ 20 := by omega
  have hn8 : 8 ≤ n := by have : 8 ≤ core := by split at hcore <;> omega
                         omega
  rw [← hn]
  refine Ow.newarr C (ty := .char) (cap := n) rfl rfl (tw22 G.1) at_170 (pc' := 172) rfl rfl (by omega) (by decide) (by show 68 + n ≤ 8512; omega) (fun hv av sv zv lv Ev Vv => ?_)
  have SBv := SB.ext Ev
  have nsb : sb ≠ av ∧ db ≠ av := by have := SB.lt; omega
  have RV : RNG (List.replicate n 0) := RNG.rep n
  refine (?_ : Ow.WP p l e room_1 s m #[.int sel, .int fl, .int pos, .int chs, .int mo] below meth c Z EL1 bb (fun v h' W' => v = some (.int 1)) 172 [.val (.int sel), .val (.int fl), .val (.int pos), .val (.int chs), .val (.int mo), .val (.int (Int32.ofNat md)), .val (.int (Int32.ofNat ld)), .val (.int (Int32.ofNat tr)), .val (.int (Int32.ofNat t)), .val (.int cc), .val (.int ee), .val (.int d0), .val (.int d1), .val (.int d2), .val (.ref sb), .val (.int (Int32.ofNat B.length)), .val (.int (Int32.ofNat core)), .val (.int (Int32.ofNat q)), .val (.int (Int32.ofNat n)), .unset, .unset, .unset, .unset] [.ref av] hv [av] 3 88).room (by decide) (by show 68 + n ≤ 88; omega)
  refine Ow.astore C at_172 (pc' := 174) rfl rfl rfl ?_
  dsimp only [List.set]
  refine Ow.iconst C (0 : Int32) at_174 (pc' := 175) rfl rfl ?_
  refine Ow.istore C at_175 (pc' := 177) rfl rfl ?_
  dsimp only [List.set]
  refine Ow.iload C at_177 (pc' := 179) rfl rfl ?_
  suffices hJ : ∀ (h3 : Heap) (xs : List Int32), ArI Z h3 av .char xs → xs.length = n → Keep hv h3 [av] → RNG xs → (ld ≠ 0 → xs.getD 0 0 = padC ld) → Ow.WP p l e room_1 s m #[.int sel, .int fl, .int pos, .int chs, .int mo] below meth c Z EL1 bb (fun v h' W' => v = some (.int 1)) 198 [.val (.int sel), .val (.int fl), .val (.int pos), .val (.int chs), .val (.int mo), .val (.int (Int32.ofNat md)), .val (.int (Int32.ofNat ld)), .val (.int (Int32.ofNat tr)), .val (.int (Int32.ofNat t)), .val (.int cc), .val (.int ee), .val (.int d0), .val (.int d1), .val (.int d2), .val (.ref sb), .val (.int (Int32.ofNat B.length)), .val (.int (Int32.ofNat core)), .val (.int (Int32.ofNat q)), .val (.int (Int32.ofNat n)), .val (.ref av), .val (.int (Int32.ofNat la)), .unset, .unset] [] h3 [av] 3 88 by
    by_cases z : ld = 0
    · refine Ow.ifCY C 198 at_179 (XT.i0_eq_t (by rw [z]; rfl)) (by decide) (by decide) ?_
      have hl0 : la = 0 := by rw [hla, if_pos z]
      have g := hJ hv _ Vv (by simp) (Keep.refl _ _) RV (fun y => absurd z y)
      rw [hl0] at g; exact g
    · refine Ow.ifCN C at_179 (pc' := 182) rfl (XT.i0_eq_f (fun y => z (Ow.ofNat_inj (j := 0) (by omega) (by omega) y))) ?_
      have hl0 : la = 1 := by rw [hla, if_neg z]
      refine Ow.aload C at_182 (pc' := 184) rfl rfl rfl ?_
      refine Ow.iload C at_184 (pc' := 186) rfl rfl ?_
      refine Ow.iload C at_186 (pc' := 188) rfl rfl ?_
      refine Ow.callS C (tw207 G.1) (tw208 G.1) (tw25 G.1) (tw209 G.1) (by decide) (con_PA G ld hld hv _) (fun _ q => q) pd_31 rfl rfl rfl at_188 (pc' := 191) rfl (Wt := 2) (Nat.le_refl _) (by first | decide | (dsimp only; omega) | (simp [Value.category]; done) | (simp [Value.category]; omega)) (by first | decide | (dsimp only; omega) | (simp [Value.category]; done) | (simp [Value.category]; omega)) (by first | decide | (dsimp only; omega) | (simp [Value.category]; done) | (simp [Value.category]; omega)) (by first | decide | (dsimp only; omega) | (simp [Value.category]; done) | (simp [Value.category]; omega)) (fun v3 h3 W3 ⟨e3, e3'⟩ s3 => ?_)
      subst e3 e3'
      dsimp only [Option.toList, List.cons_append, List.nil_append]
      refine Ow.castore C Vv (i := 0) rfl (by simp; omega) (by simp) at_191 (pc' := 192) rfl (fun h4 K4 V4 => ?_)
      rw [Ow.nar_char_id (padC_rng ld).1 (by have := (padC_rng ld).2; omega)] at V4
      refine Ow.iload C at_192 (pc' := 194) rfl rfl ?_
      refine Ow.iconst C (1 : Int32) at_194 (pc' := 195) rfl rfl ?_
      refine Ow.iadd C at_195 (pc' := 196) rfl ?_
      refine Ow.istore C at_196 (pc' := 198) rfl rfl ?_
      dsimp only [List.set]
      have g := hJ h4 _ V4 (by simp) K4 (RV.set (padC_rng ld)) (fun _ => getD_set_eq (by simp; omega))
      rw [hl0] at g; exact g
  intro h3 xs3 V3 l3 K3 R3 p3
  refine Ow.iload C at_198 (pc' := 200) rfl rfl ?_
  suffices hJ : ∀ (h4 : Heap) (xs : List Int32), ArI Z h4 av .char xs → xs.length = n → Keep hv h4 [av] → RNG xs → (ld ≠ 0 → xs.getD 0 0 = padC ld) → (md = 0 → xs.getD la 0 = d0 ∧ xs.getD (la + 1) 0 = d1 ∧ xs.getD (la + 2) 0 = d2) → Ow.WP p l e room_1 s m #[.int sel, .int fl, .int pos, .int chs, .int mo] below meth c Z EL1 bb (fun v h' W' => v = some (.int 1)) 234 [.val (.int sel), .val (.int fl), .val (.int pos), .val (.int chs), .val (.int mo), .val (.int (Int32.ofNat md)), .val (.int (Int32.ofNat ld)), .val (.int (Int32.ofNat tr)), .val (.int (Int32.ofNat t)), .val (.int cc), .val (.int ee), .val (.int d0), .val (.int d1), .val (.int d2), .val (.ref sb), .val (.int (Int32.ofNat B.length)), .val (.int (Int32.ofNat core)), .val (.int (Int32.ofNat q)), .val (.int (Int32.ofNat n)), .val (.ref av), .val (.int (Int32.ofNat (la + off))), .unset, .unset] [] h4 [av] 3 88 by
    obtain rfl | rfl : md = 0 ∨ md = 1 := by omega
    · have ho3 : off = 3 := by rw [hoff]; rfl
      refine Ow.ifCN C at_200 (pc' := 203) rfl (XT.i0_ne_f rfl) ?_
      refine Ow.aload C at_203 (pc' := 205) rfl rfl rfl ?_
      refine Ow.iload C at_205 (pc' := 207) rfl rfl ?_
      refine Ow.iload C at_207 (pc' := 209) rfl rfl ?_
      refine Ow.castore C V3 (i := la) (Ow.ofNat_toInt (by omega)) (by omega) (by simp) at_209 (pc' := 210) rfl (fun h4 K4 V4 => ?_)
      rw [Ow.nar_char_id r_d0.1 (by omega)] at V4
      refine Ow.aload C at_210 (pc' := 212) rfl rfl rfl ?_
      refine Ow.iload C at_212 (pc' := 214) rfl rfl ?_
      refine Ow.iconst C (1 : Int32) at_214 (pc' := 215) rfl rfl ?_
      refine Ow.iadd C at_215 (pc' := 216) rfl ?_
      refine Ow.iload C at_216 (pc' := 218) rfl rfl ?_
      refine Ow.castore C V4 (i := la + 1) (by rw [show Int32.ofNat la + 1 = Int32.ofNat (la + 1) from (inc_ofNat la).symm, Ow.ofNat_toInt (by omega)]) (by simp; omega) (by simp) at_218 (pc' := 219) rfl (fun h5 K5 V5 => ?_)
      rw [Ow.nar_char_id r_d1.1 (by omega)] at V5
      refine Ow.aload C at_219 (pc' := 221) rfl rfl rfl ?_
      refine Ow.iload C at_221 (pc' := 223) rfl rfl ?_
      refine Ow.iconst C (2 : Int32) at_223 (pc' := 224) rfl rfl ?_
      refine Ow.iadd C at_224 (pc' := 225) rfl ?_
      refine Ow.iload C at_225 (pc' := 227) rfl rfl ?_
      refine Ow.castore C V5 (i := la + 2) (by rw [show Int32.ofNat la + 2 = Int32.ofNat (la + 2) from Ow.add_ofNat (i := la) (j := 2) (by omega), Ow.ofNat_toInt (by omega)]) (by simp; omega) (by simp) at_227 (pc' := 228) rfl (fun h6 K6 V6 => ?_)
      rw [Ow.nar_char_id r_d2.1 (by omega)] at V6
      refine Ow.iload C at_228 (pc' := 230) rfl rfl ?_
      refine Ow.iconst C (3 : Int32) at_230 (pc' := 231) rfl rfl ?_
      refine Ow.iadd C at_231 (pc' := 232) rfl ?_
      refine Ow.istore C at_232 (pc' := 234) rfl rfl ?_
      dsimp only [List.set]
      rw [show Int32.ofNat la + 3 = Int32.ofNat (la + 3) from Ow.add_ofNat (i := la) (j := 3) (by omega)]
      have g := hJ h6 _ V6 (by simp [l3]) (((K3.trans K4 (fun _ q => Or.inl q)).trans K5 (fun _ q => Or.inl q)).trans K6 (fun _ q => Or.inl q)) (((R3.set r_d0).set r_d1).set r_d2) (fun z => by rw [getD_set_ne (by omega), getD_set_ne (by omega), getD_set_ne (by rw [hla, if_neg z]; omega)]; exact p3 z) (fun _ => ⟨by rw [getD_set_ne (by omega), getD_set_ne (by omega), getD_set_eq (by omega)], by rw [getD_set_ne (by omega), getD_set_eq (by simp; omega)], getD_set_eq (by simp; omega)⟩)
      rw [ho3] at g; exact g
    · have ho3 : off = 0 := by rw [hoff]; rfl
      refine Ow.ifCY C 234 at_200 (XT.i0_ne_t (by decide)) (by decide) (by decide) ?_
      have g := hJ h3 xs3 V3 l3 K3 R3 p3 (fun z => absurd z (by decide))
      rw [ho3] at g; exact g
  intro h4 ys V4 l4 K4 R4 p4 d4
  clear V3 l3 K3 R3 p3
  have SB0 := SBv.keep K4 (Ow.nin1 nsb.1) (Ow.nin1 nsb.2)
  have P0 : Laid ys n (la + off) B 0 ys := Laid.start l4 R4
  have X0 := V4
  have KK0 := K4
  refine Ow.aload C at_234 (pc' := 236) rfl rfl rfl ?_
  refine Ow.iload C at_236 (pc' := 238) rfl rfl ?_
  refine Ow.aload C at_238 (pc' := 240) rfl rfl rfl ?_
  refine Ow.iloadN C at_240 (pc' := 241) rfl rfl ?_
  refine Ow.iconst C (0 : Int32) at_241 (pc' := 242) rfl rfl ?_
  refine Ow.callS C (tw23 G.1) (tw24 G.1) (tw25 G.1) (tw26 G.1) (by decide) (con_PT G av (la + off) sb db 0 B ys fl (by decide) h4 _ SB0 hP X0 (by rw [P0.len]; omega) (by simp)) (fun _ q => q) pd_33 rfl rfl rfl at_242 (pc' := 245) rfl (Wt := 0) (Nat.le_refl _) (by first | decide | (dsimp only; omega) | (simp [Value.category]; done) | (simp [Value.category]; omega)) (by first | decide | (dsimp only; omega) | (simp [Value.category]; done) | (simp [Value.category]; omega)) (by first | decide | (dsimp only; omega) | (simp [Value.category]; done) | (simp [Value.category]; omega)) (by first | decide | (dsimp only; omega) | (simp [Value.category]; done) | (simp [Value.category]; omega)) (fun va0 ha0 Wa0 ⟨ea0, Ka0, xs1, X1, hs0⟩ sa0 => ?_)
  subst ea0
  dsimp only [Option.toList, List.cons_append, List.nil_append]
  have P1 := P0.step hs0 (by omega)
  have SB1 := SB0.keep Ka0 (Ow.nin1 nsb.1) (Ow.nin1 nsb.2)
  have KK1 := KK0.trans Ka0 (fun _ q => Or.inl q)
  refine Ow.aload C at_245 (pc' := 247) rfl rfl rfl ?_
  refine Ow.iload C at_247 (pc' := 249) rfl rfl ?_
  refine Ow.aload C at_249 (pc' := 251) rfl rfl rfl ?_
  refine Ow.iloadN C at_251 (pc' := 252) rfl rfl ?_
  refine Ow.iconst C (1 : Int32) at_252 (pc' := 253) rfl rfl ?_
  refine Ow.callS C (tw23 G.1) (tw24 G.1) (tw25 G.1) (tw26 G.1) (by decide) (con_PT G av (la + off) sb db 1 B xs1 fl (by decide) ha0 _ SB1 hP X1 (by rw [P1.len]; omega) (by simp)) (fun _ q => q) pd_33 rfl rfl rfl at_253 (pc' := 256) rfl (Wt := 0) (Nat.le_refl _) (by first | decide | (dsimp only; omega) | (simp [Value.category]; done) | (simp [Value.category]; omega)) (by first | decide | (dsimp only; omega) | (simp [Value.category]; done) | (simp [Value.category]; omega)) (by first | decide | (dsimp only; omega) | (simp [Value.category]; done) | (simp [Value.category]; omega)) (by first | decide | (dsimp only; omega) | (simp [Value.category]; done) | (simp [Value.category]; omega)) (fun va1 ha1 Wa1 ⟨ea1, Ka1, xs2, X2, hs1⟩ sa1 => ?_)
  subst ea1
  dsimp only [Option.toList, List.cons_append, List.nil_append]
  have P2 := P1.step hs1 (by omega)
  have SB2 := SB1.keep Ka1 (Ow.nin1 nsb.1) (Ow.nin1 nsb.2)
  have KK2 := KK1.trans Ka1 (fun _ q => Or.inl q)
  refine Ow.aload C at_256 (pc' := 258) rfl rfl rfl ?_
  refine Ow.iload C at_258 (pc' := 260) rfl rfl ?_
  refine Ow.aload C at_260 (pc' := 262) rfl rfl rfl ?_
  refine Ow.iloadN C at_262 (pc' := 263) rfl rfl ?_
  refine Ow.iconst C (2 : Int32) at_263 (pc' := 264) rfl rfl ?_
  refine Ow.callS C (tw23 G.1) (tw24 G.1) (tw25 G.1) (tw26 G.1) (by decide) (con_PT G av (la + off) sb db 2 B xs2 fl (by decide) ha1 _ SB2 hP X2 (by rw [P2.len]; omega) (by simp)) (fun _ q => q) pd_33 rfl rfl rfl at_264 (pc' := 267) rfl (Wt := 0) (Nat.le_refl _) (by first | decide | (dsimp only; omega) | (simp [Value.category]; done) | (simp [Value.category]; omega)) (by first | decide | (dsimp only; omega) | (simp [Value.category]; done) | (simp [Value.category]; omega)) (by first | decide | (dsimp only; omega) | (simp [Value.category]; done) | (simp [Value.category]; omega)) (by first | decide | (dsimp only; omega) | (simp [Value.category]; done) | (simp [Value.category]; omega)) (fun va2 ha2 Wa2 ⟨ea2, Ka2, xs3, X3, hs2⟩ sa2 => ?_)
  subst ea2
  dsimp only [Option.toList, List.cons_append, List.nil_append]
  have P3 := P2.step hs2 (by omega)
  have SB3 := SB2.keep Ka2 (Ow.nin1 nsb.1) (Ow.nin1 nsb.2)
  have KK3 := KK2.trans Ka2 (fun _ q => Or.inl q)
  refine Ow.aload C at_267 (pc' := 269) rfl rfl rfl ?_
  refine Ow.iload C at_269 (pc' := 271) rfl rfl ?_
  refine Ow.aload C at_271 (pc' := 273) rfl rfl rfl ?_
  refine Ow.iloadN C at_273 (pc' := 274) rfl rfl ?_
  refine Ow.iconst C (3 : Int32) at_274 (pc' := 275) rfl rfl ?_
  refine Ow.callS C (tw23 G.1) (tw24 G.1) (tw25 G.1) (tw26 G.1) (by decide) (con_PT G av (la + off) sb db 3 B xs3 fl (by decide) ha2 _ SB3 hP X3 (by rw [P3.len]; omega) (by simp)) (fun _ q => q) pd_33 rfl rfl rfl at_275 (pc' := 278) rfl (Wt := 0) (Nat.le_refl _) (by first | decide | (dsimp only; omega) | (simp [Value.category]; done) | (simp [Value.category]; omega)) (by first | decide | (dsimp only; omega) | (simp [Value.category]; done) | (simp [Value.category]; omega)) (by first | decide | (dsimp only; omega) | (simp [Value.category]; done) | (simp [Value.category]; omega)) (by first | decide | (dsimp only; omega) | (simp [Value.category]; done) | (simp [Value.category]; omega)) (fun va3 ha3 Wa3 ⟨ea3, Ka3, xs4, X4, hs3⟩ sa3 => ?_)
  subst ea3
  dsimp only [Option.toList, List.cons_append, List.nil_append]
  have P4 := P3.step hs3 (by omega)
  have SB4 := SB3.keep Ka3 (Ow.nin1 nsb.1) (Ow.nin1 nsb.2)
  have KK4 := KK3.trans Ka3 (fun _ q => Or.inl q)
  refine Ow.aload C at_278 (pc' := 280) rfl rfl rfl ?_
  refine Ow.iload C at_280 (pc' := 282) rfl rfl ?_
  refine Ow.aload C at_282 (pc' := 284) rfl rfl rfl ?_
  refine Ow.iloadN C at_284 (pc' := 285) rfl rfl ?_
  refine Ow.iconst C (4 : Int32) at_285 (pc' := 286) rfl rfl ?_
  refine Ow.callS C (tw23 G.1) (tw24 G.1) (tw25 G.1) (tw26 G.1) (by decide) (con_PT G av (la + off) sb db 4 B xs4 fl (by decide) ha3 _ SB4 hP X4 (by rw [P4.len]; omega) (by simp)) (fun _ q => q) pd_33 rfl rfl rfl at_286 (pc' := 289) rfl (Wt := 0) (Nat.le_refl _) (by first | decide | (dsimp only; omega) | (simp [Value.category]; done) | (simp [Value.category]; omega)) (by first | decide | (dsimp only; omega) | (simp [Value.category]; done) | (simp [Value.category]; omega)) (by first | decide | (dsimp only; omega) | (simp [Value.category]; done) | (simp [Value.category]; omega)) (by first | decide | (dsimp only; omega) | (simp [Value.category]; done) | (simp [Value.category]; omega)) (fun va4 ha4 Wa4 ⟨ea4, Ka4, xs5, X5, hs4⟩ sa4 => ?_)
  subst ea4
  dsimp only [Option.toList, List.cons_append, List.nil_append]
  have P5 := P4.step hs4 (by omega)
  have SB5 := SB4.keep Ka4 (Ow.nin1 nsb.1) (Ow.nin1 nsb.2)
  have KK5 := KK4.trans Ka4 (fun _ q => Or.inl q)
  refine Ow.aload C at_289 (pc' := 291) rfl rfl rfl ?_
  refine Ow.iload C at_291 (pc' := 293) rfl rfl ?_
  refine Ow.aload C at_293 (pc' := 295) rfl rfl rfl ?_
  refine Ow.iloadN C at_295 (pc' := 296) rfl rfl ?_
  refine Ow.iconst C (5 : Int32) at_296 (pc' := 297) rfl rfl ?_
  refine Ow.callS C (tw23 G.1) (tw24 G.1) (tw25 G.1) (tw26 G.1) (by decide) (con_PT G av (la + off) sb db 5 B xs5 fl (by decide) ha4 _ SB5 hP X5 (by rw [P5.len]; omega) (by simp)) (fun _ q => q) pd_33 rfl rfl rfl at_297 (pc' := 300) rfl (Wt := 0) (Nat.le_refl _) (by first | decide | (dsimp only; omega) | (simp [Value.category]; done) | (simp [Value.category]; omega)) (by first | decide | (dsimp only; omega) | (simp [Value.category]; done) | (simp [Value.category]; omega)) (by first | decide | (dsimp only; omega) | (simp [Value.category]; done) | (simp [Value.category]; omega)) (by first | decide | (dsimp only; omega) | (simp [Value.category]; done) | (simp [Value.category]; omega)) (fun va5 ha5 Wa5 ⟨ea5, Ka5, xs6, X6, hs5⟩ sa5 => ?_)
  subst ea5
  dsimp only [Option.toList, List.cons_append, List.nil_append]
  have P6 := P5.step hs5 (by omega)
  have SB6 := SB5.keep Ka5 (Ow.nin1 nsb.1) (Ow.nin1 nsb.2)
  have KK6 := KK5.trans Ka5 (fun _ q => Or.inl q)
  refine Ow.aload C at_300 (pc' := 302) rfl rfl rfl ?_
  refine Ow.iload C at_302 (pc' := 304) rfl rfl ?_
  refine Ow.aload C at_304 (pc' := 306) rfl rfl rfl ?_
  refine Ow.iloadN C at_306 (pc' := 307) rfl rfl ?_
  refine Ow.bipush C (6 : Int32) at_307 (pc' := 309) rfl rfl ?_
  refine Ow.callS C (tw23 G.1) (tw24 G.1) (tw25 G.1) (tw26 G.1) (by decide) (con_PT G av (la + off) sb db 6 B xs6 fl (by decide) ha5 _ SB6 hP X6 (by rw [P6.len]; omega) (by simp)) (fun _ q => q) pd_33 rfl rfl rfl at_309 (pc' := 312) rfl (Wt := 0) (Nat.le_refl _) (by first | decide | (dsimp only; omega) | (simp [Value.category]; done) | (simp [Value.category]; omega)) (by first | decide | (dsimp only; omega) | (simp [Value.category]; done) | (simp [Value.category]; omega)) (by first | decide | (dsimp only; omega) | (simp [Value.category]; done) | (simp [Value.category]; omega)) (by first | decide | (dsimp only; omega) | (simp [Value.category]; done) | (simp [Value.category]; omega)) (fun va6 ha6 Wa6 ⟨ea6, Ka6, xs7, X7, hs6⟩ sa6 => ?_)
  subst ea6
  dsimp only [Option.toList, List.cons_append, List.nil_append]
  have P7 := P6.step hs6 (by omega)
  have SB7 := SB6.keep Ka6 (Ow.nin1 nsb.1) (Ow.nin1 nsb.2)
  have KK7 := KK6.trans Ka6 (fun _ q => Or.inl q)
  refine Ow.aload C at_312 (pc' := 314) rfl rfl rfl ?_
  refine Ow.iload C at_314 (pc' := 316) rfl rfl ?_
  refine Ow.aload C at_316 (pc' := 318) rfl rfl rfl ?_
  refine Ow.iloadN C at_318 (pc' := 319) rfl rfl ?_
  refine Ow.bipush C (7 : Int32) at_319 (pc' := 321) rfl rfl ?_
  refine Ow.callS C (tw23 G.1) (tw24 G.1) (tw25 G.1) (tw26 G.1) (by decide) (con_PT G av (la + off) sb db 7 B xs7 fl (by decide) ha6 _ SB7 hP X7 (by rw [P7.len]; omega) (by simp)) (fun _ q => q) pd_33 rfl rfl rfl at_321 (pc' := 324) rfl (Wt := 0) (Nat.le_refl _) (by first | decide | (dsimp only; omega) | (simp [Value.category]; done) | (simp [Value.category]; omega)) (by first | decide | (dsimp only; omega) | (simp [Value.category]; done) | (simp [Value.category]; omega)) (by first | decide | (dsimp only; omega) | (simp [Value.category]; done) | (simp [Value.category]; omega)) (by first | decide | (dsimp only; omega) | (simp [Value.category]; done) | (simp [Value.category]; omega)) (fun va7 ha7 Wa7 ⟨ea7, Ka7, xs8, X8, hs7⟩ sa7 => ?_)
  subst ea7
  dsimp only [Option.toList, List.cons_append, List.nil_append]
  have P8 := P7.step hs7 (by omega)
  have SB8 := SB7.keep Ka7 (Ow.nin1 nsb.1) (Ow.nin1 nsb.2)
  have KK8 := KK7.trans Ka7 (fun _ q => Or.inl q)
  refine Ow.aload C at_324 (pc' := 326) rfl rfl rfl ?_
  refine Ow.iload C at_326 (pc' := 328) rfl rfl ?_
  refine Ow.aload C at_328 (pc' := 330) rfl rfl rfl ?_
  refine Ow.iloadN C at_330 (pc' := 331) rfl rfl ?_
  refine Ow.bipush C (8 : Int32) at_331 (pc' := 333) rfl rfl ?_
  refine Ow.callS C (tw23 G.1) (tw24 G.1) (tw25 G.1) (tw26 G.1) (by decide) (con_PT G av (la + off) sb db 8 B xs8 fl (by decide) ha7 _ SB8 hP X8 (by rw [P8.len]; omega) (by simp)) (fun _ q => q) pd_33 rfl rfl rfl at_333 (pc' := 336) rfl (Wt := 0) (Nat.le_refl _) (by first | decide | (dsimp only; omega) | (simp [Value.category]; done) | (simp [Value.category]; omega)) (by first | decide | (dsimp only; omega) | (simp [Value.category]; done) | (simp [Value.category]; omega)) (by first | decide | (dsimp only; omega) | (simp [Value.category]; done) | (simp [Value.category]; omega)) (by first | decide | (dsimp only; omega) | (simp [Value.category]; done) | (simp [Value.category]; omega)) (fun va8 ha8 Wa8 ⟨ea8, Ka8, xs9, X9, hs8⟩ sa8 => ?_)
  subst ea8
  dsimp only [Option.toList, List.cons_append, List.nil_append]
  have P9 := P8.step hs8 (by omega)
  have SB9 := SB8.keep Ka8 (Ow.nin1 nsb.1) (Ow.nin1 nsb.2)
  have KK9 := KK8.trans Ka8 (fun _ q => Or.inl q)
  refine Ow.aload C at_336 (pc' := 338) rfl rfl rfl ?_
  refine Ow.iload C at_338 (pc' := 340) rfl rfl ?_
  refine Ow.aload C at_340 (pc' := 342) rfl rfl rfl ?_
  refine Ow.iloadN C at_342 (pc' := 343) rfl rfl ?_
  refine Ow.bipush C (9 : Int32) at_343 (pc' := 345) rfl rfl ?_
  refine Ow.callS C (tw23 G.1) (tw24 G.1) (tw25 G.1) (tw26 G.1) (by decide) (con_PT G av (la + off) sb db 9 B xs9 fl (by decide) ha8 _ SB9 hP X9 (by rw [P9.len]; omega) (by simp)) (fun _ q => q) pd_33 rfl rfl rfl at_345 (pc' := 348) rfl (Wt := 0) (Nat.le_refl _) (by first | decide | (dsimp only; omega) | (simp [Value.category]; done) | (simp [Value.category]; omega)) (by first | decide | (dsimp only; omega) | (simp [Value.category]; done) | (simp [Value.category]; omega)) (by first | decide | (dsimp only; omega) | (simp [Value.category]; done) | (simp [Value.category]; omega)) (by first | decide | (dsimp only; omega) | (simp [Value.category]; done) | (simp [Value.category]; omega)) (fun va9 ha9 Wa9 ⟨ea9, Ka9, xs10, X10, hs9⟩ sa9 => ?_)
  subst ea9
  dsimp only [Option.toList, List.cons_append, List.nil_append]
  have P10 := P9.step hs9 (by omega)
  have SB10 := SB9.keep Ka9 (Ow.nin1 nsb.1) (Ow.nin1 nsb.2)
  have KK10 := KK9.trans Ka9 (fun _ q => Or.inl q)
  refine Ow.aload C at_348 (pc' := 350) rfl rfl rfl ?_
  refine Ow.iload C at_350 (pc' := 352) rfl rfl ?_
  refine Ow.aload C at_352 (pc' := 354) rfl rfl rfl ?_
  refine Ow.iloadN C at_354 (pc' := 355) rfl rfl ?_
  refine Ow.bipush C (10 : Int32) at_355 (pc' := 357) rfl rfl ?_
  refine Ow.callS C (tw23 G.1) (tw24 G.1) (tw25 G.1) (tw26 G.1) (by decide) (con_PT G av (la + off) sb db 10 B xs10 fl (by decide) ha9 _ SB10 hP X10 (by rw [P10.len]; omega) (by simp)) (fun _ q => q) pd_33 rfl rfl rfl at_357 (pc' := 360) rfl (Wt := 0) (Nat.le_refl _) (by first | decide | (dsimp only; omega) | (simp [Value.category]; done) | (simp [Value.category]; omega)) (by first | decide | (dsimp only; omega) | (simp [Value.category]; done) | (simp [Value.category]; omega)) (by first | decide | (dsimp only; omega) | (simp [Value.category]; done) | (simp [Value.category]; omega)) (by first | decide | (dsimp only; omega) | (simp [Value.category]; done) | (simp [Value.category]; omega)) (fun va10 ha10 Wa10 ⟨ea10, Ka10, xs11, X11, hs10⟩ sa10 => ?_)
  subst ea10
  dsimp only [Option.toList, List.cons_append, List.nil_append]
  have P11 := P10.step hs10 (by omega)
  have SB11 := SB10.keep Ka10 (Ow.nin1 nsb.1) (Ow.nin1 nsb.2)
  have KK11 := KK10.trans Ka10 (fun _ q => Or.inl q)
  refine Ow.aload C at_360 (pc' := 362) rfl rfl rfl ?_
  refine Ow.iload C at_362 (pc' := 364) rfl rfl ?_
  refine Ow.aload C at_364 (pc' := 366) rfl rfl rfl ?_
  refine Ow.iloadN C at_366 (pc' := 367) rfl rfl ?_
  refine Ow.bipush C (11 : Int32) at_367 (pc' := 369) rfl rfl ?_
  refine Ow.callS C (tw23 G.1) (tw24 G.1) (tw25 G.1) (tw26 G.1) (by decide) (con_PT G av (la + off) sb db 11 B xs11 fl (by decide) ha10 _ SB11 hP X11 (by rw [P11.len]; omega) (by simp)) (fun _ q => q) pd_33 rfl rfl rfl at_369 (pc' := 372) rfl (Wt := 0) (Nat.le_refl _) (by first | decide | (dsimp only; omega) | (simp [Value.category]; done) | (simp [Value.category]; omega)) (by first | decide | (dsimp only; omega) | (simp [Value.category]; done) | (simp [Value.category]; omega)) (by first | decide | (dsimp only; omega) | (simp [Value.category]; done) | (simp [Value.category]; omega)) (by first | decide | (dsimp only; omega) | (simp [Value.category]; done) | (simp [Value.category]; omega)) (fun va11 ha11 Wa11 ⟨ea11, Ka11, xs12, X12, hs11⟩ sa11 => ?_)
  subst ea11
  dsimp only [Option.toList, List.cons_append, List.nil_append]
  have P12 := P11.step hs11 (by omega)
  have SB12 := SB11.keep Ka11 (Ow.nin1 nsb.1) (Ow.nin1 nsb.2)
  have KK12 := KK11.trans Ka11 (fun _ q => Or.inl q)
  refine Ow.aload C at_372 (pc' := 374) rfl rfl rfl ?_
  refine Ow.iload C at_374 (pc' := 376) rfl rfl ?_
  refine Ow.aload C at_376 (pc' := 378) rfl rfl rfl ?_
  refine Ow.iloadN C at_378 (pc' := 379) rfl rfl ?_
  refine Ow.bipush C (12 : Int32) at_379 (pc' := 381) rfl rfl ?_
  refine Ow.callS C (tw23 G.1) (tw24 G.1) (tw25 G.1) (tw26 G.1) (by decide) (con_PT G av (la + off) sb db 12 B xs12 fl (by decide) ha11 _ SB12 hP X12 (by rw [P12.len]; omega) (by simp)) (fun _ q => q) pd_33 rfl rfl rfl at_381 (pc' := 384) rfl (Wt := 0) (Nat.le_refl _) (by first | decide | (dsimp only; omega) | (simp [Value.category]; done) | (simp [Value.category]; omega)) (by first | decide | (dsimp only; omega) | (simp [Value.category]; done) | (simp [Value.category]; omega)) (by first | decide | (dsimp only; omega) | (simp [Value.category]; done) | (simp [Value.category]; omega)) (by first | decide | (dsimp only; omega) | (simp [Value.category]; done) | (simp [Value.category]; omega)) (fun va12 ha12 Wa12 ⟨ea12, Ka12, xs13, X13, hs12⟩ sa12 => ?_)
  subst ea12
  dsimp only [Option.toList, List.cons_append, List.nil_append]
  have P13 := P12.step hs12 (by omega)
  have SB13 := SB12.keep Ka12 (Ow.nin1 nsb.1) (Ow.nin1 nsb.2)
  have KK13 := KK12.trans Ka12 (fun _ q => Or.inl q)
  refine Ow.aload C at_384 (pc' := 386) rfl rfl rfl ?_
  refine Ow.iload C at_386 (pc' := 388) rfl rfl ?_
  refine Ow.aload C at_388 (pc' := 390) rfl rfl rfl ?_
  refine Ow.iloadN C at_390 (pc' := 391) rfl rfl ?_
  refine Ow.bipush C (13 : Int32) at_391 (pc' := 393) rfl rfl ?_
  refine Ow.callS C (tw23 G.1) (tw24 G.1) (tw25 G.1) (tw26 G.1) (by decide) (con_PT G av (la + off) sb db 13 B xs13 fl (by decide) ha12 _ SB13 hP X13 (by rw [P13.len]; omega) (by simp)) (fun _ q => q) pd_33 rfl rfl rfl at_393 (pc' := 396) rfl (Wt := 0) (Nat.le_refl _) (by first | decide | (dsimp only; omega) | (simp [Value.category]; done) | (simp [Value.category]; omega)) (by first | decide | (dsimp only; omega) | (simp [Value.category]; done) | (simp [Value.category]; omega)) (by first | decide | (dsimp only; omega) | (simp [Value.category]; done) | (simp [Value.category]; omega)) (by first | decide | (dsimp only; omega) | (simp [Value.category]; done) | (simp [Value.category]; omega)) (fun va13 ha13 Wa13 ⟨ea13, Ka13, xs14, X14, hs13⟩ sa13 => ?_)
  subst ea13
  dsimp only [Option.toList, List.cons_append, List.nil_append]
  have P14 := P13.step hs13 (by omega)
  have SB14 := SB13.keep Ka13 (Ow.nin1 nsb.1) (Ow.nin1 nsb.2)
  have KK14 := KK13.trans Ka13 (fun _ q => Or.inl q)
  refine Ow.aload C at_396 (pc' := 398) rfl rfl rfl ?_
  refine Ow.iload C at_398 (pc' := 400) rfl rfl ?_
  refine Ow.aload C at_400 (pc' := 402) rfl rfl rfl ?_
  refine Ow.iloadN C at_402 (pc' := 403) rfl rfl ?_
  refine Ow.bipush C (14 : Int32) at_403 (pc' := 405) rfl rfl ?_
  refine Ow.callS C (tw23 G.1) (tw24 G.1) (tw25 G.1) (tw26 G.1) (by decide) (con_PT G av (la + off) sb db 14 B xs14 fl (by decide) ha13 _ SB14 hP X14 (by rw [P14.len]; omega) (by simp)) (fun _ q => q) pd_33 rfl rfl rfl at_405 (pc' := 408) rfl (Wt := 0) (Nat.le_refl _) (by first | decide | (dsimp only; omega) | (simp [Value.category]; done) | (simp [Value.category]; omega)) (by first | decide | (dsimp only; omega) | (simp [Value.category]; done) | (simp [Value.category]; omega)) (by first | decide | (dsimp only; omega) | (simp [Value.category]; done) | (simp [Value.category]; omega)) (by first | decide | (dsimp only; omega) | (simp [Value.category]; done) | (simp [Value.category]; omega)) (fun va14 ha14 Wa14 ⟨ea14, Ka14, xs15, X15, hs14⟩ sa14 => ?_)
  subst ea14
  dsimp only [Option.toList, List.cons_append, List.nil_append]
  have P15 := P14.step hs14 (by omega)
  have SB15 := SB14.keep Ka14 (Ow.nin1 nsb.1) (Ow.nin1 nsb.2)
  have KK15 := KK14.trans Ka14 (fun _ q => Or.inl q)
  refine Ow.aload C at_408 (pc' := 410) rfl rfl rfl ?_
  refine Ow.iload C at_410 (pc' := 412) rfl rfl ?_
  refine Ow.aload C at_412 (pc' := 414) rfl rfl rfl ?_
  refine Ow.iloadN C at_414 (pc' := 415) rfl rfl ?_
  refine Ow.bipush C (15 : Int32) at_415 (pc' := 417) rfl rfl ?_
  refine Ow.callS C (tw23 G.1) (tw24 G.1) (tw25 G.1) (tw26 G.1) (by decide) (con_PT G av (la + off) sb db 15 B xs15 fl (by decide) ha14 _ SB15 hP X15 (by rw [P15.len]; omega) (by simp)) (fun _ q => q) pd_33 rfl rfl rfl at_417 (pc' := 420) rfl (Wt := 0) (Nat.le_refl _) (by first | decide | (dsimp only; omega) | (simp [Value.category]; done) | (simp [Value.category]; omega)) (by first | decide | (dsimp only; omega) | (simp [Value.category]; done) | (simp [Value.category]; omega)) (by first | decide | (dsimp only; omega) | (simp [Value.category]; done) | (simp [Value.category]; omega)) (by first | decide | (dsimp only; omega) | (simp [Value.category]; done) | (simp [Value.category]; omega)) (fun va15 ha15 Wa15 ⟨ea15, Ka15, xs16, X16, hs15⟩ sa15 => ?_)
  subst ea15
  dsimp only [Option.toList, List.cons_append, List.nil_append]
  have P16 := P15.step hs15 (by omega)
  have SB16 := SB15.keep Ka15 (Ow.nin1 nsb.1) (Ow.nin1 nsb.2)
  have KK16 := KK15.trans Ka15 (fun _ q => Or.inl q)
  suffices hJ : ∀ (h5 : Heap) (xs : List Int32), ArI Z h5 av .char xs → Keep hv h5 [av] → xs.length = n → RNG xs → (∀ j, j < la + off → xs.getD j 0 = ys.getD j 0) → (∀ j, j < B.length → j ≠ q → Ow.low (xs.getD (la + off + j) 0) = B.getD j 0) → (q < B.length → xs.getD (la + off + q) 0 = cc) → Ow.WP p l e room_1 s m #[.int sel, .int fl, .int pos, .int chs, .int mo] below meth c Z EL1 bb (fun v h' W' => v = some (.int 1)) 437 [.val (.int sel), .val (.int fl), .val (.int pos), .val (.int chs), .val (.int mo), .val (.int (Int32.ofNat md)), .val (.int (Int32.ofNat ld)), .val (.int (Int32.ofNat tr)), .val (.int (Int32.ofNat t)), .val (.int cc), .val (.int ee), .val (.int d0), .val (.int d1), .val (.int d2), .val (.ref sb), .val (.int (Int32.ofNat B.length)), .val (.int (Int32.ofNat core)), .val (.int (Int32.ofNat q)), .val (.int (Int32.ofNat n)), .val (.ref av), .val (.int (Int32.ofNat (la + off))), .unset, .unset] [] h5 [av] 3 88 by
    refine Ow.iload C at_420 (pc' := 422) rfl rfl ?_
    refine Ow.iload C at_422 (pc' := 424) rfl rfl ?_
    by_cases z : q < B.length
    · refine Ow.icmpN C at_424 (pc' := 427) rfl (XT.ii_ge_f (by rw [Ow.lt32, Ow.ofNat_toInt (by omega), Ow.ofNat_toInt (by omega)]; omega)) ?_
      refine Ow.aload C at_427 (pc' := 429) rfl rfl rfl ?_
      refine Ow.iload C at_429 (pc' := 431) rfl rfl ?_
      refine Ow.iload C at_431 (pc' := 433) rfl rfl ?_
      refine Ow.iadd C at_433 (pc' := 434) rfl ?_
      rw [Ow.add_ofNat (by omega)]
      refine Ow.iload C at_434 (pc' := 436) rfl rfl ?_
      refine Ow.castore C X16 (i := la + off + q) (Ow.ofNat_toInt (by omega)) (by rw [P16.len]; omega) (by simp) at_436 (pc' := 437) rfl (fun h5 K5 V5 => ?_)
      rw [Ow.nar_char_id r_cc.1 (by omega)] at V5
      exact hJ h5 _ V5 (KK16.trans K5 (fun _ q => Or.inl q)) (by simp [P16.len]) (P16.rng.set r_cc) (fun j hj => by rw [getD_set_ne (by omega)]; exact P16.pre j hj) (fun j hj hjq => by rw [getD_set_ne (by omega)]; exact P16.low j (by omega) hj) (fun _ => getD_set_eq (by rw [P16.len]; omega))
    · refine Ow.icmpY C 437 at_424 (XT.ii_ge_t (by rw [Ow.lt32, Ow.ofNat_toInt (by omega), Ow.ofNat_toInt (by omega)]; omega)) (by decide) (by decide) ?_
      exact hJ _ _ X16 KK16 P16.len P16.rng P16.pre (fun j hj _ => P16.low j (by omega) hj) (fun y => absurd y z)
  intro h5 xs5 V5 K5 l5 R5 pre5 b5 q5
  refine Ow.iload C at_437 (pc' := 439) rfl rfl ?_
  refine Ow.iload C at_439 (pc' := 441) rfl rfl ?_
  refine Ow.iadd C at_441 (pc' := 442) rfl ?_
  rw [Ow.add_ofNat (by omega)]
  refine Ow.istore C at_442 (pc' := 444) rfl rfl ?_
  dsimp only [List.set]
  refine Ow.iload C at_444 (pc' := 446) rfl rfl ?_
  suffices hJ : ∀ (h6 : Heap) (xs : List Int32), ArI Z h6 av .char xs → Keep hv h6 [av] → xs.length = n → RNG xs → (∀ j, j < la + off → xs.getD j 0 = ys.getD j 0) → (∀ j, j < B.length → j ≠ q → Ow.low (xs.getD (la + off + j) 0) = B.getD j 0) → (q < B.length → xs.getD (la + off + q) 0 = cc) → (tr ≠ 0 → xs.getD (la + off + B.length) 0 = padC tr) → Ow.WP p l e room_1 s m #[.int sel, .int fl, .int pos, .int chs, .int mo] below meth c Z EL1 bb (fun v h' W' => v = some (.int 1)) 465 [.val (.int sel), .val (.int fl), .val (.int pos), .val (.int chs), .val (.int mo), .val (.int (Int32.ofNat md)), .val (.int (Int32.ofNat ld)), .val (.int (Int32.ofNat tr)), .val (.int (Int32.ofNat t)), .val (.int cc), .val (.int ee), .val (.int d0), .val (.int d1), .val (.int d2), .val (.ref sb), .val (.int (Int32.ofNat B.length)), .val (.int (Int32.ofNat core)), .val (.int (Int32.ofNat q)), .val (.int (Int32.ofNat n)), .val (.ref av), .val (.int (Int32.ofNat (la + off + B.length + ta))), .unset, .unset] [] h6 [av] 3 88 by
    by_cases z : tr = 0
    · refine Ow.ifCY C 465 at_446 (XT.i0_eq_t (by rw [z]; rfl)) (by decide) (by decide) ?_
      have g := hJ h5 xs5 V5 K5 l5 R5 pre5 b5 q5 (fun y => absurd z y)
      rw [show la + off + B.length + ta = la + off + B.length by rw [hta, if_pos z]; rfl] at g; exact g
    · refine Ow.ifCN C at_446 (pc' := 449) rfl (XT.i0_eq_f (fun y => z (Ow.ofNat_inj (j := 0) (by omega) (by omega) y))) ?_
      have ht1 : ta = 1 := by rw [hta, if_neg z]
      refine Ow.aload C at_449 (pc' := 451) rfl rfl rfl ?_
      refine Ow.iload C at_451 (pc' := 453) rfl rfl ?_
      refine Ow.iload C at_453 (pc' := 455) rfl rfl ?_
      refine Ow.callS C (tw207 G.1) (tw208 G.1) (tw25 G.1) (tw209 G.1) (by decide) (con_PA G tr htr h5 _) (fun _ q => q) pd_31 rfl rfl rfl at_455 (pc' := 458) rfl (Wt := 2) (Nat.le_refl _) (by first | decide | (dsimp only; omega) | (simp [Value.category]; done) | (simp [Value.category]; omega)) (by first | decide | (dsimp only; omega) | (simp [Value.category]; done) | (simp [Value.category]; omega)) (by first | decide | (dsimp only; omega) | (simp [Value.category]; done) | (simp [Value.category]; omega)) (by first | decide | (dsimp only; omega) | (simp [Value.category]; done) | (simp [Value.category]; omega)) (fun v6 h6 W6 ⟨e6, e6'⟩ s6 => ?_)
      subst e6 e6'
      dsimp only [Option.toList, List.cons_append, List.nil_append]
      refine Ow.castore C V5 (i := la + off + B.length) (Ow.ofNat_toInt (by omega)) (by omega) (by simp) at_458 (pc' := 459) rfl (fun h7 K7 V7 => ?_)
      rw [Ow.nar_char_id (padC_rng tr).1 (by have := (padC_rng tr).2; omega)] at V7
      refine Ow.iload C at_459 (pc' := 461) rfl rfl ?_
      refine Ow.iconst C (1 : Int32) at_461 (pc' := 462) rfl rfl ?_
      refine Ow.iadd C at_462 (pc' := 463) rfl ?_
      refine Ow.istore C at_463 (pc' := 465) rfl rfl ?_
      dsimp only [List.set]
      have g := hJ h7 _ V7 (K5.trans K7 (fun _ q => Or.inl q)) (by simp [l5]) (R5.set (padC_rng tr)) (fun j hj => by rw [getD_set_ne (by omega)]; exact pre5 j hj) (fun j hj hjq => by rw [getD_set_ne (by omega)]; exact b5 j hj hjq) (fun y => by rw [getD_set_ne (by omega)]; exact q5 y) (fun _ => getD_set_eq (by omega))
      rw [ht1] at g; rw [← inc_ofNat]; exact g
  intro h6 xs6 V6 K6 l6 R6 pre6 b6 q6 t6
  refine Ow.iload C at_465 (pc' := 467) rfl rfl ?_
  refine Ow.iconst C (1 : Int32) at_467 (pc' := 468) rfl rfl ?_
  suffices hJ : ∀ (h7 : Heap) (xs : List Int32) (i20 : Int32), ArI Z h7 av .char xs → Keep hv h7 [av] → xs.length = n → RNG xs → (∀ j, j < la + off → xs.getD j 0 = ys.getD j 0) → (∀ j, j < B.length → j ≠ q → Ow.low (xs.getD (la + off + j) 0) = B.getD j 0) → (q < B.length → xs.getD (la + off + q) 0 = cc) → (tr ≠ 0 → xs.getD (la + off + B.length) 0 = padC tr) → (1 ≤ t → xs.getD (la + off + B.length + ta) 0 = 59) → (t = 2 → i20 = Int32.ofNat (la + off + B.length + ta + 1)) → Ow.WP p l e room_1 s m #[.int sel, .int fl, .int pos, .int chs, .int mo] below meth c Z EL1 bb (fun v h' W' => v = some (.int 1)) 484 [.val (.int sel), .val (.int fl), .val (.int pos), .val (.int chs), .val (.int mo), .val (.int (Int32.ofNat md)), .val (.int (Int32.ofNat ld)), .val (.int (Int32.ofNat tr)), .val (.int (Int32.ofNat t)), .val (.int cc), .val (.int ee), .val (.int d0), .val (.int d1), .val (.int d2), .val (.ref sb), .val (.int (Int32.ofNat B.length)), .val (.int (Int32.ofNat core)), .val (.int (Int32.ofNat q)), .val (.int (Int32.ofNat n)), .val (.ref av), .val (.int i20), .unset, .unset] [] h7 [av] 3 88 by
    by_cases z : 1 ≤ t
    · refine Ow.icmpN C at_468 (pc' := 471) rfl (XT.ii_lt_f (by rw [Ow.lt32, Ow.ofNat_toInt (by omega)]; show ¬ ((t : Int) < 1); omega)) ?_
      refine Ow.aload C at_471 (pc' := 473) rfl rfl rfl ?_
      refine Ow.iload C at_473 (pc' := 475) rfl rfl ?_
      refine Ow.bipush C (59 : Int32) at_475 (pc' := 477) rfl rfl ?_
      refine Ow.castore C V6 (i := la + off + B.length + ta) (Ow.ofNat_toInt (by omega)) (by omega) (by simp) at_477 (pc' := 478) rfl (fun h7 K7 V7 => ?_)
      rw [show nar .char (59 : Int32) = 59 from rfl] at V7
      refine Ow.iload C at_478 (pc' := 480) rfl rfl ?_
      refine Ow.iconst C (1 : Int32) at_480 (pc' := 481) rfl rfl ?_
      refine Ow.iadd C at_481 (pc' := 482) rfl ?_
      refine Ow.istore C at_482 (pc' := 484) rfl rfl ?_
      dsimp only [List.set]
      exact hJ h7 _ _ V7 (K6.trans K7 (fun _ q => Or.inl q)) (by simp [l6]) (R6.set (by decide)) (fun j hj => by rw [getD_set_ne (by omega)]; exact pre6 j hj) (fun j hj hjq => by rw [getD_set_ne (by omega)]; exact b6 j hj hjq) (fun y => by rw [getD_set_ne (by omega)]; exact q6 y) (fun y => by rw [getD_set_ne (by rw [hta, if_neg y]; omega)]; exact t6 y) (fun _ => getD_set_eq (by omega)) (fun _ => (inc_ofNat _).symm)
    · refine Ow.icmpY C 484 at_468 (XT.ii_lt_t (by rw [Ow.lt32, Ow.ofNat_toInt (by omega)]; show ((t : Int) < 1); omega)) (by decide) (by decide) ?_
      exact hJ h6 xs6 _ V6 K6 l6 R6 pre6 b6 q6 t6 (fun y => absurd y z) (fun y => by omega)
  intro h7 xs7 i20 V7 K7 l7 R7 pre7 b7 q7 t7 s7 hi20
  refine Ow.iload C at_484 (pc' := 486) rfl rfl ?_
  refine Ow.iconst C (2 : Int32) at_486 (pc' := 487) rfl rfl ?_
  suffices hJ : ∀ (h8 : Heap) (xs : List Int32), ArI Z h8 av .char xs → Keep hv h8 [av] → xs.length = n → RNG xs → (∀ j, j < la + off → xs.getD j 0 = ys.getD j 0) → (∀ j, j < B.length → j ≠ q → Ow.low (xs.getD (la + off + j) 0) = B.getD j 0) → (q < B.length → xs.getD (la + off + q) 0 = cc) → (tr ≠ 0 → xs.getD (la + off + B.length) 0 = padC tr) → (1 ≤ t → xs.getD (la + off + B.length + ta) 0 = 59) → Ow.WP p l e room_1 s m #[.int sel, .int fl, .int pos, .int chs, .int mo] below meth c Z EL1 bb (fun v h' W' => v = some (.int 1)) 497 [.val (.int sel), .val (.int fl), .val (.int pos), .val (.int chs), .val (.int mo), .val (.int (Int32.ofNat md)), .val (.int (Int32.ofNat ld)), .val (.int (Int32.ofNat tr)), .val (.int (Int32.ofNat t)), .val (.int cc), .val (.int ee), .val (.int d0), .val (.int d1), .val (.int d2), .val (.ref sb), .val (.int (Int32.ofNat B.length)), .val (.int (Int32.ofNat core)), .val (.int (Int32.ofNat q)), .val (.int (Int32.ofNat n)), .val (.ref av), .val (.int i20), .unset, .unset] [] h8 [av] 3 88 by
    by_cases z : t = 2
    · refine Ow.icmpN C at_487 (pc' := 490) rfl (XT.ii_ne_f (by rw [z]; rfl)) ?_
      refine Ow.aload C at_490 (pc' := 492) rfl rfl rfl ?_
      refine Ow.iload C at_492 (pc' := 494) rfl rfl ?_
      refine Ow.iload C at_494 (pc' := 496) rfl rfl ?_
      refine Ow.castore C V7 (i := la + off + B.length + ta + 1) (by rw [hi20 z, Ow.ofNat_toInt (by omega)]) (by omega) (by simp) at_496 (pc' := 497) rfl (fun h8 K8 V8 => ?_)
      rw [Ow.nar_char_id r_ee.1 (by omega)] at V8
      exact hJ h8 _ V8 (K7.trans K8 (fun _ q => Or.inl q)) (by simp [l7]) (R7.set r_ee) (fun j hj => by rw [getD_set_ne (by omega)]; exact pre7 j hj) (fun j hj hjq => by rw [getD_set_ne (by omega)]; exact b7 j hj hjq) (fun y => by rw [getD_set_ne (by omega)]; exact q7 y) (fun y => by rw [getD_set_ne (by omega)]; exact t7 y) (fun y => by rw [getD_set_ne (by omega)]; exact s7 y)
    · refine Ow.icmpY C 497 at_487 (XT.ii_ne_t (fun y => z (Ow.ofNat_inj (j := 2) (by omega) (by omega) y))) (by decide) (by decide) ?_
      exact hJ h7 xs7 V7 K7 l7 R7 pre7 b7 q7 t7 s7
  intro h8 T V8 K8 l8 R8 pre8 b8 q8 t8 s8
  have SB8 := SBv.keep K8 (Ow.nin1 nsb.1) (Ow.nin1 nsb.2)
  clear V4 V5 V6 V7 K4 K5 K6 K7 l5 l6 l7 R5 R6 R7 pre5 pre6 pre7 b5 b6 b7 q5 q6 q7 t6 t7 s7 hi20
  suffices hJ : ∀ (x : Nat) (o22 : Slot), ((x = 1 ∧ Expd md tr ld q cc d0 d1 d2 B) ∨ (x = 0 ∧ ¬ Expd md tr ld q cc d0 d1 d2 B)) → Ow.okS (some o22) = true → Ow.WP p l e room_1 s m #[.int sel, .int fl, .int pos, .int chs, .int mo] below meth c Z EL1 bb (fun v h' W' => v = some (.int 1)) 628 [.val (.int sel), .val (.int fl), .val (.int pos), .val (.int chs), .val (.int mo), .val (.int (Int32.ofNat md)), .val (.int (Int32.ofNat ld)), .val (.int (Int32.ofNat tr)), .val (.int (Int32.ofNat t)), .val (.int cc), .val (.int ee), .val (.int d0), .val (.int d1), .val (.int d2), .val (.ref sb), .val (.int (Int32.ofNat B.length)), .val (.int (Int32.ofNat core)), .val (.int (Int32.ofNat q)), .val (.int (Int32.ofNat n)), .val (.ref av), .val (.int i20), .val (.int (Int32.ofNat x)), o22] [] h8 [av] 3 88 by
    refine Ow.iload C at_497 (pc' := 499) rfl rfl ?_
    obtain rfl | rfl : md = 0 ∨ md = 1 := by omega
    · have hBB : B = Ow.plus5 ∧ B.length = 5 := by rcases hB with ⟨z, -⟩ | ⟨-, rfl⟩; omega; exact ⟨rfl, rfl⟩
      have E0 : ¬ Expd 0 tr ld q cc d0 d1 d2 B → Ow.WP p l e room_1 s m #[.int sel, .int fl, .int pos, .int chs, .int mo] below meth c Z EL1 bb (fun v h' W' => v = some (.int 1)) 625 [.val (.int sel), .val (.int fl), .val (.int pos), .val (.int chs), .val (.int mo), .val (.int (Int32.ofNat 0)), .val (.int (Int32.ofNat ld)), .val (.int (Int32.ofNat tr)), .val (.int (Int32.ofNat t)), .val (.int cc), .val (.int ee), .val (.int d0), .val (.int d1), .val (.int d2), .val (.ref sb), .val (.int (Int32.ofNat B.length)), .val (.int (Int32.ofNat core)), .val (.int (Int32.ofNat q)), .val (.int (Int32.ofNat n)), .val (.ref av), .val (.int i20), .unset, .unset] [] h8 [av] 3 88 := by
        intro z
        refine Ow.iconst C (0 : Int32) at_625 (pc' := 626) rfl rfl ?_
        refine Ow.istore C at_626 (pc' := 628) rfl rfl ?_
        dsimp only [List.set]
        exact hJ 0 .unset (Or.inr ⟨rfl, z⟩) rfl
      have E1 : Expd 0 tr ld q cc d0 d1 d2 B → Ow.WP p l e room_1 s m #[.int sel, .int fl, .int pos, .int chs, .int mo] below meth c Z EL1 bb (fun v h' W' => v = some (.int 1)) 621 [.val (.int sel), .val (.int fl), .val (.int pos), .val (.int chs), .val (.int mo), .val (.int (Int32.ofNat 0)), .val (.int (Int32.ofNat ld)), .val (.int (Int32.ofNat tr)), .val (.int (Int32.ofNat t)), .val (.int cc), .val (.int ee), .val (.int d0), .val (.int d1), .val (.int d2), .val (.ref sb), .val (.int (Int32.ofNat B.length)), .val (.int (Int32.ofNat core)), .val (.int (Int32.ofNat q)), .val (.int (Int32.ofNat n)), .val (.ref av), .val (.int i20), .unset, .unset] [] h8 [av] 3 88 := by
        intro z
        refine Ow.iconst C (1 : Int32) at_621 (pc' := 622) rfl rfl ?_
        refine Ow.goto C 626 at_622 (by decide) (by decide) ?_
        refine Ow.istore C at_626 (pc' := 628) rfl rfl ?_
        dsimp only [List.set]
        exact hJ 1 .unset (Or.inl ⟨rfl, z⟩) rfl
      refine Ow.ifCY C 572 at_499 (XT.i0_eq_t rfl) (by decide) (by decide) ?_
      refine Ow.iload C at_572 (pc' := 574) rfl rfl ?_
      refine Ow.iconst C (3 : Int32) at_574 (pc' := 575) rfl rfl ?_
      by_cases z1 : tr = 3
      · refine Ow.icmpY C 625 at_575 (XT.ii_eq_t (by rw [z1]; rfl)) (by decide) (by decide) ?_
        exact E0 (fun z => z.2 rfl |>.1 z1)
      · refine Ow.icmpN C at_575 (pc' := 578) rfl (XT.ii_eq_f (fun y => z1 (Ow.ofNat_inj (j := 3) (by omega) (by omega) y))) ?_
        refine Ow.iload C at_578 (pc' := 580) rfl rfl ?_
        refine Ow.bipush C (59 : Int32) at_580 (pc' := 582) rfl rfl ?_
        by_cases w0 : d0 = 59
        · refine Ow.icmpY C 625 at_582 (XT.ii_eq_t w0) (by decide) (by decide) ?_
          exact E0 (fun z => (z.2 rfl).2.1 w0)
        · refine Ow.icmpN C at_582 (pc' := 585) rfl (XT.ii_eq_f w0) ?_
          refine Ow.iload C at_585 (pc' := 587) rfl rfl ?_
          refine Ow.bipush C (59 : Int32) at_587 (pc' := 589) rfl rfl ?_
          by_cases w1 : d1 = 59
          · refine Ow.icmpY C 625 at_589 (XT.ii_eq_t w1) (by decide) (by decide) ?_
            exact E0 (fun z => (z.2 rfl).2.2.1 w1)
          · refine Ow.icmpN C at_589 (pc' := 592) rfl (XT.ii_eq_f w1) ?_
            refine Ow.iload C at_592 (pc' := 594) rfl rfl ?_
            refine Ow.bipush C (59 : Int32) at_594 (pc' := 596) rfl rfl ?_
            by_cases w2 : d2 = 59
            · refine Ow.icmpY C 625 at_596 (XT.ii_eq_t w2) (by decide) (by decide) ?_
              exact E0 (fun z => (z.2 rfl).2.2.2.1 w2)
            · refine Ow.icmpN C at_596 (pc' := 599) rfl (XT.ii_eq_f w2) ?_
              refine Ow.iload C at_599 (pc' := 601) rfl rfl ?_
              refine Ow.iload C at_601 (pc' := 603) rfl rfl ?_
              by_cases y1 : q = B.length
              · refine Ow.icmpY C 621 at_603 (XT.ii_eq_t (by rw [y1])) (by decide) (by decide) ?_
                exact E1 ⟨fun z => absurd z (by decide), fun _ => ⟨z1, w0, w1, w2, Or.inl y1⟩⟩
              · refine Ow.icmpN C at_603 (pc' := 606) rfl (XT.ii_eq_f (fun y => y1 (Ow.ofNat_inj (by omega) (by omega) y))) ?_
                refine Ow.iload C at_606 (pc' := 608) rfl rfl ?_
                refine Ow.aload C at_608 (pc' := 610) rfl rfl rfl ?_
                refine Ow.iload C at_610 (pc' := 612) rfl rfl ?_
                refine Ow.callV C (y := (⟨"java/lang/String", "charAt", "(I)C"⟩ : MethodName)) (z := (⟨"java/lang/String", "charAt", "(I)C"⟩ : MethodName)) (tw27 G.1) (tw28 G.1) (tw30 G.1) (tw30 G.1) (tw29 G.1) (tw1 G.1) (tw31 G.1) (by decide) SB8.1 (con_CA G sb db q B (by omega) h8 _ SB8) (fun _ q => q) pd_31 rfl rfl rfl at_612 (pc' := 615) rfl (Wt := 1) (Nat.le_refl _) (by first | decide | (dsimp only; omega) | (simp [Value.category]; done) | (simp [Value.category]; omega)) (by first | decide | (dsimp only; omega) | (simp [Value.category]; done) | (simp [Value.category]; omega)) (by first | decide | (dsimp only; omega) | (simp [Value.category]; done) | (simp [Value.category]; omega)) (by first | decide | (dsimp only; omega) | (simp [Value.category]; done) | (simp [Value.category]; omega)) (fun v9 h9 W9 ⟨e9, e9'⟩ s9 => ?_)
                subst e9 e9'
                dsimp only [Option.toList, List.cons_append, List.nil_append]
                refine Ow.callS C (tw52 G.1) (tw53 G.1) (tw25 G.1) (tw54 G.1) (by decide) (con_MT G cc (B.getD q 0) r_cc.1 r_cc.2 (Ow.getD_rng hP (by omega)) h9 _) (fun _ q => q) pd_34 rfl rfl rfl at_615 (pc' := 618) rfl (Wt := 0) (Nat.le_refl _) (by first | decide | (dsimp only; omega) | (simp [Value.category]; done) | (simp [Value.category]; omega)) (by first | decide | (dsimp only; omega) | (simp [Value.category]; done) | (simp [Value.category]; omega)) (by first | decide | (dsimp only; omega) | (simp [Value.category]; done) | (simp [Value.category]; omega)) (by first | decide | (dsimp only; omega) | (simp [Value.category]; done) | (simp [Value.category]; omega)) (fun v10 h10 W10 ⟨e10, e10'⟩ s10 => ?_)
                by_cases y2 : Ow.low cc = B.getD q 0
                · rw [if_pos y2] at e10
                  subst e10 e10'
                  dsimp only [Option.toList, List.cons_append, List.nil_append]
                  refine Ow.ifCN C at_618 (pc' := 621) rfl (XT.i0_eq_f (by decide)) ?_
                  exact E1 ⟨fun z => absurd z (by decide), fun _ => ⟨z1, w0, w1, w2, Or.inr y2⟩⟩
                · rw [if_neg y2] at e10
                  subst e10 e10'
                  dsimp only [Option.toList, List.cons_append, List.nil_append]
                  refine Ow.ifCY C 625 at_618 (XT.i0_eq_t (by decide)) (by decide) (by decide) ?_
                  exact E0 (fun z => (z.2 rfl).2.2.2.2.elim y1 y2)
    · refine Ow.ifCN C at_499 (pc' := 502) rfl (XT.i0_eq_f (by decide)) ?_
      suffices hK : ∀ w : Nat, ((w = 1 ∧ (q = B.length ∨ Ow.low cc = B.getD q 0)) ∨ (w = 0 ∧ ¬ (q = B.length ∨ Ow.low cc = B.getD q 0))) → Ow.WP p l e room_1 s m #[.int sel, .int fl, .int pos, .int chs, .int mo] below meth c Z EL1 bb (fun v h' W' => v = some (.int 1)) 529 [.val (.int sel), .val (.int fl), .val (.int pos), .val (.int chs), .val (.int mo), .val (.int (Int32.ofNat 1)), .val (.int (Int32.ofNat ld)), .val (.int (Int32.ofNat tr)), .val (.int (Int32.ofNat t)), .val (.int cc), .val (.int ee), .val (.int d0), .val (.int d1), .val (.int d2), .val (.ref sb), .val (.int (Int32.ofNat B.length)), .val (.int (Int32.ofNat core)), .val (.int (Int32.ofNat q)), .val (.int (Int32.ofNat n)), .val (.ref av), .val (.int i20), .unset, .unset] [.int (Int32.ofNat w)] h8 [av] 3 88 by
        refine Ow.iload C at_502 (pc' := 504) rfl rfl ?_
        refine Ow.iload C at_504 (pc' := 506) rfl rfl ?_
        by_cases y1 : q = B.length
        · refine Ow.icmpY C 524 at_506 (XT.ii_eq_t (by rw [y1])) (by decide) (by decide) ?_
          refine Ow.iconst C (1 : Int32) at_524 (pc' := 525) rfl rfl ?_
          refine Ow.goto C 529 at_525 (by decide) (by decide) ?_
          exact hK 1 (Or.inl ⟨rfl, Or.inl y1⟩)
        · refine Ow.icmpN C at_506 (pc' := 509) rfl (XT.ii_eq_f (fun y => y1 (Ow.ofNat_inj (by omega) (by omega) y))) ?_
          refine Ow.iload C at_509 (pc' := 511) rfl rfl ?_
          refine Ow.aload C at_511 (pc' := 513) rfl rfl rfl ?_
          refine Ow.iload C at_513 (pc' := 515) rfl rfl ?_
          refine Ow.callV C (y := (⟨"java/lang/String", "charAt", "(I)C"⟩ : MethodName)) (z := (⟨"java/lang/String", "charAt", "(I)C"⟩ : MethodName)) (tw27 G.1) (tw28 G.1) (tw30 G.1) (tw30 G.1) (tw29 G.1) (tw1 G.1) (tw31 G.1) (by decide) SB8.1 (con_CA G sb db q B (by omega) h8 _ SB8) (fun _ q => q) pd_31 rfl rfl rfl at_515 (pc' := 518) rfl (Wt := 1) (Nat.le_refl _) (by first | decide | (dsimp only; omega) | (simp [Value.category]; done) | (simp [Value.category]; omega)) (by first | decide | (dsimp only; omega) | (simp [Value.category]; done) | (simp [Value.category]; omega)) (by first | decide | (dsimp only; omega) | (simp [Value.category]; done) | (simp [Value.category]; omega)) (by first | decide | (dsimp only; omega) | (simp [Value.category]; done) | (simp [Value.category]; omega)) (fun v9 h9 W9 ⟨e9, e9'⟩ s9 => ?_)
          subst e9 e9'
          dsimp only [Option.toList, List.cons_append, List.nil_append]
          refine Ow.callS C (tw52 G.1) (tw53 G.1) (tw25 G.1) (tw54 G.1) (by decide) (con_MT G cc (B.getD q 0) r_cc.1 r_cc.2 (Ow.getD_rng hP (by omega)) h9 _) (fun _ q => q) pd_34 rfl rfl rfl at_518 (pc' := 521) rfl (Wt := 0) (Nat.le_refl _) (by first | decide | (dsimp only; omega) | (simp [Value.category]; done) | (simp [Value.category]; omega)) (by first | decide | (dsimp only; omega) | (simp [Value.category]; done) | (simp [Value.category]; omega)) (by first | decide | (dsimp only; omega) | (simp [Value.category]; done) | (simp [Value.category]; omega)) (by first | decide | (dsimp only; omega) | (simp [Value.category]; done) | (simp [Value.category]; omega)) (fun v10 h10 W10 ⟨e10, e10'⟩ s10 => ?_)
          by_cases y2 : Ow.low cc = B.getD q 0
          · rw [if_pos y2] at e10
            subst e10 e10'
            dsimp only [Option.toList, List.cons_append, List.nil_append]
            refine Ow.ifCN C at_521 (pc' := 524) rfl (XT.i0_eq_f (by decide)) ?_
            refine Ow.iconst C (1 : Int32) at_524 (pc' := 525) rfl rfl ?_
            refine Ow.goto C 529 at_525 (by decide) (by decide) ?_
            exact hK 1 (Or.inl ⟨rfl, Or.inr y2⟩)
          · rw [if_neg y2] at e10
            subst e10 e10'
            dsimp only [Option.toList, List.cons_append, List.nil_append]
            refine Ow.ifCY C 528 at_521 (XT.i0_eq_t (by decide)) (by decide) (by decide) ?_
            refine Ow.iconst C (0 : Int32) at_528 (pc' := 529) rfl rfl ?_
            exact hK 0 (Or.inr ⟨rfl, fun z => z.elim y1 y2⟩)
      intro w hw
      have E0 : ¬ Expd 1 tr ld q cc d0 d1 d2 B → Ow.WP p l e room_1 s m #[.int sel, .int fl, .int pos, .int chs, .int mo] below meth c Z EL1 bb (fun v h' W' => v = some (.int 1)) 566 [.val (.int sel), .val (.int fl), .val (.int pos), .val (.int chs), .val (.int mo), .val (.int (Int32.ofNat 1)), .val (.int (Int32.ofNat ld)), .val (.int (Int32.ofNat tr)), .val (.int (Int32.ofNat t)), .val (.int cc), .val (.int ee), .val (.int d0), .val (.int d1), .val (.int d2), .val (.ref sb), .val (.int (Int32.ofNat B.length)), .val (.int (Int32.ofNat core)), .val (.int (Int32.ofNat q)), .val (.int (Int32.ofNat n)), .val (.ref av), .val (.int i20), .unset, .val (.int (Int32.ofNat w))] [] h8 [av] 3 88 := by
        intro z
        refine Ow.iconst C (0 : Int32) at_566 (pc' := 567) rfl rfl ?_
        refine Ow.istore C at_567 (pc' := 569) rfl rfl ?_
        dsimp only [List.set]
        refine Ow.goto C 628 at_569 (by decide) (by decide) ?_
        exact hJ 0 _ (Or.inr ⟨rfl, z⟩) rfl
      have E1 : Expd 1 tr ld q cc d0 d1 d2 B → Ow.WP p l e room_1 s m #[.int sel, .int fl, .int pos, .int chs, .int mo] below meth c Z EL1 bb (fun v h' W' => v = some (.int 1)) 562 [.val (.int sel), .val (.int fl), .val (.int pos), .val (.int chs), .val (.int mo), .val (.int (Int32.ofNat 1)), .val (.int (Int32.ofNat ld)), .val (.int (Int32.ofNat tr)), .val (.int (Int32.ofNat t)), .val (.int cc), .val (.int ee), .val (.int d0), .val (.int d1), .val (.int d2), .val (.ref sb), .val (.int (Int32.ofNat B.length)), .val (.int (Int32.ofNat core)), .val (.int (Int32.ofNat q)), .val (.int (Int32.ofNat n)), .val (.ref av), .val (.int i20), .unset, .val (.int (Int32.ofNat w))] [] h8 [av] 3 88 := by
        intro z
        refine Ow.iconst C (1 : Int32) at_562 (pc' := 563) rfl rfl ?_
        refine Ow.goto C 567 at_563 (by decide) (by decide) ?_
        refine Ow.istore C at_567 (pc' := 569) rfl rfl ?_
        dsimp only [List.set]
        refine Ow.goto C 628 at_569 (by decide) (by decide) ?_
        exact hJ 1 _ (Or.inl ⟨rfl, z⟩) rfl
      refine Ow.istore C at_529 (pc' := 531) rfl rfl ?_
      dsimp only [List.set]
      refine Ow.iload C at_531 (pc' := 533) rfl rfl ?_
      refine Ow.iconst C (3 : Int32) at_533 (pc' := 534) rfl rfl ?_
      by_cases z1 : tr = 3
      · refine Ow.icmpY C 566 at_534 (XT.ii_eq_t (by rw [z1]; rfl)) (by decide) (by decide) ?_
        exact E0 (fun z => (z.1 rfl).1 z1)
      · refine Ow.icmpN C at_534 (pc' := 537) rfl (XT.ii_eq_f (fun y => z1 (Ow.ofNat_inj (j := 3) (by omega) (by omega) y))) ?_
        have J548 : ¬ (ld ≠ 3 ∧ (q = B.length ∨ Ow.low cc = B.getD q 0)) → Ow.WP p l e room_1 s m #[.int sel, .int fl, .int pos, .int chs, .int mo] below meth c Z EL1 bb (fun v h' W' => v = some (.int 1)) 548 [.val (.int sel), .val (.int fl), .val (.int pos), .val (.int chs), .val (.int mo), .val (.int (Int32.ofNat 1)), .val (.int (Int32.ofNat ld)), .val (.int (Int32.ofNat tr)), .val (.int (Int32.ofNat t)), .val (.int cc), .val (.int ee), .val (.int d0), .val (.int d1), .val (.int d2), .val (.ref sb), .val (.int (Int32.ofNat B.length)), .val (.int (Int32.ofNat core)), .val (.int (Int32.ofNat q)), .val (.int (Int32.ofNat n)), .val (.ref av), .val (.int i20), .unset, .val (.int (Int32.ofNat w))] [] h8 [av] 3 88 := by
          intro no
          refine Ow.iload C at_548 (pc' := 550) rfl rfl ?_
          refine Ow.bipush C (11 : Int32) at_550 (pc' := 552) rfl rfl ?_
          by_cases y1 : q = 11
          · refine Ow.icmpN C at_552 (pc' := 555) rfl (XT.ii_ne_f (by rw [y1]; rfl)) ?_
            refine Ow.iload C at_555 (pc' := 557) rfl rfl ?_
            refine Ow.bipush C (43 : Int32) at_557 (pc' := 559) rfl rfl ?_
            by_cases y2 : cc = 43
            · refine Ow.icmpN C at_559 (pc' := 562) rfl (XT.ii_ne_f y2) ?_
              exact E1 ⟨fun _ => ⟨z1, Or.inr ⟨y1, y2⟩⟩, fun z => absurd z (by decide)⟩
            · refine Ow.icmpY C 566 at_559 (XT.ii_ne_t y2) (by decide) (by decide) ?_
              exact E0 (fun z => (z.1 rfl).2.elim no (fun u => y2 u.2))
          · refine Ow.icmpY C 566 at_552 (XT.ii_ne_t (fun y => y1 (Ow.ofNat_inj (j := 11) (by omega) (by omega) y))) (by decide) (by decide) ?_
            exact E0 (fun z => (z.1 rfl).2.elim no (fun u => y1 u.1))
        refine Ow.iload C at_537 (pc' := 539) rfl rfl ?_
        refine Ow.iconst C (3 : Int32) at_539 (pc' := 540) rfl rfl ?_
        by_cases z2 : ld = 3
        · refine Ow.icmpY C 548 at_540 (XT.ii_eq_t (by rw [z2]; rfl)) (by decide) (by decide) ?_
          exact J548 (fun z => z.1 z2)
        · refine Ow.icmpN C at_540 (pc' := 543) rfl (XT.ii_eq_f (fun y => z2 (Ow.ofNat_inj (j := 3) (by omega) (by omega) y))) ?_
          refine Ow.iload C at_543 (pc' := 545) rfl rfl ?_
          rcases hw with ⟨rfl, u⟩ | ⟨rfl, u⟩
          · refine Ow.ifCY C 562 at_545 (XT.i0_ne_t (by decide)) (by decide) (by decide) ?_
            exact E1 ⟨fun _ => ⟨z1, Or.inl ⟨z2, u⟩⟩, fun z => absurd z (by decide)⟩
          · refine Ow.ifCN C at_545 (pc' := 548) rfl (XT.i0_ne_f rfl) ?_
            exact J548 (fun z => u z.2)
  intro x o22 hx ho22
  refine Ow.newO C (tw55 G.1) (tw2 G.1) (tw1 G.1) at_628 (pc' := 631) rfl (by first | decide | (dsimp only; omega) | (simp [Value.category]; done) | (simp [Value.category]; omega)) (by first | decide | (dsimp only; omega) | (simp [Value.category]; done) | (simp [Value.category]; omega)) (fun hy ay sy zy ly Ey ⟨Ay, Dy⟩ => ?_)
  refine Ow.dup C at_631 (pc' := 632) rfl rfl ?_
  refine Ow.aload C at_632 (pc' := 634) rfl rfl rfl ?_
  have lT := V8.lt
  have hT := R8.mem
  refine Ow.callI C rfl (tw56 G.1) (tw57 G.1) (tw1 G.1) (tw58 G.1) (by decide) (con_I0 G 20 ay av T hy _ _ _ Ay (Dy (Or.inr (tw4 G.1)) (ty := .array .byte) (by decide)) (Dy (Or.inr (tw5 G.1)) (ty := .byte) (by decide)) (by simp) (V8.ext Ey) (by omega) hT (by omega) (by decide)) (fun _ q => q) pd_35 rfl rfl rfl at_634 (pc' := 637) rfl (Wt := 1) (Nat.le_refl _) (by first | decide | (dsimp only; omega) | (simp [Value.category]; done) | (simp [Value.category]; omega)) (by first | decide | (dsimp only; omega) | (simp [Value.category]; done) | (simp [Value.category]; omega)) (by first | decide | (dsimp only; omega) | (simp [Value.category]; done) | (simp [Value.category]; omega)) (by first | decide | (dsimp only; omega) | (simp [Value.category]; done) | (simp [Value.category]; omega)) (fun vz hz Wz ⟨ez, dz, Sz, Kz, _⟩ sz => ?_)
  subst ez
  dsimp only [Option.toList, List.cons_append, List.nil_append]
  refine Ow.callS C (tw76 G.1) (tw77 G.1) (tw78 G.1) (tw79 G.1) (by decide) (con_IJ G 20 ay dz T (by omega) (by decide) hz _ Sz) (fun _ q => q) pd_30 rfl rfl rfl at_637 (pc' := 640) rfl (Wt := 0) (Nat.le_refl _) (by first | decide | (dsimp only; omega) | (simp [Value.category]; done) | (simp [Value.category]; omega)) (by first | decide | (dsimp only; omega) | (simp [Value.category]; done) | (simp [Value.category]; omega)) (by first | decide | (dsimp only; omega) | (simp [Value.category]; done) | (simp [Value.category]; omega)) (by first | decide | (dsimp only; omega) | (simp [Value.category]; done) | (simp [Value.category]; omega)) (fun vk hk Wk ⟨r, p', s', e', ek, hS, hQ, hr⟩ sk => ?_)
  subst ek
  dsimp only [Option.toList, List.cons_append, List.nil_append]
  have hr' : r = Int32.ofNat x := by
    have dd : md = 0 → T.getD la 0 = d0 ∧ T.getD (la + 1) 0 = d1 ∧ T.getD (la + 2) 0 = d2 := fun z => by
      have o3 : off = 3 := by rw [hoff, z]; rfl
      rw [pre8 la (by omega), pre8 (la + 1) (by omega), pre8 (la + 2) (by omega)]; exact d4 z
    have iff := law_iff hT hS hQ hB (q := q) (cc := cc) (d0 := d0) (d1 := d1) (d2 := d2) (ld := ld) (tr := tr) (t := t) (la := la) (off := off) (ta := ta) hla hta hoff hld htr ht (by omega) (by omega) (fun z => by rw [pre8 0 (by rw [hla, if_neg z]; omega)]; exact p4 z) dd b8 q8 t8 s8 r_cc r_d0 r_d1 r_d2
    rcases hr with ⟨rfl, u⟩ | ⟨rfl, u⟩ <;> rcases hx with ⟨rfl, w⟩ | ⟨rfl, w⟩
    · rfl
    · exact absurd (iff.mp u) w
    · exact absurd (iff.mpr w) u
    · rfl
  refine Ow.iload C at_640 (pc' := 642) rfl rfl ?_
  refine Ow.icmpN C at_642 (pc' := 645) rfl (XT.ii_ne_f hr') ?_
  refine Ow.iconst C (1 : Int32) at_645 (pc' := 646) rfl rfl ?_
  refine Ow.goto C 650 at_646 (by decide) (by decide) ?_
  refine Ow.retN C (t := .boolean) rfl (by simp) at_650 (by first | decide | (dsimp only; omega) | (simp [Value.category]; done) | (simp [Value.category]; omega)) (by first | decide | (dsimp only; omega) | (simp [Value.category]; done) | (simp [Value.category]; omega)) [] (by simp) rfl

end Law
set_option maxRecDepth 65536 in
set_option maxHeartbeats 40000000 in
theorem comes_1 {Post : Tables → Env → Array Value → State → Outcome → State → Prop} (hpost : ∀ tb e args s v u, (limb_1_1.after args s (.returned v) u = true ∧ limb_1_2.after args s (.returned v) u = true ∧ True) → ReturnedEndW s (.returned v) u (Jvm.fieldLocs frame_1_writes args s ++ Jvm.arrayLocs frame_1_arrays args s ++ Jvm.staticLocs frame_1_statics s) 48 8512 → Post tb e args s (.returned v) u) :
    ArmFor flags0 classFile x code maxLocals ret World_1 tables_1 room_1 Calls_1 rest_1 Pre_1 Post := by
  intro l hfl _ _ p e ha hc hk s m args below hf hA hF happ hP
  obtain ⟨hcalls, hrest, hpre⟩ := hP
  obtain ⟨-, -, -, hnamed, -, -, -, hat⟩ := (Spec.applies_iff hf).mp happ
  obtain ⟨hg, hn⟩ := and_e (Cond.before_iff.mp (show (Jvm.Cond.and given_1 narrow_1).before args s = true from hpre))
  obtain ⟨h1, h2⟩ := and_e hg
  obtain ⟨w0, w1, w2, w3, w4, rfl⟩ : ∃ w0 w1 w2 w3 w4 : Value, args = #[w0, w1, w2, w3, w4] := by
    have hs : args.size = 5 := by simpa [Cond.value, given_1] using h1
    obtain ⟨L⟩ := args
    match L, hs with
    | [w0, w1, w2, w3, w4], _ => exact ⟨w0, w1, w2, w3, w4, rfl⟩
  have hw := fun d (hd : d ∈ tables_1) => atoms_spec (ws := Jvm.Cond.code x code maxLocals ret :: tables_1) hat d (List.mem_cons_of_mem _ hd)
  obtain ⟨hsets, hown0⟩ := atoms_of _ (rest_1_c_eq ▸ (show rest_1_c.before _ s = true from hrest))
  have hfit : Fit s := fun {y c} hc i hi => by
    obtain ⟨ha, rfl⟩ := Array.getElem?_eq_some_iff.mp hc
    have q := List.all_eq_true.mp ((Array.all_eq_true_iff_forall_mem.mp hF) _ (Array.getElem_mem ha)) i (List.mem_range.mpr hi)
    simpa [Array.getElem?_eq_getElem hi] using q
  obtain ⟨q0, h2⟩ := and_e h2
  obtain ⟨q1, h2⟩ := and_e h2
  obtain ⟨q2, h2⟩ := and_e h2
  obtain ⟨q3, h2⟩ := and_e h2
  have q4 := h2
  obtain ⟨i0, e0⟩ := is_v q0
  obtain rfl : w0 = (.int i0) := Option.some.inj e0
  obtain ⟨i1, e1⟩ := is_v q1
  obtain rfl : w1 = (.int i1) := Option.some.inj e1
  obtain ⟨i2, e2⟩ := is_v q2
  obtain rfl : w2 = (.int i2) := Option.some.inj e2
  obtain ⟨i3, e3⟩ := is_v q3
  obtain rfl : w3 = (.int i3) := Option.some.inj e3
  obtain ⟨i4, e4⟩ := is_v q4
  obtain rfl : w4 = (.int i4) := Option.some.inj e4
  have n3 := not_v (Cond.before_iff.mp (hsets _ (List.mem_of_getElem? (i := 2) rfl)))
  obtain ⟨cv, ecv⟩ := is_v (Cond.before_iff.mp (hsets _ (List.mem_of_getElem? (i := 1) rfl)))
  have Scv : Sta s s.heap "java/lang/String" "COMPACT_STRINGS" "Z" (.int cv) := Sta.start ecv (Or.inl (hsets _ (List.mem_of_getElem? (i := 0) rfl)))
  have hcv : ¬ (cv = (0 : Int32)) := gotF (Cond.eq_ints ecv (Term.int_eval (0))) n3
  have sw := isR_v (Cond.before_iff.mp (hsets _ (List.mem_of_getElem? (i := 8) rfl)))
  obtain ⟨w, ew, hw'⟩ := sw
  have G : Glob s _ := ⟨hw, ⟨cv, hcv, Scv⟩, LocOk.start (hsets _ (List.mem_of_getElem? (i := 274) rfl)) (hsets _ (List.mem_of_getElem? (i := 275) rfl)) (hsets _ (List.mem_of_getElem? (i := 276) rfl)) (hsets _ (List.mem_of_getElem? (i := 277) rfl)) (hsets _ (List.mem_of_getElem? (i := 279) rfl)) (hsets _ (List.mem_of_getElem? (i := 281) rfl)), CdOk.start (hsets _ (List.mem_of_getElem? (i := 10) rfl)) (hsets _ (List.mem_of_getElem? (i := 11) rfl)), AT_start hfit hsets (hsets _ (List.mem_of_getElem? (i := 13) rfl)) (hsets _ (List.mem_of_getElem? (i := 14) rfl)) (hsets _ (List.mem_of_getElem? (i := 16) rfl)), ⟨w, Sta.start ew (Or.inl (hsets _ (List.mem_of_getElem? (i := 7) rfl))), hw'⟩⟩
  obtain ⟨n, o, h1, h2, h3, _, L, rfl, ⟨W', rfl, -, -, N⟩, -, hq, hq'⟩ := con_law G i0 i1 i2 i3 i4 p e ha hc hk s m _ below hf ((Spec.applies_iff_loose hf).mp happ).1 ⟨rfl, State.Warmed39.refl s, rfl, (CHv.start (ewG G) (fun p hp => hcalls.1 p hp) (show Jvm.Lit.compactW.before _ s = true from (hsets _ (List.mem_of_getElem? (i := 2) rfl))) (tw3 G.1) (tw2 G.1)), Old.start s, Ow.Own.nil⟩ trivial
  exact ⟨n, _, h1, h2, h3, hpost _ _ _ _ _ _ ⟨Cond.after_iff.mpr rfl, Cond.after_iff.mpr (eq_i res_at (Term.int_eval (1)) rfl), trivial⟩ ⟨hq.1, hq.2.1, hq.2.2.1, (hq.2.2.2.sift fun y hy => Or.inr (N y hy)).mono (by decide) (by decide)⟩⟩
theorem main_1_1 : Claimed_1_1 := comes_1 fun _ _ _ _ _ _ h hF => ⟨h.1, hF⟩
theorem main_1_2 : Claimed_1_2 := comes_1 fun _ _ _ _ _ _ h hF => ⟨h.2.1, hF⟩

end Jvm.Pilot.@@N@@
namespace Jvm.Pilot.@@N@@
open Jvm Jvm.ClassFile Sem Op Lib Jvm.Free Jvm.Stand Jvm.Pilot.@@N@@.Jvm.D
/-! MADE BY PROGRAM (witnessworld.py) out of the Statement's table words and the real class files: 27 classes; the members and pool entries that the words name. The judged class is class 1, her method 5. -/
namespace start1
open Jvm.ClassFile
def u (s : String) : CpInfo := .utf8 (stringToUtf16 s)
/-- a pool by its gaps: so many unusable entries, then the entry; so many at the end -/
def gap : Nat → List CpInfo → List CpInfo
  | 0, r => r
  | n + 1, r => .unusable :: gap n r
def poolList (es : List (Nat × CpInfo)) (last : Nat) : List CpInfo := es.foldr (fun e r => gap e.1 (e.2 :: r)) (gap last [])
def pool (es : List (Nat × CpInfo)) (last : Nat) : Array CpInfo := ⟨poolList es last⟩
def fileOf (pool : Array CpInfo) (this : Nat) (attrs : Array Attribute := #[]) (ms : Array MethodInfo := #[]) (fl : Nat := 33) (sup : Nat := 0) (ifs : Array Nat := #[]) (fds : Array FieldInfo := #[]) : ClassFile where
  minorVersion := 0
  majorVersion := 65
  constantPool := pool
  accessFlags := fl
  thisClass := this
  superClass := sup
  interfaces := ifs
  fields := fds
  methods := ms
  attributes := attrs
def plain (name : String) (sup : Option ClassId) : Class where
  name := name
  kind := .ordinary
  loader := none
  accessFlags := 33
  super := sup
  interfaces := #[]
  cf := none
  fields := #[]
  methods := #[]
  instanceTypes := #[]
  staticTypes := #[]
  resolved := #[]
  callSites := []
  init := .initialized
  statics := none
  mirror := none

def pool0 : Array CpInfo := pool [(5, u "<init>"), (0, u "()V"), (1, .class_ 10), (1, u "java/lang/Object")] 113

def k0c0 : Code := { maxStack := 0, maxLocals := 1, code := object_method_1_code, exceptionTable := #[], attributes := #[] }
def k0m0 : Method := { name := "<init>", desc := "()V", sig := { parameters := [], returnType := none }, accessFlags := 1, code := some k0c0 }
/-- java/lang/Object -/
def k0 : Class := { plain "java/lang/Object" none with
  accessFlags := 33
  interfaces := #[]
  cf := some (fileOf pool0 8 #[] #[{ accessFlags := 1, nameIndex := 5, descriptorIndex := 6, attributes := #[] }] 33 0 #[] #[])
  fields := #[]
  methods := #[k0m0]
  instanceTypes := #[]
  staticTypes := #[]
  resolved := Array.replicate 124 none
  statics := none }

def pool1 : Array CpInfo := pool [(2, .class_ 4), (1, u "java/lang/Object"), (0, u "<init>"), (0, u "()V"), (0, .methodref 8 9), (0, .class_ 10), (0, .nameAndType 11 12), (0, u "java/lang/String"), (0, u "length"), (0, u "()I"), (0, .methodref 8 14), (0, .nameAndType 15 16), (0, u "charAt"), (0, u "(I)C"), (0, .methodref 18 19), (0, .class_ 20), (0, .nameAndType 21 22), (0, u "com/example/archerfish/archerfish/MediaTypeIsJsonPinLaw"), (0, u "flip"), (0, u "(CII)C"), (0, .string 24), (0, u "application/json"), (0, .string 26), (0, u "+json"), (0, .integer 2147483647), (0, .methodref 18 29), (0, .nameAndType 30 16), (0, u "pad"), (0, .methodref 18 32), (0, .nameAndType 33 34), (0, u "put"), (0, u "([CILjava/lang/String;II)V"), (0, .methodref 18 36), (0, .nameAndType 37 38), (0, u "matches"), (0, u "(CC)Z"), (0, .methodref 8 40), (0, .nameAndType 5 41), (0, u "([C)V"), (0, .methodref 43 44), (0, .class_ 45), (0, .nameAndType 46 47), (0, u "com/example/archerfish/archerfish/MediaType"), (0, u "isJson"), (0, u "(Ljava/lang/String;)Z"), (3, u "law"), (0, u "(IIIII)Z")] 4

def k1m0 : Method := { name := "<init>", desc := "()V", sig := { parameters := [], returnType := none }, accessFlags := 2, code := none }
def k1c1 : Code := { maxStack := 2, maxLocals := 3, code := method_2_code, exceptionTable := #[], attributes := #[] }
def k1m1 : Method := { name := "flip", desc := "(CII)C", sig := { parameters := [.char, .int, .int], returnType := some .char }, accessFlags := 10, code := some k1c1 }
def k1c2 : Code := { maxStack := 3, maxLocals := 2, code := method_3_code, exceptionTable := #[], attributes := #[] }
def k1m2 : Method := { name := "matches", desc := "(CC)Z", sig := { parameters := [.char, .char], returnType := some .boolean }, accessFlags := 10, code := some k1c2 }
def k1c3 : Code := { maxStack := 2, maxLocals := 1, code := method_4_code, exceptionTable := #[], attributes := #[] }
def k1m3 : Method := { name := "pad", desc := "(I)C", sig := { parameters := [.int], returnType := some .char }, accessFlags := 10, code := some k1c3 }
def k1c4 : Code := { maxStack := 5, maxLocals := 5, code := method_5_code, exceptionTable := #[], attributes := #[] }
def k1m4 : Method := { name := "put", desc := "([CILjava/lang/String;II)V", sig := { parameters := [(.array .char), .int, (.object "java/lang/String"), .int, .int], returnType := none }, accessFlags := 10, code := some k1c4 }
def k1c5 : Code := { maxStack := 5, maxLocals := 23, code := code, exceptionTable := #[], attributes := #[] }
def k1m5 : Method := { name := "law", desc := "(IIIII)Z", sig := { parameters := [.int, .int, .int, .int, .int], returnType := some .boolean }, accessFlags := 9, code := some k1c5 }
/-- com/example/archerfish/archerfish/MediaTypeIsJsonPinLaw -/
def k1 : Class := { plain "com/example/archerfish/archerfish/MediaTypeIsJsonPinLaw" (some 0) with
  accessFlags := 49
  interfaces := #[]
  cf := some (fileOf pool1 18 #[] #[{ accessFlags := 2, nameIndex := 5, descriptorIndex := 6, attributes := #[] }, { accessFlags := 10, nameIndex := 21, descriptorIndex := 22, attributes := #[] }, { accessFlags := 10, nameIndex := 37, descriptorIndex := 38, attributes := #[] }, { accessFlags := 10, nameIndex := 30, descriptorIndex := 16, attributes := #[] }, { accessFlags := 10, nameIndex := 33, descriptorIndex := 34, attributes := #[] }, { accessFlags := 9, nameIndex := 51, descriptorIndex := 52, attributes := #[] }] 49 2 #[] #[])
  fields := #[]
  methods := #[k1m0, k1m1, k1m2, k1m3, k1m4, k1m5]
  instanceTypes := #[]
  staticTypes := #[]
  resolved := Array.replicate 57 none
  statics := none }

def pool2 : Array CpInfo := pool [(1, .class_ 2), (0, u "java/io/Serializable"), (0, .class_ 4), (0, u "java/lang/Object")] 2

/-- java/io/Serializable -/
def k2 : Class := { plain "java/io/Serializable" (some 0) with
  accessFlags := 1537
  interfaces := #[]
  cf := some (fileOf pool2 1 #[] #[] 1537 3 #[] #[])
  fields := #[]
  methods := #[]
  instanceTypes := #[]
  staticTypes := #[]
  resolved := Array.replicate 7 none
  statics := none }

def pool3 : Array CpInfo := pool [(1, .class_ 2), (0, u "java/lang/Comparable"), (0, .class_ 4), (0, u "java/lang/Object")] 7

/-- java/lang/Comparable -/
def k3 : Class := { plain "java/lang/Comparable" (some 0) with
  accessFlags := 1537
  interfaces := #[]
  cf := some (fileOf pool3 1 #[] #[] 1537 3 #[] #[])
  fields := #[]
  methods := #[]
  instanceTypes := #[]
  staticTypes := #[]
  resolved := Array.replicate 12 none
  statics := none }

def pool4 : Array CpInfo := pool [(2, .class_ 4), (1, u "java/lang/CharSequence"), (42, .class_ 48), (0, u "java/lang/CharSequence$1CodePointIterator"), (10, .class_ 60), (0, u "java/lang/CharSequence$1CharIterator"), (5, .class_ 67), (0, u "java/lang/Object")] 63

/-- java/lang/CharSequence -/
def k4 : Class := { plain "java/lang/CharSequence" (some 0) with
  accessFlags := 1537
  interfaces := #[]
  cf := some (fileOf pool4 2 #[.nestMembers #[47, 59]] #[] 1537 66 #[] #[])
  fields := #[]
  methods := #[]
  instanceTypes := #[]
  staticTypes := #[]
  resolved := Array.replicate 131 none
  statics := none }

def pool5 : Array CpInfo := pool [(1, .class_ 2), (0, u "java/lang/constant/Constable"), (0, .class_ 4), (0, u "java/lang/Object")] 6

/-- java/lang/constant/Constable -/
def k5 : Class := { plain "java/lang/constant/Constable" (some 0) with
  accessFlags := 1537
  interfaces := #[]
  cf := some (fileOf pool5 1 #[] #[] 1537 3 #[] #[])
  fields := #[]
  methods := #[]
  instanceTypes := #[]
  staticTypes := #[]
  resolved := Array.replicate 11 none
  statics := none }

def pool6 : Array CpInfo := pool [(1, .class_ 2), (0, u "java/lang/constant/ConstantDesc"), (0, .class_ 4), (0, u "java/lang/Object")] 32

/-- java/lang/constant/ConstantDesc -/
def k6 : Class := { plain "java/lang/constant/ConstantDesc" (some 0) with
  accessFlags := 1537
  interfaces := #[]
  cf := some (fileOf pool6 1 #[] #[] 1537 3 #[] #[])
  fields := #[]
  methods := #[]
  instanceTypes := #[]
  staticTypes := #[]
  resolved := Array.replicate 37 none
  statics := none }

def pool7 : Array CpInfo := pool [(1, .methodref 2 3), (0, .class_ 4), (0, .nameAndType 5 6), (0, u "java/lang/Object"), (0, u "<init>"), (0, u "()V"), (2, .fieldref 10 11), (0, .class_ 12), (0, .nameAndType 13 14), (0, u "java/lang/String"), (0, u "value"), (0, u "[B"), (0, .fieldref 10 16), (0, .nameAndType 17 18), (0, u "coder"), (0, u "B"), (2, u "hash"), (0, u "I"), (2, u "hashIsZero"), (0, u "Z"), (0, .methodref 10 28), (0, .nameAndType 5 29), (0, u "([CIILjava/lang/Void;)V"), (8, .fieldref 10 39), (0, .nameAndType 40 26), (0, u "COMPACT_STRINGS"), (1, .class_ 44), (1, u "java/lang/StringUTF16"), (0, u "compress"), (1, .methodref 42 48), (0, .nameAndType 49 50), (0, u "coderFromArrayLen"), (0, u "([BI)B"), (56, .class_ 109), (1, u "java/lang/StringLatin1"), (32, u "()Z"), (34, .methodref 42 178), (0, .nameAndType 45 179), (0, u "([CII)[B"), (31, u "([BB)V"), (122, u "()I"), (0, .methodref 10 336), (0, .nameAndType 17 337), (0, u "()B"), (25, u "([BI)C"), (12, u "([BI[BII)I"), (14, u "(II)V"), (35, u "(I)C"), (36, u "()Ljava/lang/String;"), (27, .methodref 10 493), (0, .nameAndType 494 142), (0, u "isLatin1"), (0, .methodref 107 496), (0, .nameAndType 497 363), (0, u "charAt"), (3, u "checkIndex"), (3, .methodref 10 506), (0, .nameAndType 507 334), (0, u "length"), (5, u "checkFromToIndex"), (7, .methodref 10 522), (0, .nameAndType 523 524), (0, u "checkBoundsBeginEnd"), (0, u "(III)V"), (16, .methodref 107 542), (0, .nameAndType 543 544), (0, u "equals"), (0, u "([B[B)Z"), (14, .class_ 561), (1, u "jdk/internal/util/ArraysSupport"), (0, u "mismatch"), (10, u "(Ljava/lang/Object;)Z"), (1, .class_ 576), (0, u "java/lang/CharSequence"), (22, u "CASE_INSENSITIVE_ORDER"), (0, u "Ljava/util/Comparator;"), (6, .methodref 559 608), (0, .nameAndType 562 376), (15, .methodref 10 625), (0, .nameAndType 626 627), (0, u "startsWith"), (0, u "(Ljava/lang/String;I)Z"), (5, .methodref 10 634), (0, .nameAndType 635 636), (0, u "indexOf"), (0, u "(II)I"), (0, .methodref 107 638), (0, .nameAndType 635 639), (0, u "([BIII)I"), (43, u "substring"), (0, u "(II)Ljava/lang/String;"), (0, .methodref 107 686), (0, .nameAndType 687 688), (0, u "newString"), (0, u "([BII)Ljava/lang/String;"), (76, u "(I)I"), (73, .methodref 107 840), (0, .nameAndType 841 842), (0, u "toLowerCase"), (0, u "(Ljava/lang/String;[BLjava/util/Locale;)Ljava/lang/String;"), (9, u "(Ljava/util/Locale;)Ljava/lang/String;"), (9, u "([B)Ljava/lang/String;"), (1, .methodref 107 865), (0, .nameAndType 866 862), (0, u "strip"), (143, u "([C)V"), (42, .fieldref 1054 1055), (0, .class_ 1056), (0, .nameAndType 1057 1058), (0, u "jdk/internal/util/Preconditions"), (0, u "SIOOBE_FORMATTER"), (0, u "Ljava/util/function/BiFunction;"), (0, .methodref 1054 1060), (0, .nameAndType 501 1061), (0, u "(IILjava/util/function/BiFunction;)I"), (0, .methodref 1054 1063), (0, .nameAndType 513 1064), (0, u "(IIILjava/util/function/BiFunction;)I"), (36, u "serialPersistentFields"), (0, u "[Ljava/io/ObjectStreamField;"), (0, .class_ 1104), (0, u "java/lang/String$CaseInsensitiveComparator"), (1, .class_ 1107), (0, u "java/io/Serializable"), (0, .class_ 1109), (0, u "java/lang/Comparable"), (0, .class_ 1111), (0, u "java/lang/constant/Constable"), (0, .class_ 1113), (0, u "java/lang/constant/ConstantDesc"), (2, u "serialVersionUID"), (0, u "J"), (3, u "REPL"), (0, u "C"), (2, u "LATIN1"), (1, u "UTF16"), (129, u "(Ljava/lang/String;)Z"), (14, u "endsWith")] 178

def k7m0 : Method := { name := "<init>", desc := "()V", sig := { parameters := [], returnType := none }, accessFlags := 1, code := none }
def k7c1 : Code := { maxStack := 5, maxLocals := 2, code := jdk_42_method_3_code, exceptionTable := #[], attributes := #[] }
def k7m1 : Method := { name := "<init>", desc := "([C)V", sig := { parameters := [(.array .char)], returnType := none }, accessFlags := 1, code := some k7c1 }
def k7c2 : Code := { maxStack := 2, maxLocals := 1, code := jdk_42_method_54_code, exceptionTable := #[], attributes := #[] }
def k7m2 : Method := { name := "length", desc := "()I", sig := { parameters := [], returnType := some .int }, accessFlags := 1, code := some k7c2 }
def k7c3 : Code := { maxStack := 2, maxLocals := 2, code := jdk_42_method_56_code, exceptionTable := #[], attributes := #[] }
def k7m3 : Method := { name := "charAt", desc := "(I)C", sig := { parameters := [.int], returnType := some .char }, accessFlags := 1, code := some k7c3 }
def k7c4 : Code := { maxStack := 2, maxLocals := 3, code := jdk_42_method_66_code, exceptionTable := #[], attributes := #[] }
def k7m4 : Method := { name := "equals", desc := "(Ljava/lang/Object;)Z", sig := { parameters := [(.object "java/lang/Object")], returnType := some .boolean }, accessFlags := 1, code := some k7c4 }
def k7c5 : Code := { maxStack := 5, maxLocals := 8, code := jdk_42_method_75_code, exceptionTable := #[], attributes := #[] }
def k7m5 : Method := { name := "startsWith", desc := "(Ljava/lang/String;I)Z", sig := { parameters := [(.object "java/lang/String"), .int], returnType := some .boolean }, accessFlags := 1, code := some k7c5 }
def k7c6 : Code := { maxStack := 4, maxLocals := 2, code := jdk_42_method_77_code, exceptionTable := #[], attributes := #[] }
def k7m6 : Method := { name := "endsWith", desc := "(Ljava/lang/String;)Z", sig := { parameters := [(.object "java/lang/String")], returnType := some .boolean }, accessFlags := 1, code := some k7c6 }
def k7c7 : Code := { maxStack := 3, maxLocals := 2, code := jdk_42_method_79_code, exceptionTable := #[], attributes := #[] }
def k7m7 : Method := { name := "indexOf", desc := "(I)I", sig := { parameters := [.int], returnType := some .int }, accessFlags := 1, code := some k7c7 }
def k7c8 : Code := { maxStack := 4, maxLocals := 3, code := jdk_42_method_80_code, exceptionTable := #[], attributes := #[] }
def k7m8 : Method := { name := "indexOf", desc := "(II)I", sig := { parameters := [.int, .int], returnType := some .int }, accessFlags := 1, code := some k7c8 }
def k7c9 : Code := { maxStack := 3, maxLocals := 5, code := jdk_42_method_92_code, exceptionTable := #[], attributes := #[] }
def k7m9 : Method := { name := "substring", desc := "(II)Ljava/lang/String;", sig := { parameters := [.int, .int], returnType := some (.object "java/lang/String") }, accessFlags := 1, code := some k7c9 }
def k7c10 : Code := { maxStack := 3, maxLocals := 2, code := jdk_42_method_109_code, exceptionTable := #[], attributes := #[] }
def k7m10 : Method := { name := "toLowerCase", desc := "(Ljava/util/Locale;)Ljava/lang/String;", sig := { parameters := [(.object "java/util/Locale")], returnType := some (.object "java/lang/String") }, accessFlags := 1, code := some k7c10 }
def k7c11 : Code := { maxStack := 1, maxLocals := 2, code := jdk_42_method_114_code, exceptionTable := #[], attributes := #[] }
def k7m11 : Method := { name := "strip", desc := "()Ljava/lang/String;", sig := { parameters := [], returnType := some (.object "java/lang/String") }, accessFlags := 1, code := some k7c11 }
def k7c12 : Code := { maxStack := 4, maxLocals := 6, code := jdk_42_method_149_code, exceptionTable := #[], attributes := #[] }
def k7m12 : Method := { name := "<init>", desc := "([CIILjava/lang/Void;)V", sig := { parameters := [(.array .char), .int, .int, (.object "java/lang/Void")], returnType := none }, accessFlags := 2, code := some k7c12 }
def k7c13 : Code := { maxStack := 2, maxLocals := 3, code := jdk_42_method_151_code, exceptionTable := #[], attributes := #[] }
def k7m13 : Method := { name := "<init>", desc := "([BB)V", sig := { parameters := [(.array .byte), .byte], returnType := none }, accessFlags := 0, code := some k7c13 }
def k7c14 : Code := { maxStack := 1, maxLocals := 1, code := jdk_42_method_152_code, exceptionTable := #[], attributes := #[] }
def k7m14 : Method := { name := "coder", desc := "()B", sig := { parameters := [], returnType := some .byte }, accessFlags := 0, code := some k7c14 }
def k7c15 : Code := { maxStack := 1, maxLocals := 1, code := jdk_42_method_154_code, exceptionTable := #[], attributes := #[] }
def k7m15 : Method := { name := "isLatin1", desc := "()Z", sig := { parameters := [], returnType := some .boolean }, accessFlags := 0, code := some k7c15 }
def k7c16 : Code := { maxStack := 3, maxLocals := 2, code := jdk_42_method_155_code, exceptionTable := #[], attributes := #[] }
def k7m16 : Method := { name := "checkIndex", desc := "(II)V", sig := { parameters := [.int, .int], returnType := none }, accessFlags := 8, code := some k7c16 }
def k7c17 : Code := { maxStack := 4, maxLocals := 3, code := jdk_42_method_158_code, exceptionTable := #[], attributes := #[] }
def k7m17 : Method := { name := "checkBoundsBeginEnd", desc := "(III)V", sig := { parameters := [.int, .int, .int], returnType := none }, accessFlags := 8, code := some k7c17 }
/-- java/lang/String -/
def k7 : Class := { plain "java/lang/String" (some 0) with
  accessFlags := 49
  interfaces := #[2, 3, 4, 5, 6]
  cf := some (fileOf pool7 10 #[.nestMembers #[1103]] #[{ accessFlags := 1, nameIndex := 5, descriptorIndex := 6, attributes := #[] }, { accessFlags := 1, nameIndex := 5, descriptorIndex := 1010, attributes := #[] }, { accessFlags := 1, nameIndex := 507, descriptorIndex := 334, attributes := #[] }, { accessFlags := 1, nameIndex := 497, descriptorIndex := 427, attributes := #[] }, { accessFlags := 1, nameIndex := 543, descriptorIndex := 573, attributes := #[] }, { accessFlags := 1, nameIndex := 626, descriptorIndex := 627, attributes := #[] }, { accessFlags := 1, nameIndex := 1272, descriptorIndex := 1257, attributes := #[] }, { accessFlags := 1, nameIndex := 635, descriptorIndex := 765, attributes := #[] }, { accessFlags := 1, nameIndex := 635, descriptorIndex := 636, attributes := #[] }, { accessFlags := 1, nameIndex := 683, descriptorIndex := 684, attributes := #[] }, { accessFlags := 1, nameIndex := 841, descriptorIndex := 852, attributes := #[] }, { accessFlags := 1, nameIndex := 866, descriptorIndex := 464, attributes := #[] }, { accessFlags := 2, nameIndex := 5, descriptorIndex := 29, attributes := #[] }, { accessFlags := 0, nameIndex := 5, descriptorIndex := 211, attributes := #[] }, { accessFlags := 0, nameIndex := 17, descriptorIndex := 337, attributes := #[] }, { accessFlags := 0, nameIndex := 494, descriptorIndex := 142, attributes := #[] }, { accessFlags := 8, nameIndex := 501, descriptorIndex := 391, attributes := #[] }, { accessFlags := 8, nameIndex := 523, descriptorIndex := 524, attributes := #[] }] 49 2 #[1106, 1108, 575, 1110, 1112] #[{ accessFlags := 18, nameIndex := 13, descriptorIndex := 14, attributes := #[] }, { accessFlags := 18, nameIndex := 17, descriptorIndex := 18, attributes := #[] }, { accessFlags := 2, nameIndex := 21, descriptorIndex := 22, attributes := #[] }, { accessFlags := 2, nameIndex := 25, descriptorIndex := 26, attributes := #[] }, { accessFlags := 26, nameIndex := 1116, descriptorIndex := 1117, attributes := #[] }, { accessFlags := 24, nameIndex := 40, descriptorIndex := 26, attributes := #[] }, { accessFlags := 26, nameIndex := 1101, descriptorIndex := 1102, attributes := #[] }, { accessFlags := 26, nameIndex := 1121, descriptorIndex := 1122, attributes := #[] }, { accessFlags := 25, nameIndex := 599, descriptorIndex := 600, attributes := #[] }, { accessFlags := 24, nameIndex := 1125, descriptorIndex := 18, attributes := #[] }, { accessFlags := 24, nameIndex := 1127, descriptorIndex := 18, attributes := #[] }])
  fields := #[{ name := "value", type := (.array .byte), accessFlags := 18, slot := 0, constantValue := 0 }, { name := "coder", type := .byte, accessFlags := 18, slot := 1, constantValue := 0 }, { name := "hash", type := .int, accessFlags := 2, slot := 2, constantValue := 0 }, { name := "hashIsZero", type := .boolean, accessFlags := 2, slot := 3, constantValue := 0 }, { name := "serialVersionUID", type := .long, accessFlags := 26, slot := 0, constantValue := 0 }, { name := "COMPACT_STRINGS", type := .boolean, accessFlags := 24, slot := 1, constantValue := 0 }, { name := "serialPersistentFields", type := (.array (.object "java/io/ObjectStreamField")), accessFlags := 26, slot := 2, constantValue := 0 }, { name := "REPL", type := .char, accessFlags := 26, slot := 3, constantValue := 0 }, { name := "CASE_INSENSITIVE_ORDER", type := (.object "java/util/Comparator"), accessFlags := 25, slot := 4, constantValue := 0 }, { name := "LATIN1", type := .byte, accessFlags := 24, slot := 5, constantValue := 0 }, { name := "UTF16", type := .byte, accessFlags := 24, slot := 6, constantValue := 0 }]
  methods := #[k7m0, k7m1, k7m2, k7m3, k7m4, k7m5, k7m6, k7m7, k7m8, k7m9, k7m10, k7m11, k7m12, k7m13, k7m14, k7m15, k7m16, k7m17]
  instanceTypes := #[(.array .byte), .byte, .int, .boolean]
  staticTypes := #[.long, .boolean, (.array (.object "java/io/ObjectStreamField")), .char, (.object "java/util/Comparator"), .byte, .byte]
  resolved := Array.replicate 1451 none
  statics := some 0 }

def pool8 : Array CpInfo := pool [(1, .class_ 2), (0, u "java/lang/String"), (1, .class_ 6), (1, u "java/lang/Object"), (0, u "<init>"), (0, u "()V"), (0, .methodref 1 10), (0, .nameAndType 11 12), (0, u "checkIndex"), (0, u "(II)V"), (1, .class_ 16), (1, u "java/lang/StringLatin1"), (11, .methodref 29 30), (0, .class_ 31), (0, .nameAndType 32 33), (0, u "java/lang/System"), (0, u "arraycopy"), (0, u "(Ljava/lang/Object;ILjava/lang/Object;II)V"), (4, .methodref 39 40), (0, .class_ 41), (0, .nameAndType 42 43), (0, u "java/lang/Math"), (0, u "min"), (0, u "(II)I"), (6, .methodref 14 51), (0, .nameAndType 52 53), (0, u "getChar"), (0, u "([BI)C"), (3, u "([B)I"), (8, .fieldref 67 68), (0, .class_ 69), (0, .nameAndType 70 71), (0, u "java/lang/CharacterDataLatin1"), (0, u "instance"), (0, u "Ljava/lang/CharacterDataLatin1;"), (3, u "(I)I"), (4, u "toLowerCase"), (7, .methodref 14 89), (0, .nameAndType 90 91), (0, u "canEncode"), (0, u "(I)Z"), (0, .methodref 39 93), (0, .nameAndType 94 43), (0, u "max"), (0, .methodref 14 96), (0, .nameAndType 97 98), (0, u "indexOfChar"), (0, u "([BIII)I"), (2, u "indexOf"), (10, .methodref 1 113), (0, .nameAndType 7 114), (0, u "([BB)V"), (6, u "$assertionsDisabled"), (0, u "Z"), (8, .class_ 133), (1, u "java/util/Arrays"), (17, .string 152), (0, u ""), (7, .methodref 67 161), (0, .nameAndType 80 75), (0, .methodref 163 164), (0, .class_ 165), (0, .nameAndType 166 167), (0, u "java/util/Locale"), (0, u "getLanguage"), (0, u "()Ljava/lang/String;"), (0, .string 169), (0, u "tr"), (0, .string 171), (0, u "az"), (0, .string 173), (0, u "lt"), (21, .nameAndType 196 197), (0, u "newString"), (0, u "([BII)Ljava/lang/String;"), (12, .methodref 14 195), (0, .methodref 67 212), (0, .nameAndType 213 91), (0, u "isWhitespace"), (0, .methodref 14 215), (0, .nameAndType 216 57), (0, u "indexOfNonWhitespace"), (0, .methodref 14 218), (0, .nameAndType 219 57), (0, u "lastIndexOfNonWhitespace"), (1, .class_ 223), (1, u "java/lang/StringLatin1$LinesSpliterator"), (8, .methodref 131 233), (0, .nameAndType 234 235), (0, u "copyOfRange"), (0, u "([BII)[B"), (16, u "charAt"), (28, u "equals"), (0, u "([B[B)Z"), (67, u "(Ljava/lang/String;[BLjava/util/Locale;)Ljava/lang/String;"), (16, u "([B)Ljava/lang/String;"), (3, u "strip"), (18, .class_ 391), (0, u "java/lang/StringLatin1$CharsSpliterator")] 3

def k8m0 : Method := { name := "<init>", desc := "()V", sig := { parameters := [], returnType := none }, accessFlags := 0, code := none }
def k8c1 : Code := { maxStack := 2, maxLocals := 2, code := jdk_43_method_2_code, exceptionTable := #[], attributes := #[] }
def k8m1 : Method := { name := "charAt", desc := "([BI)C", sig := { parameters := [(.array .byte), .int], returnType := some .char }, accessFlags := 9, code := some k8c1 }
def k8c2 : Code := { maxStack := 2, maxLocals := 1, code := jdk_43_method_4_code, exceptionTable := #[], attributes := #[] }
def k8m2 : Method := { name := "canEncode", desc := "(I)Z", sig := { parameters := [.int], returnType := some .boolean }, accessFlags := 9, code := some k8c2 }
def k8c3 : Code := { maxStack := 3, maxLocals := 3, code := jdk_43_method_13_code, exceptionTable := #[], attributes := #[] }
def k8m3 : Method := { name := "equals", desc := "([B[B)Z", sig := { parameters := [(.array .byte), (.array .byte)], returnType := some .boolean }, accessFlags := 9, code := some k8c3 }
def k8c4 : Code := { maxStack := 4, maxLocals := 4, code := jdk_43_method_22_code, exceptionTable := #[], attributes := #[] }
def k8m4 : Method := { name := "indexOf", desc := "([BIII)I", sig := { parameters := [(.array .byte), .int, .int, .int], returnType := some .int }, accessFlags := 9, code := some k8c4 }
def k8c5 : Code := { maxStack := 2, maxLocals := 6, code := jdk_43_method_23_code, exceptionTable := #[], attributes := #[] }
def k8m5 : Method := { name := "indexOfChar", desc := "([BIII)I", sig := { parameters := [(.array .byte), .int, .int, .int], returnType := some .int }, accessFlags := 10, code := some k8c5 }
def k8c6 : Code := { maxStack := 5, maxLocals := 9, code := jdk_43_method_32_code, exceptionTable := #[], attributes := #[] }
def k8m6 : Method := { name := "toLowerCase", desc := "(Ljava/lang/String;[BLjava/util/Locale;)Ljava/lang/String;", sig := { parameters := [(.object "java/lang/String"), (.array .byte), (.object "java/util/Locale")], returnType := some (.object "java/lang/String") }, accessFlags := 9, code := some k8c6 }
def k8c7 : Code := { maxStack := 2, maxLocals := 4, code := jdk_43_method_37_code, exceptionTable := #[], attributes := #[] }
def k8m7 : Method := { name := "indexOfNonWhitespace", desc := "([B)I", sig := { parameters := [(.array .byte)], returnType := some .int }, accessFlags := 9, code := some k8c7 }
def k8c8 : Code := { maxStack := 3, maxLocals := 4, code := jdk_43_method_38_code, exceptionTable := #[], attributes := #[] }
def k8m8 : Method := { name := "lastIndexOfNonWhitespace", desc := "([B)I", sig := { parameters := [(.array .byte)], returnType := some .int }, accessFlags := 9, code := some k8c8 }
def k8c9 : Code := { maxStack := 4, maxLocals := 4, code := jdk_43_method_39_code, exceptionTable := #[], attributes := #[] }
def k8m9 : Method := { name := "strip", desc := "([B)Ljava/lang/String;", sig := { parameters := [(.array .byte)], returnType := some (.object "java/lang/String") }, accessFlags := 9, code := some k8c9 }
def k8c10 : Code := { maxStack := 2, maxLocals := 2, code := jdk_43_method_44_code, exceptionTable := #[], attributes := #[] }
def k8m10 : Method := { name := "getChar", desc := "([BI)C", sig := { parameters := [(.array .byte), .int], returnType := some .char }, accessFlags := 9, code := some k8c10 }
def k8c11 : Code := { maxStack := 6, maxLocals := 3, code := jdk_43_method_47_code, exceptionTable := #[], attributes := #[] }
def k8m11 : Method := { name := "newString", desc := "([BII)Ljava/lang/String;", sig := { parameters := [(.array .byte), .int, .int], returnType := some (.object "java/lang/String") }, accessFlags := 9, code := some k8c11 }
/-- java/lang/StringLatin1 -/
def k8 : Class := { plain "java/lang/StringLatin1" (some 0) with
  accessFlags := 48
  interfaces := #[]
  cf := some (fileOf pool8 14 #[.nestMembers #[390, 221]] #[{ accessFlags := 0, nameIndex := 7, descriptorIndex := 8, attributes := #[] }, { accessFlags := 9, nameIndex := 252, descriptorIndex := 53, attributes := #[] }, { accessFlags := 9, nameIndex := 90, descriptorIndex := 91, attributes := #[] }, { accessFlags := 9, nameIndex := 281, descriptorIndex := 282, attributes := #[] }, { accessFlags := 9, nameIndex := 101, descriptorIndex := 98, attributes := #[] }, { accessFlags := 10, nameIndex := 97, descriptorIndex := 98, attributes := #[] }, { accessFlags := 9, nameIndex := 80, descriptorIndex := 350, attributes := #[] }, { accessFlags := 9, nameIndex := 216, descriptorIndex := 57, attributes := #[] }, { accessFlags := 9, nameIndex := 219, descriptorIndex := 57, attributes := #[] }, { accessFlags := 9, nameIndex := 371, descriptorIndex := 367, attributes := #[] }, { accessFlags := 9, nameIndex := 52, descriptorIndex := 53, attributes := #[] }, { accessFlags := 9, nameIndex := 196, descriptorIndex := 197, attributes := #[] }] 48 4 #[] #[{ accessFlags := 4120, nameIndex := 121, descriptorIndex := 122, attributes := #[] }])
  fields := #[{ name := "$assertionsDisabled", type := .boolean, accessFlags := 4120, slot := 0, constantValue := 0 }]
  methods := #[k8m0, k8m1, k8m2, k8m3, k8m4, k8m5, k8m6, k8m7, k8m8, k8m9, k8m10, k8m11]
  instanceTypes := #[]
  staticTypes := #[.boolean]
  resolved := Array.replicate 395 none
  statics := none }

def pool9 : Array CpInfo := pool [(2, .class_ 4), (1, u "java/lang/Object"), (0, u "<init>"), (0, u "()V"), (17, .class_ 26), (1, u "jdk/internal/util/Preconditions"), (6, u "checkIndex"), (13, u "checkFromToIndex"), (7, .class_ 56), (0, u "jdk/internal/util/Preconditions$4"), (57, .class_ 115), (0, u "jdk/internal/util/Preconditions$1"), (7, u "SIOOBE_FORMATTER"), (0, u "Ljava/util/function/BiFunction;"), (0, .class_ 126), (0, u "jdk/internal/util/Preconditions$2"), (3, u "AIOOBE_FORMATTER"), (0, .class_ 132), (0, u "jdk/internal/util/Preconditions$3"), (3, u "IOOBE_FORMATTER"), (41, u "(IILjava/util/function/BiFunction;)I"), (4, u "(IIILjava/util/function/BiFunction;)I")] 10

def k9m0 : Method := { name := "<init>", desc := "()V", sig := { parameters := [], returnType := none }, accessFlags := 1, code := none }
def k9c1 : Code := { maxStack := 3, maxLocals := 3, code := jdk_41_method_11_code, exceptionTable := #[], attributes := #[] }
def k9m1 : Method := { name := "checkIndex", desc := "(IILjava/util/function/BiFunction;)I", sig := { parameters := [.int, .int, (.object "java/util/function/BiFunction")], returnType := some .int }, accessFlags := 9, code := some k9c1 }
def k9c2 : Code := { maxStack := 4, maxLocals := 4, code := jdk_41_method_12_code, exceptionTable := #[], attributes := #[] }
def k9m2 : Method := { name := "checkFromToIndex", desc := "(IIILjava/util/function/BiFunction;)I", sig := { parameters := [.int, .int, .int, (.object "java/util/function/BiFunction")], returnType := some .int }, accessFlags := 9, code := some k9c2 }
/-- jdk/internal/util/Preconditions -/
def k9 : Class := { plain "jdk/internal/util/Preconditions" (some 0) with
  accessFlags := 33
  interfaces := #[]
  cf := some (fileOf pool9 24 #[.nestMembers #[55, 131, 125, 114]] #[{ accessFlags := 1, nameIndex := 5, descriptorIndex := 6, attributes := #[] }, { accessFlags := 9, nameIndex := 33, descriptorIndex := 178, attributes := #[] }, { accessFlags := 9, nameIndex := 47, descriptorIndex := 183, attributes := #[] }] 33 2 #[] #[{ accessFlags := 25, nameIndex := 123, descriptorIndex := 124, attributes := #[] }, { accessFlags := 25, nameIndex := 130, descriptorIndex := 124, attributes := #[] }, { accessFlags := 25, nameIndex := 136, descriptorIndex := 124, attributes := #[] }])
  fields := #[{ name := "SIOOBE_FORMATTER", type := (.object "java/util/function/BiFunction"), accessFlags := 25, slot := 0, constantValue := 0 }, { name := "AIOOBE_FORMATTER", type := (.object "java/util/function/BiFunction"), accessFlags := 25, slot := 1, constantValue := 0 }, { name := "IOOBE_FORMATTER", type := (.object "java/util/function/BiFunction"), accessFlags := 25, slot := 2, constantValue := 0 }]
  methods := #[k9m0, k9m1, k9m2]
  instanceTypes := #[]
  staticTypes := #[(.object "java/util/function/BiFunction"), (.object "java/util/function/BiFunction"), (.object "java/util/function/BiFunction")]
  resolved := Array.replicate 194 none
  statics := some 1 }

def pool10 : Array CpInfo := pool [(6, .class_ 8), (1, u "java/lang/Object"), (0, u "<init>"), (0, u "()V"), (1, .class_ 14), (1, u "java/lang/StringUTF16"), (31, u "$assertionsDisabled"), (0, u "Z"), (13, u "HI_BYTE_SHIFT"), (0, u "I"), (2, u "LO_BYTE_SHIFT"), (49, .methodref 12 116), (0, .nameAndType 117 118), (0, u "compress"), (0, u "([CI[BII)I"), (3, u "([CII)[B"), (138, u "coderFromArrayLen"), (0, u "([BI)B"), (106, .class_ 371), (1, u "java/lang/StringUTF16$LinesSpliterator"), (58, u "MAX_LENGTH"), (196, .class_ 628), (0, u "java/lang/StringUTF16$CodePointsSpliterator"), (0, .class_ 630), (0, u "java/lang/StringUTF16$CharsSpliterator")] 4

def k10m0 : Method := { name := "<init>", desc := "()V", sig := { parameters := [], returnType := none }, accessFlags := 0, code := none }
def k10c1 : Code := { maxStack := 2, maxLocals := 2, code := jdk_52_method_15_code, exceptionTable := #[], attributes := #[] }
def k10m1 : Method := { name := "coderFromArrayLen", desc := "([BI)B", sig := { parameters := [(.array .byte), .int], returnType := some .byte }, accessFlags := 8, code := some k10c1 }
def k10c2 : Code := { maxStack := 5, maxLocals := 6, code := jdk_52_method_16_code, exceptionTable := #[], attributes := #[] }
def k10m2 : Method := { name := "compress", desc := "([CII)[B", sig := { parameters := [(.array .char), .int, .int], returnType := some (.array .byte) }, accessFlags := 9, code := some k10c2 }
def k10c3 : Code := { maxStack := 3, maxLocals := 7, code := jdk_52_method_21_code, exceptionTable := #[], attributes := #[] }
def k10m3 : Method := { name := "compress", desc := "([CI[BII)I", sig := { parameters := [(.array .char), .int, (.array .byte), .int, .int], returnType := some .int }, accessFlags := 9, code := some k10c3 }
/-- java/lang/StringUTF16 -/
def k10 : Class := { plain "java/lang/StringUTF16" (some 0) with
  accessFlags := 48
  interfaces := #[]
  cf := some (fileOf pool10 12 #[.nestMembers #[627, 629, 369]] #[{ accessFlags := 0, nameIndex := 9, descriptorIndex := 10, attributes := #[] }, { accessFlags := 8, nameIndex := 261, descriptorIndex := 262, attributes := #[] }, { accessFlags := 9, nameIndex := 117, descriptorIndex := 122, attributes := #[] }, { accessFlags := 9, nameIndex := 117, descriptorIndex := 118, attributes := #[] }] 48 6 #[] #[{ accessFlags := 26, nameIndex := 61, descriptorIndex := 62, attributes := #[] }, { accessFlags := 26, nameIndex := 65, descriptorIndex := 62, attributes := #[] }, { accessFlags := 24, nameIndex := 430, descriptorIndex := 62, attributes := #[] }, { accessFlags := 4120, nameIndex := 46, descriptorIndex := 47, attributes := #[] }])
  fields := #[{ name := "HI_BYTE_SHIFT", type := .int, accessFlags := 26, slot := 0, constantValue := 0 }, { name := "LO_BYTE_SHIFT", type := .int, accessFlags := 26, slot := 1, constantValue := 0 }, { name := "MAX_LENGTH", type := .int, accessFlags := 24, slot := 2, constantValue := 0 }, { name := "$assertionsDisabled", type := .boolean, accessFlags := 4120, slot := 3, constantValue := 0 }]
  methods := #[k10m0, k10m1, k10m2, k10m3]
  instanceTypes := #[]
  staticTypes := #[.int, .int, .int, .boolean]
  resolved := Array.replicate 635 none
  statics := none }

def pool11 : Array CpInfo := pool [(2, .class_ 4), (1, u "java/lang/Object"), (0, u "<init>"), (0, u "()V"), (1, .class_ 10), (1, u "com/example/archerfish/archerfish/MediaType"), (0, u "FORM"), (0, u "Ljava/util/regex/Pattern;"), (12, .methodref 26 27), (0, .class_ 28), (0, .nameAndType 29 30), (0, u "java/lang/String"), (0, u "indexOf"), (0, u "(I)I"), (0, .methodref 26 32), (0, .nameAndType 33 34), (0, u "substring"), (0, u "(II)Ljava/lang/String;"), (0, .methodref 26 36), (0, .nameAndType 37 38), (0, u "strip"), (0, u "()Ljava/lang/String;"), (0, .fieldref 40 41), (0, .class_ 42), (0, .nameAndType 43 44), (0, u "java/util/Locale"), (0, u "ROOT"), (0, u "Ljava/util/Locale;"), (0, .methodref 26 46), (0, .nameAndType 47 48), (0, u "toLowerCase"), (0, u "(Ljava/util/Locale;)Ljava/lang/String;"), (0, .methodref 8 50), (0, .nameAndType 51 52), (0, u "essence"), (0, u "(Ljava/lang/String;)Ljava/lang/String;"), (0, .string 54), (0, u "application/json"), (0, .methodref 26 56), (0, .nameAndType 57 58), (0, u "equals"), (0, u "(Ljava/lang/Object;)Z"), (0, .string 60), (0, u "+json"), (0, .methodref 26 62), (0, .nameAndType 63 64), (0, u "endsWith"), (0, u "(Ljava/lang/String;)Z"), (58, u "QUOTED_PAIR"), (13, u "TOKEN"), (0, u "Ljava/lang/String;"), (3, u "CHARSET"), (0, u "QUOTE"), (4, u "isJson")] 8

def k11m0 : Method := { name := "<init>", desc := "()V", sig := { parameters := [], returnType := none }, accessFlags := 2, code := none }
def k11c1 : Code := { maxStack := 3, maxLocals := 2, code := prog_8_method_3_code, exceptionTable := #[], attributes := #[] }
def k11m1 : Method := { name := "essence", desc := "(Ljava/lang/String;)Ljava/lang/String;", sig := { parameters := [(.object "java/lang/String")], returnType := some (.object "java/lang/String") }, accessFlags := 8, code := some k11c1 }
def k11c2 : Code := { maxStack := 2, maxLocals := 2, code := prog_8_method_4_code, exceptionTable := #[], attributes := #[] }
def k11m2 : Method := { name := "isJson", desc := "(Ljava/lang/String;)Z", sig := { parameters := [(.object "java/lang/String")], returnType := some .boolean }, accessFlags := 8, code := some k11c2 }
/-- com/example/archerfish/archerfish/MediaType -/
def k11 : Class := { plain "com/example/archerfish/archerfish/MediaType" (some 0) with
  accessFlags := 48
  interfaces := #[]
  cf := some (fileOf pool11 8 #[] #[{ accessFlags := 2, nameIndex := 5, descriptorIndex := 6, attributes := #[] }, { accessFlags := 8, nameIndex := 51, descriptorIndex := 52, attributes := #[] }, { accessFlags := 8, nameIndex := 148, descriptorIndex := 64, attributes := #[] }] 48 2 #[] #[{ accessFlags := 26, nameIndex := 137, descriptorIndex := 138, attributes := #[] }, { accessFlags := 26, nameIndex := 11, descriptorIndex := 12, attributes := #[] }, { accessFlags := 26, nameIndex := 142, descriptorIndex := 138, attributes := #[] }, { accessFlags := 26, nameIndex := 143, descriptorIndex := 138, attributes := #[] }, { accessFlags := 26, nameIndex := 123, descriptorIndex := 12, attributes := #[] }])
  fields := #[{ name := "TOKEN", type := (.object "java/lang/String"), accessFlags := 26, slot := 0, constantValue := 0 }, { name := "FORM", type := (.object "java/util/regex/Pattern"), accessFlags := 26, slot := 1, constantValue := 0 }, { name := "CHARSET", type := (.object "java/lang/String"), accessFlags := 26, slot := 2, constantValue := 0 }, { name := "QUOTE", type := (.object "java/lang/String"), accessFlags := 26, slot := 3, constantValue := 0 }, { name := "QUOTED_PAIR", type := (.object "java/util/regex/Pattern"), accessFlags := 26, slot := 4, constantValue := 0 }]
  methods := #[k11m0, k11m1, k11m2]
  instanceTypes := #[]
  staticTypes := #[(.object "java/lang/String"), (.object "java/util/regex/Pattern"), (.object "java/lang/String"), (.object "java/lang/String"), (.object "java/util/regex/Pattern")]
  resolved := Array.replicate 157 none
  statics := none }

def pool12 : Array CpInfo := pool [(1, .class_ 2), (0, u "java/lang/Math"), (1, .class_ 6), (1, u "java/lang/Object"), (0, u "<init>"), (0, u "()V"), (89, .class_ 100), (1, u "java/lang/Math$RandomNumberGeneratorHolder"), (71, u "negativeZeroFloatBits"), (0, u "J"), (2, u "negativeZeroDoubleBits"), (21, u "max"), (2, u "min"), (43, u "$assertionsDisabled"), (0, u "Z"), (88, u "(II)I"), (2, u "twoToTheDoubleScaleDown"), (0, u "D"), (4, u "twoToTheDoubleScaleUp"), (9, u "E"), (3, u "PI"), (2, u "TAU"), (2, u "DEGREES_TO_RADIANS"), (0, u "RADIANS_TO_DEGREES")] 94

def k12m0 : Method := { name := "<init>", desc := "()V", sig := { parameters := [], returnType := none }, accessFlags := 2, code := none }
def k12c1 : Code := { maxStack := 2, maxLocals := 2, code := jdk_29_method_65_code, exceptionTable := #[], attributes := #[] }
def k12m1 : Method := { name := "max", desc := "(II)I", sig := { parameters := [.int, .int], returnType := some .int }, accessFlags := 9, code := some k12c1 }
def k12c2 : Code := { maxStack := 2, maxLocals := 2, code := jdk_29_method_69_code, exceptionTable := #[], attributes := #[] }
def k12m2 : Method := { name := "min", desc := "(II)I", sig := { parameters := [.int, .int], returnType := some .int }, accessFlags := 9, code := some k12c2 }
/-- java/lang/Math -/
def k12 : Class := { plain "java/lang/Math" (some 0) with
  accessFlags := 49
  interfaces := #[]
  cf := some (fileOf pool12 1 #[.nestMembers #[98]] #[{ accessFlags := 2, nameIndex := 7, descriptorIndex := 8, attributes := #[] }, { accessFlags := 9, nameIndex := 198, descriptorIndex := 335, attributes := #[] }, { accessFlags := 9, nameIndex := 201, descriptorIndex := 335, attributes := #[] }] 49 4 #[] #[{ accessFlags := 25, nameIndex := 354, descriptorIndex := 339, attributes := #[] }, { accessFlags := 25, nameIndex := 358, descriptorIndex := 339, attributes := #[] }, { accessFlags := 25, nameIndex := 361, descriptorIndex := 339, attributes := #[] }, { accessFlags := 26, nameIndex := 364, descriptorIndex := 339, attributes := #[] }, { accessFlags := 26, nameIndex := 365, descriptorIndex := 339, attributes := #[] }, { accessFlags := 26, nameIndex := 172, descriptorIndex := 173, attributes := #[] }, { accessFlags := 26, nameIndex := 176, descriptorIndex := 173, attributes := #[] }, { accessFlags := 8, nameIndex := 344, descriptorIndex := 339, attributes := #[] }, { accessFlags := 8, nameIndex := 338, descriptorIndex := 339, attributes := #[] }, { accessFlags := 4120, nameIndex := 245, descriptorIndex := 246, attributes := #[] }])
  fields := #[{ name := "E", type := .double, accessFlags := 25, slot := 0, constantValue := 0 }, { name := "PI", type := .double, accessFlags := 25, slot := 1, constantValue := 0 }, { name := "TAU", type := .double, accessFlags := 25, slot := 2, constantValue := 0 }, { name := "DEGREES_TO_RADIANS", type := .double, accessFlags := 26, slot := 3, constantValue := 0 }, { name := "RADIANS_TO_DEGREES", type := .double, accessFlags := 26, slot := 4, constantValue := 0 }, { name := "negativeZeroFloatBits", type := .long, accessFlags := 26, slot := 5, constantValue := 0 }, { name := "negativeZeroDoubleBits", type := .long, accessFlags := 26, slot := 6, constantValue := 0 }, { name := "twoToTheDoubleScaleUp", type := .double, accessFlags := 8, slot := 7, constantValue := 0 }, { name := "twoToTheDoubleScaleDown", type := .double, accessFlags := 8, slot := 8, constantValue := 0 }, { name := "$assertionsDisabled", type := .boolean, accessFlags := 4120, slot := 9, constantValue := 0 }]
  methods := #[k12m0, k12m1, k12m2]
  instanceTypes := #[]
  staticTypes := #[.double, .double, .double, .double, .double, .long, .long, .double, .double, .boolean]
  resolved := Array.replicate 460 none
  statics := none }

def pool13 : Array CpInfo := pool [(2, .class_ 4), (1, u "java/lang/Object"), (0, u "<init>"), (0, u "()V"), (1, .class_ 10), (1, u "java/lang/CharacterData")] 75

def k13m0 : Method := { name := "<init>", desc := "()V", sig := { parameters := [], returnType := none }, accessFlags := 0, code := none }
/-- java/lang/CharacterData -/
def k13 : Class := { plain "java/lang/CharacterData" (some 0) with
  accessFlags := 1056
  interfaces := #[]
  cf := some (fileOf pool13 8 #[] #[{ accessFlags := 0, nameIndex := 5, descriptorIndex := 6, attributes := #[] }] 1056 2 #[] #[])
  fields := #[]
  methods := #[k13m0]
  instanceTypes := #[]
  staticTypes := #[]
  resolved := Array.replicate 86 none
  statics := none }

def pool14 : Array CpInfo := pool [(1, .fieldref 2 3), (0, .class_ 4), (0, .nameAndType 5 6), (0, u "java/lang/CharacterDataLatin1"), (0, u "A"), (0, u "[I"), (2, u "B"), (0, u "[C"), (3, u "(I)I"), (0, .methodref 2 16), (0, .nameAndType 17 14), (0, u "getProperties"), (3, u "(I)Z"), (5, u "DIGITS"), (0, u "[B"), (8, u "sharpsMap"), (1, .class_ 41), (1, u "java/lang/CharacterData"), (0, u "<init>"), (0, u "()V"), (3, u "instance"), (0, u "Ljava/lang/CharacterDataLatin1;"), (63, u "toLowerCase"), (14, u "isWhitespace")] 13

def k14c0 : Code := { maxStack := 2, maxLocals := 4, code := jdk_116_method_1_code, exceptionTable := #[], attributes := #[] }
def k14m0 : Method := { name := "getProperties", desc := "(I)I", sig := { parameters := [.int], returnType := some .int }, accessFlags := 0, code := some k14c0 }
def k14c1 : Code := { maxStack := 2, maxLocals := 3, code := jdk_116_method_20_code, exceptionTable := #[], attributes := #[] }
def k14m1 : Method := { name := "toLowerCase", desc := "(I)I", sig := { parameters := [.int], returnType := some .int }, accessFlags := 0, code := some k14c1 }
def k14c2 : Code := { maxStack := 2, maxLocals := 3, code := jdk_116_method_26_code, exceptionTable := #[], attributes := #[] }
def k14m2 : Method := { name := "isWhitespace", desc := "(I)Z", sig := { parameters := [.int], returnType := some .boolean }, accessFlags := 0, code := some k14c2 }
def k14m3 : Method := { name := "<init>", desc := "()V", sig := { parameters := [], returnType := none }, accessFlags := 2, code := none }
/-- java/lang/CharacterDataLatin1 -/
def k14 : Class := { plain "java/lang/CharacterDataLatin1" (some 13) with
  accessFlags := 32
  interfaces := #[]
  cf := some (fileOf pool14 2 #[] #[{ accessFlags := 0, nameIndex := 17, descriptorIndex := 14, attributes := #[] }, { accessFlags := 0, nameIndex := 112, descriptorIndex := 14, attributes := #[] }, { accessFlags := 0, nameIndex := 127, descriptorIndex := 21, attributes := #[] }, { accessFlags := 2, nameIndex := 42, descriptorIndex := 43, attributes := #[] }] 32 39 #[] #[{ accessFlags := 26, nameIndex := 27, descriptorIndex := 28, attributes := #[] }, { accessFlags := 8, nameIndex := 37, descriptorIndex := 10, attributes := #[] }, { accessFlags := 24, nameIndex := 47, descriptorIndex := 48, attributes := #[] }, { accessFlags := 24, nameIndex := 5, descriptorIndex := 6, attributes := #[] }, { accessFlags := 24, nameIndex := 9, descriptorIndex := 10, attributes := #[] }])
  fields := #[{ name := "DIGITS", type := (.array .byte), accessFlags := 26, slot := 0, constantValue := 0 }, { name := "sharpsMap", type := (.array .char), accessFlags := 8, slot := 1, constantValue := 0 }, { name := "instance", type := (.object "java/lang/CharacterDataLatin1"), accessFlags := 24, slot := 2, constantValue := 0 }, { name := "A", type := (.array .int), accessFlags := 24, slot := 3, constantValue := 0 }, { name := "B", type := (.array .char), accessFlags := 24, slot := 4, constantValue := 0 }]
  methods := #[k14m0, k14m1, k14m2, k14m3]
  instanceTypes := #[]
  staticTypes := #[(.array .byte), (.array .char), (.object "java/lang/CharacterDataLatin1"), (.array .int), (.array .char)]
  resolved := Array.replicate 141 none
  statics := some 2 }

def pool15 : Array CpInfo := pool [(1, .class_ 2), (0, u "java/lang/Cloneable"), (0, .class_ 4), (0, u "java/lang/Object")] 2

/-- java/lang/Cloneable -/
def k15 : Class := { plain "java/lang/Cloneable" (some 0) with
  accessFlags := 1537
  interfaces := #[]
  cf := some (fileOf pool15 1 #[] #[] 1537 3 #[] #[])
  fields := #[]
  methods := #[]
  instanceTypes := #[]
  staticTypes := #[]
  resolved := Array.replicate 7 none
  statics := none }

def pool16 : Array CpInfo := pool [(2, .class_ 4), (1, u "sun/util/locale/BaseLocale"), (2, .class_ 8), (0, u "java/util/Locale"), (6, u "CONSTANT_LOCALES"), (0, u "Ljava/util/Map;"), (7, .class_ 26), (1, u "java/lang/Object"), (1, .fieldref 7 29), (0, .nameAndType 30 31), (0, u "baseLocale"), (0, u "Lsun/util/locale/BaseLocale;"), (2, u "localeExtensions"), (0, u "Lsun/util/locale/LocaleExtensions;"), (31, .class_ 69), (1, u "java/util/Locale$Cache"), (3, .class_ 74), (0, u "java/util/Locale$LocaleKey"), (3, u "defaultLocale"), (0, u "Ljava/util/Locale;"), (6, .class_ 88), (1, u "java/util/Locale$Category"), (4, u "defaultDisplayLocale"), (6, u "$assertionsDisabled"), (0, u "Z"), (12, u "defaultFormatLocale"), (12, u "Ljava/lang/String;"), (131, u "isoCountries"), (0, u "[Ljava/lang/String;"), (15, .class_ 278), (1, u "java/util/Locale$IsoCountryCode"), (4, u "isoLanguages"), (9, .methodref 2 294), (0, .nameAndType 295 296), (0, u "getLanguage"), (0, u "()Ljava/lang/String;"), (78, u "languageTag"), (114, .class_ 492), (1, u "java/util/Locale$LocaleNameGetter"), (125, u "hashCodeValue"), (0, u "I"), (29, u "ROOT"), (129, .class_ 781), (1, u "java/util/Locale$FilteringMode"), (39, u "ENGLISH"), (2, u "FRENCH"), (2, u "GERMAN"), (2, u "ITALIAN"), (2, u "JAPANESE"), (2, u "KOREAN"), (2, u "CHINESE"), (2, u "SIMPLIFIED_CHINESE"), (2, u "TRADITIONAL_CHINESE"), (2, u "FRANCE"), (2, u "GERMANY"), (2, u "ITALY"), (2, u "JAPAN"), (2, u "KOREA"), (2, u "UK"), (2, u "US"), (2, u "CANADA"), (2, u "CANADA_FRENCH"), (2, u "CHINA"), (2, u "PRC"), (2, u "TAIWAN"), (13, u "serialPersistentFields"), (0, u "[Ljava/io/ObjectStreamField;"), (0, .class_ 898), (0, u "java/lang/Cloneable"), (0, .class_ 900), (0, u "java/io/Serializable"), (2, u "PRIVATE_USE_EXTENSION"), (0, u "C"), (2, u "UNICODE_LOCALE_EXTENSION"), (1, u "serialVersionUID"), (0, u "J"), (2, u "DISPLAY_LANGUAGE"), (1, u "DISPLAY_COUNTRY"), (1, u "DISPLAY_VARIANT"), (1, u "DISPLAY_SCRIPT"), (1, u "DISPLAY_UEXT_KEY"), (1, u "DISPLAY_UEXT_TYPE"), (174, .class_ 1099), (0, u "java/util/Locale$LanguageRange"), (0, .class_ 1101), (0, u "java/util/Locale$Builder"), (0, .class_ 1103), (0, u "java/util/Locale$IsoCountryCode$3"), (0, .class_ 1105), (0, u "java/util/Locale$IsoCountryCode$2"), (0, .class_ 1107), (0, u "java/util/Locale$IsoCountryCode$1")] 46

def k16c0 : Code := { maxStack := 1, maxLocals := 1, code := jdk_2628_method_27_code, exceptionTable := #[], attributes := #[] }
def k16m0 : Method := { name := "getLanguage", desc := "()Ljava/lang/String;", sig := { parameters := [], returnType := some (.object "java/lang/String") }, accessFlags := 1, code := some k16c0 }
/-- java/util/Locale -/
def k16 : Class := { plain "java/util/Locale" (some 0) with
  accessFlags := 49
  interfaces := #[15, 2]
  cf := some (fileOf pool16 7 #[.nestMembers #[1098, 779, 1100, 86, 490, 73, 67, 276, 1102, 1104, 1106]] #[{ accessFlags := 1, nameIndex := 295, descriptorIndex := 296, attributes := #[] }] 49 24 #[897, 899] #[{ accessFlags := 25, nameIndex := 821, descriptorIndex := 79, attributes := #[] }, { accessFlags := 25, nameIndex := 824, descriptorIndex := 79, attributes := #[] }, { accessFlags := 25, nameIndex := 827, descriptorIndex := 79, attributes := #[] }, { accessFlags := 25, nameIndex := 830, descriptorIndex := 79, attributes := #[] }, { accessFlags := 25, nameIndex := 833, descriptorIndex := 79, attributes := #[] }, { accessFlags := 25, nameIndex := 836, descriptorIndex := 79, attributes := #[] }, { accessFlags := 25, nameIndex := 839, descriptorIndex := 79, attributes := #[] }, { accessFlags := 25, nameIndex := 842, descriptorIndex := 79, attributes := #[] }, { accessFlags := 25, nameIndex := 845, descriptorIndex := 79, attributes := #[] }, { accessFlags := 25, nameIndex := 848, descriptorIndex := 79, attributes := #[] }, { accessFlags := 25, nameIndex := 851, descriptorIndex := 79, attributes := #[] }, { accessFlags := 25, nameIndex := 854, descriptorIndex := 79, attributes := #[] }, { accessFlags := 25, nameIndex := 857, descriptorIndex := 79, attributes := #[] }, { accessFlags := 25, nameIndex := 860, descriptorIndex := 79, attributes := #[] }, { accessFlags := 25, nameIndex := 863, descriptorIndex := 79, attributes := #[] }, { accessFlags := 25, nameIndex := 866, descriptorIndex := 79, attributes := #[] }, { accessFlags := 25, nameIndex := 869, descriptorIndex := 79, attributes := #[] }, { accessFlags := 25, nameIndex := 872, descriptorIndex := 79, attributes := #[] }, { accessFlags := 25, nameIndex := 649, descriptorIndex := 79, attributes := #[] }, { accessFlags := 26, nameIndex := 15, descriptorIndex := 16, attributes := #[] }, { accessFlags := 25, nameIndex := 875, descriptorIndex := 79, attributes := #[] }, { accessFlags := 25, nameIndex := 878, descriptorIndex := 79, attributes := #[] }, { accessFlags := 25, nameIndex := 881, descriptorIndex := 79, attributes := #[] }, { accessFlags := 25, nameIndex := 903, descriptorIndex := 904, attributes := #[] }, { accessFlags := 25, nameIndex := 907, descriptorIndex := 904, attributes := #[] }, { accessFlags := 24, nameIndex := 909, descriptorIndex := 910, attributes := #[] }, { accessFlags := 26, nameIndex := 913, descriptorIndex := 619, attributes := #[] }, { accessFlags := 26, nameIndex := 915, descriptorIndex := 619, attributes := #[] }, { accessFlags := 26, nameIndex := 917, descriptorIndex := 619, attributes := #[] }, { accessFlags := 26, nameIndex := 919, descriptorIndex := 619, attributes := #[] }, { accessFlags := 26, nameIndex := 921, descriptorIndex := 619, attributes := #[] }, { accessFlags := 26, nameIndex := 923, descriptorIndex := 619, attributes := #[] }, { accessFlags := 130, nameIndex := 30, descriptorIndex := 31, attributes := #[] }, { accessFlags := 130, nameIndex := 34, descriptorIndex := 35, attributes := #[] }, { accessFlags := 130, nameIndex := 618, descriptorIndex := 619, attributes := #[] }, { accessFlags := 74, nameIndex := 78, descriptorIndex := 79, attributes := #[] }, { accessFlags := 74, nameIndex := 93, descriptorIndex := 79, attributes := #[] }, { accessFlags := 74, nameIndex := 114, descriptorIndex := 79, attributes := #[] }, { accessFlags := 194, nameIndex := 375, descriptorIndex := 127, attributes := #[] }, { accessFlags := 26, nameIndex := 895, descriptorIndex := 896, attributes := #[] }, { accessFlags := 74, nameIndex := 283, descriptorIndex := 260, attributes := #[] }, { accessFlags := 74, nameIndex := 259, descriptorIndex := 260, attributes := #[] }, { accessFlags := 4120, nameIndex := 100, descriptorIndex := 101, attributes := #[] }])
  fields := #[{ name := "ENGLISH", type := (.object "java/util/Locale"), accessFlags := 25, slot := 0, constantValue := 0 }, { name := "FRENCH", type := (.object "java/util/Locale"), accessFlags := 25, slot := 1, constantValue := 0 }, { name := "GERMAN", type := (.object "java/util/Locale"), accessFlags := 25, slot := 2, constantValue := 0 }, { name := "ITALIAN", type := (.object "java/util/Locale"), accessFlags := 25, slot := 3, constantValue := 0 }, { name := "JAPANESE", type := (.object "java/util/Locale"), accessFlags := 25, slot := 4, constantValue := 0 }, { name := "KOREAN", type := (.object "java/util/Locale"), accessFlags := 25, slot := 5, constantValue := 0 }, { name := "CHINESE", type := (.object "java/util/Locale"), accessFlags := 25, slot := 6, constantValue := 0 }, { name := "SIMPLIFIED_CHINESE", type := (.object "java/util/Locale"), accessFlags := 25, slot := 7, constantValue := 0 }, { name := "TRADITIONAL_CHINESE", type := (.object "java/util/Locale"), accessFlags := 25, slot := 8, constantValue := 0 }, { name := "FRANCE", type := (.object "java/util/Locale"), accessFlags := 25, slot := 9, constantValue := 0 }, { name := "GERMANY", type := (.object "java/util/Locale"), accessFlags := 25, slot := 10, constantValue := 0 }, { name := "ITALY", type := (.object "java/util/Locale"), accessFlags := 25, slot := 11, constantValue := 0 }, { name := "JAPAN", type := (.object "java/util/Locale"), accessFlags := 25, slot := 12, constantValue := 0 }, { name := "KOREA", type := (.object "java/util/Locale"), accessFlags := 25, slot := 13, constantValue := 0 }, { name := "UK", type := (.object "java/util/Locale"), accessFlags := 25, slot := 14, constantValue := 0 }, { name := "US", type := (.object "java/util/Locale"), accessFlags := 25, slot := 15, constantValue := 0 }, { name := "CANADA", type := (.object "java/util/Locale"), accessFlags := 25, slot := 16, constantValue := 0 }, { name := "CANADA_FRENCH", type := (.object "java/util/Locale"), accessFlags := 25, slot := 17, constantValue := 0 }, { name := "ROOT", type := (.object "java/util/Locale"), accessFlags := 25, slot := 18, constantValue := 0 }, { name := "CONSTANT_LOCALES", type := (.object "java/util/Map"), accessFlags := 26, slot := 19, constantValue := 0 }, { name := "CHINA", type := (.object "java/util/Locale"), accessFlags := 25, slot := 20, constantValue := 0 }, { name := "PRC", type := (.object "java/util/Locale"), accessFlags := 25, slot := 21, constantValue := 0 }, { name := "TAIWAN", type := (.object "java/util/Locale"), accessFlags := 25, slot := 22, constantValue := 0 }, { name := "PRIVATE_USE_EXTENSION", type := .char, accessFlags := 25, slot := 23, constantValue := 0 }, { name := "UNICODE_LOCALE_EXTENSION", type := .char, accessFlags := 25, slot := 24, constantValue := 0 }, { name := "serialVersionUID", type := .long, accessFlags := 24, slot := 25, constantValue := 0 }, { name := "DISPLAY_LANGUAGE", type := .int, accessFlags := 26, slot := 26, constantValue := 0 }, { name := "DISPLAY_COUNTRY", type := .int, accessFlags := 26, slot := 27, constantValue := 0 }, { name := "DISPLAY_VARIANT", type := .int, accessFlags := 26, slot := 28, constantValue := 0 }, { name := "DISPLAY_SCRIPT", type := .int, accessFlags := 26, slot := 29, constantValue := 0 }, { name := "DISPLAY_UEXT_KEY", type := .int, accessFlags := 26, slot := 30, constantValue := 0 }, { name := "DISPLAY_UEXT_TYPE", type := .int, accessFlags := 26, slot := 31, constantValue := 0 }, { name := "baseLocale", type := (.object "sun/util/locale/BaseLocale"), accessFlags := 130, slot := 0, constantValue := 0 }, { name := "localeExtensions", type := (.object "sun/util/locale/LocaleExtensions"), accessFlags := 130, slot := 1, constantValue := 0 }, { name := "hashCodeValue", type := .int, accessFlags := 130, slot := 2, constantValue := 0 }, { name := "defaultLocale", type := (.object "java/util/Locale"), accessFlags := 74, slot := 32, constantValue := 0 }, { name := "defaultDisplayLocale", type := (.object "java/util/Locale"), accessFlags := 74, slot := 33, constantValue := 0 }, { name := "defaultFormatLocale", type := (.object "java/util/Locale"), accessFlags := 74, slot := 34, constantValue := 0 }, { name := "languageTag", type := (.object "java/lang/String"), accessFlags := 194, slot := 3, constantValue := 0 }, { name := "serialPersistentFields", type := (.array (.object "java/io/ObjectStreamField")), accessFlags := 26, slot := 35, constantValue := 0 }, { name := "isoLanguages", type := (.array (.object "java/lang/String")), accessFlags := 74, slot := 36, constantValue := 0 }, { name := "isoCountries", type := (.array (.object "java/lang/String")), accessFlags := 74, slot := 37, constantValue := 0 }, { name := "$assertionsDisabled", type := .boolean, accessFlags := 4120, slot := 38, constantValue := 0 }]
  methods := #[k16m0]
  instanceTypes := #[(.object "sun/util/locale/BaseLocale"), (.object "sun/util/locale/LocaleExtensions"), .int, (.object "java/lang/String")]
  staticTypes := #[(.object "java/util/Locale"), (.object "java/util/Locale"), (.object "java/util/Locale"), (.object "java/util/Locale"), (.object "java/util/Locale"), (.object "java/util/Locale"), (.object "java/util/Locale"), (.object "java/util/Locale"), (.object "java/util/Locale"), (.object "java/util/Locale"), (.object "java/util/Locale"), (.object "java/util/Locale"), (.object "java/util/Locale"), (.object "java/util/Locale"), (.object "java/util/Locale"), (.object "java/util/Locale"), (.object "java/util/Locale"), (.object "java/util/Locale"), (.object "java/util/Locale"), (.object "java/util/Map"), (.object "java/util/Locale"), (.object "java/util/Locale"), (.object "java/util/Locale"), .char, .char, .long, .int, .int, .int, .int, .int, .int, (.object "java/util/Locale"), (.object "java/util/Locale"), (.object "java/util/Locale"), (.array (.object "java/io/ObjectStreamField")), (.array (.object "java/lang/String")), (.array (.object "java/lang/String")), .boolean]
  resolved := Array.replicate 1154 none
  statics := some 3 }

def pool17 : Array CpInfo := pool [(2, .class_ 4), (1, u "java/lang/Object"), (13, u "()Ljava/lang/String;"), (0, .fieldref 20 21), (0, .class_ 22), (0, .nameAndType 23 24), (0, u "sun/util/locale/BaseLocale"), (0, u "language"), (0, u "Ljava/lang/String;"), (5, u "script"), (5, u "region"), (2, u "variant"), (11, u "constantBaseLocales"), (0, u "[Lsun/util/locale/BaseLocale;"), (2, u "getLanguage"), (10, .class_ 67), (0, u "sun/util/locale/BaseLocale$Key"), (2, .class_ 72), (1, u "sun/util/locale/BaseLocale$Cache"), (24, u "OLD_ISO_CODES"), (0, u "Z"), (32, u "hash"), (0, u "I"), (41, u "US"), (15, u "ENGLISH"), (0, u "B"), (2, u "FRENCH"), (1, u "GERMAN"), (1, u "ITALIAN"), (1, u "JAPANESE"), (1, u "KOREAN"), (1, u "CHINESE"), (1, u "SIMPLIFIED_CHINESE"), (1, u "TRADITIONAL_CHINESE"), (1, u "FRANCE"), (1, u "GERMANY"), (1, u "ITALY"), (1, u "JAPAN"), (1, u "KOREA"), (1, u "UK"), (2, u "CANADA"), (1, u "CANADA_FRENCH"), (1, u "ROOT"), (1, u "NUM_CONSTANTS"), (1, u "SEP")] 31

def k17c0 : Code := { maxStack := 1, maxLocals := 1, code := jdk_3003_method_5_code, exceptionTable := #[], attributes := #[] }
def k17m0 : Method := { name := "getLanguage", desc := "()Ljava/lang/String;", sig := { parameters := [], returnType := some (.object "java/lang/String") }, accessFlags := 1, code := some k17c0 }
/-- sun/util/locale/BaseLocale -/
def k17 : Class := { plain "sun/util/locale/BaseLocale" (some 0) with
  accessFlags := 49
  interfaces := #[]
  cf := some (fileOf pool17 20 #[.nestMembers #[70, 66]] #[{ accessFlags := 1, nameIndex := 55, descriptorIndex := 18, attributes := #[] }] 49 2 #[] #[{ accessFlags := 9, nameIndex := 51, descriptorIndex := 52, attributes := #[] }, { accessFlags := 25, nameIndex := 190, descriptorIndex := 191, attributes := #[] }, { accessFlags := 25, nameIndex := 194, descriptorIndex := 191, attributes := #[] }, { accessFlags := 25, nameIndex := 196, descriptorIndex := 191, attributes := #[] }, { accessFlags := 25, nameIndex := 198, descriptorIndex := 191, attributes := #[] }, { accessFlags := 25, nameIndex := 200, descriptorIndex := 191, attributes := #[] }, { accessFlags := 25, nameIndex := 202, descriptorIndex := 191, attributes := #[] }, { accessFlags := 25, nameIndex := 204, descriptorIndex := 191, attributes := #[] }, { accessFlags := 25, nameIndex := 206, descriptorIndex := 191, attributes := #[] }, { accessFlags := 25, nameIndex := 208, descriptorIndex := 191, attributes := #[] }, { accessFlags := 25, nameIndex := 210, descriptorIndex := 191, attributes := #[] }, { accessFlags := 25, nameIndex := 212, descriptorIndex := 191, attributes := #[] }, { accessFlags := 25, nameIndex := 214, descriptorIndex := 191, attributes := #[] }, { accessFlags := 25, nameIndex := 216, descriptorIndex := 191, attributes := #[] }, { accessFlags := 25, nameIndex := 218, descriptorIndex := 191, attributes := #[] }, { accessFlags := 25, nameIndex := 220, descriptorIndex := 191, attributes := #[] }, { accessFlags := 25, nameIndex := 174, descriptorIndex := 191, attributes := #[] }, { accessFlags := 25, nameIndex := 223, descriptorIndex := 191, attributes := #[] }, { accessFlags := 25, nameIndex := 225, descriptorIndex := 191, attributes := #[] }, { accessFlags := 25, nameIndex := 227, descriptorIndex := 191, attributes := #[] }, { accessFlags := 25, nameIndex := 229, descriptorIndex := 191, attributes := #[] }, { accessFlags := 25, nameIndex := 231, descriptorIndex := 24, attributes := #[] }, { accessFlags := 18, nameIndex := 23, descriptorIndex := 24, attributes := #[] }, { accessFlags := 18, nameIndex := 30, descriptorIndex := 24, attributes := #[] }, { accessFlags := 18, nameIndex := 36, descriptorIndex := 24, attributes := #[] }, { accessFlags := 18, nameIndex := 39, descriptorIndex := 24, attributes := #[] }, { accessFlags := 2, nameIndex := 131, descriptorIndex := 132, attributes := #[] }, { accessFlags := 26, nameIndex := 97, descriptorIndex := 98, attributes := #[] }])
  fields := #[{ name := "constantBaseLocales", type := (.array (.object "sun/util/locale/BaseLocale")), accessFlags := 9, slot := 0, constantValue := 0 }, { name := "ENGLISH", type := .byte, accessFlags := 25, slot := 1, constantValue := 0 }, { name := "FRENCH", type := .byte, accessFlags := 25, slot := 2, constantValue := 0 }, { name := "GERMAN", type := .byte, accessFlags := 25, slot := 3, constantValue := 0 }, { name := "ITALIAN", type := .byte, accessFlags := 25, slot := 4, constantValue := 0 }, { name := "JAPANESE", type := .byte, accessFlags := 25, slot := 5, constantValue := 0 }, { name := "KOREAN", type := .byte, accessFlags := 25, slot := 6, constantValue := 0 }, { name := "CHINESE", type := .byte, accessFlags := 25, slot := 7, constantValue := 0 }, { name := "SIMPLIFIED_CHINESE", type := .byte, accessFlags := 25, slot := 8, constantValue := 0 }, { name := "TRADITIONAL_CHINESE", type := .byte, accessFlags := 25, slot := 9, constantValue := 0 }, { name := "FRANCE", type := .byte, accessFlags := 25, slot := 10, constantValue := 0 }, { name := "GERMANY", type := .byte, accessFlags := 25, slot := 11, constantValue := 0 }, { name := "ITALY", type := .byte, accessFlags := 25, slot := 12, constantValue := 0 }, { name := "JAPAN", type := .byte, accessFlags := 25, slot := 13, constantValue := 0 }, { name := "KOREA", type := .byte, accessFlags := 25, slot := 14, constantValue := 0 }, { name := "UK", type := .byte, accessFlags := 25, slot := 15, constantValue := 0 }, { name := "US", type := .byte, accessFlags := 25, slot := 16, constantValue := 0 }, { name := "CANADA", type := .byte, accessFlags := 25, slot := 17, constantValue := 0 }, { name := "CANADA_FRENCH", type := .byte, accessFlags := 25, slot := 18, constantValue := 0 }, { name := "ROOT", type := .byte, accessFlags := 25, slot := 19, constantValue := 0 }, { name := "NUM_CONSTANTS", type := .byte, accessFlags := 25, slot := 20, constantValue := 0 }, { name := "SEP", type := (.object "java/lang/String"), accessFlags := 25, slot := 21, constantValue := 0 }, { name := "language", type := (.object "java/lang/String"), accessFlags := 18, slot := 0, constantValue := 0 }, { name := "script", type := (.object "java/lang/String"), accessFlags := 18, slot := 1, constantValue := 0 }, { name := "region", type := (.object "java/lang/String"), accessFlags := 18, slot := 2, constantValue := 0 }, { name := "variant", type := (.object "java/lang/String"), accessFlags := 18, slot := 3, constantValue := 0 }, { name := "hash", type := .int, accessFlags := 2, slot := 4, constantValue := 0 }, { name := "OLD_ISO_CODES", type := .boolean, accessFlags := 26, slot := 22, constantValue := 0 }]
  methods := #[k17m0]
  instanceTypes := #[(.object "java/lang/String"), (.object "java/lang/String"), (.object "java/lang/String"), (.object "java/lang/String"), .int]
  staticTypes := #[(.array (.object "sun/util/locale/BaseLocale")), .byte, .byte, .byte, .byte, .byte, .byte, .byte, .byte, .byte, .byte, .byte, .byte, .byte, .byte, .byte, .byte, .byte, .byte, .byte, .byte, (.object "java/lang/String"), .boolean]
  resolved := Array.replicate 263 none
  statics := none }

def pool18 : Array CpInfo := pool [(2, .class_ 4), (1, u "java/lang/Object"), (0, u "<init>"), (0, u "()V"), (1, .class_ 10), (1, u "java/lang/System"), (0, u "allowSecurityManager"), (0, u "I"), (16, u "cons"), (0, u "Ljava/io/Console;"), (77, .class_ 110), (1, u "java/lang/System$CallersHolder"), (43, u "initialErrStream"), (0, u "Ljava/io/PrintStream;"), (19, u "security"), (0, u "Ljava/lang/SecurityManager;"), (31, .class_ 209), (0, u "java/lang/System$1"), (7, u "props"), (0, u "Ljava/util/Properties;"), (2, u "lineSeparator"), (0, u "Ljava/lang/String;"), (96, .class_ 321), (1, u "java/lang/System$LoggerFinder"), (5, .class_ 328), (0, u "java/lang/System$Logger"), (67, u "err"), (2, u "out"), (91, u "notSupportedJnuEncoding"), (15, u "in"), (17, u "initialIn"), (0, u "Ljava/io/InputStream;"), (35, u "bootLayer"), (0, u "Ljava/lang/ModuleLayer;"), (99, .class_ 664), (0, u "java/lang/System$2"), (9, u "NEVER"), (2, u "MAYBE"), (49, u "arraycopy"), (0, u "(Ljava/lang/Object;ILjava/lang/Object;II)V"), (72, .class_ 802), (0, u "java/lang/System$Logger$Level")] 31

def k18m0 : Method := { name := "<init>", desc := "()V", sig := { parameters := [], returnType := none }, accessFlags := 2, code := none }
def k18m1 : Method := { name := "arraycopy", desc := "(Ljava/lang/Object;ILjava/lang/Object;II)V", sig := { parameters := [(.object "java/lang/Object"), .int, (.object "java/lang/Object"), .int, .int], returnType := none }, accessFlags := 265, code := none }
/-- java/lang/System -/
def k18 : Class := { plain "java/lang/System" (some 0) with
  accessFlags := 49
  interfaces := #[]
  cf := some (fileOf pool18 8 #[.nestMembers #[319, 327, 801, 108, 663, 208]] #[{ accessFlags := 2, nameIndex := 5, descriptorIndex := 6, attributes := #[] }, { accessFlags := 265, nameIndex := 727, descriptorIndex := 728, attributes := #[] }] 49 2 #[] #[{ accessFlags := 25, nameIndex := 507, descriptorIndex := 526, attributes := #[] }, { accessFlags := 25, nameIndex := 399, descriptorIndex := 155, attributes := #[] }, { accessFlags := 25, nameIndex := 396, descriptorIndex := 155, attributes := #[] }, { accessFlags := 10, nameIndex := 525, descriptorIndex := 526, attributes := #[] }, { accessFlags := 26, nameIndex := 674, descriptorIndex := 12, attributes := #[] }, { accessFlags := 26, nameIndex := 677, descriptorIndex := 12, attributes := #[] }, { accessFlags := 10, nameIndex := 11, descriptorIndex := 12, attributes := #[] }, { accessFlags := 74, nameIndex := 175, descriptorIndex := 176, attributes := #[] }, { accessFlags := 10, nameIndex := 491, descriptorIndex := 222, attributes := #[] }, { accessFlags := 74, nameIndex := 29, descriptorIndex := 30, attributes := #[] }, { accessFlags := 74, nameIndex := 154, descriptorIndex := 155, attributes := #[] }, { accessFlags := 10, nameIndex := 217, descriptorIndex := 218, attributes := #[] }, { accessFlags := 10, nameIndex := 221, descriptorIndex := 222, attributes := #[] }, { accessFlags := 8, nameIndex := 562, descriptorIndex := 563, attributes := #[] }])
  fields := #[{ name := "in", type := (.object "java/io/InputStream"), accessFlags := 25, slot := 0, constantValue := 0 }, { name := "out", type := (.object "java/io/PrintStream"), accessFlags := 25, slot := 1, constantValue := 0 }, { name := "err", type := (.object "java/io/PrintStream"), accessFlags := 25, slot := 2, constantValue := 0 }, { name := "initialIn", type := (.object "java/io/InputStream"), accessFlags := 10, slot := 3, constantValue := 0 }, { name := "NEVER", type := .int, accessFlags := 26, slot := 4, constantValue := 0 }, { name := "MAYBE", type := .int, accessFlags := 26, slot := 5, constantValue := 0 }, { name := "allowSecurityManager", type := .int, accessFlags := 10, slot := 6, constantValue := 0 }, { name := "security", type := (.object "java/lang/SecurityManager"), accessFlags := 74, slot := 7, constantValue := 0 }, { name := "notSupportedJnuEncoding", type := (.object "java/lang/String"), accessFlags := 10, slot := 8, constantValue := 0 }, { name := "cons", type := (.object "java/io/Console"), accessFlags := 74, slot := 9, constantValue := 0 }, { name := "initialErrStream", type := (.object "java/io/PrintStream"), accessFlags := 74, slot := 10, constantValue := 0 }, { name := "props", type := (.object "java/util/Properties"), accessFlags := 10, slot := 11, constantValue := 0 }, { name := "lineSeparator", type := (.object "java/lang/String"), accessFlags := 10, slot := 12, constantValue := 0 }, { name := "bootLayer", type := (.object "java/lang/ModuleLayer"), accessFlags := 8, slot := 13, constantValue := 0 }]
  methods := #[k18m0, k18m1]
  instanceTypes := #[]
  staticTypes := #[(.object "java/io/InputStream"), (.object "java/io/PrintStream"), (.object "java/io/PrintStream"), (.object "java/io/InputStream"), .int, .int, .int, (.object "java/lang/SecurityManager"), (.object "java/lang/String"), (.object "java/io/Console"), (.object "java/io/PrintStream"), (.object "java/util/Properties"), (.object "java/lang/String"), (.object "java/lang/ModuleLayer")]
  resolved := Array.replicate 834 none
  statics := none }

def pool19 : Array CpInfo := pool [(9, u "<init>"), (6, .class_ 18), (1, u "java/lang/Object"), (0, u "()V"), (1, .class_ 23), (1, u "jdk/internal/util/ArraysSupport"), (0, u "LOG2_ARRAY_LONG_INDEX_SCALE"), (0, u "I"), (2, u "U"), (0, u "Ljdk/internal/misc/Unsafe;"), (8, u "BIG_ENDIAN"), (0, u "Z"), (8, u "LOG2_BYTE_BIT_SIZE"), (4, u "LOG2_ARRAY_INT_INDEX_SCALE"), (54, u "JLA"), (0, u "Ljdk/internal/access/JavaLangAccess;"), (11, u "LOG2_ARRAY_BOOLEAN_INDEX_SCALE"), (9, u "LOG2_ARRAY_BYTE_INDEX_SCALE"), (5, u "LOG2_ARRAY_CHAR_INDEX_SCALE"), (5, u "LOG2_ARRAY_SHORT_INDEX_SCALE"), (5, u "mismatch"), (12, u "LOG2_ARRAY_FLOAT_INDEX_SCALE"), (24, u "LOG2_ARRAY_DOUBLE_INDEX_SCALE"), (89, u "T_BOOLEAN"), (2, u "T_CHAR"), (1, u "T_FLOAT"), (1, u "T_DOUBLE"), (1, u "T_BYTE"), (1, u "T_SHORT"), (1, u "T_INT"), (1, u "T_LONG"), (1, u "SOFT_MAX_ARRAY_LENGTH"), (42, u "([BI[BII)I")] 40

def k19m0 : Method := { name := "<init>", desc := "()V", sig := { parameters := [], returnType := none }, accessFlags := 2, code := none }
def k19c1 : Code := { maxStack := 8, maxLocals := 8, code := jdk_48_method_14_code, exceptionTable := #[], attributes := #[] }
def k19m1 : Method := { name := "mismatch", desc := "([BI[BII)I", sig := { parameters := [(.array .byte), .int, (.array .byte), .int, .int], returnType := some .int }, accessFlags := 9, code := some k19c1 }
/-- jdk/internal/util/ArraysSupport -/
def k19 : Class := { plain "jdk/internal/util/ArraysSupport" (some 0) with
  accessFlags := 33
  interfaces := #[]
  cf := some (fileOf pool19 21 #[] #[{ accessFlags := 2, nameIndex := 9, descriptorIndex := 19, attributes := #[] }, { accessFlags := 9, nameIndex := 149, descriptorIndex := 337, attributes := #[] }] 33 16 #[] #[{ accessFlags := 24, nameIndex := 28, descriptorIndex := 29, attributes := #[] }, { accessFlags := 26, nameIndex := 38, descriptorIndex := 39, attributes := #[] }, { accessFlags := 25, nameIndex := 121, descriptorIndex := 25, attributes := #[] }, { accessFlags := 25, nameIndex := 131, descriptorIndex := 25, attributes := #[] }, { accessFlags := 25, nameIndex := 137, descriptorIndex := 25, attributes := #[] }, { accessFlags := 25, nameIndex := 143, descriptorIndex := 25, attributes := #[] }, { accessFlags := 25, nameIndex := 53, descriptorIndex := 25, attributes := #[] }, { accessFlags := 25, nameIndex := 24, descriptorIndex := 25, attributes := #[] }, { accessFlags := 25, nameIndex := 162, descriptorIndex := 25, attributes := #[] }, { accessFlags := 25, nameIndex := 187, descriptorIndex := 25, attributes := #[] }, { accessFlags := 26, nameIndex := 48, descriptorIndex := 25, attributes := #[] }, { accessFlags := 25, nameIndex := 277, descriptorIndex := 25, attributes := #[] }, { accessFlags := 25, nameIndex := 280, descriptorIndex := 25, attributes := #[] }, { accessFlags := 25, nameIndex := 282, descriptorIndex := 25, attributes := #[] }, { accessFlags := 25, nameIndex := 284, descriptorIndex := 25, attributes := #[] }, { accessFlags := 25, nameIndex := 286, descriptorIndex := 25, attributes := #[] }, { accessFlags := 25, nameIndex := 288, descriptorIndex := 25, attributes := #[] }, { accessFlags := 25, nameIndex := 290, descriptorIndex := 25, attributes := #[] }, { accessFlags := 25, nameIndex := 292, descriptorIndex := 25, attributes := #[] }, { accessFlags := 26, nameIndex := 108, descriptorIndex := 109, attributes := #[] }, { accessFlags := 25, nameIndex := 294, descriptorIndex := 25, attributes := #[] }])
  fields := #[{ name := "U", type := (.object "jdk/internal/misc/Unsafe"), accessFlags := 24, slot := 0, constantValue := 0 }, { name := "BIG_ENDIAN", type := .boolean, accessFlags := 26, slot := 1, constantValue := 0 }, { name := "LOG2_ARRAY_BOOLEAN_INDEX_SCALE", type := .int, accessFlags := 25, slot := 2, constantValue := 0 }, { name := "LOG2_ARRAY_BYTE_INDEX_SCALE", type := .int, accessFlags := 25, slot := 3, constantValue := 0 }, { name := "LOG2_ARRAY_CHAR_INDEX_SCALE", type := .int, accessFlags := 25, slot := 4, constantValue := 0 }, { name := "LOG2_ARRAY_SHORT_INDEX_SCALE", type := .int, accessFlags := 25, slot := 5, constantValue := 0 }, { name := "LOG2_ARRAY_INT_INDEX_SCALE", type := .int, accessFlags := 25, slot := 6, constantValue := 0 }, { name := "LOG2_ARRAY_LONG_INDEX_SCALE", type := .int, accessFlags := 25, slot := 7, constantValue := 0 }, { name := "LOG2_ARRAY_FLOAT_INDEX_SCALE", type := .int, accessFlags := 25, slot := 8, constantValue := 0 }, { name := "LOG2_ARRAY_DOUBLE_INDEX_SCALE", type := .int, accessFlags := 25, slot := 9, constantValue := 0 }, { name := "LOG2_BYTE_BIT_SIZE", type := .int, accessFlags := 26, slot := 10, constantValue := 0 }, { name := "T_BOOLEAN", type := .int, accessFlags := 25, slot := 11, constantValue := 0 }, { name := "T_CHAR", type := .int, accessFlags := 25, slot := 12, constantValue := 0 }, { name := "T_FLOAT", type := .int, accessFlags := 25, slot := 13, constantValue := 0 }, { name := "T_DOUBLE", type := .int, accessFlags := 25, slot := 14, constantValue := 0 }, { name := "T_BYTE", type := .int, accessFlags := 25, slot := 15, constantValue := 0 }, { name := "T_SHORT", type := .int, accessFlags := 25, slot := 16, constantValue := 0 }, { name := "T_INT", type := .int, accessFlags := 25, slot := 17, constantValue := 0 }, { name := "T_LONG", type := .int, accessFlags := 25, slot := 18, constantValue := 0 }, { name := "JLA", type := (.object "jdk/internal/access/JavaLangAccess"), accessFlags := 26, slot := 19, constantValue := 0 }, { name := "SOFT_MAX_ARRAY_LENGTH", type := .int, accessFlags := 25, slot := 20, constantValue := 0 }]
  methods := #[k19m0, k19m1]
  instanceTypes := #[]
  staticTypes := #[(.object "jdk/internal/misc/Unsafe"), .boolean, .int, .int, .int, .int, .int, .int, .int, .int, .int, .int, .int, .int, .int, .int, .int, .int, .int, (.object "jdk/internal/access/JavaLangAccess"), .int]
  resolved := Array.replicate 378 none
  statics := some 4 }

def pool20 : Array CpInfo := pool [(2, .class_ 4), (1, u "java/lang/Object"), (0, u "<init>"), (0, u "()V"), (7, .class_ 16), (1, u "java/util/Arrays"), (57, .class_ 76), (1, u "java/util/Arrays$NaturalOrder"), (36, .class_ 115), (1, u "java/util/Arrays$LegacyMergeSort"), (1, u "Z"), (21, u "copyOfRange"), (10, .methodref 151 152), (0, .class_ 153), (0, .nameAndType 154 155), (0, u "java/lang/System"), (0, u "arraycopy"), (0, u "(Ljava/lang/Object;ILjava/lang/Object;II)V"), (148, .methodref 305 306), (0, .class_ 307), (0, .nameAndType 308 309), (0, u "java/lang/Math"), (0, u "min"), (0, u "(II)I"), (29, .methodref 14 340), (0, .nameAndType 341 342), (0, u "copyOfRangeByte"), (0, u "([BII)[B"), (0, .methodref 14 344), (0, .nameAndType 345 346), (0, u "checkLength"), (0, u "(II)V"), (28, .class_ 376), (0, u "java/util/Arrays$ArrayList"), (68, u "$assertionsDisabled"), (269, u "MIN_ARRAY_SORT_GRAN"), (0, u "I"), (2, u "INSERTIONSORT_THRESHOLD"), (255, .class_ 976), (0, u "java/util/Arrays$ArrayItr")] 52

def k20m0 : Method := { name := "<init>", desc := "()V", sig := { parameters := [], returnType := none }, accessFlags := 2, code := none }
def k20c1 : Code := { maxStack := 4, maxLocals := 2, code := jdk_65_method_131_code, exceptionTable := #[], attributes := #[] }
def k20m1 : Method := { name := "checkLength", desc := "(II)V", sig := { parameters := [.int, .int], returnType := none }, accessFlags := 10, code := some k20c1 }
def k20c2 : Code := { maxStack := 3, maxLocals := 3, code := jdk_65_method_132_code, exceptionTable := #[], attributes := #[] }
def k20m2 : Method := { name := "copyOfRange", desc := "([BII)[B", sig := { parameters := [(.array .byte), .int, .int], returnType := some (.array .byte) }, accessFlags := 9, code := some k20c2 }
def k20c3 : Code := { maxStack := 6, maxLocals := 5, code := jdk_65_method_133_code, exceptionTable := #[], attributes := #[] }
def k20m3 : Method := { name := "copyOfRangeByte", desc := "([BII)[B", sig := { parameters := [(.array .byte), .int, .int], returnType := some (.array .byte) }, accessFlags := 10, code := some k20c3 }
/-- java/util/Arrays -/
def k20 : Class := { plain "java/util/Arrays" (some 0) with
  accessFlags := 49
  interfaces := #[]
  cf := some (fileOf pool20 14 #[.nestMembers #[975, 375, 113, 74]] #[{ accessFlags := 2, nameIndex := 5, descriptorIndex := 6, attributes := #[] }, { accessFlags := 10, nameIndex := 345, descriptorIndex := 346, attributes := #[] }, { accessFlags := 9, nameIndex := 139, descriptorIndex := 342, attributes := #[] }, { accessFlags := 10, nameIndex := 341, descriptorIndex := 342, attributes := #[] }] 49 2 #[] #[{ accessFlags := 26, nameIndex := 715, descriptorIndex := 716, attributes := #[] }, { accessFlags := 26, nameIndex := 719, descriptorIndex := 716, attributes := #[] }, { accessFlags := 4120, nameIndex := 445, descriptorIndex := 117, attributes := #[] }])
  fields := #[{ name := "MIN_ARRAY_SORT_GRAN", type := .int, accessFlags := 26, slot := 0, constantValue := 0 }, { name := "INSERTIONSORT_THRESHOLD", type := .int, accessFlags := 26, slot := 1, constantValue := 0 }, { name := "$assertionsDisabled", type := .boolean, accessFlags := 4120, slot := 2, constantValue := 0 }]
  methods := #[k20m0, k20m1, k20m2, k20m3]
  instanceTypes := #[]
  staticTypes := #[.int, .int, .boolean]
  resolved := Array.replicate 1029 none
  statics := none }

/-- the primitive byte -/
def k21 : Class := { plain "byte" none with kind := .primitive 'B', accessFlags := 0x411 }
/-- [B -/
def k22 : Class := { plain "[B" (some 0) with kind := .array 21 .byte, interfaces := #[15, 2], accessFlags := 1041 }

/-- the primitive char -/
def k23 : Class := { plain "char" none with kind := .primitive 'C', accessFlags := 0x411 }
/-- [C -/
def k24 : Class := { plain "[C" (some 0) with kind := .array 23 .char, interfaces := #[15, 2], accessFlags := 1041 }

/-- the primitive int -/
def k25 : Class := { plain "int" none with kind := .primitive 'I', accessFlags := 0x411 }
/-- [I -/
def k26 : Class := { plain "[I" (some 0) with kind := .array 25 .int, interfaces := #[15, 2], accessFlags := 1041 }

def heap : Heap := #[{ cls := 7, slots := #[.long 0, .int 1, .null, .int 0, .null, .int 0, .int 0], vm := .statics 7 },
  { cls := 9, slots := #[.null, .null, .null], vm := .statics 9 },
  { cls := 14, slots := #[.null, .null, .ref 9, .ref 10, .null], vm := .statics 14 },
  { cls := 16, slots := #[.null, .null, .null, .null, .null, .null, .null, .null, .null, .null, .null, .null, .null, .null, .null, .null, .null, .null, .ref 8, .null, .null, .null, .null, .int 0, .int 0, .long 0, .int 0, .int 0, .int 0, .int 0, .int 0, .int 0, .null, .null, .null, .null, .null, .null, .int 0], vm := .statics 16 },
  { cls := 19, slots := #[.null, .int 0, .int 0, .int 0, .int 0, .int 0, .int 0, .int 0, .int 0, .int 0, .int 0, .int 0, .int 0, .int 0, .int 0, .int 0, .int 0, .int 0, .int 0, .null, .int 0], vm := .statics 19 },
  { cls := 22, slots := #[], vm := .none },
  { cls := 7, slots := #[.ref 5, .int 0, .int 0, .int 0], vm := .none },
  { cls := 17, slots := #[.ref 6, .null, .null, .null, .int 0], vm := .none },
  { cls := 16, slots := #[.ref 7, .null, .int 0, .null], vm := .none },
  { cls := 14, slots := #[], vm := .none },
  { cls := 26, slots := #[.int 1207963663, .int 1207963663, .int 1207963663, .int 1207963663, .int 1207963663, .int 1207963663, .int 1207963663, .int 1207963663, .int 1207963663, .int 1476411407, .int 1342193679, .int 1476411407, .int 1610629135, .int 1342193679, .int 1207963663, .int 1207963663, .int 1207963663, .int 1207963663, .int 1207963663, .int 1207963663, .int 1207963663, .int 1207963663, .int 1207963663, .int 1207963663, .int 1207963663, .int 1207963663, .int 1207963663, .int 1207963663, .int 1342193679, .int 1342193679, .int 1342193679, .int 1476411407, .int 1610629132, .int 1744830488, .int 1744830488, .int 671088664, .int 671113242, .int 671088664, .int 1744830488, .int 1744830488, .int (-402653163), .int (-402653162), .int 1744830488, .int 536870937, .int 939524120, .int 536870932, .int 939524120, .int 939524120, .int 402667017, .int 402667017, .int 402667017, .int 402667017, .int 402667017, .int 402667017, .int 402667017, .int 402667017, .int 402667017, .int 402667017, .int 939524120, .int 1744830488, .int (-402653159), .int 1744830489, .int (-402653159), .int 1744830488, .int 1744830488, .int 8552417, .int 8552417, .int 8552417, .int 8552417, .int 8552417, .int 8552417, .int 8552417, .int 8552417, .int 8552417, .int 8552417, .int 8552417, .int 8552417, .int 8552417, .int 8552417, .int 8552417, .int 8552417, .int 8552417, .int 8552417, .int 8552417, .int 8552417, .int 8552417, .int 8552417, .int 8552417, .int 8552417, .int 8552417, .int 8552417, .int (-402653163), .int 1744830488, .int (-402653162), .int 1744830491, .int 1744850967, .int 1744830491, .int 8486882, .int 8486882, .int 8486882, .int 8486882, .int 8486882, .int 8486882, .int 8486882, .int 8486882, .int 8486882, .int 8486882, .int 8486882, .int 8486882, .int 8486882, .int 8486882, .int 8486882, .int 8486882, .int 8486882, .int 8486882, .int 8486882, .int 8486882, .int 8486882, .int 8486882, .int 8486882, .int 8486882, .int 8486882, .int 8486882, .int (-402653163), .int 1744830489, .int (-402653162), .int 1744830489, .int 1207963663, .int 1207963663, .int 1207963663, .int 1207963663, .int 1207963663, .int 1207963663, .int 1342181391, .int 1207963663, .int 1207963663, .int 1207963663, .int 1207963663, .int 1207963663, .int 1207963663, .int 1207963663, .int 1207963663, .int 1207963663, .int 1207963663, .int 1207963663, .int 1207963663, .int 1207963663, .int 1207963663, .int 1207963663, .int 1207963663, .int 1207963663, .int 1207963663, .int 1207963663, .int 1207963663, .int 1207963663, .int 1207963663, .int 1207963663, .int 1207963663, .int 1207963663, .int 1207963663, .int 939524108, .int 1744830488, .int 671113242, .int 671113242, .int 671113242, .int 671113242, .int 1744830492, .int 1744830488, .int 1744830491, .int 1744830492, .int 28677, .int (-402653155), .int 1744830489, .int 1207963664, .int 1744830492, .int 1744830491, .int 671088668, .int 671088665, .int 402654731, .int 402654731, .int 1744830491, .int 134049794, .int 1744830488, .int 1744830488, .int 1744830491, .int 402654475, .int 28677, .int (-402653154), .int 1744832523, .int 1744832523, .int 1744832523, .int 1744830488, .int 8548353, .int 8548353, .int 8548353, .int 8548353, .int 8548353, .int 8548353, .int 8548353, .int 8548353, .int 8548353, .int 8548353, .int 8548353, .int 8548353, .int 8548353, .int 8548353, .int 8548353, .int 8548353, .int 8548353, .int 8548353, .int 8548353, .int 8548353, .int 8548353, .int 8548353, .int 8548353, .int 1744830489, .int 8548353, .int 8548353, .int 8548353, .int 8548353, .int 8548353, .int 8548353, .int 8548353, .int 134049794, .int 8482818, .int 8482818, .int 8482818, .int 8482818, .int 8482818, .int 8482818, .int 8482818, .int 8482818, .int 8482818, .int 8482818, .int 8482818, .int 8482818, .int 8482818, .int 8482818, .int 8482818, .int 8482818, .int 8482818, .int 8482818, .int 8482818, .int 8482818, .int 8482818, .int 8482818, .int 8482818, .int 1744830489, .int 8482818, .int 8482818, .int 8482818, .int 8482818, .int 8482818, .int 8482818, .int 8482818, .int 102592514], vm := .none }]
def classes : Array Class := #[k0, k1, k2, k3, k4, k5, k6, k7, k8, k9, k10, k11, k12, k13, k14, k15, k16, k17, k18, k19, k20, k21, k22, k23, k24, k25, k26]
def interned : List (Array UInt16 × Addr) := []
def slotsUsed : Nat := 344
def theMethod : MethodId := ⟨1, 5⟩
def args0 : Array Value := #[.int 42, .int 5, .int 3, .int 97, .int 9]
def aboutOver (below : List Frame) : State where
  vm := { classes := classes, interned := interned.toArray }
  heap := heap
  slotsUsed := slotsUsed
  threads := #[{ frames := .invoking theMethod args0 :: below }]
def below0 : List Frame := [.native { method := ⟨0, 0⟩, args := #[] }]
def about1 : State := aboutOver below0
def p0 : Program := .bare "" "" ""
def e0 : Env := launch0.env 0 0 0
theorem w_frames : about1.frames = Frame.invoking theMethod args0 :: below0 := rfl
set_option maxRecDepth 65536 in
theorem w_args : argsFit about1.vm theMethod args0 = true := by decide +kernel
set_option maxRecDepth 65536 in
theorem w_heap : heapFits about1 = true := by decide +kernel
set_option maxRecDepth 65536 in
theorem w_runnable : about1.curStatus? = some .runnable := by decide +kernel
set_option maxRecDepth 65536 in
theorem w_alone : about1.alone = true := by decide +kernel
set_option maxRecDepth 65536 in
theorem w_named : about1.methodNamed? x = some theMethod := by decide +kernel
set_option maxRecDepth 65536 in
theorem w_hears : about1.hears theMethod below0 = true := by decide +kernel
set_option maxRecDepth 65536 in
theorem w_ripe : about1.ripe theMethod args0 below0 = true := by decide +kernel
theorem w_running : about1.status = .running := rfl
set_option maxRecDepth 65536 in
theorem w_room : about1.hasRoom e0.platform room_1 = true :=
  launch0.hasRoom_least _ room_1 (by decide +kernel) (by decide +kernel) (by decide +kernel) (by decide +kernel) (by decide +kernel) (by decide +kernel)
theorem allAtoms_all (ts : List Jvm.Cond) (a : Array Jvm.Value) (st : Jvm.State) : (allAtoms ts).before a st = ts.all (fun c => c.before a st) := by
  induction ts with
  | nil => rfl
  | cons c t ih =>
    show (Jvm.Cond.and c (allAtoms t)).before a st = _
    rw [Jvm.Cond.before_and, ih, List.all_cons]
def words1 : List Jvm.Cond := Jvm.Cond.code x code maxLocals ret :: tables_1
/-- a 'code' word, met by the world's own term for the bytes: nothing is compared byte by byte -/
theorem code_word {y : MethodName} {bytes : ByteArray} {mx : Nat} {rt : Option FieldType} {a : Array Value} {s : State} {m : MethodId} {meth : Method} {c : Code} (h1 : s.methodNamed? y = some m) (h2 : s.vm.method? m = some meth) (h3 : meth.code = some c) (h4 : c.code = bytes)
    (h5 : (c.maxLocals == mx && c.exceptionTable.isEmpty && decide (c.maxStack ≤ mostOperands) && decide (meth.sig.returnType = rt) && !meth.locks && decide (parseMethodDescriptor y.desc = some meth.sig)) = true) : (Jvm.Cond.code y bytes mx rt).before a s = true := by
  simp only [Bool.and_eq_true, beq_iff_eq, Bool.not_eq_true', decide_eq_true_eq] at h5
  obtain ⟨⟨⟨⟨⟨g1, g2⟩, g3⟩, g4⟩, g5⟩, g6⟩ := h5
  simp [Cond.before, Cond.holds, Cond.value, h1, h2, h3, h4, g1, g2, g3, g4, g5, g6]
def isCode : Jvm.Cond → Bool
  | .code _ _ _ _ => true
  | _ => false
theorem all_split {L : List Jvm.Cond} {P : Jvm.Cond → Bool} (h1 : L.all (fun c => isCode c || P c) = true) (h2 : ∀ c ∈ L.filter isCode, P c = true) : L.all P = true := by
  refine List.all_eq_true.mpr fun c hc => ?_
  have h := List.all_eq_true.mp h1 c hc
  rcases Bool.eq_false_or_eq_true (isCode c) with hi | hi
  · exact h2 c (List.mem_filter.mpr ⟨hc, hi⟩)
  · simpa [hi] using h
set_option maxRecDepth 65536 in
theorem w_c0 : (Jvm.Cond.code x code maxLocals ret).before args0 about1 = true := code_word (m := ⟨1, 5⟩) (meth := k1m5) (c := k1c5) (by decide +kernel) rfl rfl rfl (by decide +kernel)
set_option maxRecDepth 65536 in
theorem w_c1 : (Jvm.Cond.code ({ cls := "java/lang/String", name := "length", desc := "()I" } : Jvm.MethodName) jdk_42_method_54_code (1 : Nat) (Option.some Jvm.ClassFile.FieldType.int)).before args0 about1 = true := code_word (m := ⟨7, 2⟩) (meth := k7m2) (c := k7c2) (by decide +kernel) rfl rfl rfl (by decide +kernel)
set_option maxRecDepth 65536 in
theorem w_c2 : (Jvm.Cond.code ({ cls := "java/lang/String", name := "coder", desc := "()B" } : Jvm.MethodName) jdk_42_method_152_code (1 : Nat) (Option.some Jvm.ClassFile.FieldType.byte)).before args0 about1 = true := code_word (m := ⟨7, 14⟩) (meth := k7m14) (c := k7c14) (by decide +kernel) rfl rfl rfl (by decide +kernel)
set_option maxRecDepth 65536 in
theorem w_c3 : (Jvm.Cond.code ({ cls := "com/example/archerfish/archerfish/MediaTypeIsJsonPinLaw", name := "put", desc := "([CILjava/lang/String;II)V" } : Jvm.MethodName) method_5_code (5 : Nat) (Option.none : Option Jvm.ClassFile.FieldType)).before args0 about1 = true := code_word (m := ⟨1, 4⟩) (meth := k1m4) (c := k1c4) (by decide +kernel) rfl rfl rfl (by decide +kernel)
set_option maxRecDepth 65536 in
theorem w_c4 : (Jvm.Cond.code ({ cls := "java/lang/String", name := "charAt", desc := "(I)C" } : Jvm.MethodName) jdk_42_method_56_code (2 : Nat) (Option.some Jvm.ClassFile.FieldType.char)).before args0 about1 = true := code_word (m := ⟨7, 3⟩) (meth := k7m3) (c := k7c3) (by decide +kernel) rfl rfl rfl (by decide +kernel)
set_option maxRecDepth 65536 in
theorem w_c5 : (Jvm.Cond.code ({ cls := "java/lang/String", name := "isLatin1", desc := "()Z" } : Jvm.MethodName) jdk_42_method_154_code (1 : Nat) (Option.some Jvm.ClassFile.FieldType.boolean)).before args0 about1 = true := code_word (m := ⟨7, 15⟩) (meth := k7m15) (c := k7c15) (by decide +kernel) rfl rfl rfl (by decide +kernel)
set_option maxRecDepth 65536 in
theorem w_c6 : (Jvm.Cond.code ({ cls := "java/lang/StringLatin1", name := "charAt", desc := "([BI)C" } : Jvm.MethodName) jdk_43_method_2_code (2 : Nat) (Option.some Jvm.ClassFile.FieldType.char)).before args0 about1 = true := code_word (m := ⟨8, 1⟩) (meth := k8m1) (c := k8c1) (by decide +kernel) rfl rfl rfl (by decide +kernel)
set_option maxRecDepth 65536 in
theorem w_c7 : (Jvm.Cond.code ({ cls := "java/lang/String", name := "checkIndex", desc := "(II)V" } : Jvm.MethodName) jdk_42_method_155_code (2 : Nat) (Option.none : Option Jvm.ClassFile.FieldType)).before args0 about1 = true := code_word (m := ⟨7, 16⟩) (meth := k7m16) (c := k7c16) (by decide +kernel) rfl rfl rfl (by decide +kernel)
set_option maxRecDepth 65536 in
theorem w_c8 : (Jvm.Cond.code ({ cls := "jdk/internal/util/Preconditions", name := "checkIndex", desc := "(IILjava/util/function/BiFunction;)I" } : Jvm.MethodName) jdk_41_method_11_code (3 : Nat) (Option.some Jvm.ClassFile.FieldType.int)).before args0 about1 = true := code_word (m := ⟨9, 1⟩) (meth := k9m1) (c := k9c1) (by decide +kernel) rfl rfl rfl (by decide +kernel)
set_option maxRecDepth 65536 in
theorem w_c9 : (Jvm.Cond.code ({ cls := "com/example/archerfish/archerfish/MediaTypeIsJsonPinLaw", name := "flip", desc := "(CII)C" } : Jvm.MethodName) method_2_code (3 : Nat) (Option.some Jvm.ClassFile.FieldType.char)).before args0 about1 = true := code_word (m := ⟨1, 1⟩) (meth := k1m1) (c := k1c1) (by decide +kernel) rfl rfl rfl (by decide +kernel)
set_option maxRecDepth 65536 in
theorem w_c10 : (Jvm.Cond.code ({ cls := "com/example/archerfish/archerfish/MediaTypeIsJsonPinLaw", name := "matches", desc := "(CC)Z" } : Jvm.MethodName) method_3_code (2 : Nat) (Option.some Jvm.ClassFile.FieldType.boolean)).before args0 about1 = true := code_word (m := ⟨1, 2⟩) (meth := k1m2) (c := k1c2) (by decide +kernel) rfl rfl rfl (by decide +kernel)
set_option maxRecDepth 65536 in
theorem w_c11 : (Jvm.Cond.code ({ cls := "java/lang/String", name := "<init>", desc := "([C)V" } : Jvm.MethodName) jdk_42_method_3_code (2 : Nat) (Option.none : Option Jvm.ClassFile.FieldType)).before args0 about1 = true := code_word (m := ⟨7, 1⟩) (meth := k7m1) (c := k7c1) (by decide +kernel) rfl rfl rfl (by decide +kernel)
set_option maxRecDepth 65536 in
theorem w_c12 : (Jvm.Cond.code ({ cls := "java/lang/String", name := "<init>", desc := "([CIILjava/lang/Void;)V" } : Jvm.MethodName) jdk_42_method_149_code (6 : Nat) (Option.none : Option Jvm.ClassFile.FieldType)).before args0 about1 = true := code_word (m := ⟨7, 12⟩) (meth := k7m12) (c := k7c12) (by decide +kernel) rfl rfl rfl (by decide +kernel)
set_option maxRecDepth 65536 in
theorem w_c13 : (Jvm.Cond.code ({ cls := "java/lang/Object", name := "<init>", desc := "()V" } : Jvm.MethodName) object_method_1_code (1 : Nat) (Option.none : Option Jvm.ClassFile.FieldType)).before args0 about1 = true := code_word (m := ⟨0, 0⟩) (meth := k0m0) (c := k0c0) (by decide +kernel) rfl rfl rfl (by decide +kernel)
set_option maxRecDepth 65536 in
theorem w_c14 : (Jvm.Cond.code ({ cls := "java/lang/StringUTF16", name := "compress", desc := "([CII)[B" } : Jvm.MethodName) jdk_52_method_16_code (6 : Nat) (Option.some (Jvm.ClassFile.FieldType.array Jvm.ClassFile.FieldType.byte))).before args0 about1 = true := code_word (m := ⟨10, 2⟩) (meth := k10m2) (c := k10c2) (by decide +kernel) rfl rfl rfl (by decide +kernel)
set_option maxRecDepth 65536 in
theorem w_c15 : (Jvm.Cond.code ({ cls := "java/lang/StringUTF16", name := "compress", desc := "([CI[BII)I" } : Jvm.MethodName) jdk_52_method_21_code (7 : Nat) (Option.some Jvm.ClassFile.FieldType.int)).before args0 about1 = true := code_word (m := ⟨10, 3⟩) (meth := k10m3) (c := k10c3) (by decide +kernel) rfl rfl rfl (by decide +kernel)
set_option maxRecDepth 65536 in
theorem w_c16 : (Jvm.Cond.code ({ cls := "java/lang/StringUTF16", name := "coderFromArrayLen", desc := "([BI)B" } : Jvm.MethodName) jdk_52_method_15_code (2 : Nat) (Option.some Jvm.ClassFile.FieldType.byte)).before args0 about1 = true := code_word (m := ⟨10, 1⟩) (meth := k10m1) (c := k10c1) (by decide +kernel) rfl rfl rfl (by decide +kernel)
set_option maxRecDepth 65536 in
theorem w_c17 : (Jvm.Cond.code ({ cls := "com/example/archerfish/archerfish/MediaType", name := "isJson", desc := "(Ljava/lang/String;)Z" } : Jvm.MethodName) prog_8_method_4_code (2 : Nat) (Option.some Jvm.ClassFile.FieldType.boolean)).before args0 about1 = true := code_word (m := ⟨11, 2⟩) (meth := k11m2) (c := k11c2) (by decide +kernel) rfl rfl rfl (by decide +kernel)
set_option maxRecDepth 65536 in
theorem w_c18 : (Jvm.Cond.code ({ cls := "com/example/archerfish/archerfish/MediaType", name := "essence", desc := "(Ljava/lang/String;)Ljava/lang/String;" } : Jvm.MethodName) prog_8_method_3_code (2 : Nat) (Option.some (Jvm.ClassFile.FieldType.object "java/lang/String"))).before args0 about1 = true := code_word (m := ⟨11, 1⟩) (meth := k11m1) (c := k11c1) (by decide +kernel) rfl rfl rfl (by decide +kernel)
set_option maxRecDepth 65536 in
theorem w_c19 : (Jvm.Cond.code ({ cls := "java/lang/String", name := "indexOf", desc := "(I)I" } : Jvm.MethodName) jdk_42_method_79_code (2 : Nat) (Option.some Jvm.ClassFile.FieldType.int)).before args0 about1 = true := code_word (m := ⟨7, 7⟩) (meth := k7m7) (c := k7c7) (by decide +kernel) rfl rfl rfl (by decide +kernel)
set_option maxRecDepth 65536 in
theorem w_c20 : (Jvm.Cond.code ({ cls := "java/lang/String", name := "indexOf", desc := "(II)I" } : Jvm.MethodName) jdk_42_method_80_code (3 : Nat) (Option.some Jvm.ClassFile.FieldType.int)).before args0 about1 = true := code_word (m := ⟨7, 8⟩) (meth := k7m8) (c := k7c8) (by decide +kernel) rfl rfl rfl (by decide +kernel)
set_option maxRecDepth 65536 in
theorem w_c21 : (Jvm.Cond.code ({ cls := "java/lang/StringLatin1", name := "indexOf", desc := "([BIII)I" } : Jvm.MethodName) jdk_43_method_22_code (4 : Nat) (Option.some Jvm.ClassFile.FieldType.int)).before args0 about1 = true := code_word (m := ⟨8, 4⟩) (meth := k8m4) (c := k8c4) (by decide +kernel) rfl rfl rfl (by decide +kernel)
set_option maxRecDepth 65536 in
theorem w_c22 : (Jvm.Cond.code ({ cls := "java/lang/StringLatin1", name := "canEncode", desc := "(I)Z" } : Jvm.MethodName) jdk_43_method_4_code (1 : Nat) (Option.some Jvm.ClassFile.FieldType.boolean)).before args0 about1 = true := code_word (m := ⟨8, 2⟩) (meth := k8m2) (c := k8c2) (by decide +kernel) rfl rfl rfl (by decide +kernel)
set_option maxRecDepth 65536 in
theorem w_c23 : (Jvm.Cond.code ({ cls := "java/lang/Math", name := "max", desc := "(II)I" } : Jvm.MethodName) jdk_29_method_65_code (2 : Nat) (Option.some Jvm.ClassFile.FieldType.int)).before args0 about1 = true := code_word (m := ⟨12, 1⟩) (meth := k12m1) (c := k12c1) (by decide +kernel) rfl rfl rfl (by decide +kernel)
set_option maxRecDepth 65536 in
theorem w_c24 : (Jvm.Cond.code ({ cls := "java/lang/Math", name := "min", desc := "(II)I" } : Jvm.MethodName) jdk_29_method_69_code (2 : Nat) (Option.some Jvm.ClassFile.FieldType.int)).before args0 about1 = true := code_word (m := ⟨12, 2⟩) (meth := k12m2) (c := k12c2) (by decide +kernel) rfl rfl rfl (by decide +kernel)
set_option maxRecDepth 65536 in
theorem w_c25 : (Jvm.Cond.code ({ cls := "java/lang/StringLatin1", name := "indexOfChar", desc := "([BIII)I" } : Jvm.MethodName) jdk_43_method_23_code (6 : Nat) (Option.some Jvm.ClassFile.FieldType.int)).before args0 about1 = true := code_word (m := ⟨8, 5⟩) (meth := k8m5) (c := k8c5) (by decide +kernel) rfl rfl rfl (by decide +kernel)
set_option maxRecDepth 65536 in
theorem w_c26 : (Jvm.Cond.code ({ cls := "java/lang/String", name := "strip", desc := "()Ljava/lang/String;" } : Jvm.MethodName) jdk_42_method_114_code (2 : Nat) (Option.some (Jvm.ClassFile.FieldType.object "java/lang/String"))).before args0 about1 = true := code_word (m := ⟨7, 11⟩) (meth := k7m11) (c := k7c11) (by decide +kernel) rfl rfl rfl (by decide +kernel)
set_option maxRecDepth 65536 in
theorem w_c27 : (Jvm.Cond.code ({ cls := "java/lang/StringLatin1", name := "strip", desc := "([B)Ljava/lang/String;" } : Jvm.MethodName) jdk_43_method_39_code (4 : Nat) (Option.some (Jvm.ClassFile.FieldType.object "java/lang/String"))).before args0 about1 = true := code_word (m := ⟨8, 9⟩) (meth := k8m9) (c := k8c9) (by decide +kernel) rfl rfl rfl (by decide +kernel)
set_option maxRecDepth 65536 in
theorem w_c28 : (Jvm.Cond.code ({ cls := "java/lang/StringLatin1", name := "indexOfNonWhitespace", desc := "([B)I" } : Jvm.MethodName) jdk_43_method_37_code (4 : Nat) (Option.some Jvm.ClassFile.FieldType.int)).before args0 about1 = true := code_word (m := ⟨8, 7⟩) (meth := k8m7) (c := k8c7) (by decide +kernel) rfl rfl rfl (by decide +kernel)
set_option maxRecDepth 65536 in
theorem w_c29 : (Jvm.Cond.code ({ cls := "java/lang/StringLatin1", name := "getChar", desc := "([BI)C" } : Jvm.MethodName) jdk_43_method_44_code (2 : Nat) (Option.some Jvm.ClassFile.FieldType.char)).before args0 about1 = true := code_word (m := ⟨8, 10⟩) (meth := k8m10) (c := k8c10) (by decide +kernel) rfl rfl rfl (by decide +kernel)
set_option maxRecDepth 65536 in
theorem w_c30 : (Jvm.Cond.code ({ cls := "java/lang/CharacterDataLatin1", name := "isWhitespace", desc := "(I)Z" } : Jvm.MethodName) jdk_116_method_26_code (3 : Nat) (Option.some Jvm.ClassFile.FieldType.boolean)).before args0 about1 = true := code_word (m := ⟨14, 2⟩) (meth := k14m2) (c := k14c2) (by decide +kernel) rfl rfl rfl (by decide +kernel)
set_option maxRecDepth 65536 in
theorem w_c31 : (Jvm.Cond.code ({ cls := "java/lang/CharacterDataLatin1", name := "getProperties", desc := "(I)I" } : Jvm.MethodName) jdk_116_method_1_code (4 : Nat) (Option.some Jvm.ClassFile.FieldType.int)).before args0 about1 = true := code_word (m := ⟨14, 0⟩) (meth := k14m0) (c := k14c0) (by decide +kernel) rfl rfl rfl (by decide +kernel)
set_option maxRecDepth 65536 in
theorem w_c32 : (Jvm.Cond.code ({ cls := "java/lang/StringLatin1", name := "lastIndexOfNonWhitespace", desc := "([B)I" } : Jvm.MethodName) jdk_43_method_38_code (4 : Nat) (Option.some Jvm.ClassFile.FieldType.int)).before args0 about1 = true := code_word (m := ⟨8, 8⟩) (meth := k8m8) (c := k8c8) (by decide +kernel) rfl rfl rfl (by decide +kernel)
set_option maxRecDepth 65536 in
theorem w_c33 : (Jvm.Cond.code ({ cls := "java/lang/String", name := "toLowerCase", desc := "(Ljava/util/Locale;)Ljava/lang/String;" } : Jvm.MethodName) jdk_42_method_109_code (2 : Nat) (Option.some (Jvm.ClassFile.FieldType.object "java/lang/String"))).before args0 about1 = true := code_word (m := ⟨7, 10⟩) (meth := k7m10) (c := k7c10) (by decide +kernel) rfl rfl rfl (by decide +kernel)
set_option maxRecDepth 65536 in
theorem w_c34 : (Jvm.Cond.code ({ cls := "java/lang/StringLatin1", name := "toLowerCase", desc := "(Ljava/lang/String;[BLjava/util/Locale;)Ljava/lang/String;" } : Jvm.MethodName) jdk_43_method_32_code (9 : Nat) (Option.some (Jvm.ClassFile.FieldType.object "java/lang/String"))).before args0 about1 = true := code_word (m := ⟨8, 6⟩) (meth := k8m6) (c := k8c6) (by decide +kernel) rfl rfl rfl (by decide +kernel)
set_option maxRecDepth 65536 in
theorem w_c35 : (Jvm.Cond.code ({ cls := "java/lang/CharacterDataLatin1", name := "toLowerCase", desc := "(I)I" } : Jvm.MethodName) jdk_116_method_20_code (3 : Nat) (Option.some Jvm.ClassFile.FieldType.int)).before args0 about1 = true := code_word (m := ⟨14, 1⟩) (meth := k14m1) (c := k14c1) (by decide +kernel) rfl rfl rfl (by decide +kernel)
set_option maxRecDepth 65536 in
theorem w_c36 : (Jvm.Cond.code ({ cls := "java/util/Locale", name := "getLanguage", desc := "()Ljava/lang/String;" } : Jvm.MethodName) jdk_2628_method_27_code (1 : Nat) (Option.some (Jvm.ClassFile.FieldType.object "java/lang/String"))).before args0 about1 = true := code_word (m := ⟨16, 0⟩) (meth := k16m0) (c := k16c0) (by decide +kernel) rfl rfl rfl (by decide +kernel)
set_option maxRecDepth 65536 in
theorem w_c37 : (Jvm.Cond.code ({ cls := "sun/util/locale/BaseLocale", name := "getLanguage", desc := "()Ljava/lang/String;" } : Jvm.MethodName) jdk_3003_method_5_code (1 : Nat) (Option.some (Jvm.ClassFile.FieldType.object "java/lang/String"))).before args0 about1 = true := code_word (m := ⟨17, 0⟩) (meth := k17m0) (c := k17c0) (by decide +kernel) rfl rfl rfl (by decide +kernel)
set_option maxRecDepth 65536 in
theorem w_c38 : (Jvm.Cond.code ({ cls := "java/lang/String", name := "<init>", desc := "([BB)V" } : Jvm.MethodName) jdk_42_method_151_code (3 : Nat) (Option.none : Option Jvm.ClassFile.FieldType)).before args0 about1 = true := code_word (m := ⟨7, 13⟩) (meth := k7m13) (c := k7c13) (by decide +kernel) rfl rfl rfl (by decide +kernel)
set_option maxRecDepth 65536 in
theorem w_c39 : (Jvm.Cond.code ({ cls := "java/lang/String", name := "equals", desc := "(Ljava/lang/Object;)Z" } : Jvm.MethodName) jdk_42_method_66_code (3 : Nat) (Option.some Jvm.ClassFile.FieldType.boolean)).before args0 about1 = true := code_word (m := ⟨7, 4⟩) (meth := k7m4) (c := k7c4) (by decide +kernel) rfl rfl rfl (by decide +kernel)
set_option maxRecDepth 65536 in
theorem w_c40 : (Jvm.Cond.code ({ cls := "java/lang/StringLatin1", name := "equals", desc := "([B[B)Z" } : Jvm.MethodName) jdk_43_method_13_code (3 : Nat) (Option.some Jvm.ClassFile.FieldType.boolean)).before args0 about1 = true := code_word (m := ⟨8, 3⟩) (meth := k8m3) (c := k8c3) (by decide +kernel) rfl rfl rfl (by decide +kernel)
set_option maxRecDepth 65536 in
theorem w_c41 : (Jvm.Cond.code ({ cls := "java/lang/String", name := "endsWith", desc := "(Ljava/lang/String;)Z" } : Jvm.MethodName) jdk_42_method_77_code (2 : Nat) (Option.some Jvm.ClassFile.FieldType.boolean)).before args0 about1 = true := code_word (m := ⟨7, 6⟩) (meth := k7m6) (c := k7c6) (by decide +kernel) rfl rfl rfl (by decide +kernel)
set_option maxRecDepth 65536 in
theorem w_c42 : (Jvm.Cond.code ({ cls := "java/lang/String", name := "startsWith", desc := "(Ljava/lang/String;I)Z" } : Jvm.MethodName) jdk_42_method_75_code (8 : Nat) (Option.some Jvm.ClassFile.FieldType.boolean)).before args0 about1 = true := code_word (m := ⟨7, 5⟩) (meth := k7m5) (c := k7c5) (by decide +kernel) rfl rfl rfl (by decide +kernel)
set_option maxRecDepth 65536 in
theorem w_c43 : (Jvm.Cond.code ({ cls := "jdk/internal/util/ArraysSupport", name := "mismatch", desc := "([BI[BII)I" } : Jvm.MethodName) jdk_48_method_14_code (8 : Nat) (Option.some Jvm.ClassFile.FieldType.int)).before args0 about1 = true := code_word (m := ⟨19, 1⟩) (meth := k19m1) (c := k19c1) (by decide +kernel) rfl rfl rfl (by decide +kernel)
set_option maxRecDepth 65536 in
theorem w_c44 : (Jvm.Cond.code ({ cls := "com/example/archerfish/archerfish/MediaTypeIsJsonPinLaw", name := "pad", desc := "(I)C" } : Jvm.MethodName) method_4_code (1 : Nat) (Option.some Jvm.ClassFile.FieldType.char)).before args0 about1 = true := code_word (m := ⟨1, 3⟩) (meth := k1m3) (c := k1c3) (by decide +kernel) rfl rfl rfl (by decide +kernel)
set_option maxRecDepth 65536 in
theorem w_c45 : (Jvm.Cond.code ({ cls := "java/lang/StringLatin1", name := "newString", desc := "([BII)Ljava/lang/String;" } : Jvm.MethodName) jdk_43_method_47_code (3 : Nat) (Option.some (Jvm.ClassFile.FieldType.object "java/lang/String"))).before args0 about1 = true := code_word (m := ⟨8, 11⟩) (meth := k8m11) (c := k8c11) (by decide +kernel) rfl rfl rfl (by decide +kernel)
set_option maxRecDepth 65536 in
theorem w_c46 : (Jvm.Cond.code ({ cls := "java/util/Arrays", name := "copyOfRange", desc := "([BII)[B" } : Jvm.MethodName) jdk_65_method_132_code (3 : Nat) (Option.some (Jvm.ClassFile.FieldType.array Jvm.ClassFile.FieldType.byte))).before args0 about1 = true := code_word (m := ⟨20, 2⟩) (meth := k20m2) (c := k20c2) (by decide +kernel) rfl rfl rfl (by decide +kernel)
set_option maxRecDepth 65536 in
theorem w_c47 : (Jvm.Cond.code ({ cls := "java/util/Arrays", name := "copyOfRangeByte", desc := "([BII)[B" } : Jvm.MethodName) jdk_65_method_133_code (5 : Nat) (Option.some (Jvm.ClassFile.FieldType.array Jvm.ClassFile.FieldType.byte))).before args0 about1 = true := code_word (m := ⟨20, 3⟩) (meth := k20m3) (c := k20c3) (by decide +kernel) rfl rfl rfl (by decide +kernel)
set_option maxRecDepth 65536 in
theorem w_c48 : (Jvm.Cond.code ({ cls := "java/util/Arrays", name := "checkLength", desc := "(II)V" } : Jvm.MethodName) jdk_65_method_131_code (2 : Nat) (Option.none : Option Jvm.ClassFile.FieldType)).before args0 about1 = true := code_word (m := ⟨20, 1⟩) (meth := k20m1) (c := k20c1) (by decide +kernel) rfl rfl rfl (by decide +kernel)
set_option maxRecDepth 65536 in
theorem w_c49 : (Jvm.Cond.code ({ cls := "java/lang/String", name := "substring", desc := "(II)Ljava/lang/String;" } : Jvm.MethodName) jdk_42_method_92_code (5 : Nat) (Option.some (Jvm.ClassFile.FieldType.object "java/lang/String"))).before args0 about1 = true := code_word (m := ⟨7, 9⟩) (meth := k7m9) (c := k7c9) (by decide +kernel) rfl rfl rfl (by decide +kernel)
set_option maxRecDepth 65536 in
theorem w_c50 : (Jvm.Cond.code ({ cls := "java/lang/String", name := "checkBoundsBeginEnd", desc := "(III)V" } : Jvm.MethodName) jdk_42_method_158_code (3 : Nat) (Option.none : Option Jvm.ClassFile.FieldType)).before args0 about1 = true := code_word (m := ⟨7, 17⟩) (meth := k7m17) (c := k7c17) (by decide +kernel) rfl rfl rfl (by decide +kernel)
set_option maxRecDepth 65536 in
theorem w_c51 : (Jvm.Cond.code ({ cls := "jdk/internal/util/Preconditions", name := "checkFromToIndex", desc := "(IIILjava/util/function/BiFunction;)I" } : Jvm.MethodName) jdk_41_method_12_code (4 : Nat) (Option.some Jvm.ClassFile.FieldType.int)).before args0 about1 = true := code_word (m := ⟨9, 2⟩) (meth := k9m2) (c := k9c2) (by decide +kernel) rfl rfl rfl (by decide +kernel)
def codes1 : List Jvm.Cond := [Jvm.Cond.code x code maxLocals ret, Jvm.Cond.code ({ cls := "java/lang/String", name := "length", desc := "()I" } : Jvm.MethodName) jdk_42_method_54_code (1 : Nat) (Option.some Jvm.ClassFile.FieldType.int), Jvm.Cond.code ({ cls := "java/lang/String", name := "coder", desc := "()B" } : Jvm.MethodName) jdk_42_method_152_code (1 : Nat) (Option.some Jvm.ClassFile.FieldType.byte), Jvm.Cond.code ({ cls := "com/example/archerfish/archerfish/MediaTypeIsJsonPinLaw", name := "put", desc := "([CILjava/lang/String;II)V" } : Jvm.MethodName) method_5_code (5 : Nat) (Option.none : Option Jvm.ClassFile.FieldType), Jvm.Cond.code ({ cls := "java/lang/String", name := "charAt", desc := "(I)C" } : Jvm.MethodName) jdk_42_method_56_code (2 : Nat) (Option.some Jvm.ClassFile.FieldType.char), Jvm.Cond.code ({ cls := "java/lang/String", name := "isLatin1", desc := "()Z" } : Jvm.MethodName) jdk_42_method_154_code (1 : Nat) (Option.some Jvm.ClassFile.FieldType.boolean), Jvm.Cond.code ({ cls := "java/lang/StringLatin1", name := "charAt", desc := "([BI)C" } : Jvm.MethodName) jdk_43_method_2_code (2 : Nat) (Option.some Jvm.ClassFile.FieldType.char), Jvm.Cond.code ({ cls := "java/lang/String", name := "checkIndex", desc := "(II)V" } : Jvm.MethodName) jdk_42_method_155_code (2 : Nat) (Option.none : Option Jvm.ClassFile.FieldType), Jvm.Cond.code ({ cls := "jdk/internal/util/Preconditions", name := "checkIndex", desc := "(IILjava/util/function/BiFunction;)I" } : Jvm.MethodName) jdk_41_method_11_code (3 : Nat) (Option.some Jvm.ClassFile.FieldType.int), Jvm.Cond.code ({ cls := "com/example/archerfish/archerfish/MediaTypeIsJsonPinLaw", name := "flip", desc := "(CII)C" } : Jvm.MethodName) method_2_code (3 : Nat) (Option.some Jvm.ClassFile.FieldType.char), Jvm.Cond.code ({ cls := "com/example/archerfish/archerfish/MediaTypeIsJsonPinLaw", name := "matches", desc := "(CC)Z" } : Jvm.MethodName) method_3_code (2 : Nat) (Option.some Jvm.ClassFile.FieldType.boolean), Jvm.Cond.code ({ cls := "java/lang/String", name := "<init>", desc := "([C)V" } : Jvm.MethodName) jdk_42_method_3_code (2 : Nat) (Option.none : Option Jvm.ClassFile.FieldType), Jvm.Cond.code ({ cls := "java/lang/String", name := "<init>", desc := "([CIILjava/lang/Void;)V" } : Jvm.MethodName) jdk_42_method_149_code (6 : Nat) (Option.none : Option Jvm.ClassFile.FieldType), Jvm.Cond.code ({ cls := "java/lang/Object", name := "<init>", desc := "()V" } : Jvm.MethodName) object_method_1_code (1 : Nat) (Option.none : Option Jvm.ClassFile.FieldType), Jvm.Cond.code ({ cls := "java/lang/StringUTF16", name := "compress", desc := "([CII)[B" } : Jvm.MethodName) jdk_52_method_16_code (6 : Nat) (Option.some (Jvm.ClassFile.FieldType.array Jvm.ClassFile.FieldType.byte)), Jvm.Cond.code ({ cls := "java/lang/StringUTF16", name := "compress", desc := "([CI[BII)I" } : Jvm.MethodName) jdk_52_method_21_code (7 : Nat) (Option.some Jvm.ClassFile.FieldType.int), Jvm.Cond.code ({ cls := "java/lang/StringUTF16", name := "coderFromArrayLen", desc := "([BI)B" } : Jvm.MethodName) jdk_52_method_15_code (2 : Nat) (Option.some Jvm.ClassFile.FieldType.byte), Jvm.Cond.code ({ cls := "com/example/archerfish/archerfish/MediaType", name := "isJson", desc := "(Ljava/lang/String;)Z" } : Jvm.MethodName) prog_8_method_4_code (2 : Nat) (Option.some Jvm.ClassFile.FieldType.boolean), Jvm.Cond.code ({ cls := "com/example/archerfish/archerfish/MediaType", name := "essence", desc := "(Ljava/lang/String;)Ljava/lang/String;" } : Jvm.MethodName) prog_8_method_3_code (2 : Nat) (Option.some (Jvm.ClassFile.FieldType.object "java/lang/String")), Jvm.Cond.code ({ cls := "java/lang/String", name := "indexOf", desc := "(I)I" } : Jvm.MethodName) jdk_42_method_79_code (2 : Nat) (Option.some Jvm.ClassFile.FieldType.int), Jvm.Cond.code ({ cls := "java/lang/String", name := "indexOf", desc := "(II)I" } : Jvm.MethodName) jdk_42_method_80_code (3 : Nat) (Option.some Jvm.ClassFile.FieldType.int), Jvm.Cond.code ({ cls := "java/lang/StringLatin1", name := "indexOf", desc := "([BIII)I" } : Jvm.MethodName) jdk_43_method_22_code (4 : Nat) (Option.some Jvm.ClassFile.FieldType.int), Jvm.Cond.code ({ cls := "java/lang/StringLatin1", name := "canEncode", desc := "(I)Z" } : Jvm.MethodName) jdk_43_method_4_code (1 : Nat) (Option.some Jvm.ClassFile.FieldType.boolean), Jvm.Cond.code ({ cls := "java/lang/Math", name := "max", desc := "(II)I" } : Jvm.MethodName) jdk_29_method_65_code (2 : Nat) (Option.some Jvm.ClassFile.FieldType.int), Jvm.Cond.code ({ cls := "java/lang/Math", name := "min", desc := "(II)I" } : Jvm.MethodName) jdk_29_method_69_code (2 : Nat) (Option.some Jvm.ClassFile.FieldType.int), Jvm.Cond.code ({ cls := "java/lang/StringLatin1", name := "indexOfChar", desc := "([BIII)I" } : Jvm.MethodName) jdk_43_method_23_code (6 : Nat) (Option.some Jvm.ClassFile.FieldType.int), Jvm.Cond.code ({ cls := "java/lang/String", name := "strip", desc := "()Ljava/lang/String;" } : Jvm.MethodName) jdk_42_method_114_code (2 : Nat) (Option.some (Jvm.ClassFile.FieldType.object "java/lang/String")), Jvm.Cond.code ({ cls := "java/lang/StringLatin1", name := "strip", desc := "([B)Ljava/lang/String;" } : Jvm.MethodName) jdk_43_method_39_code (4 : Nat) (Option.some (Jvm.ClassFile.FieldType.object "java/lang/String")), Jvm.Cond.code ({ cls := "java/lang/StringLatin1", name := "indexOfNonWhitespace", desc := "([B)I" } : Jvm.MethodName) jdk_43_method_37_code (4 : Nat) (Option.some Jvm.ClassFile.FieldType.int), Jvm.Cond.code ({ cls := "java/lang/StringLatin1", name := "getChar", desc := "([BI)C" } : Jvm.MethodName) jdk_43_method_44_code (2 : Nat) (Option.some Jvm.ClassFile.FieldType.char), Jvm.Cond.code ({ cls := "java/lang/CharacterDataLatin1", name := "isWhitespace", desc := "(I)Z" } : Jvm.MethodName) jdk_116_method_26_code (3 : Nat) (Option.some Jvm.ClassFile.FieldType.boolean), Jvm.Cond.code ({ cls := "java/lang/CharacterDataLatin1", name := "getProperties", desc := "(I)I" } : Jvm.MethodName) jdk_116_method_1_code (4 : Nat) (Option.some Jvm.ClassFile.FieldType.int), Jvm.Cond.code ({ cls := "java/lang/StringLatin1", name := "lastIndexOfNonWhitespace", desc := "([B)I" } : Jvm.MethodName) jdk_43_method_38_code (4 : Nat) (Option.some Jvm.ClassFile.FieldType.int), Jvm.Cond.code ({ cls := "java/lang/String", name := "toLowerCase", desc := "(Ljava/util/Locale;)Ljava/lang/String;" } : Jvm.MethodName) jdk_42_method_109_code (2 : Nat) (Option.some (Jvm.ClassFile.FieldType.object "java/lang/String")), Jvm.Cond.code ({ cls := "java/lang/StringLatin1", name := "toLowerCase", desc := "(Ljava/lang/String;[BLjava/util/Locale;)Ljava/lang/String;" } : Jvm.MethodName) jdk_43_method_32_code (9 : Nat) (Option.some (Jvm.ClassFile.FieldType.object "java/lang/String")), Jvm.Cond.code ({ cls := "java/lang/CharacterDataLatin1", name := "toLowerCase", desc := "(I)I" } : Jvm.MethodName) jdk_116_method_20_code (3 : Nat) (Option.some Jvm.ClassFile.FieldType.int), Jvm.Cond.code ({ cls := "java/util/Locale", name := "getLanguage", desc := "()Ljava/lang/String;" } : Jvm.MethodName) jdk_2628_method_27_code (1 : Nat) (Option.some (Jvm.ClassFile.FieldType.object "java/lang/String")), Jvm.Cond.code ({ cls := "sun/util/locale/BaseLocale", name := "getLanguage", desc := "()Ljava/lang/String;" } : Jvm.MethodName) jdk_3003_method_5_code (1 : Nat) (Option.some (Jvm.ClassFile.FieldType.object "java/lang/String")), Jvm.Cond.code ({ cls := "java/lang/String", name := "<init>", desc := "([BB)V" } : Jvm.MethodName) jdk_42_method_151_code (3 : Nat) (Option.none : Option Jvm.ClassFile.FieldType), Jvm.Cond.code ({ cls := "java/lang/String", name := "equals", desc := "(Ljava/lang/Object;)Z" } : Jvm.MethodName) jdk_42_method_66_code (3 : Nat) (Option.some Jvm.ClassFile.FieldType.boolean), Jvm.Cond.code ({ cls := "java/lang/StringLatin1", name := "equals", desc := "([B[B)Z" } : Jvm.MethodName) jdk_43_method_13_code (3 : Nat) (Option.some Jvm.ClassFile.FieldType.boolean), Jvm.Cond.code ({ cls := "java/lang/String", name := "endsWith", desc := "(Ljava/lang/String;)Z" } : Jvm.MethodName) jdk_42_method_77_code (2 : Nat) (Option.some Jvm.ClassFile.FieldType.boolean), Jvm.Cond.code ({ cls := "java/lang/String", name := "startsWith", desc := "(Ljava/lang/String;I)Z" } : Jvm.MethodName) jdk_42_method_75_code (8 : Nat) (Option.some Jvm.ClassFile.FieldType.boolean), Jvm.Cond.code ({ cls := "jdk/internal/util/ArraysSupport", name := "mismatch", desc := "([BI[BII)I" } : Jvm.MethodName) jdk_48_method_14_code (8 : Nat) (Option.some Jvm.ClassFile.FieldType.int), Jvm.Cond.code ({ cls := "com/example/archerfish/archerfish/MediaTypeIsJsonPinLaw", name := "pad", desc := "(I)C" } : Jvm.MethodName) method_4_code (1 : Nat) (Option.some Jvm.ClassFile.FieldType.char), Jvm.Cond.code ({ cls := "java/lang/StringLatin1", name := "newString", desc := "([BII)Ljava/lang/String;" } : Jvm.MethodName) jdk_43_method_47_code (3 : Nat) (Option.some (Jvm.ClassFile.FieldType.object "java/lang/String")), Jvm.Cond.code ({ cls := "java/util/Arrays", name := "copyOfRange", desc := "([BII)[B" } : Jvm.MethodName) jdk_65_method_132_code (3 : Nat) (Option.some (Jvm.ClassFile.FieldType.array Jvm.ClassFile.FieldType.byte)), Jvm.Cond.code ({ cls := "java/util/Arrays", name := "copyOfRangeByte", desc := "([BII)[B" } : Jvm.MethodName) jdk_65_method_133_code (5 : Nat) (Option.some (Jvm.ClassFile.FieldType.array Jvm.ClassFile.FieldType.byte)), Jvm.Cond.code ({ cls := "java/util/Arrays", name := "checkLength", desc := "(II)V" } : Jvm.MethodName) jdk_65_method_131_code (2 : Nat) (Option.none : Option Jvm.ClassFile.FieldType), Jvm.Cond.code ({ cls := "java/lang/String", name := "substring", desc := "(II)Ljava/lang/String;" } : Jvm.MethodName) jdk_42_method_92_code (5 : Nat) (Option.some (Jvm.ClassFile.FieldType.object "java/lang/String")), Jvm.Cond.code ({ cls := "java/lang/String", name := "checkBoundsBeginEnd", desc := "(III)V" } : Jvm.MethodName) jdk_42_method_158_code (3 : Nat) (Option.none : Option Jvm.ClassFile.FieldType), Jvm.Cond.code ({ cls := "jdk/internal/util/Preconditions", name := "checkFromToIndex", desc := "(IIILjava/util/function/BiFunction;)I" } : Jvm.MethodName) jdk_41_method_12_code (4 : Nat) (Option.some Jvm.ClassFile.FieldType.int)]
set_option maxRecDepth 65536 in
theorem codes_eq : words1.filter isCode = codes1 := rfl
theorem w_codes : ∀ c ∈ words1.filter isCode, c.before args0 about1 = true := by
  rw [codes_eq]
  intro c hc
  simp only [codes1, List.mem_cons, List.not_mem_nil, or_false] at hc
  rcases hc with rfl | rfl | rfl | rfl | rfl | rfl | rfl | rfl | rfl | rfl | rfl | rfl | rfl | rfl | rfl | rfl | rfl | rfl | rfl | rfl | rfl | rfl | rfl | rfl | rfl | rfl | rfl | rfl | rfl | rfl | rfl | rfl | rfl | rfl | rfl | rfl | rfl | rfl | rfl | rfl | rfl | rfl | rfl | rfl | rfl | rfl | rfl | rfl | rfl | rfl | rfl | rfl
  · exact w_c0
  · exact w_c1
  · exact w_c2
  · exact w_c3
  · exact w_c4
  · exact w_c5
  · exact w_c6
  · exact w_c7
  · exact w_c8
  · exact w_c9
  · exact w_c10
  · exact w_c11
  · exact w_c12
  · exact w_c13
  · exact w_c14
  · exact w_c15
  · exact w_c16
  · exact w_c17
  · exact w_c18
  · exact w_c19
  · exact w_c20
  · exact w_c21
  · exact w_c22
  · exact w_c23
  · exact w_c24
  · exact w_c25
  · exact w_c26
  · exact w_c27
  · exact w_c28
  · exact w_c29
  · exact w_c30
  · exact w_c31
  · exact w_c32
  · exact w_c33
  · exact w_c34
  · exact w_c35
  · exact w_c36
  · exact w_c37
  · exact w_c38
  · exact w_c39
  · exact w_c40
  · exact w_c41
  · exact w_c42
  · exact w_c43
  · exact w_c44
  · exact w_c45
  · exact w_c46
  · exact w_c47
  · exact w_c48
  · exact w_c49
  · exact w_c50
  · exact w_c51
set_option maxRecDepth 65536 in
theorem w_t1 : (words1.take 24).all (fun c => isCode c || c.before args0 about1) = true := by decide +kernel
set_option maxRecDepth 65536 in
theorem w_t2 : ((words1.drop 24).take 24).all (fun c => isCode c || c.before args0 about1) = true := by decide +kernel
set_option maxRecDepth 65536 in
theorem w_t3 : (((words1.drop 24).drop 24).take 24).all (fun c => isCode c || c.before args0 about1) = true := by decide +kernel
set_option maxRecDepth 65536 in
theorem w_t4 : ((((words1.drop 24).drop 24).drop 24).take 24).all (fun c => isCode c || c.before args0 about1) = true := by decide +kernel
set_option maxRecDepth 65536 in
theorem w_t5 : (((((words1.drop 24).drop 24).drop 24).drop 24).take 24).all (fun c => isCode c || c.before args0 about1) = true := by decide +kernel
set_option maxRecDepth 65536 in
theorem w_t6 : ((((((words1.drop 24).drop 24).drop 24).drop 24).drop 24).take 24).all (fun c => isCode c || c.before args0 about1) = true := by decide +kernel
set_option maxRecDepth 65536 in
theorem w_t7 : (((((((words1.drop 24).drop 24).drop 24).drop 24).drop 24).drop 24).take 24).all (fun c => isCode c || c.before args0 about1) = true := by decide +kernel
set_option maxRecDepth 65536 in
theorem w_t8 : ((((((((words1.drop 24).drop 24).drop 24).drop 24).drop 24).drop 24).drop 24).take 24).all (fun c => isCode c || c.before args0 about1) = true := by decide +kernel
set_option maxRecDepth 65536 in
theorem w_t9 : (((((((((words1.drop 24).drop 24).drop 24).drop 24).drop 24).drop 24).drop 24).drop 24).take 24).all (fun c => isCode c || c.before args0 about1) = true := by decide +kernel
set_option maxRecDepth 65536 in
theorem w_t10 : (((((((((words1.drop 24).drop 24).drop 24).drop 24).drop 24).drop 24).drop 24).drop 24).drop 24).all (fun c => isCode c || c.before args0 about1) = true := by decide +kernel
theorem w_tables : (allAtoms (Jvm.Cond.code x code maxLocals ret :: tables_1)).before args0 about1 = true := by
  rw [allAtoms_all]
  show words1.all (fun c => c.before args0 about1) = true
  refine all_split ?_ w_codes
  rw [← List.take_append_drop 24 words1, List.all_append, w_t1, ← List.take_append_drop 24 (words1.drop 24), List.all_append, w_t2, ← List.take_append_drop 24 ((words1.drop 24).drop 24), List.all_append, w_t3, ← List.take_append_drop 24 (((words1.drop 24).drop 24).drop 24), List.all_append, w_t4, ← List.take_append_drop 24 ((((words1.drop 24).drop 24).drop 24).drop 24), List.all_append, w_t5, ← List.take_append_drop 24 (((((words1.drop 24).drop 24).drop 24).drop 24).drop 24), List.all_append, w_t6, ← List.take_append_drop 24 ((((((words1.drop 24).drop 24).drop 24).drop 24).drop 24).drop 24), List.all_append, w_t7, ← List.take_append_drop 24 (((((((words1.drop 24).drop 24).drop 24).drop 24).drop 24).drop 24).drop 24), List.all_append, w_t8, ← List.take_append_drop 24 ((((((((words1.drop 24).drop 24).drop 24).drop 24).drop 24).drop 24).drop 24).drop 24), List.all_append, w_t9, w_t10]
  rfl
set_option maxRecDepth 65536 in
theorem w_rest : rest_1_c.before args0 about1 = true := by decide +kernel
set_option maxRecDepth 65536 in
theorem w_case : (Jvm.Cond.and given_1 narrow_1).before args0 about1 = true := by decide +kernel
set_option maxRecDepth 65536 in
theorem w_consts : constsHeld consts_1 about1 := Jvm.Lit.constsHeldB_iff.mp (by decide +kernel)
theorem w_applies : (headSpec (Jvm.Cond.code x code maxLocals ret :: tables_1) room_1).applies x e0.platform about1 = true :=
  (Spec.applies_iff w_frames).mpr ⟨w_running, w_runnable, w_alone, w_named, w_hears, w_ripe, w_room, w_tables⟩
theorem atStart : AtStart classFile x code maxLocals ret World_1 tables_1 room_1 Calls_1 rest_1 Pre_1 launch0 p0 e0 about1 theMethod args0 below0 :=
  ⟨lists_1, trivial, launch0.admits_env _ _ _, launch0.least_env, fairChoices_fair.cas, fairChoices_fair.clock, w_frames, w_args, w_heap, w_applies, ⟨w_consts, trivial⟩, w_rest, w_case⟩
end start1
theorem witness_1 : WitnessClaimed_1 := ⟨start1.p0, start1.e0, start1.about1, start1.theMethod, start1.args0, start1.below0, start1.atStart⟩
end Jvm.Pilot.@@N@@
