import JvmDerived
import JvmDerived.Pilot.@@N@@Statement
import JvmDerived.Pilot.@@N@@Code
set_option linter.unusedVariables false
set_option linter.unusedSimpArgs false
namespace Jvm.Ow
open Sem ClassFile Op Lib Bundle Jvm.Stand Jvm.Free Jvm.LawKit Jvm.RoadKit
/-- what may be written: made since the case's start, and no literal's cell -/
def Own (Z : State) (EL : List (String × Nat)) (vm : Vm) (h : Heap) (W : List Nat) : Prop := ∀ x ∈ W, Z.heap.size ≤ x ∧ x < h.size ∧ Safe Z EL vm h x
theorem Own.nil {Z : State} {EL : List (String × Nat)} {vm : Vm} {h : Heap} : Own Z EL vm h [] := fun _ q => nomatch q
theorem Own.sub {Z : State} {EL : List (String × Nat)} {vm : Vm} {h : Heap} {W V : List Nat} (O : Own Z EL vm h W) (q : ∀ x ∈ V, x ∈ W) : Own Z EL vm h V := fun x hx => O x (q x hx)
theorem Own.app {Z : State} {EL : List (String × Nat)} {vm : Vm} {h : Heap} {W V : List Nat} (O : Own Z EL vm h W) (P : Own Z EL vm h V) : Own Z EL vm h (W ++ V) := fun x hx => (List.mem_append.mp hx).elim (O x) (P x)
theorem Own.r {Z : State} {EL : List (String × Nat)} {vm vm1 : Vm} {h h' : Heap} {W : List Nat} (O : Own Z EL vm h W) (A : CHr Z EL vm h vm1 h') : Own Z EL vm1 h' W := fun x hx =>
  ⟨(O x hx).1, Nat.lt_of_lt_of_le (O x hx).2.1 A.2.1, A.safe (O x hx).2.1 (O x hx).2.2⟩
theorem Own.new {Z : State} {EL : List (String × Nat)} {vm : Vm} {h h' : Heap} {W : List Nat} (O : Own Z EL vm h W) (H : CHv Z EL vm h) (E : Ext h h') (hs : Z.heap.size ≤ h.size) (hl : h.size < h'.size) : Own Z EL vm h' (h.size :: W) := fun x hx => by
  rcases List.mem_cons.mp hx with rfl | hx
  · exact ⟨hs, hl, Safe.ext E H (Safe.new (Nat.le_refl _))⟩
  · exact (O.r (CHr.ext E H)) x hx
/-- the walk's own facts, which do not change: the code, the class, the tables at the case's start -/
def Cx (p : Program) (m : MethodId) (meth : Method) (c : Code) (s : State) (Z : State) (a0 : Array Value) (EL : List (String × Nat)) (b : Bool) (own nm : String) (bytes : ByteArray) (maxL : Nat) (ret : Option FieldType) : Prop :=
  p.tables.exec = Jvm.exec ∧ c.code = bytes ∧ c.maxLocals = maxL ∧ meth.sig.returnType = ret ∧ meth.locks = false ∧ s.vm.findClass own = some m.cls ∧ Z.Warmed39 s.vm ∧ EW Z a0 EL ∧ meth.name = nm ∧ (b = false → ∀ a ∈ Bundle.stringAtoms, a.before a0 Z = true) ∧ (b = true → EL = [])
/-- a good end -/
def EndQ (R : Room) (Z : State) (EL : List (String × Nat)) (b : Bool) (Q : Option Value → Heap → List Nat → Prop) (s : State) (below : List Frame) (s2 : State) (v : Option Value) : Prop :=
  s2.status = .running ∧ Ended s2 below (.returned v) ∧ ∃ (L : List Loc) (W' : List Nat), Q v s2.heap W' ∧ Own Z EL s2.vm s2.heap W' ∧ Old Z Z.heap.size s2.heap ∧ Fr Z.heap.size L ∧ CHr Z EL s.vm s.heap s2.vm s2.heap ∧ ReturnedEndW s (.returned v) s2 L R.cells R.slots ∧ (b = true → FrameEnd s (.returned v) s2 L R.cells R.slots)
/-- from this frame over any state with this heap, the run comes to a good end -/
def WP (p : Program) (l : Launch) (e : Env) (R : Room) (s : State) (m : MethodId) (args : Array Value) (below : List Frame) (meth : Method) (c : Code) (Z : State) (EL : List (String × Nat)) (b : Bool) (Q : Option Value → Heap → List Nat → Prop)
    (pc : Nat) (L : List Slot) (st : List Value) (h : Heap) (W : List Nat) (k n : Nat) : Prop :=
  ∀ (T : State) (vm0 : Vm) (k0 : Nat) (locs : List Loc) (cells slots : Nat),
    Stand p l e R (s.setVm vm0) m args below meth c T locs cells slots → T.heap = h → s.Since vm0 k0 → k0 ≤ h.size → (b = true → vm0 = s.vm) →
    CHr Z EL s.vm s.heap vm0 h → Old Z Z.heap.size h → Own Z EL vm0 h W → Fr Z.heap.size locs → cells ≤ k → slots ≤ n →
    ∃ s2 v, Steps p.tables e below (T.setTop (mkF m pc L.toArray st)) s2 ∧ EndQ R Z EL b Q s below s2 v
section Steps
variable {p : Program} {l : Launch} {e : Env} {R : Room} {s : State} {m : MethodId} {args : Array Value} {below : List Frame} {meth : Method} {c : Code} {Z : State} {a0 : Array Value} {EL : List (String × Nat)} {b : Bool} {own nm : String} {bytes : ByteArray} {maxL : Nat} {ret : Option FieldType} {Q : Option Value → Heap → List Nat → Prop}
  {pc : Nat} {L : List Slot} {st : List Value} {h : Heap} {W : List Nat} {k n : Nat}
theorem Cx.z (C : Cx p m meth c s Z a0 EL b own nm bytes maxL ret) {vm0 : Vm} {k0 : Nat} (hS : s.Since vm0 k0) : Z.Warmed39 vm0 := State.Warmed39.trans C.2.2.2.2.2.2.1 hS.1
theorem Cx.o (C : Cx p m meth c s Z a0 EL b own nm bytes maxL ret) {vm0 : Vm} {k0 : Nat} (hS : s.Since vm0 k0) : vm0.findClass own = some m.cls := (hS.1.alike.findClass _ _).trans C.2.2.2.2.2.1
theorem Cx.ew (C : Cx p m meth c s Z a0 EL b own nm bytes maxL ret) : EW Z a0 EL := C.2.2.2.2.2.2.2.1
theorem WP.go {pc' : Nat} {L' : List Slot} {st' : List Value} (q : ∀ {T : State} {vm0 : Vm} {locs : List Loc} {cells slots : Nat}, Stand p l e R (s.setVm vm0) m args below meth c T locs cells slots → ∀ t, Steps p.tables e below (T.setTop (mkF m pc' L'.toArray st')) t → Steps p.tables e below (T.setTop (mkF m pc L.toArray st)) t)
    (hr : WP p l e R s m args below meth c Z EL b Q pc' L' st' h W k n) : WP p l e R s m args below meth c Z EL b Q pc L st h W k n := by
  intro T vm0 k0 locs cells slots X eT hS hk hb hC hO hW hF hc hn
  obtain ⟨s2, v, st, r⟩ := hr T vm0 k0 locs cells slots X eT hS hk hb hC hO hW hF hc hn
  exact ⟨s2, v, q X _ st, r⟩
theorem WP.hop {pc' : Nat} {L' : List Slot} {st' : List Value} (C : Cx p m meth c s Z a0 EL b own nm bytes maxL ret)
    (q : ∀ {T : State} {vm0 : Vm} {locs : List Loc} {cells slots : Nat}, Stand p l e R (s.setVm vm0) m args below meth c T locs cells slots → T.heap = h → Old Z Z.heap.size h → Z.Warmed39 (s.setVm vm0).vm → (s.setVm vm0).vm.findClass own = some m.cls →
      ∃ T', Stand p l e R (s.setVm vm0) m args below meth c T' locs cells slots ∧ T'.heap = h ∧ ∀ t, Steps p.tables e below (T'.setTop (mkF m pc' L'.toArray st')) t → Steps p.tables e below (T.setTop (mkF m pc L.toArray st)) t)
    (hr : WP p l e R s m args below meth c Z EL b Q pc' L' st' h W k n) : WP p l e R s m args below meth c Z EL b Q pc L st h W k n := by
  intro T vm0 k0 locs cells slots X eT hS hk hb hC hO hW hF hc hn
  obtain ⟨T', X', e', q'⟩ := q X eT hO (C.z hS) (C.o hS)
  obtain ⟨s2, v, st, r⟩ := hr T' vm0 k0 locs cells slots X' e' hS hk hb hC hO hW hF hc hn
  exact ⟨s2, v, q' _ st, r⟩
/-- a step that lays new cells and writes none -/
theorem WP.grow {pc' : Nat} {L' : List Slot} {st' : Nat → List Value} {dk dn : Nat} {F : Heap → Nat → Prop} (C : Cx p m meth c s Z a0 EL b own nm bytes maxL ret) (hc0 : k + dk ≤ R.cells) (hn0 : n + dn ≤ R.slots)
    (q : ∀ {T : State} {vm0 : Vm} {locs : List Loc} {cells slots : Nat}, Stand p l e R (s.setVm vm0) m args below meth c T locs cells slots → T.heap = h → Z.Warmed39 (s.setVm vm0).vm → (s.setVm vm0).vm.findClass own = some m.cls → cells + dk ≤ R.cells → slots + dn ≤ R.slots →
      ∃ T' h', Stand p l e R (s.setVm vm0) m args below meth c T' locs (cells + dk) (slots + dn) ∧ T'.heap = h' ∧ Ext h h' ∧ h.size < h'.size ∧ F h' h.size ∧ ∀ t, Steps p.tables e below (T'.setTop (mkF m pc' L'.toArray (st' h.size))) t → Steps p.tables e below (T.setTop (mkF m pc L.toArray st)) t)
    (hr : ∀ h' a, a = h.size → Z.heap.size ≤ a → a < h'.size → Ext h h' → F h' a → WP p l e R s m args below meth c Z EL b Q pc' L' (st' a) h' (a :: W) (k + dk) (n + dn)) : WP p l e R s m args below meth c Z EL b Q pc L st h W k n := by
  intro T vm0 k0 locs cells slots X eT hS hk hb hC hO hW hF hc hn
  obtain ⟨T', h', X', e', E, hl, f, q'⟩ := q X eT (C.z hS) (C.o hS) (by omega) (by omega)
  obtain ⟨s2, v, st, r⟩ := hr h' h.size rfl hO.2.1 hl E f T' vm0 k0 locs _ _ X' e' hS (Nat.le_trans hk E.1) hb (hC.trans (CHr.ext E hC.1)) (hO.ext E) (hW.new hC.1 E hO.2.1 hl) hF (by omega) (by omega)
  exact ⟨s2, v, q' _ st, r⟩
/-- a step that writes one place of a cell of W -/
theorem WP.write {pc' : Nat} {L' : List Slot} {st' : List Value} {a : Nat} {sl : Nat} {v : Value} (C : Cx p m meth c s Z a0 EL b own nm bytes maxL ret) (ha : a ∈ W)
    (q : ∀ {T : State} {vm0 : Vm} {locs : List Loc} {cells slots : Nat}, Stand p l e R (s.setVm vm0) m args below meth c T locs cells slots → T.heap = h → Z.Warmed39 (s.setVm vm0).vm → (s.setVm vm0).vm.findClass own = some m.cls →
      ∃ T' h', Stand p l e R (s.setVm vm0) m args below meth c T' (locs ++ [⟨a, sl⟩]) cells slots ∧ T'.heap = h' ∧ Wr h h' a sl v ∧ ∀ t, Steps p.tables e below (T'.setTop (mkF m pc' L'.toArray st')) t → Steps p.tables e below (T.setTop (mkF m pc L.toArray st)) t)
    (hr : ∀ h', Wr h h' a sl v → Keep h h' [a] → WP p l e R s m args below meth c Z EL b Q pc' L' st' h' W k n) : WP p l e R s m args below meth c Z EL b Q pc L st h W k n := by
  intro T vm0 k0 locs cells slots X eT hS hk hb hC hO hW hF hc hn
  obtain ⟨T', h', X', e', Wr', q'⟩ := q X eT (C.z hS) (C.o hS)
  have A := CHr.wr Wr' (hW a ha).2.2 hC.1
  obtain ⟨s2, v, st, r⟩ := hr h' Wr' (Keep.of_wr Wr') T' vm0 k0 _ _ _ X' e' hS (Nat.le_trans hk A.2.1) hb (hC.trans A) (hO.wr Wr' (hW a ha).1) (hW.r A) (Fr.snoc X' hF (hW a ha).1) hc hn
  exact ⟨s2, v, q' _ st, r⟩
/-- a local that one word may overwrite -/
def okS : Option Slot → Bool
  | some .unset => true
  | some (.val v) => v.category == 1
  | _ => false
theorem stoL {i : Nat} {v : Value} (hok : okS L[i]? = true) (hv : v.category = 1) : storeLocals L.toArray i v = some (L.set i (.val v)).toArray := by
  have e : L.toArray.setIfInBounds i (.val v) = (L.set i (.val v)).toArray := by simp
  cases hq : L[i]? with
  | none => rw [hq] at hok; cases hok
  | some o =>
    rw [hq] at hok
    have h1 : L.toArray[i]? = some o := by simpa using hq
    rw [← e]
    refine XS.store1 h1 ?_ hv
    cases o with
    | unset => exact Or.inl rfl
    | second => cases hok
    | val w => exact Or.inr ⟨w, rfl, by simpa [okS] using hok⟩
theorem getL {i : Nat} {o : Slot} (hl : L[i]? = some o) : L.toArray[i]? = some o := by simpa using hl
theorem iloadN (C : Cx p m meth c s Z a0 EL b own nm bytes maxL ret) {pc' : Nat} {i : Fin 4} {v : Int32} (hd : decode bytes pc = .ok (.iload_n i, 1)) (hp : pc + 1 = pc') (hl : L[i.val]? = some (.val (.int v))) (hr : WP p l e R s m args below meth c Z EL b Q pc' L (.int v :: st) h W k n) : WP p l e R s m args below meth c Z EL b Q pc L (st) h W k n := by
  subst hp; exact hr.go fun X t q => XS.iloadN X.here C.1 rfl (hb C.2.1 hd) (getL hl) q
theorem iload (C : Cx p m meth c s Z a0 EL b own nm bytes maxL ret) {pc' : Nat} {i : Nat} {v : Int32} (hd : decode bytes pc = .ok (.iload i, 2)) (hp : pc + 2 = pc') (hl : L[i]? = some (.val (.int v))) (hr : WP p l e R s m args below meth c Z EL b Q pc' L (.int v :: st) h W k n) : WP p l e R s m args below meth c Z EL b Q pc L (st) h W k n := by
  subst hp; exact hr.go fun X t q => XS.iload X.here C.1 rfl (hb C.2.1 hd) (getL hl) q
theorem aloadN (C : Cx p m meth c s Z a0 EL b own nm bytes maxL ret) {pc' : Nat} {i : Fin 4} {v : Value} (hd : decode bytes pc = .ok (.aload_n i, 1)) (hp : pc + 1 = pc') (hl : L[i.val]? = some (.val v)) (hv : v.isRef = true) (hr : WP p l e R s m args below meth c Z EL b Q pc' L (v :: st) h W k n) : WP p l e R s m args below meth c Z EL b Q pc L (st) h W k n := by
  subst hp; exact hr.go fun X t q => XS.aloadN X.here C.1 rfl (hb C.2.1 hd) (getL hl) hv q
theorem aload (C : Cx p m meth c s Z a0 EL b own nm bytes maxL ret) {pc' : Nat} {i : Nat} {v : Value} (hd : decode bytes pc = .ok (.aload i, 2)) (hp : pc + 2 = pc') (hl : L[i]? = some (.val v)) (hv : v.isRef = true) (hr : WP p l e R s m args below meth c Z EL b Q pc' L (v :: st) h W k n) : WP p l e R s m args below meth c Z EL b Q pc L (st) h W k n := by
  subst hp; exact hr.go fun X t q => XS.aload X.here C.1 rfl (hb C.2.1 hd) (getL hl) hv q
theorem lloadN (C : Cx p m meth c s Z a0 EL b own nm bytes maxL ret) {pc' : Nat} {i : Fin 4} {v : Int64} (hd : decode bytes pc = .ok (.lload_n i, 1)) (hp : pc + 1 = pc') (hl : L[i.val]? = some (.val (.long v))) (hr : WP p l e R s m args below meth c Z EL b Q pc' L (.long v :: st) h W k n) : WP p l e R s m args below meth c Z EL b Q pc L (st) h W k n := by
  subst hp; exact hr.go fun X t q => XT.lloadN X.here C.1 rfl (hb C.2.1 hd) (getL hl) q
theorem lload (C : Cx p m meth c s Z a0 EL b own nm bytes maxL ret) {pc' : Nat} {i : Nat} {v : Int64} (hd : decode bytes pc = .ok (.lload i, 2)) (hp : pc + 2 = pc') (hl : L[i]? = some (.val (.long v))) (hr : WP p l e R s m args below meth c Z EL b Q pc' L (.long v :: st) h W k n) : WP p l e R s m args below meth c Z EL b Q pc L (st) h W k n := by
  subst hp; exact hr.go fun X t q => XT.lload X.here C.1 rfl (hb C.2.1 hd) (getL hl) q
theorem aconstNull (C : Cx p m meth c s Z a0 EL b own nm bytes maxL ret) {pc' : Nat}  (hd : decode bytes pc = .ok (.aconst_null, 1)) (hp : pc + 1 = pc')  (hr : WP p l e R s m args below meth c Z EL b Q pc' L (.null :: st) h W k n) : WP p l e R s m args below meth c Z EL b Q pc L (st) h W k n := by
  subst hp; exact hr.go fun X t q => XS.aconstNull X.here C.1 rfl (hb C.2.1 hd)  q
theorem iconst (C : Cx p m meth c s Z a0 EL b own nm bytes maxL ret) {pc' : Nat} {i : Int} (v : Int32) (hd : decode bytes pc = .ok (.iconst i, 1)) (hp : pc + 1 = pc') (hv : Int32.ofInt i = v) (hr : WP p l e R s m args below meth c Z EL b Q pc' L (.int v :: st) h W k n) : WP p l e R s m args below meth c Z EL b Q pc L st h W k n := by
  subst hp hv; exact hr.go fun X t q => XS.iconst X.here C.1 rfl (hb C.2.1 hd) q
theorem bipush (C : Cx p m meth c s Z a0 EL b own nm bytes maxL ret) {pc' : Nat} {i : Int} (v : Int32) (hd : decode bytes pc = .ok (.bipush i, 2)) (hp : pc + 2 = pc') (hv : (Int8.ofInt i).toInt32 = v) (hr : WP p l e R s m args below meth c Z EL b Q pc' L (.int v :: st) h W k n) : WP p l e R s m args below meth c Z EL b Q pc L st h W k n := by
  subst hp hv; exact hr.go fun X t q => XS.bipush X.here C.1 rfl (hb C.2.1 hd) q
theorem sipush (C : Cx p m meth c s Z a0 EL b own nm bytes maxL ret) {pc' : Nat} {i : Int} (v : Int32) (hd : decode bytes pc = .ok (.sipush i, 3)) (hp : pc + 3 = pc') (hv : (Int16.ofInt i).toInt32 = v) (hr : WP p l e R s m args below meth c Z EL b Q pc' L (.int v :: st) h W k n) : WP p l e R s m args below meth c Z EL b Q pc L st h W k n := by
  subst hp hv; exact hr.go fun X t q => XS.sipush X.here C.1 rfl (hb C.2.1 hd) q
theorem lconst (C : Cx p m meth c s Z a0 EL b own nm bytes maxL ret) {pc' : Nat} {i : Fin 2} (v : Int64) (hd : decode bytes pc = .ok (.lconst i, 1)) (hp : pc + 1 = pc') (hv : Int64.ofNat i = v) (hr : WP p l e R s m args below meth c Z EL b Q pc' L (.long v :: st) h W k n) : WP p l e R s m args below meth c Z EL b Q pc L st h W k n := by
  subst hp hv; exact hr.go fun X t q => XT.lconst X.here C.1 rfl (hb C.2.1 hd) q
theorem iadd (C : Cx p m meth c s Z a0 EL b own nm bytes maxL ret) {pc' : Nat} {x y : Int32} (hd : decode bytes pc = .ok (.iadd, 1)) (hp : pc + 1 = pc')  (hr : WP p l e R s m args below meth c Z EL b Q pc' L (.int (x + y) :: st) h W k n) : WP p l e R s m args below meth c Z EL b Q pc L (.int y :: .int x :: st) h W k n := by
  subst hp; exact hr.go fun X t q => XS.iadd X.here C.1 rfl (hb C.2.1 hd) rfl q
theorem isub (C : Cx p m meth c s Z a0 EL b own nm bytes maxL ret) {pc' : Nat} {x y : Int32} (hd : decode bytes pc = .ok (.isub, 1)) (hp : pc + 1 = pc')  (hr : WP p l e R s m args below meth c Z EL b Q pc' L (.int (x - y) :: st) h W k n) : WP p l e R s m args below meth c Z EL b Q pc L (.int y :: .int x :: st) h W k n := by
  subst hp; exact hr.go fun X t q => XS.isub X.here C.1 rfl (hb C.2.1 hd) rfl q
theorem iand (C : Cx p m meth c s Z a0 EL b own nm bytes maxL ret) {pc' : Nat} {x y : Int32} (hd : decode bytes pc = .ok (.iand, 1)) (hp : pc + 1 = pc')  (hr : WP p l e R s m args below meth c Z EL b Q pc' L (.int (x &&& y) :: st) h W k n) : WP p l e R s m args below meth c Z EL b Q pc L (.int y :: .int x :: st) h W k n := by
  subst hp; exact hr.go fun X t q => XS.iand X.here C.1 rfl (hb C.2.1 hd) rfl q
theorem imul (C : Cx p m meth c s Z a0 EL b own nm bytes maxL ret) {pc' : Nat} {x y : Int32} (hd : decode bytes pc = .ok (.imul, 1)) (hp : pc + 1 = pc')  (hr : WP p l e R s m args below meth c Z EL b Q pc' L (.int (x * y) :: st) h W k n) : WP p l e R s m args below meth c Z EL b Q pc L (.int y :: .int x :: st) h W k n := by
  subst hp; exact hr.go fun X t q => XS.imul X.here C.1 rfl (hb C.2.1 hd) rfl q
theorem ior (C : Cx p m meth c s Z a0 EL b own nm bytes maxL ret) {pc' : Nat} {x y : Int32} (hd : decode bytes pc = .ok (.ior, 1)) (hp : pc + 1 = pc')  (hr : WP p l e R s m args below meth c Z EL b Q pc' L (.int (x ||| y) :: st) h W k n) : WP p l e R s m args below meth c Z EL b Q pc L (.int y :: .int x :: st) h W k n := by
  subst hp; exact hr.go fun X t q => XT.ior X.here C.1 rfl (hb C.2.1 hd) rfl q
theorem ixor (C : Cx p m meth c s Z a0 EL b own nm bytes maxL ret) {pc' : Nat} {x y : Int32} (hd : decode bytes pc = .ok (.ixor, 1)) (hp : pc + 1 = pc')  (hr : WP p l e R s m args below meth c Z EL b Q pc' L (.int (x ^^^ y) :: st) h W k n) : WP p l e R s m args below meth c Z EL b Q pc L (.int y :: .int x :: st) h W k n := by
  subst hp; exact hr.go fun X t q => XT.ixor X.here C.1 rfl (hb C.2.1 hd) rfl q
theorem ishl (C : Cx p m meth c s Z a0 EL b own nm bytes maxL ret) {pc' : Nat} {x y : Int32} (hd : decode bytes pc = .ok (.ishl, 1)) (hp : pc + 1 = pc')  (hr : WP p l e R s m args below meth c Z EL b Q pc' L (.int (x <<< (y &&& 31)) :: st) h W k n) : WP p l e R s m args below meth c Z EL b Q pc L (.int y :: .int x :: st) h W k n := by
  subst hp; exact hr.go fun X t q => XT.ishl X.here C.1 rfl (hb C.2.1 hd) rfl q
theorem ishr (C : Cx p m meth c s Z a0 EL b own nm bytes maxL ret) {pc' : Nat} {x y : Int32} (hd : decode bytes pc = .ok (.ishr, 1)) (hp : pc + 1 = pc')  (hr : WP p l e R s m args below meth c Z EL b Q pc' L (.int (x >>> (y &&& 31)) :: st) h W k n) : WP p l e R s m args below meth c Z EL b Q pc L (.int y :: .int x :: st) h W k n := by
  subst hp; exact hr.go fun X t q => XT.ishr X.here C.1 rfl (hb C.2.1 hd) rfl q
theorem iushr (C : Cx p m meth c s Z a0 EL b own nm bytes maxL ret) {pc' : Nat} {x y : Int32} (hd : decode bytes pc = .ok (.iushr, 1)) (hp : pc + 1 = pc')  (hr : WP p l e R s m args below meth c Z EL b Q pc' L (.int ((x.toUInt32 >>> (y &&& 31).toUInt32).toInt32) :: st) h W k n) : WP p l e R s m args below meth c Z EL b Q pc L (.int y :: .int x :: st) h W k n := by
  subst hp; exact hr.go fun X t q => XT.iushr X.here C.1 rfl (hb C.2.1 hd) rfl q
theorem irem (C : Cx p m meth c s Z a0 EL b own nm bytes maxL ret) {pc' : Nat} {x y : Int32} (hd : decode bytes pc = .ok (.irem, 1)) (hp : pc + 1 = pc') (hy : y ≠ 0) (hr : WP p l e R s m args below meth c Z EL b Q pc' L (.int (x % y) :: st) h W k n) : WP p l e R s m args below meth c Z EL b Q pc L (.int y :: .int x :: st) h W k n := by
  subst hp; exact hr.go fun X t q => iremM X C.1 rfl (hb C.2.1 hd) rfl hy q
theorem ineg (C : Cx p m meth c s Z a0 EL b own nm bytes maxL ret) {pc' : Nat} {x : Int32} (hd : decode bytes pc = .ok (.ineg, 1)) (hp : pc + 1 = pc')  (hr : WP p l e R s m args below meth c Z EL b Q pc' L (.int (-x) :: st) h W k n) : WP p l e R s m args below meth c Z EL b Q pc L (.int x :: st) h W k n := by
  subst hp; exact hr.go fun X t q => XS.ineg X.here C.1 rfl (hb C.2.1 hd) rfl q
theorem i2c (C : Cx p m meth c s Z a0 EL b own nm bytes maxL ret) {pc' : Nat} {x : Int32} (hd : decode bytes pc = .ok (.i2c, 1)) (hp : pc + 1 = pc')  (hr : WP p l e R s m args below meth c Z EL b Q pc' L (.int (nar .char x) :: st) h W k n) : WP p l e R s m args below meth c Z EL b Q pc L (.int x :: st) h W k n := by
  subst hp; exact hr.go fun X t q => XT.i2c X.here C.1 rfl (hb C.2.1 hd) rfl q
theorem i2b (C : Cx p m meth c s Z a0 EL b own nm bytes maxL ret) {pc' : Nat} {x : Int32} (hd : decode bytes pc = .ok (.i2b, 1)) (hp : pc + 1 = pc')  (hr : WP p l e R s m args below meth c Z EL b Q pc' L (.int (nar .byte x) :: st) h W k n) : WP p l e R s m args below meth c Z EL b Q pc L (.int x :: st) h W k n := by
  subst hp; exact hr.go fun X t q => XT.i2b X.here C.1 rfl (hb C.2.1 hd) rfl q
theorem i2l (C : Cx p m meth c s Z a0 EL b own nm bytes maxL ret) {pc' : Nat} {x : Int32} (hd : decode bytes pc = .ok (.i2l, 1)) (hp : pc + 1 = pc')  (hr : WP p l e R s m args below meth c Z EL b Q pc' L (.long x.toInt64 :: st) h W k n) : WP p l e R s m args below meth c Z EL b Q pc L (.int x :: st) h W k n := by
  subst hp; exact hr.go fun X t q => XT.i2l X.here C.1 rfl (hb C.2.1 hd) rfl q
theorem l2i (C : Cx p m meth c s Z a0 EL b own nm bytes maxL ret) {pc' : Nat} {x : Int64} (hd : decode bytes pc = .ok (.l2i, 1)) (hp : pc + 1 = pc')  (hr : WP p l e R s m args below meth c Z EL b Q pc' L (.int x.toInt32 :: st) h W k n) : WP p l e R s m args below meth c Z EL b Q pc L (.long x :: st) h W k n := by
  subst hp; exact hr.go fun X t q => XT.l2i X.here C.1 rfl (hb C.2.1 hd) rfl q
theorem land (C : Cx p m meth c s Z a0 EL b own nm bytes maxL ret) {pc' : Nat} {x y : Int64} (hd : decode bytes pc = .ok (.land, 1)) (hp : pc + 1 = pc')  (hr : WP p l e R s m args below meth c Z EL b Q pc' L (.long (x &&& y) :: st) h W k n) : WP p l e R s m args below meth c Z EL b Q pc L (.long y :: .long x :: st) h W k n := by
  subst hp; exact hr.go fun X t q => XT.land X.here C.1 rfl (hb C.2.1 hd) rfl q
theorem lushr (C : Cx p m meth c s Z a0 EL b own nm bytes maxL ret) {pc' : Nat} {x : Int64} {y : Int32} (hd : decode bytes pc = .ok (.lushr, 1)) (hp : pc + 1 = pc')  (hr : WP p l e R s m args below meth c Z EL b Q pc' L (.long (XT.ushrL x y) :: st) h W k n) : WP p l e R s m args below meth c Z EL b Q pc L (.int y :: .long x :: st) h W k n := by
  subst hp; exact hr.go fun X t q => XT.lushr X.here C.1 rfl (hb C.2.1 hd) rfl q
theorem dup (C : Cx p m meth c s Z a0 EL b own nm bytes maxL ret) {pc' : Nat} {x : Value} (hd : decode bytes pc = .ok (.dup, 1)) (hp : pc + 1 = pc') (hc : x.category = 1) (hr : WP p l e R s m args below meth c Z EL b Q pc' L (x :: x :: st) h W k n) : WP p l e R s m args below meth c Z EL b Q pc L (x :: st) h W k n := by
  subst hp; exact hr.go fun X t q => XS.dup X.here C.1 rfl (hb C.2.1 hd) rfl hc q
theorem pop (C : Cx p m meth c s Z a0 EL b own nm bytes maxL ret) {pc' : Nat} {x : Value} (hd : decode bytes pc = .ok (.pop, 1)) (hp : pc + 1 = pc') (hc : x.category = 1) (hr : WP p l e R s m args below meth c Z EL b Q pc' L (st) h W k n) : WP p l e R s m args below meth c Z EL b Q pc L (x :: st) h W k n := by
  subst hp; exact hr.go fun X t q => XT.pop X.here C.1 rfl (hb C.2.1 hd) rfl hc q
theorem dupX1 (C : Cx p m meth c s Z a0 EL b own nm bytes maxL ret) {pc' : Nat} {x y : Value} (hd : decode bytes pc = .ok (.dup_x1, 1)) (hp : pc + 1 = pc') (hc : x.category = 1) (hc' : y.category = 1) (hr : WP p l e R s m args below meth c Z EL b Q pc' L (x :: y :: x :: st) h W k n) : WP p l e R s m args below meth c Z EL b Q pc L (x :: y :: st) h W k n := by
  subst hp; exact hr.go fun X t q => XT.dupX1 X.here C.1 rfl (hb C.2.1 hd) rfl hc hc' q
theorem dup2 (C : Cx p m meth c s Z a0 EL b own nm bytes maxL ret) {pc' : Nat} {x y : Value} (hd : decode bytes pc = .ok (.dup2, 1)) (hp : pc + 1 = pc') (hc : x.category = 1) (hc' : y.category = 1) (hr : WP p l e R s m args below meth c Z EL b Q pc' L (x :: y :: x :: y :: st) h W k n) : WP p l e R s m args below meth c Z EL b Q pc L (x :: y :: st) h W k n := by
  subst hp; exact hr.go fun X t q => XT.dup2 X.here C.1 rfl (hb C.2.1 hd) rfl hc hc' q
theorem istoreN (C : Cx p m meth c s Z a0 EL b own nm bytes maxL ret) {pc' : Nat} {i : Fin 4} {x : Int32} (hd : decode bytes pc = .ok (.istore_n i, 1)) (hp : pc + 1 = pc') (hok : okS L[i.val]? = true) (hr : WP p l e R s m args below meth c Z EL b Q pc' (L.set i.val (.val (.int x))) (st) h W k n) : WP p l e R s m args below meth c Z EL b Q pc L (.int x :: st) h W k n := by
  subst hp; exact hr.go fun X t q => XS.istoreN X.here C.1 rfl (hb C.2.1 hd) rfl (stoL hok rfl) q
theorem istoreNG (C : Cx p m meth c s Z a0 EL b own nm bytes maxL ret) {pc' : Nat} {i : Fin 4} {x : Int32} (hd : decode bytes pc = .ok (.istore_n i, 1)) (hp : pc + 1 = pc') (hok : okS L[i.val]? = true) (hr : ∀ y : Int32, y = x → WP p l e R s m args below meth c Z EL b Q pc' (L.set i.val (.val (.int y))) st h W k n) : WP p l e R s m args below meth c Z EL b Q pc L (.int x :: st) h W k n := istoreN C hd hp hok (hr x rfl)
theorem istore (C : Cx p m meth c s Z a0 EL b own nm bytes maxL ret) {pc' : Nat} {i : Nat} {x : Int32} (hd : decode bytes pc = .ok (.istore i, 2)) (hp : pc + 2 = pc') (hok : okS L[i]? = true) (hr : WP p l e R s m args below meth c Z EL b Q pc' (L.set i (.val (.int x))) (st) h W k n) : WP p l e R s m args below meth c Z EL b Q pc L (.int x :: st) h W k n := by
  subst hp; exact hr.go fun X t q => XS.istore X.here C.1 rfl (hb C.2.1 hd) rfl (stoL hok rfl) q
theorem istoreG (C : Cx p m meth c s Z a0 EL b own nm bytes maxL ret) {pc' : Nat} {i : Nat} {x : Int32} (hd : decode bytes pc = .ok (.istore i, 2)) (hp : pc + 2 = pc') (hok : okS L[i]? = true) (hr : ∀ y : Int32, y = x → WP p l e R s m args below meth c Z EL b Q pc' (L.set i (.val (.int y))) st h W k n) : WP p l e R s m args below meth c Z EL b Q pc L (.int x :: st) h W k n := istore C hd hp hok (hr x rfl)
theorem astoreN (C : Cx p m meth c s Z a0 EL b own nm bytes maxL ret) {pc' : Nat} {i : Fin 4} {x : Value} (hd : decode bytes pc = .ok (.astore_n i, 1)) (hp : pc + 1 = pc') (hv : x.isRef = true) (hok : okS L[i.val]? = true) (hr : WP p l e R s m args below meth c Z EL b Q pc' (L.set i.val (.val x)) (st) h W k n) : WP p l e R s m args below meth c Z EL b Q pc L (x :: st) h W k n := by
  subst hp; exact hr.go fun X t q => XS.astoreN X.here C.1 rfl (hb C.2.1 hd) rfl hv (stoL hok (XT.cat1 hv)) q
theorem astore (C : Cx p m meth c s Z a0 EL b own nm bytes maxL ret) {pc' : Nat} {i : Nat} {x : Value} (hd : decode bytes pc = .ok (.astore i, 2)) (hp : pc + 2 = pc') (hv : x.isRef = true) (hok : okS L[i]? = true) (hr : WP p l e R s m args below meth c Z EL b Q pc' (L.set i (.val x)) (st) h W k n) : WP p l e R s m args below meth c Z EL b Q pc L (x :: st) h W k n := by
  subst hp; exact hr.go fun X t q => XS.astore X.here C.1 rfl (hb C.2.1 hd) rfl hv (stoL hok (XT.cat1 hv)) q
theorem iinc (C : Cx p m meth c s Z a0 EL b own nm bytes maxL ret) {pc' : Nat} {i : Nat} {d : Int} {x : Int32} (v : Int32) (hd : decode bytes pc = .ok (.iinc i d, 3)) (hp : pc + 3 = pc') (hv : Int32.ofInt d = v) (hl : L[i]? = some (.val (.int x))) (hr : WP p l e R s m args below meth c Z EL b Q pc' (L.set i (.val (.int (x + v)))) st h W k n) : WP p l e R s m args below meth c Z EL b Q pc L st h W k n := by
  subst hp hv; exact hr.go fun X t q => XS.iinc X.here C.1 rfl (hb C.2.1 hd) (getL hl) (stoL (by rw [hl]; rfl) rfl) q
theorem goto (C : Cx p m meth c s Z a0 EL b own nm bytes maxL ret) (pc' : Nat) {o : Int} (hd : decode bytes pc = .ok (.goto o, 3)) (ho : 0 ≤ (pc : Int) + o) (hp : ((pc : Int) + o).toNat = pc') (hr : WP p l e R s m args below meth c Z EL b Q pc' L st h W k n) : WP p l e R s m args below meth c Z EL b Q pc L st h W k n := by
  exact hr.go fun X t q => XS.goto X.here C.1 rfl (pc0 := pc) (pc' := pc') rfl (hb C.2.1 hd) ho hp q
theorem ifCY (C : Cx p m meth c s Z a0 EL b own nm bytes maxL ret) (pc' : Nat) {cd : ClassFile.Cond} {x : Int32} {o : Int} (hd : decode bytes pc = .ok (.ifCond cd o, 3))  (hc : ifCond.holds cd x = true) (ho : 0 ≤ (pc : Int) + o) (hp : ((pc : Int) + o).toNat = pc') (hr : WP p l e R s m args below meth c Z EL b Q pc' L st h W k n) : WP p l e R s m args below meth c Z EL b Q pc L (.int x :: st) h W k n := by
  exact hr.go fun X t q => XS.ifYes X.here C.1 rfl (pc0 := pc) (pc' := pc') rfl (hb C.2.1 hd) rfl hc ho hp q
theorem ifCN (C : Cx p m meth c s Z a0 EL b own nm bytes maxL ret) {pc' : Nat} {cd : ClassFile.Cond} {x : Int32} {o : Int} (hd : decode bytes pc = .ok (.ifCond cd o, 3)) (hp : pc + 3 = pc')  (hc : ifCond.holds cd x = false) (hr : WP p l e R s m args below meth c Z EL b Q pc' L st h W k n) : WP p l e R s m args below meth c Z EL b Q pc L (.int x :: st) h W k n := by
  subst hp; exact hr.go fun X t q => XS.ifNo X.here C.1 rfl (hb C.2.1 hd) rfl hc q
theorem ifC (C : Cx p m meth c s Z a0 EL b own nm bytes maxL ret) (pc1 pc2 : Nat) {cd : ClassFile.Cond} {x : Int32} {o : Int} {P : Prop} [Decidable P] (hd : decode bytes pc = .ok (.ifCond cd o, 3))  (hc : ifCond.holds cd x = decide P) (ho : 0 ≤ (pc : Int) + o) (hp : ((pc : Int) + o).toNat = pc1) (hp2 : pc + 3 = pc2) (h1 : P → WP p l e R s m args below meth c Z EL b Q pc1 L st h W k n) (h2 : ¬ P → WP p l e R s m args below meth c Z EL b Q pc2 L st h W k n) : WP p l e R s m args below meth c Z EL b Q pc L (.int x :: st) h W k n := by
  by_cases q : P
  · exact ifCY C pc1 hd (by rw [hc]; exact decide_eq_true q) ho hp (h1 q)
  · exact ifCN C hd hp2 (by rw [hc]; exact decide_eq_false q) (h2 q)
theorem icmpY (C : Cx p m meth c s Z a0 EL b own nm bytes maxL ret) (pc' : Nat) {cd : ClassFile.Cond} {x y : Int32} {o : Int} (hd : decode bytes pc = .ok (.if_icmp cd o, 3))  (hc : if_icmp.holds cd x y = true) (ho : 0 ≤ (pc : Int) + o) (hp : ((pc : Int) + o).toNat = pc') (hr : WP p l e R s m args below meth c Z EL b Q pc' L st h W k n) : WP p l e R s m args below meth c Z EL b Q pc L (.int y :: .int x :: st) h W k n := by
  exact hr.go fun X t q => XS.icmpYes X.here C.1 rfl (pc0 := pc) (pc' := pc') rfl (hb C.2.1 hd) rfl hc ho hp q
theorem icmpN (C : Cx p m meth c s Z a0 EL b own nm bytes maxL ret) {pc' : Nat} {cd : ClassFile.Cond} {x y : Int32} {o : Int} (hd : decode bytes pc = .ok (.if_icmp cd o, 3)) (hp : pc + 3 = pc')  (hc : if_icmp.holds cd x y = false) (hr : WP p l e R s m args below meth c Z EL b Q pc' L st h W k n) : WP p l e R s m args below meth c Z EL b Q pc L (.int y :: .int x :: st) h W k n := by
  subst hp; exact hr.go fun X t q => XS.icmpNo X.here C.1 rfl (hb C.2.1 hd) rfl hc q
theorem icmp (C : Cx p m meth c s Z a0 EL b own nm bytes maxL ret) (pc1 pc2 : Nat) {cd : ClassFile.Cond} {x y : Int32} {o : Int} {P : Prop} [Decidable P] (hd : decode bytes pc = .ok (.if_icmp cd o, 3))  (hc : if_icmp.holds cd x y = decide P) (ho : 0 ≤ (pc : Int) + o) (hp : ((pc : Int) + o).toNat = pc1) (hp2 : pc + 3 = pc2) (h1 : P → WP p l e R s m args below meth c Z EL b Q pc1 L st h W k n) (h2 : ¬ P → WP p l e R s m args below meth c Z EL b Q pc2 L st h W k n) : WP p l e R s m args below meth c Z EL b Q pc L (.int y :: .int x :: st) h W k n := by
  by_cases q : P
  · exact icmpY C pc1 hd (by rw [hc]; exact decide_eq_true q) ho hp (h1 q)
  · exact icmpN C hd hp2 (by rw [hc]; exact decide_eq_false q) (h2 q)
theorem acmpY (C : Cx p m meth c s Z a0 EL b own nm bytes maxL ret) (pc' : Nat) {cd : ClassFile.ACond} {x y : Value} {o : Int} (hd : decode bytes pc = .ok (.if_acmp cd o, 3)) (hx : x.isRef = true) (hy : y.isRef = true) (hc : XT.acmp cd x y = true) (ho : 0 ≤ (pc : Int) + o) (hp : ((pc : Int) + o).toNat = pc') (hr : WP p l e R s m args below meth c Z EL b Q pc' L st h W k n) : WP p l e R s m args below meth c Z EL b Q pc L (y :: x :: st) h W k n := by
  exact hr.go fun X t q => XT.acmpYes X.here C.1 rfl (pc0 := pc) (pc' := pc') rfl (hb C.2.1 hd) rfl hx hy hc ho hp q
theorem acmpN (C : Cx p m meth c s Z a0 EL b own nm bytes maxL ret) {pc' : Nat} {cd : ClassFile.ACond} {x y : Value} {o : Int} (hd : decode bytes pc = .ok (.if_acmp cd o, 3)) (hp : pc + 3 = pc') (hx : x.isRef = true) (hy : y.isRef = true) (hc : XT.acmp cd x y = false) (hr : WP p l e R s m args below meth c Z EL b Q pc' L st h W k n) : WP p l e R s m args below meth c Z EL b Q pc L (y :: x :: st) h W k n := by
  subst hp; exact hr.go fun X t q => XT.acmpNo X.here C.1 rfl (hb C.2.1 hd) rfl hx hy hc q
theorem acmp (C : Cx p m meth c s Z a0 EL b own nm bytes maxL ret) (pc1 pc2 : Nat) {cd : ClassFile.ACond} {x y : Value} {o : Int} {P : Prop} [Decidable P] (hd : decode bytes pc = .ok (.if_acmp cd o, 3)) (hx : x.isRef = true) (hy : y.isRef = true) (hc : XT.acmp cd x y = decide P) (ho : 0 ≤ (pc : Int) + o) (hp : ((pc : Int) + o).toNat = pc1) (hp2 : pc + 3 = pc2) (h1 : P → WP p l e R s m args below meth c Z EL b Q pc1 L st h W k n) (h2 : ¬ P → WP p l e R s m args below meth c Z EL b Q pc2 L st h W k n) : WP p l e R s m args below meth c Z EL b Q pc L (y :: x :: st) h W k n := by
  by_cases q : P
  · exact acmpY C pc1 hd hx hy (by rw [hc]; exact decide_eq_true q) ho hp (h1 q)
  · exact acmpN C hd hp2 hx hy (by rw [hc]; exact decide_eq_false q) (h2 q)
theorem ifnullY (C : Cx p m meth c s Z a0 EL b own nm bytes maxL ret) (pc' : Nat) {o : Int} (hd : decode bytes pc = .ok (.ifnull o, 3)) (ho : 0 ≤ (pc : Int) + o) (hp : ((pc : Int) + o).toNat = pc') (hr : WP p l e R s m args below meth c Z EL b Q pc' L st h W k n) : WP p l e R s m args below meth c Z EL b Q pc L (.null :: st) h W k n := by
  exact hr.go fun X t q => XS.ifnullYes X.here C.1 rfl (pc0 := pc) (pc' := pc') rfl (hb C.2.1 hd) rfl ho hp q
theorem ifnullN (C : Cx p m meth c s Z a0 EL b own nm bytes maxL ret) {pc' : Nat} {o : Int} {a : Nat} (hd : decode bytes pc = .ok (.ifnull o, 3)) (hp : pc + 3 = pc') (hr : WP p l e R s m args below meth c Z EL b Q pc' L st h W k n) : WP p l e R s m args below meth c Z EL b Q pc L (.ref a :: st) h W k n := by
  subst hp; exact hr.go fun X t q => XS.ifnullNo X.here C.1 rfl (hb C.2.1 hd) rfl q
theorem ifnonnullY (C : Cx p m meth c s Z a0 EL b own nm bytes maxL ret) (pc' : Nat) {o : Int} {a : Nat} (hd : decode bytes pc = .ok (.ifnonnull o, 3)) (ho : 0 ≤ (pc : Int) + o) (hp : ((pc : Int) + o).toNat = pc') (hr : WP p l e R s m args below meth c Z EL b Q pc' L st h W k n) : WP p l e R s m args below meth c Z EL b Q pc L (.ref a :: st) h W k n := by
  exact hr.go fun X t q => XT.ifnonnullYes X.here C.1 rfl (pc0 := pc) (pc' := pc') rfl (hb C.2.1 hd) rfl ho hp q
theorem ifnonnullN (C : Cx p m meth c s Z a0 EL b own nm bytes maxL ret) {pc' : Nat} {o : Int} (hd : decode bytes pc = .ok (.ifnonnull o, 3)) (hp : pc + 3 = pc') (hr : WP p l e R s m args below meth c Z EL b Q pc' L st h W k n) : WP p l e R s m args below meth c Z EL b Q pc L (.null :: st) h W k n := by
  subst hp; exact hr.go fun X t q => XT.ifnonnullNo X.here C.1 rfl (hb C.2.1 hd) rfl q
theorem ldcI (C : Cx p m meth c s Z a0 EL b own nm bytes maxL ret) {pc' : Nat} {index : Nat} {v : Int32} (w : (Cond.constant own index v).before a0 Z = true) (hd : decode bytes pc = .ok (.ldc index, 2)) (hp : pc + 2 = pc') (hr : WP p l e R s m args below meth c Z EL b Q pc' L (.int v :: st) h W k n) : WP p l e R s m args below meth c Z EL b Q pc L st h W k n := by
  subst hp; exact hr.hop C fun X eT _ hZ ho => ⟨_, X, eT, fun t q => X.ldcI C.1 ho (mv hZ w) rfl (hb C.2.1 hd) q⟩
/-! fields, statics, casts -/
theorem getF (C : Cx p m meth c s Z a0 EL b own nm bytes maxL ret) {pc' : Nat} {f O d : String} {index : Nat} {a : Nat} {v : Value} (w : (Cond.fieldLink own index O f d).before a0 Z = true) (F : Fld Z h a O f d v) (hd : decode bytes pc = .ok (.getfield index, 3)) (hp : pc + 3 = pc')
    (hr : WP p l e R s m args below meth c Z EL b Q pc' L (v :: st) h W k n) : WP p l e R s m args below meth c Z EL b Q pc L (.ref a :: st) h W k n := by
  subst hp
  exact hr.hop C fun X eT _ hZ ho => RoadKit.getF X C.1 hZ ho (host := "") (Or.inl w) Via.refl eT F (g := mkF m pc L.toArray (.ref a :: st)) rfl rfl (hb C.2.1 hd)
theorem getFV (C : Cx p m meth c s Z a0 EL b own nm bytes maxL ret) {pc' : Nat} {f R0 O d : String} {index : Nat} {a : Nat} {v : Value} (w : (Cond.fieldLink own index R0 f d).before a0 Z = true) (via : Via Z R0 O f d) (F : Fld Z h a O f d v) (hd : decode bytes pc = .ok (.getfield index, 3)) (hp : pc + 3 = pc')
    (hr : WP p l e R s m args below meth c Z EL b Q pc' L (v :: st) h W k n) : WP p l e R s m args below meth c Z EL b Q pc L (.ref a :: st) h W k n := by
  subst hp
  exact hr.hop C fun X eT _ hZ ho => RoadKit.getF X C.1 hZ ho (host := "") (Or.inl w) via eT F (g := mkF m pc L.toArray (.ref a :: st)) rfl rfl (hb C.2.1 hd)
theorem getS (C : Cx p m meth c s Z a0 EL b own nm bytes maxL ret) {pc' : Nat} {f O d : String} {index : Nat} {v : Value} (w : (Cond.fieldLink own index O f d).before a0 Z = true) (F : Sta Z Z.heap O f d v) (hd : decode bytes pc = .ok (.getstatic index, 3)) (hp : pc + 3 = pc')
    (hr : WP p l e R s m args below meth c Z EL b Q pc' L (v :: st) h W k n) : WP p l e R s m args below meth c Z EL b Q pc L st h W k n := by
  subst hp
  exact hr.hop C fun X eT hO hZ ho => RoadKit.getS X C.1 hZ (host := "") ho w Via.refl eT (F.ext hO.2) (g := mkF m pc L.toArray st) rfl (hb C.2.1 hd)
theorem castY (C : Cx p m meth c s Z a0 EL b own nm bytes maxL ret) {pc' : Nat} {K : String} {index : Nat} {a : Nat} (w : (Cond.classLink own index K).before a0 Z = true) (F : Ins Z h a K true) (hd : decode bytes pc = .ok (.checkcast index, 3)) (hp : pc + 3 = pc')
    (hr : WP p l e R s m args below meth c Z EL b Q pc' L (.ref a :: st) h W k n) : WP p l e R s m args below meth c Z EL b Q pc L (.ref a :: st) h W k n := by
  subst hp
  exact hr.hop C fun X eT _ hZ ho => RoadKit.castY X C.1 hZ ho w eT F (g := mkF m pc L.toArray (.ref a :: st)) rfl rfl (hb C.2.1 hd)
theorem instY (C : Cx p m meth c s Z a0 EL b own nm bytes maxL ret) {pc' : Nat} {K : String} {index : Nat} {a : Nat} (w : (Cond.classLink own index K).before a0 Z = true) (F : Ins Z h a K true) (hd : decode bytes pc = .ok (.instanceof index, 3)) (hp : pc + 3 = pc')
    (hr : WP p l e R s m args below meth c Z EL b Q pc' L (.int 1 :: st) h W k n) : WP p l e R s m args below meth c Z EL b Q pc L (.ref a :: st) h W k n := by
  subst hp
  exact hr.hop C fun X eT _ hZ ho => RoadKit.instY X C.1 hZ ho w eT F (g := mkF m pc L.toArray (.ref a :: st)) rfl rfl (hb C.2.1 hd)
theorem initO (C : Cx p m meth c s Z a0 EL b own nm bytes maxL ret) {pc' : Nat} {index : Nat} {a : Nat} (w1 : (Cond.methodLink own index Lib.objectInit).before a0 Z = true) (w2 : (Cond.instanceMethod Lib.objectInit).before a0 Z = true) (w3 : (Cond.code Lib.objectInit ⟨#[0xb1]⟩ 1 none).before a0 Z = true)
    (hd : decode bytes pc = .ok (.invokespecial index, 3)) (hp : pc + 3 = pc') (hsz : L.length = maxL) (hf : 1 ≤ R.frames) (hl : (st.map fun v => v.category).sum + 12 ≤ R.locals)
    (hr : WP p l e R s m args below meth c Z EL b Q pc' L st h W k n) : WP p l e R s m args below meth c Z EL b Q pc L (.ref a :: st) h W k n := by
  subst hp
  exact hr.hop C fun X eT _ hZ ho => RoadKit.initO X C.1 hZ ho w1 w2 w3 eT (g := mkF m pc L.toArray (.ref a :: st)) rfl (by rw [C.2.2.1, ← hsz]; simp) rfl (hb C.2.1 hd) hf (W := (st.map fun v => v.category).sum) (by show 2 * 0 + _ ≤ _; omega) hl
/-! new -/
theorem newO (C : Cx p m meth c s Z a0 EL b own nm bytes maxL ret) {pc' : Nat} {K : String} {index sz : Nat} (w : (Cond.classLink own index K).before a0 Z = true) (wi : (Cond.instantiable K sz).before a0 Z = true) (wz : (Cond.initialized K).before a0 Z = true) (hd : decode bytes pc = .ok (.new index, 3)) (hp : pc + 3 = pc') (hc : k + 1 ≤ R.cells) (hn : n + sz ≤ R.slots)
    (hr : ∀ h' a, a = h.size → Z.heap.size ≤ a → a < h'.size → Ext h h' → (Exa Z h' a K ∧ ∀ {O f d : String} {ty : FieldType}, Laid Z a0 K O f d → parseFieldDescriptor d = some ty → Fld Z h' a O f d (defaultValue ty)) → WP p l e R s m args below meth c Z EL b Q pc' L (.ref a :: st) h' (a :: W) (k + 1) (n + sz)) :
    WP p l e R s m args below meth c Z EL b Q pc L st h W k n := by
  subst hp
  refine WP.grow (F := fun h' a => Exa Z h' a K ∧ ∀ {O f d : String} {ty : FieldType}, Laid Z a0 K O f d → parseFieldDescriptor d = some ty → Fld Z h' a O f d (defaultValue ty)) (st' := fun a => .ref a :: st) C hc hn (fun X eT hZ ho h1 h2 => ?_) hr
  obtain ⟨T', h', X', e', E, A, D, -, q⟩ := RoadKit.newO X C.1 hZ ho w wi wz eT (g := mkF m pc L.toArray st) rfl (hb C.2.1 hd) h1 h2
  exact ⟨T', h', X', e', E, A.lt, ⟨A, D⟩, q⟩
/-- an array of ints (or bytes, chars ..) with these components -/
def ArI (Z : State) (h : Heap) (a : Nat) (ty : FieldType) (xs : List Int32) : Prop := (∃ kc, Arv Z h a kc ty (Int32.ofNat xs.length) (xs.map Value.int) (.int 0)) ∧ xs.length < 2 ^ 31
theorem ArI.lt {h : Heap} {a : Nat} {ty : FieldType} {xs : List Int32} (A : ArI Z h a ty xs) : a < h.size := by obtain ⟨⟨_, A⟩, _⟩ := A; exact A.lt
theorem ArI.ext {h h' : Heap} {a : Nat} {ty : FieldType} {xs : List Int32} (A : ArI Z h a ty xs) (E : Ext h h') : ArI Z h' a ty xs := by obtain ⟨⟨k, A⟩, q⟩ := A; exact ⟨⟨k, A.ext E⟩, q⟩
theorem ArI.keep {h h' : Heap} {a : Nat} {ty : FieldType} {xs : List Int32} {ws : List Nat} (A : ArI Z h a ty xs) (K : Keep h h' ws) (hn : a ∉ ws) : ArI Z h' a ty xs := by obtain ⟨⟨k, A⟩, q⟩ := A; exact ⟨⟨k, A.keep K hn⟩, q⟩
theorem ofNat_clamp {i : Nat} (hi : i < 2 ^ 31) : (Int32.ofNat i).toNatClampNeg = i := clamp_of rfl hi
theorem idx_ok {j : Int32} {i : Nat} (hj : j.toInt = (i : Int)) : ¬ j < 0 ∧ j.toNatClampNeg = i := by
  refine ⟨fun q => ?_, ?_⟩
  · rw [Int32.lt_iff_toInt_lt, hj, Int32.toInt_zero] at q; omega
  · show j.toInt.toNat = i; rw [hj]; rfl
theorem ArI.fit {h : Heap} {a : Nat} {ty : FieldType} {xs : List Int32} (A : ArI Z h a ty xs) {i : Nat} (hi : i < xs.length) : fits ty (.int (xs.getD i 0)) = true := by
  obtain ⟨⟨k, cl, A, q1, S, q3, H, G⟩, q⟩ := A
  have := G i (by rw [S, ofNat_clamp q]; exact hi)
  simpa [List.getD_eq_getElem?_getD, hi] using this
theorem ArI.cell {h : Heap} {a : Nat} {ty : FieldType} {xs : List Int32} (A : ArI Z h a ty xs) : ∃ cl : Cell, Arr Z h a cl ty ∧ cl.slots.size = xs.length ∧ ∀ {j : Int32} {i : Nat}, j.toInt = (i : Int) → i < xs.length → ¬ (j < 0 ∨ cl.slots.size ≤ j.toNatClampNeg) ∧ cl.slots[j.toNatClampNeg]? = some (.int (xs.getD i 0)) := by
  obtain ⟨⟨k, cl, A, q1, S, q3, H, G⟩, q⟩ := A
  rw [ofNat_clamp q] at S
  refine ⟨cl, A, S, fun {j i} hj hi => ?_⟩
  obtain ⟨h1, h2⟩ := idx_ok hj
  refine ⟨fun q => q.elim h1 (fun q => by omega), ?_⟩
  rw [h2, H i (by omega)]
  simp [List.getD_eq_getElem?_getD, hi]
theorem newarr (C : Cx p m meth c s Z a0 EL b own nm bytes maxL ret) {pc' : Nat} {aty : ArrayType} {ty : FieldType} {z : Int32} {cap : Nat} (hty : newarray.typeOf aty = ty) (hdv : defaultValue ty = .int 0) (w : (Cond.arrayClass ty).before a0 Z = true) (hd : decode bytes pc = .ok (.newarray aty, 2)) (hp : pc + 2 = pc') (hz : z = Int32.ofNat cap) (hcap : cap * 8 ≤ 536870912) (hc : k + 1 ≤ R.cells) (hn : n + cap ≤ R.slots)
    (hr : ∀ h' a, a = h.size → Z.heap.size ≤ a → a < h'.size → Ext h h' → ArI Z h' a ty (List.replicate cap 0) → WP p l e R s m args below meth c Z EL b Q pc' L (.ref a :: st) h' (a :: W) (k + 1) (n + cap)) :
    WP p l e R s m args below meth c Z EL b Q pc L (.int z :: st) h W k n := by
  subst hp hz hty
  have hb31 : cap < 2 ^ 31 := by omega
  refine WP.grow (F := fun h' a => ArI Z h' a (newarray.typeOf aty) (List.replicate cap 0)) (st' := fun a => .ref a :: st) C hc hn (fun X eT hZ ho h1 h2 => ?_) hr
  have hneg : ¬ Int32.ofNat cap < 0 := fun q => by
    rw [Int32.lt_iff_toInt_lt, toInt_of rfl hb31, Int32.toInt_zero] at q; omega
  obtain ⟨T', h', kA, X', e', E, A, q⟩ := RoadKit.newP X C.1 hZ w eT (g := mkF m pc L.toArray (.int (Int32.ofNat cap) :: st)) rfl (hb C.2.1 hd) rfl hneg (cap := cap) (by rw [ofNat_clamp hb31]; exact Nat.le_refl _) hcap h1 h2
  refine ⟨T', h', X', e', E, A.lt, ?_, q⟩
  have A' := Arv.new A hneg
  rw [hdv] at A'
  have A2 := A'.pad (vs' := (List.replicate cap (0 : Int32)).map Value.int) (by
    intro i
    have := pad_rep [] (.int (0 : Int32)) cap i
    simpa [List.map_replicate] using this)
  exact ⟨⟨kA, by simpa using A2⟩, by simpa using hb31⟩
/-! arrays -/
theorem arrlen (C : Cx p m meth c s Z a0 EL b own nm bytes maxL ret) {pc' : Nat} {a : Nat} {ty : FieldType} {xs : List Int32} (A : ArI Z h a ty xs) (hd : decode bytes pc = .ok (.arraylength, 1)) (hp : pc + 1 = pc')
    (hr : WP p l e R s m args below meth c Z EL b Q pc' L (.int (Int32.ofNat xs.length) :: st) h W k n) : WP p l e R s m args below meth c Z EL b Q pc L (.ref a :: st) h W k n := by
  subst hp
  obtain ⟨cl, A, S, -⟩ := A.cell
  have e : cl.slots.size.toInt32 = Int32.ofNat xs.length := by rw [S]
  rw [← e] at hr
  exact hr.hop C fun X eT _ hZ ho => ⟨_, X, eT, fun t q => X.arraylength C.1 (by rw [eT]; exact A.1) (State.isArrayOf_alike hZ.alike A.2.1) (g := mkF m pc L.toArray (.ref a :: st)) rfl rfl (hb C.2.1 hd) t q⟩
theorem caload (C : Cx p m meth c s Z a0 EL b own nm bytes maxL ret) {pc' : Nat} {a : Nat} {xs : List Int32} {j : Int32} {i : Nat} (A : ArI Z h a .char xs) (hj : j.toInt = (i : Int)) (hi : i < xs.length) (hd : decode bytes pc = .ok (.caload, 1)) (hp : pc + 1 = pc')
    (hr : WP p l e R s m args below meth c Z EL b Q pc' L (.int (xs.getD i 0) :: st) h W k n) : WP p l e R s m args below meth c Z EL b Q pc L (.int j :: .ref a :: st) h W k n := by
  subst hp
  obtain ⟨cl, A, S, G⟩ := A.cell
  obtain ⟨h1, h2⟩ := G hj hi
  exact hr.hop C fun X eT _ hZ ho => ⟨_, X, eT, fun t q => X.caload C.1 (by rw [eT]; exact A.1) (State.isArrayOf_alike hZ.alike A.2.1) A.2.2 h1 h2 (g := mkF m pc L.toArray (.int j :: .ref a :: st)) rfl rfl (hb C.2.1 hd) t q⟩
theorem baload (C : Cx p m meth c s Z a0 EL b own nm bytes maxL ret) {pc' : Nat} {a : Nat} {xs : List Int32} {j : Int32} {i : Nat} (A : ArI Z h a .byte xs) (hj : j.toInt = (i : Int)) (hi : i < xs.length) (hd : decode bytes pc = .ok (.baload, 1)) (hp : pc + 1 = pc')
    (hr : WP p l e R s m args below meth c Z EL b Q pc' L (.int (xs.getD i 0) :: st) h W k n) : WP p l e R s m args below meth c Z EL b Q pc L (.int j :: .ref a :: st) h W k n := by
  subst hp
  obtain ⟨cl, A, S, G⟩ := A.cell
  obtain ⟨h1, h2⟩ := G hj hi
  exact hr.hop C fun X eT _ hZ ho => ⟨_, X, eT, fun t q => X.baloadBytes C.1 (by rw [eT]; exact A.1) (State.isArrayOf_alike hZ.alike A.2.1) A.2.2 h1 h2 (g := mkF m pc L.toArray (.int j :: .ref a :: st)) rfl rfl (hb C.2.1 hd) t q⟩
theorem iaload (C : Cx p m meth c s Z a0 EL b own nm bytes maxL ret) {pc' : Nat} {a : Nat} {xs : List Int32} {j : Int32} {i : Nat} (A : ArI Z h a .int xs) (hj : j.toInt = (i : Int)) (hi : i < xs.length) (hd : decode bytes pc = .ok (.iaload, 1)) (hp : pc + 1 = pc')
    (hr : WP p l e R s m args below meth c Z EL b Q pc' L (.int (xs.getD i 0) :: st) h W k n) : WP p l e R s m args below meth c Z EL b Q pc L (.int j :: .ref a :: st) h W k n := by
  subst hp
  obtain ⟨cl, A, S, G⟩ := A.cell
  obtain ⟨h1, h2⟩ := G hj hi
  exact hr.hop C fun X eT _ hZ ho => ⟨_, X, eT, fun t q => X.iaload C.1 (by rw [eT]; exact A.1) (State.isArrayOf_alike hZ.alike A.2.1) A.2.2 h1 h2 (g := mkF m pc L.toArray (.int j :: .ref a :: st)) rfl rfl (hb C.2.1 hd) t q⟩
theorem ArI.set {h h' : Heap} {a : Nat} {ty : FieldType} {xs : List Int32} {j : Int32} {i : Nat} {x : Int32} (A : ArI Z h a ty xs) (hj : j.toInt = (i : Int)) (hi : i < xs.length) (hx : fits ty (.int x) = true) (Wr' : Wr h h' a j.toNatClampNeg (.int x)) : ArI Z h' a ty (xs.set i x) := by
  obtain ⟨⟨kc, cl, A, q1, S, q3, H, G⟩, q⟩ := A
  obtain ⟨h1, h2⟩ := idx_ok hj
  have := Arv.set A q1 S q3 H G hx Wr' i h2 (by simpa using hi)
  exact ⟨⟨kc, by simpa [List.map_set] using this⟩, by simpa using q⟩
theorem castore (C : Cx p m meth c s Z a0 EL b own nm bytes maxL ret) {pc' : Nat} {a : Nat} {xs : List Int32} {j x : Int32} {i : Nat} (A : ArI Z h a .char xs) (hj : j.toInt = (i : Int)) (hi : i < xs.length) (ha : a ∈ W) (hd : decode bytes pc = .ok (.castore, 1)) (hp : pc + 1 = pc')
    (hr : ∀ h', Keep h h' [a] → ArI Z h' a .char (xs.set i (nar .char x)) → WP p l e R s m args below meth c Z EL b Q pc' L st h' W k n) : WP p l e R s m args below meth c Z EL b Q pc L (.int x :: .int j :: .ref a :: st) h W k n := by
  subst hp
  obtain ⟨cl, B, S, G⟩ := A.cell
  refine WP.write C ha (fun X eT hZ ho => RoadKit.stC X C.1 hZ eT B (G hj hi).1 (g := mkF m pc L.toArray (.int x :: .int j :: .ref a :: st)) rfl rfl (hb C.2.1 hd)) fun h' w K => hr h' K (A.set hj hi (fits_nar_char _) w)
theorem bastore (C : Cx p m meth c s Z a0 EL b own nm bytes maxL ret) {pc' : Nat} {a : Nat} {xs : List Int32} {j x : Int32} {i : Nat} (A : ArI Z h a .byte xs) (hj : j.toInt = (i : Int)) (hi : i < xs.length) (ha : a ∈ W) (hd : decode bytes pc = .ok (.bastore, 1)) (hp : pc + 1 = pc')
    (hr : ∀ h', Keep h h' [a] → ArI Z h' a .byte (xs.set i (nar .byte x)) → WP p l e R s m args below meth c Z EL b Q pc' L st h' W k n) : WP p l e R s m args below meth c Z EL b Q pc L (.int x :: .int j :: .ref a :: st) h W k n := by
  subst hp
  obtain ⟨cl, B, S, G⟩ := A.cell
  refine WP.write C ha (fun X eT hZ ho => RoadKit.stB X C.1 hZ eT B (G hj hi).1 (g := mkF m pc L.toArray (.int x :: .int j :: .ref a :: st)) rfl rfl (hb C.2.1 hd)) fun h' w K => hr h' K (A.set hj hi (fits_nar_byte _) w)
theorem putF (C : Cx p m meth c s Z a0 EL b own nm bytes maxL ret) {pc' : Nat} {f O d K : String} {index kk : Nat} {ty : FieldType} {a : Nat} {v old : Value} (w : (Cond.fieldLink own index O f d).before a0 Z = true) (F : Fld Z h a O f d old) (E : Exa Z h a K) (ly : (Cond.lays K O f d).before a0 Z = true ∨ ((Cond.laysFinal K O f d).before a0 Z = true ∧ own = O ∧ nm = "<init>")) (wi : (Cond.instantiable K kk).before a0 Z = true)
    (hty : parseFieldDescriptor d = some ty) (hnr : narrow ty v = v) (hft : fits ty v = true) (ha : a ∈ W) (hd : decode bytes pc = .ok (.putfield index, 3)) (hp : pc + 3 = pc')
    (hr : ∀ h', Wr h h' a (Jvm.RoadKit.slotOf Z O f d) v → Keep h h' [a] → Fld Z h' a O f d v → WP p l e R s m args below meth c Z EL b Q pc' L st h' W k n) : WP p l e R s m args below meth c Z EL b Q pc L (v :: .ref a :: st) h W k n := by
  subst hp
  refine WP.write C ha (fun X eT hZ ho => RoadKit.putF X C.1 hZ ho (host := "") (Or.inl w) Via.refl eT F E (ly.imp id fun q => ⟨q.1, q.2.1, by rw [C.2.2.2.2.2.2.2.2.1]; exact q.2.2⟩) wi hty hnr hft (g := mkF m pc L.toArray (v :: .ref a :: st)) rfl rfl (hb C.2.1 hd)) fun h' w' K' => hr h' w' K' (F.same w')
/-! ldc of a String constant of EL -/
theorem ldcS (C : Cx p m meth c s Z a0 EL b own nm bytes maxL ret) (hbf : b = false) {pc' : Nat} {text : String} {index N : Nat} {xs : List Int32} (w : (Cond.stringLink own index text).before a0 Z = true) (hmem : (own, index) ∈ EL)
    (ht : (∀ ch ∈ text.toList, ch.toNat < 256) ∧ text.toList.map (fun ch => Value.int (Jvm.Lit.byteI ch.toNat.toUInt16)) = xs.map Value.int) (hlen : xs.length < 2 ^ 31)
    (hd : decode bytes pc = .ok (.ldc index, 2)) (hp : pc + 2 = pc') (hN : 4 * text.toList.length ≤ N) (hbig : N ≤ 536870912) (hc0 : k + 2 ≤ R.cells) (hn0 : n + (N + 4) ≤ R.slots)
    (hr : ∀ h' a d, Ext h h' → Exa Z h' a "java/lang/String" → Fld Z h' a "java/lang/String" "coder" "B" (.int 0) → Fld Z h' a "java/lang/String" "value" "[B" (.ref d) → ArI Z h' d .byte xs → (∀ x ∈ W, x ≠ a ∧ x ≠ d) → WP p l e R s m args below meth c Z EL b Q pc' L (.ref a :: st) h' W (k + 2) (n + (N + 4))) :
    WP p l e R s m args below meth c Z EL b Q pc L st h W k n := by
  subst hp
  intro T vm0 k0 locs cells slots X eT hS hk hb' hC hO hW hF hc hn
  obtain ⟨a, T', h', k1, d, kd, X', e', E, hS', hk', hZ', ho', A, Fc, Fv, V, -, -, hCH, -, hne, q⟩ := ldcCH (z := Int32.ofNat xs.length) X C.1 (C.z hS) (C.o hS) w (C.2.2.2.2.2.2.2.2.2.1 hbf) eT hS hk C.ew hmem hC.1 ht
    (fun q => by rw [Int32.lt_iff_toInt_lt, toInt_of rfl hlen, Int32.toInt_zero] at q; omega) (by rw [ofNat_clamp hlen]; simp) (g := mkF m pc L.toArray st) rfl (hb C.2.1 hd) hN hbig (by omega) (by omega)
  have hW' := hW.r hCH
  obtain ⟨s2, v, st, r⟩ := hr h' a d E A Fc Fv ⟨⟨kd, V⟩, hlen⟩ (fun x hx => hne x (hW' x hx).2.2) T' T'.vm k1 locs _ _ X' e' hS' hk' (fun q => by rw [hbf] at q; cases q) (hC.trans hCH) (hO.ext E) hW' hF (by omega) (by omega)
  exact ⟨s2, v, q _ st, r⟩
/-- ldc of any String constant: which object, not what it says -/
theorem ldcO (C : Cx p m meth c s Z a0 EL b own nm bytes maxL ret) (hbf : b = false) {pc' : Nat} {text : String} {index N : Nat} (w : (Cond.stringLink own index text).before a0 Z = true)
    (hd : decode bytes pc = .ok (.ldc index, 2)) (hp : pc + 2 = pc') (hN : 4 * text.toList.length ≤ N) (hbig : N ≤ 536870912) (hc0 : k + 2 ≤ R.cells) (hn0 : n + (N + 4) ≤ R.slots)
    (hr : ∀ h' a, Ext h h' → WP p l e R s m args below meth c Z EL b Q pc' L (.ref a :: st) h' W (k + 2) (n + (N + 4))) :
    WP p l e R s m args below meth c Z EL b Q pc L st h W k n := by
  subst hp
  intro T vm0 k0 locs cells slots X eT hS hk hb' hC hO hW hF hc hn
  obtain ⟨a, T', h', k1, X', e', E, hS', hk', hZ', ho', hCH, -, q⟩ := ldcOH X C.1 (C.z hS) (C.o hS) w (C.2.2.2.2.2.2.2.2.2.1 hbf) eT hS hk C.ew hC.1 (g := mkF m pc L.toArray st) rfl (hb C.2.1 hd) hN hbig (by omega) (by omega)
  obtain ⟨s2, v, st, r⟩ := hr h' a E T' T'.vm k1 locs _ _ X' e' hS' hk' (fun q => by rw [hbf] at q; cases q) (hC.trans hCH) (hO.ext E) (hW.r hCH) hF (by omega) (by omega)
  exact ⟨s2, v, q _ st, r⟩
/-! returns -/
theorem retW (C : Cx p m meth c s Z a0 EL b own nm bytes maxL ret) {v : Option Value} (hv : ret = none → v = none) (hk : k ≤ R.cells) (hn : n ≤ R.slots) {W' : List Nat} (hsub : ∀ x ∈ W', x ∈ W) (hQ : Q v h W')
    (q : ∀ {T : State} {vm0 : Vm} {locs : List Loc} {cells slots : Nat}, Stand p l e R (s.setVm vm0) m args below meth c T locs cells slots → ∀ {fs : List Frame}, (∀ (f : JFrame) (acts : List Action), f.method = m → f.locked = none → f.entered = [] → (doReturn e (T.setTop f) acts v).1 = T.setFrames fs) → Steps p.tables e below (T.setTop (mkF m pc L.toArray st)) (T.setFrames fs)) :
    WP p l e R s m args below meth c Z EL b Q pc L st h W k n := by
  intro T vm0 k0 locs cells slots X eT hS hk0 hb' hC hO hW hF hc hn'
  obtain ⟨fs, h1, h2, h3, hW1, hs⟩ := X.leave (v := v) (fun q => hv (by rw [← C.2.2.2.1]; exact q)) C.2.2.2.2.1
  obtain ⟨x1, x2, x3⟩ := hS.ended (U := T.setFrames fs) hW1 (by show k0 ≤ T.heap.size; rw [eT]; exact hk0) hs
  have hA := CHv.at X (C.z hS) C.ew hC.1
  refine ⟨T.setFrames fs, v, q X h1, h2, h3, locs, W', ?_, ?_, ?_, hF, ?_, ⟨⟨v, rfl⟩, x1, x2, x3.mono (by omega) (by omega)⟩, fun hbt => ?_⟩
  · show Q v T.heap W'; rw [eT]; exact hQ
  · show Own Z EL T.vm T.heap W'; rw [eT]; exact (hW.sub hsub).r hA
  · show Old Z Z.heap.size T.heap; rw [eT]; exact hO
  · show CHr Z EL s.vm s.heap T.vm T.heap; rw [eT]; exact hC.trans hA
  · obtain rfl := hb' hbt
    exact ⟨⟨v, rfl⟩, hW1, State.sameButNew.mono hs (by omega) (by omega)⟩
theorem retN (C : Cx p m meth c s Z a0 EL b own nm bytes maxL ret) {t : FieldType} {z : Int32} (hret : ret = some t) (ht : t = .boolean ∨ t = .byte ∨ t = .char ∨ t = .short) (hd : decode bytes pc = .ok (.ireturn, 1)) (hk : k ≤ R.cells) (hn : n ≤ R.slots) (W' : List Nat) (hsub : ∀ x ∈ W', x ∈ W) (hQ : Q (some (.int (nar t z))) h W') :
    WP p l e R s m args below meth c Z EL b Q pc L (.int z :: st) h W k n := by
  subst hret
  exact retW C (fun q => nomatch q) hk hn hsub hQ fun X _ h1 => RoadKit.retN X C.1 C.2.2.2.1 ht (hb C.2.1 hd) h1
theorem retV (C : Cx p m meth c s Z a0 EL b own nm bytes maxL ret) (hret : ret = none) (hd : decode bytes pc = .ok (.return_, 1)) (hk : k ≤ R.cells) (hn : n ≤ R.slots) (W' : List Nat) (hsub : ∀ x ∈ W', x ∈ W) (hQ : Q none h W') :
    WP p l e R s m args below meth c Z EL b Q pc L [] h W k n := by
  subst hret
  exact retW C (fun _ => rfl) hk hn hsub hQ fun X _ h1 => X.returnOut C.1 C.2.2.2.1 (hb C.2.1 hd) h1
theorem retI (C : Cx p m meth c s Z a0 EL b own nm bytes maxL ret) {z : Int32} (hret : ret = some .int) (hd : decode bytes pc = .ok (.ireturn, 1)) (hk : k ≤ R.cells) (hn : n ≤ R.slots) (W' : List Nat) (hsub : ∀ x ∈ W', x ∈ W) (hQ : Q (some (.int z)) h W') :
    WP p l e R s m args below meth c Z EL b Q pc L (.int z :: st) h W k n := by
  subst hret
  exact retW C (fun q => nomatch q) hk hn hsub hQ fun X _ h1 => RoadKit.retOut X C.1 (t := .int) C.2.2.2.1 rfl (Or.inl ⟨rfl, Or.inl rfl, z, rfl⟩) (hb C.2.1 hd) h1
theorem retA (C : Cx p m meth c s Z a0 EL b own nm bytes maxL ret) {t : FieldType} {v : Value} (hret : ret = some t) (ht : t.isReference = true) (hv : v.isRef = true) (hd : decode bytes pc = .ok (.areturn, 1)) (hk : k ≤ R.cells) (hn : n ≤ R.slots) (W' : List Nat) (hsub : ∀ x ∈ W', x ∈ W) (hQ : Q (some v) h W') :
    WP p l e R s m args below meth c Z EL b Q pc L (v :: st) h W k n := by
  subst hret
  exact retW C (fun q => nomatch q) hk hn hsub hQ fun X _ h1 => RoadKit.retOut X C.1 (t := t) C.2.2.2.1 (by cases t <;> cases v <;> first | rfl | (cases ht; done) | (cases hv; done)) (Or.inr (Or.inr (Or.inr (Or.inr ⟨rfl, ht, hv⟩)))) (hb C.2.1 hd) h1
end Steps
/-! contracts and calls -/
section Calls
variable {p : Program} {l : Launch} {e : Env} {R : Room} {s : State} {m : MethodId} {args : Array Value} {below : List Frame} {meth : Method} {c : Code} {Z : State} {a0 : Array Value} {EL : List (String × Nat)} {b : Bool} {own nm : String} {bytes : ByteArray} {maxL : Nat} {ret : Option FieldType} {Q : Option Value → Heap → List Nat → Prop}
  {pc : Nat} {L : List Slot} {st : List Value} {h : Heap} {W : List Nat} {k n : Nat}
/-- a method's contract: called with these arguments over this heap it returns, and Q says what it returned, the heap it left, and which cells may be written besides -/
def Con (l : Launch) (Z : State) (EL : List (String × Nat)) (b : Bool) (y : MethodName) (bytes : ByteArray) (maxL : Nat) (ret : Option FieldType) (ws : List Jvm.Cond) (rm : Room) (as' : Array Value) (h : Heap) (W : List Nat) (Q : Option Value → Heap → List Nat → Prop) : Prop :=
  MetFree l y (head1 (Cond.code y bytes maxL ret :: ws) rm) (fun a U => a = as' ∧ Z.Warmed39 U.vm ∧ U.heap = h ∧ CHv Z EL U.vm h ∧ Old Z Z.heap.size h ∧ Own Z EL U.vm h W) (fun _ _ _ _ _ => True)
    (fun _ U o U' => ∃ v L, o = .returned v ∧ (∃ W', Q v U'.heap W' ∧ Own Z EL U'.vm U'.heap W' ∧ Old Z Z.heap.size U'.heap ∧ Fr Z.heap.size L) ∧ CHr Z EL U.vm U.heap U'.vm U'.heap ∧ ReturnedEndW U o U' L rm.cells rm.slots ∧ (b = true → FrameEnd U o U' L rm.cells rm.slots))
theorem Con.intro {y : MethodName} {ws : List Jvm.Cond} {rm : Room} {as' : Array Value} (hpn : plainFor y = true) (hEL : EW Z a0 EL) (hS : b = false → ∀ a ∈ Bundle.stringAtoms, a.before a0 Z = true) (hB : b = true → EL = []) (L : List Slot) (hE : argsToLocals as' maxL = L.toArray)
    (H : ∀ (p : Program) (e : Env) (s : State) (m : MethodId) (below : List Frame) (meth : Method) (c : Code), Cx p m meth c s Z a0 EL b y.cls y.name bytes maxL ret → Old Z Z.heap.size h → WP p l e rm s m as' below meth c Z EL b Q 0 L [] h W 0 0) :
    Con l Z EL b y bytes maxL ret ws rm as' h W Q := by
  refine MetFree.of_bodySF hpn hisR ?_
  intro p e s m args below meth c s₁ Bd hml hP hK
  obtain ⟨rfl, hZ, hh, hC, hO, hW⟩ := hP
  have hnm := (name_of_methodNamed Bd.named Bd.method).1
  have X0 : Stand p l e rm s m args below meth c s₁ [] 0 0 := Stand.of_body Bd
  have e0 : s₁.heap = h := by rw [← hh, Bd.state]; rfl
  obtain ⟨s2, v, q, r1, r2, L', W', r3, r4, r5, r6, r7, r8, r9⟩ := H p e s m below meth c ⟨Bd.exec, Bd.bytes, hml, Bd.returns, Bd.notSynchronized, findClass_of_methodNamed Bd.named, hZ, hEL, hnm, hS, hB⟩ hO s₁ s.vm 0 [] 0 0 X0 e0 ((State.WarmedH.refl s).since 0) (Nat.zero_le _) (fun _ => rfl)
    (by rw [hh]; exact CHr.refl hC) hO hW (Fr.nil _) (Nat.le_refl _) (Nat.le_refl _)
  have he : entryFrame m args maxL = mkF m 0 L.toArray [] := by unfold entryFrame; rw [hE]
  exact ⟨s2, _, castTop he q, r1, r2, v, L', rfl, ⟨W', r3, r4, r5, r6⟩, r7, r8, r9⟩
/-- a contract used where less is asked, or more is known -/
theorem Con.mono {y : MethodName} {ws : List Jvm.Cond} {rm : Room} {as' : Array Value} {Q' : Option Value → Heap → List Nat → Prop} (M : Con l Z EL b y bytes maxL ret ws rm as' h W Q) (q : ∀ v h' W', Q v h' W' → Q' v h' W') : Con l Z EL b y bytes maxL ret ws rm as' h W Q' := by
  intro p e h1 h2 h3 s m args below hf ha hP hK
  obtain ⟨n, o, x1, x2, x3, v, L, x4, ⟨W', x5, x6⟩, x7⟩ := M p e h1 h2 h3 s m args below hf ha hP hK
  exact ⟨n, o, x1, x2, x3, v, L, x4, ⟨W', q _ _ _ x5, x6⟩, x7⟩
/-- what stands behind a call -/
def Post (Z : State) (EL : List (String × Nat)) (vm0 : Vm) (h : Heap) (rm : Room) (Q : Option Value → Heap → List Nat → Prop) (A : Pt) (v : Option Value) (B : Pt) : Prop :=
  ∃ (L : List Loc) (W' : List Nat), Q v B.U.heap W' ∧ Own Z EL B.U.vm B.U.heap W' ∧ Old Z Z.heap.size B.U.heap ∧ Fr Z.heap.size L ∧ B.locs = A.locs ++ L ∧ B.cells = A.cells + rm.cells ∧ B.slots = A.slots + rm.slots ∧ CHr Z EL vm0 h B.U.vm B.U.heap
theorem Con.backS {y : MethodName} {rm : Room} {as' : Array Value} {len Wt : Nat} {vm0 : Vm} (M : Con l Z EL b y bytes maxL ret [] rm as' h W Q) (hZ : Z.Warmed39 vm0) (wc : (Cond.code y bytes maxL ret).before a0 Z = true) (wz : (Cond.initialized y.cls).before a0 Z = true) (hf : rm.frames + 1 ≤ R.frames) (hl : Wt + (maxL + 11) + rm.locals ≤ R.locals)
    (hEL : EW Z a0 EL) (H : CHv Z EL vm0 h) (hO : Old Z Z.heap.size h) (hW : Own Z EL vm0 h W) :
    BackS l R p e below (s.setVm vm0) args y len Wt (fun A a => a = as' ∧ A.U.heap = h ∧ A.cells + rm.cells ≤ R.cells ∧ A.slots + rm.slots ≤ R.slots) (fun A _ v B => Post Z EL vm0 h rm Q A v B) :=
  BackS.of_freeW (bytes := bytes) (maxL := maxL) (ret := ret) (E := fun _ first o t L kk nn => kk = rm.cells ∧ nn = rm.slots ∧ (∃ v, o = .returned v ∧ ∃ W', Q v t.heap W' ∧ Own Z EL t.vm t.heap W' ∧ Old Z Z.heap.size t.heap ∧ Fr Z.heap.size L) ∧ CHr Z EL first.vm first.heap t.vm t.heap) M hf hl
    (fun m meth c A a Y hp => have hU : Z.Warmed39 A.U.vm := wtrans (s := s.setVm vm0) hZ Y.warmed
      ⟨by show (Cond.and _ .tt).before a A.U = true; rw [Cond.before_and, mv hU wc]; rfl, mv hU wc, mv hU wz, hp.2.2.1, hp.2.2.2⟩)
    (fun m meth c A a g mk Y hp => ⟨hp.1, wtrans (s := s.setVm vm0) hZ Y.warmed, hp.2.1, (CHv.at Y hZ hEL H).1, hO, (show Own Z EL A.U.vm h W from hW.r (CHv.at Y hZ hEL H))⟩) (fun _ _ _ _ _ _ _ _ _ => trivial)
    (fun _ _ _ _ ⟨v, L, h1, ⟨W', h2⟩, h3, h4, _⟩ => ⟨L, _, _, h4, rfl, rfl, ⟨v, h1, W', h2⟩, h3⟩)
    (fun m meth c A a g mk v t L kk nn Y hp _ _ ⟨e1, e2, ⟨v', e3, W', e4, e5, e6, e7⟩, e8⟩ => by
      cases e3; subst e1 e2
      refine ⟨L, W', e4, e5, e6, e7, rfl, rfl, rfl, ?_⟩
      have e9 : CHr Z EL A.U.vm A.U.heap t.vm t.heap := e8
      rw [hp.2.1] at e9
      exact (CHv.at Y hZ hEL H).trans e9)
theorem Con.back {y : MethodName} {rm : Room} {as' : Array Value} {len Wt : Nat} {vm0 : Vm} (M : Con l Z [] true y bytes maxL ret [] rm as' h W Q) (hZ : Z.Warmed39 vm0) (wc : (Cond.code y bytes maxL ret).before a0 Z = true) (wz : (Cond.initialized y.cls).before a0 Z = true) (hf : rm.frames + 1 ≤ R.frames) (hl : Wt + (maxL + 11) + rm.locals ≤ R.locals)
    (H : CHv Z [] vm0 h) (hO : Old Z Z.heap.size h) (hW : Own Z [] vm0 h W) :
    Back l R p e below (s.setVm vm0) args y len Wt (fun A a => a = as' ∧ A.U.heap = h ∧ A.cells + rm.cells ≤ R.cells ∧ A.slots + rm.slots ≤ R.slots) (fun A _ v B => Post Z [] vm0 h rm Q A v B) :=
  Back.of_free (bytes := bytes) (maxL := maxL) (ret := ret) (E := fun _ first o t L kk nn => kk = rm.cells ∧ nn = rm.slots ∧ (∃ v, o = .returned v ∧ ∃ W', Q v t.heap W' ∧ Own Z [] t.vm t.heap W' ∧ Old Z Z.heap.size t.heap ∧ Fr Z.heap.size L) ∧ CHr Z [] first.vm first.heap t.vm t.heap) M hf hl
    (fun m meth c A a Y hp => have hU : Z.Warmed39 A.U.vm := wtrans (s := s.setVm vm0) hZ Y.warmed
      ⟨by show (Cond.and _ .tt).before a A.U = true; rw [Cond.before_and, mv hU wc]; rfl, mv hU wc, mv hU wz, hp.2.2.1, hp.2.2.2⟩)
    (fun m meth c A a g mk Y hp => ⟨hp.1, wtrans (s := s.setVm vm0) hZ Y.warmed, hp.2.1, (CHv.at Y hZ (EW.nil (a0 := a0)) H).1, hO, (show Own Z [] A.U.vm h W from hW.r (CHv.at Y hZ (EW.nil (a0 := a0)) H))⟩) (fun _ _ _ _ _ _ _ _ _ => trivial)
    (fun _ _ _ _ ⟨v, L, h1, ⟨W', h2⟩, h3, _, h5⟩ => ⟨L, _, _, h5 rfl, rfl, rfl, ⟨v, h1, W', h2⟩, h3⟩)
    (fun m meth c A a g mk v t L kk nn Y hp _ _ ⟨e1, e2, ⟨v', e3, W', e4, e5, e6, e7⟩, e8⟩ => by
      cases e3; subst e1 e2
      refine ⟨L, W', e4, e5, e6, e7, rfl, rfl, rfl, ?_⟩
      have e9 : CHr Z [] A.U.vm A.U.heap t.vm t.heap := e8
      rw [hp.2.1] at e9
      exact (CHv.at Y hZ (EW.nil (a0 := a0)) H).trans e9)
theorem chr_nil {vm vm1 vm2 : Vm} {h h' : Heap} (A : CHr Z [] vm h vm1 h') : CHr Z [] vm h vm2 h' := ⟨(fun _ hp => nomatch hp), A.2.1, fun y q => by obtain ⟨_, hp, _⟩ := q; cases hp⟩
theorem own_nil {vm vm2 : Vm} {h : Heap} (A : Own Z [] vm h W) : Own Z [] vm2 h W := fun x hx => ⟨(A x hx).1, (A x hx).2.1, fun q => by obtain ⟨_, hp, _⟩ := q; cases hp⟩
theorem WP.wk {V : List Nat} (hsub : ∀ x ∈ V, x ∈ W) (hr : WP p l e R s m args below meth c Z EL b Q pc L st h V k n) : WP p l e R s m args below meth c Z EL b Q pc L st h W k n :=
  fun T vm0 k0 locs cells slots X eT hS hk hb' hC hO hW hF hc hn => hr T vm0 k0 locs cells slots X eT hS hk hb' hC hO (hW.sub hsub) hF hc hn
theorem WP.room {k' n' : Nat} (hk' : k ≤ k') (hn' : n ≤ n') (hr : WP p l e R s m args below meth c Z EL b Q pc L st h W k' n') : WP p l e R s m args below meth c Z EL b Q pc L st h W k n :=
  fun T vm0 k0 locs cells slots X eT hS hk hb' hC hO hW hF hc hn => hr T vm0 k0 locs cells slots X eT hS hk hb' hC hO hW hF (Nat.le_trans hc hk') (Nat.le_trans hn hn')
/-- the way on behind a call -/
theorem WP.after {rm : Room} {Q' : Option Value → Heap → List Nat → Prop} {pc' : Nat} {rest : List Value} {V : List Nat} (C : Cx p m meth c s Z a0 EL b own nm bytes maxL ret) (hc0 : k + rm.cells ≤ R.cells) (hn0 : n + rm.slots ≤ R.slots)
    (hr : ∀ v h' W', Q' v h' W' → h.size ≤ h'.size → WP p l e R s m args below meth c Z EL b Q pc' L (v.toList ++ rest) h' (W' ++ W) (k + rm.cells) (n + rm.slots))
    {T : State} {vm0 : Vm} {k0 : Nat} {locs : List Loc} {cells slots : Nat} (eT : T.heap = h) (hS : s.Since vm0 k0) (hk : k0 ≤ h.size) (hb' : b = true → vm0 = s.vm) (hC : CHr Z EL s.vm s.heap vm0 h) (hW : Own Z EL vm0 h W) (hF : Fr Z.heap.size locs) (hc : cells ≤ k) (hn : slots ≤ n)
    {v : Option Value} {vm1 vm2 : Vm} {B : Pt} (X' : Stand p l e R (s.setVm vm2) m args below meth c B.U B.locs B.cells B.slots) (hS' : (s.setVm vm0).Since vm2 B.U.heap.size) (hv : (b = false ∧ vm2 = B.U.vm) ∨ (b = true ∧ vm2 = vm0)) (hg : T.heap.size ≤ B.U.heap.size)
    (P : Post Z EL vm0 h rm Q' ⟨T.setVm vm1, locs, cells, slots⟩ v B) :
    ∃ s2 v2, Steps p.tables e below (B.U.setTop (mkF m pc' L.toArray (v.toList ++ rest))) s2 ∧ EndQ R Z EL b Q s below s2 v2 := by
  obtain ⟨L1, W', q1, q2, q3, q4, q5, q6, q7, q8⟩ := P
  rw [eT] at hg
  have hF' : Fr Z.heap.size B.locs := by rw [q5]; exact hF.app q4
  have hcc : B.cells ≤ k + rm.cells := by rw [q6]; show cells + rm.cells ≤ _; omega
  have hnn : B.slots ≤ n + rm.slots := by rw [q7]; show slots + rm.slots ≤ _; omega
  rcases hv with ⟨rfl, rfl⟩ | ⟨rfl, rfl⟩
  · exact hr v _ W' q1 hg B.U B.U.vm B.U.heap.size _ _ _ X' rfl (hS.trans hS' (Nat.le_trans hk hg)) (Nat.le_refl _) (fun q => nomatch q) (hC.trans q8) q3 (q2.app (hW.r q8)) hF' hcc hnn
  · obtain rfl := C.2.2.2.2.2.2.2.2.2.2 rfl
    exact hr v _ W' q1 hg B.U vm2 k0 _ _ _ X' rfl hS (Nat.le_trans hk hg) hb' (chr_nil (hC.trans q8)) q3 (own_nil (q2.app (hW.r q8))) hF' hcc hnn
theorem callSW (C : Cx p m meth c s Z a0 EL b own nm bytes maxL ret) {pc' index : Nat} {y : MethodName} {ybytes : ByteArray} {ymax : Nat} {yret : Option FieldType} {rm : Room} {V : List Nat} {Q' : Option Value → Heap → List Nat → Prop} {argsL rest : List Value} {ps : List FieldType} {pr : Option FieldType} {Wt : Nat}
    (w1 : (Cond.methodLink own index y).before a0 Z = true) (w2 : (Cond.static y).before a0 Z = true) (w3 : (Cond.initialized y.cls).before a0 Z = true) (w4 : (Cond.code y ybytes ymax yret).before a0 Z = true) (hy : y.cls ≠ "java/lang/invoke/MethodHandle" ∧ y.cls ≠ "java/lang/invoke/VarHandle")
    (M : Con l Z EL b y ybytes ymax yret [] rm argsL.toArray h V Q') (hV : ∀ x ∈ V, x ∈ W) (hpd : parseMethodDescriptor y.desc = some ⟨ps, pr⟩) (hal : argsL.length = ps.length) (hst : st = argsL.reverse ++ rest) (hsz : L.length = maxL)
    (hd : decode bytes pc = .ok (.invokestatic index, 3)) (hp : pc + 3 = pc') (hWt : (rest.map fun v => v.category).sum ≤ Wt) (hf : rm.frames + 1 ≤ R.frames) (hl : Wt + (ymax + 11) + rm.locals ≤ R.locals) (hc0 : k + rm.cells ≤ R.cells) (hn0 : n + rm.slots ≤ R.slots)
    (hr : ∀ v h' W', Q' v h' W' → h.size ≤ h'.size → WP p l e R s m args below meth c Z EL b Q pc' L (v.toList ++ rest) h' (W' ++ W) (k + rm.cells) (n + rm.slots)) :
    WP p l e R s m args below meth c Z EL b Q pc L st h W k n := by
  subst hp hst
  intro T vm0 k0 locs cells slots X eT hS hk hb' hC hO hW hF hc hn
  have hZ0 : Z.Warmed39 (s.setVm vm0).vm := C.z hS
  have hsz' : (mkF m pc L.toArray (argsL.reverse ++ rest)).locals.size = c.maxLocals := by rw [C.2.2.1, ← hsz]; simp
  cases b with
  | false =>
    obtain ⟨v, vm1, B, -, X', hS', hg, P, q⟩ := callSS X C.1 (C.o hS) (mv hZ0 w1) (mv hZ0 w2) (mv hZ0 w3) (mv hZ0 w4) hy (M.backS (W := V) hZ0 w4 w3 hf hl C.ew hC.1 hO (hW.sub hV)) (g := mkF m pc L.toArray (argsL.reverse ++ rest)) rfl hsz' (lenOf hpd hal) rfl (by show 2 * 0 + _ ≤ _; omega) (hb C.2.1 hd) (fun _ _ => ⟨rfl, eT, by show cells + _ ≤ _; omega, by show slots + _ ≤ _; omega⟩)
    obtain ⟨s2, v2, q2, r⟩ := WP.after (V := V) C hc0 hn0 hr eT hS hk hb' hC hW hF hc hn X' hS' (Or.inl ⟨rfl, rfl⟩) hg P
    exact ⟨s2, v2, q.trans q2, r⟩
  | true =>
    obtain rfl := C.2.2.2.2.2.2.2.2.2.2 rfl
    obtain ⟨v, vm1, B, -, X', P, q⟩ := LawKit.callS X C.1 (C.o hS) (mv hZ0 w1) (mv hZ0 w2) (mv hZ0 w3) (mv hZ0 w4) hy (M.back (W := V) hZ0 w4 w3 hf hl hC.1 hO (hW.sub hV)) (g := mkF m pc L.toArray (argsL.reverse ++ rest)) rfl hsz' (lenOf hpd hal) rfl (by show 2 * 0 + _ ≤ _; omega) (hb C.2.1 hd) (fun _ _ => ⟨rfl, eT, by show cells + _ ≤ _; omega, by show slots + _ ≤ _; omega⟩)
    have hg : T.heap.size ≤ B.U.heap.size := by obtain ⟨_, _, _, _, _, _, _, _, _, q8⟩ := P; rw [eT]; exact q8.2.1
    obtain ⟨s2, v2, q2, r⟩ := WP.after (V := V) C hc0 hn0 hr eT hS hk hb' hC hW hF hc hn X' ((State.WarmedH.refl _).since _) (Or.inr ⟨rfl, rfl⟩) hg P
    exact ⟨s2, v2, q _ q2, r⟩
theorem callS (C : Cx p m meth c s Z a0 EL b own nm bytes maxL ret) {pc' index : Nat} {y : MethodName} {ybytes : ByteArray} {ymax : Nat} {yret : Option FieldType} {rm : Room} {V : List Nat} {Q' : Option Value → Heap → List Nat → Prop} {argsL rest : List Value} {ps : List FieldType} {pr : Option FieldType} {Wt : Nat}
    (w1 : (Cond.methodLink own index y).before a0 Z = true) (w2 : (Cond.static y).before a0 Z = true) (w3 : (Cond.initialized y.cls).before a0 Z = true) (w4 : (Cond.code y ybytes ymax yret).before a0 Z = true) (hy : y.cls ≠ "java/lang/invoke/MethodHandle" ∧ y.cls ≠ "java/lang/invoke/VarHandle")
    (M : Con l Z EL b y ybytes ymax yret [] rm argsL.toArray h V Q') (hV : ∀ x ∈ V, x ∈ W) (hpd : parseMethodDescriptor y.desc = some ⟨ps, pr⟩) (hal : argsL.length = ps.length) (hst : st = argsL.reverse ++ rest) (hsz : L.length = maxL)
    (hd : decode bytes pc = .ok (.invokestatic index, 3)) (hp : pc + 3 = pc') (hWt : (rest.map fun v => v.category).sum ≤ Wt) (hf : rm.frames + 1 ≤ R.frames) (hl : Wt + (ymax + 11) + rm.locals ≤ R.locals) (hc0 : k + rm.cells ≤ R.cells) (hn0 : n + rm.slots ≤ R.slots)
    (hr : ∀ v h' W', Q' v h' W' → h.size ≤ h'.size → WP p l e R s m args below meth c Z EL b Q pc' L (v.toList ++ rest) h' W (k + rm.cells) (n + rm.slots)) :
    WP p l e R s m args below meth c Z EL b Q pc L st h W k n :=
  callSW C w1 w2 w3 w4 hy M hV hpd hal hst hsz hd hp hWt hf hl hc0 hn0 fun v h' W' q g => (hr v h' W' q g).wk fun x hx => List.mem_append_right _ hx
theorem callIW (C : Cx p m meth c s Z a0 EL b own nm bytes maxL ret) {pc' index : Nat} {y : MethodName} {ybytes : ByteArray} {ymax : Nat} {rm : Room} {V : List Nat} {Q' : Option Value → Heap → List Nat → Prop} {a : Nat} {argsL rest : List Value} {ps : List FieldType} {pr : Option FieldType} {Wt : Nat} (hy1 : y.name = "<init>")
    (w1 : (Cond.methodLink own index y).before a0 Z = true) (w2 : (Cond.instanceMethod y).before a0 Z = true) (w3 : (Cond.initialized y.cls).before a0 Z = true) (w4 : (Cond.code y ybytes ymax none).before a0 Z = true) (hy : y.cls ≠ "java/lang/invoke/MethodHandle" ∧ y.cls ≠ "java/lang/invoke/VarHandle")
    (M : Con l Z EL b y ybytes ymax none [] rm (.ref a :: argsL).toArray h V Q') (hV : ∀ x ∈ V, x ∈ W) (hpd : parseMethodDescriptor y.desc = some ⟨ps, pr⟩) (hal : argsL.length = ps.length) (hst : st = argsL.reverse ++ .ref a :: rest) (hsz : L.length = maxL)
    (hd : decode bytes pc = .ok (.invokespecial index, 3)) (hp : pc + 3 = pc') (hWt : (rest.map fun v => v.category).sum ≤ Wt) (hf : rm.frames + 1 ≤ R.frames) (hl : Wt + (ymax + 11) + rm.locals ≤ R.locals) (hc0 : k + rm.cells ≤ R.cells) (hn0 : n + rm.slots ≤ R.slots)
    (hr : ∀ v h' W', Q' v h' W' → h.size ≤ h'.size → WP p l e R s m args below meth c Z EL b Q pc' L (v.toList ++ rest) h' (W' ++ W) (k + rm.cells) (n + rm.slots)) :
    WP p l e R s m args below meth c Z EL b Q pc L st h W k n := by
  subst hp hst
  intro T vm0 k0 locs cells slots X eT hS hk hb' hC hO hW hF hc hn
  have hZ0 : Z.Warmed39 (s.setVm vm0).vm := C.z hS
  have hsz' : (mkF m pc L.toArray (argsL.reverse ++ .ref a :: rest)).locals.size = c.maxLocals := by rw [C.2.2.1, ← hsz]; simp
  cases b with
  | false =>
    obtain ⟨v, vm1, B, -, X', hS', hg, P, q⟩ := X.specialBackS C.1 hy1 (C.o hS) (mv hZ0 w1) (mv hZ0 w2) (mv hZ0 w4) hy (M.backS (W := V) hZ0 w4 w3 hf hl C.ew hC.1 hO (hW.sub hV)) (g := mkF m pc L.toArray (argsL.reverse ++ .ref a :: rest)) rfl hsz' (Steps.refl _) (lenOf hpd hal) rfl (by show 2 * 0 + _ ≤ _; omega) (hb C.2.1 hd) (fun _ _ => ⟨rfl, eT, by show cells + _ ≤ _; omega, by show slots + _ ≤ _; omega⟩)
    obtain ⟨s2, v2, q2, r⟩ := WP.after (V := V) C hc0 hn0 hr eT hS hk hb' hC hW hF hc hn X' hS' (Or.inl ⟨rfl, rfl⟩) hg P
    exact ⟨s2, v2, q.trans q2, r⟩
  | true =>
    obtain rfl := C.2.2.2.2.2.2.2.2.2.2 rfl
    obtain ⟨v, vm1, B, -, X', P, q⟩ := X.specialBack C.1 hy1 (C.o hS) (mv hZ0 w1) (mv hZ0 w2) (mv hZ0 w4) hy (M.back (W := V) hZ0 w4 w3 hf hl hC.1 hO (hW.sub hV)) (g := mkF m pc L.toArray (argsL.reverse ++ .ref a :: rest)) rfl hsz' (Steps.refl _) (lenOf hpd hal) rfl (by show 2 * 0 + _ ≤ _; omega) (hb C.2.1 hd) (fun _ _ => ⟨rfl, eT, by show cells + _ ≤ _; omega, by show slots + _ ≤ _; omega⟩)
    have hg : T.heap.size ≤ B.U.heap.size := by obtain ⟨_, _, _, _, _, _, _, _, _, q8⟩ := P; rw [eT]; exact q8.2.1
    obtain ⟨s2, v2, q2, r⟩ := WP.after (V := V) C hc0 hn0 hr eT hS hk hb' hC hW hF hc hn X' ((State.WarmedH.refl _).since _) (Or.inr ⟨rfl, rfl⟩) hg P
    exact ⟨s2, v2, q.trans q2, r⟩
theorem callI (C : Cx p m meth c s Z a0 EL b own nm bytes maxL ret) {pc' index : Nat} {y : MethodName} {ybytes : ByteArray} {ymax : Nat} {rm : Room} {V : List Nat} {Q' : Option Value → Heap → List Nat → Prop} {a : Nat} {argsL rest : List Value} {ps : List FieldType} {pr : Option FieldType} {Wt : Nat} (hy1 : y.name = "<init>")
    (w1 : (Cond.methodLink own index y).before a0 Z = true) (w2 : (Cond.instanceMethod y).before a0 Z = true) (w3 : (Cond.initialized y.cls).before a0 Z = true) (w4 : (Cond.code y ybytes ymax none).before a0 Z = true) (hy : y.cls ≠ "java/lang/invoke/MethodHandle" ∧ y.cls ≠ "java/lang/invoke/VarHandle")
    (M : Con l Z EL b y ybytes ymax none [] rm (.ref a :: argsL).toArray h V Q') (hV : ∀ x ∈ V, x ∈ W) (hpd : parseMethodDescriptor y.desc = some ⟨ps, pr⟩) (hal : argsL.length = ps.length) (hst : st = argsL.reverse ++ .ref a :: rest) (hsz : L.length = maxL)
    (hd : decode bytes pc = .ok (.invokespecial index, 3)) (hp : pc + 3 = pc') (hWt : (rest.map fun v => v.category).sum ≤ Wt) (hf : rm.frames + 1 ≤ R.frames) (hl : Wt + (ymax + 11) + rm.locals ≤ R.locals) (hc0 : k + rm.cells ≤ R.cells) (hn0 : n + rm.slots ≤ R.slots)
    (hr : ∀ v h' W', Q' v h' W' → h.size ≤ h'.size → WP p l e R s m args below meth c Z EL b Q pc' L (v.toList ++ rest) h' W (k + rm.cells) (n + rm.slots)) :
    WP p l e R s m args below meth c Z EL b Q pc L st h W k n :=
  callIW C hy1 w1 w2 w3 w4 hy M hV hpd hal hst hsz hd hp hWt hf hl hc0 hn0 fun v h' W' q g => (hr v h' W' q g).wk fun x hx => List.mem_append_right _ hx
theorem callVW (C : Cx p m meth c s Z a0 EL b own nm bytes maxL ret) {pc' index : Nat} {K : String} {y z : MethodName} {ybytes : ByteArray} {ymax : Nat} {yret : Option FieldType} {rm : Room} {V : List Nat} {Q' : Option Value → Heap → List Nat → Prop} {a : Nat} {argsL rest : List Value} {ps : List FieldType} {pr : Option FieldType} {Wt : Nat}
    (w1 : (Cond.methodLink own index y).before a0 Z = true) (w2 : (Cond.declares y).before a0 Z = true) (wf : (Cond.selects y.cls y y).before a0 Z = true) (w5 : (Cond.selects K y z).before a0 Z = true) (w6 : (Cond.instanceMethod z).before a0 Z = true) (w3 : (Cond.initialized z.cls).before a0 Z = true) (w4 : (Cond.code z ybytes ymax yret).before a0 Z = true) (hy : y.cls ≠ "java/lang/invoke/MethodHandle" ∧ y.cls ≠ "java/lang/invoke/VarHandle")
    (E : Exa Z h a K) (M : Con l Z EL b z ybytes ymax yret [] rm (.ref a :: argsL).toArray h V Q') (hV : ∀ x ∈ V, x ∈ W) (hpd : parseMethodDescriptor y.desc = some ⟨ps, pr⟩) (hal : argsL.length = ps.length) (hst : st = argsL.reverse ++ .ref a :: rest) (hsz : L.length = maxL)
    (hd : decode bytes pc = .ok (.invokevirtual index, 3)) (hp : pc + 3 = pc') (hWt : (rest.map fun v => v.category).sum ≤ Wt) (hf : rm.frames + 1 ≤ R.frames) (hl : Wt + (ymax + 11) + rm.locals ≤ R.locals) (hc0 : k + rm.cells ≤ R.cells) (hn0 : n + rm.slots ≤ R.slots)
    (hr : ∀ v h' W', Q' v h' W' → h.size ≤ h'.size → WP p l e R s m args below meth c Z EL b Q pc' L (v.toList ++ rest) h' (W' ++ W) (k + rm.cells) (n + rm.slots)) :
    WP p l e R s m args below meth c Z EL b Q pc L st h W k n := by
  subst hp hst
  intro T vm0 k0 locs cells slots X eT hS hk hb' hC hO hW hF hc hn
  have hZ0 : Z.Warmed39 (s.setVm vm0).vm := C.z hS
  have hsz' : (mkF m pc L.toArray (argsL.reverse ++ .ref a :: rest)).locals.size = c.maxLocals := by rw [C.2.2.1, ← hsz]; simp
  obtain ⟨cB, kB, qa, qb, qc⟩ := isOf hZ0 eT E
  have hnf : NotFace (s.setVm vm0) y := notFace_of_selects (args := #[]) (mv hZ0 wf)
  cases b with
  | false =>
    obtain ⟨v, vm1, B, -, X', hS', hg, P, q⟩ := X.virtualBackS C.1 (C.o hS) (mv hZ0 w1) (mv hZ0 w2) hnf (mv hZ0 w5) (mv hZ0 w6) hy (M.backS (W := V) hZ0 w4 w3 hf hl C.ew hC.1 hO (hW.sub hV)) qa qc (g := mkF m pc L.toArray (argsL.reverse ++ .ref a :: rest)) rfl hsz' (Steps.refl _) (lenOf hpd hal) rfl (by show 2 * 0 + _ ≤ _; omega) (hb C.2.1 hd) (fun _ _ => ⟨rfl, eT, by show cells + _ ≤ _; omega, by show slots + _ ≤ _; omega⟩)
    obtain ⟨s2, v2, q2, r⟩ := WP.after (V := V) C hc0 hn0 hr eT hS hk hb' hC hW hF hc hn X' hS' (Or.inl ⟨rfl, rfl⟩) hg P
    exact ⟨s2, v2, q.trans q2, r⟩
  | true =>
    obtain rfl := C.2.2.2.2.2.2.2.2.2.2 rfl
    obtain ⟨v, vm1, B, -, X', P, q⟩ := X.virtualBack C.1 (C.o hS) (mv hZ0 w1) (mv hZ0 w2) hnf (mv hZ0 w5) (mv hZ0 w6) hy (M.back (W := V) hZ0 w4 w3 hf hl hC.1 hO (hW.sub hV)) qa qc (g := mkF m pc L.toArray (argsL.reverse ++ .ref a :: rest)) rfl hsz' (Steps.refl _) (lenOf hpd hal) rfl (by show 2 * 0 + _ ≤ _; omega) (hb C.2.1 hd) (fun _ _ => ⟨rfl, eT, by show cells + _ ≤ _; omega, by show slots + _ ≤ _; omega⟩)
    have hg : T.heap.size ≤ B.U.heap.size := by obtain ⟨_, _, _, _, _, _, _, _, _, q8⟩ := P; rw [eT]; exact q8.2.1
    obtain ⟨s2, v2, q2, r⟩ := WP.after (V := V) C hc0 hn0 hr eT hS hk hb' hC hW hF hc hn X' ((State.WarmedH.refl _).since _) (Or.inr ⟨rfl, rfl⟩) hg P
    exact ⟨s2, v2, q.trans q2, r⟩
theorem callV (C : Cx p m meth c s Z a0 EL b own nm bytes maxL ret) {pc' index : Nat} {K : String} {y z : MethodName} {ybytes : ByteArray} {ymax : Nat} {yret : Option FieldType} {rm : Room} {V : List Nat} {Q' : Option Value → Heap → List Nat → Prop} {a : Nat} {argsL rest : List Value} {ps : List FieldType} {pr : Option FieldType} {Wt : Nat}
    (w1 : (Cond.methodLink own index y).before a0 Z = true) (w2 : (Cond.declares y).before a0 Z = true) (wf : (Cond.selects y.cls y y).before a0 Z = true) (w5 : (Cond.selects K y z).before a0 Z = true) (w6 : (Cond.instanceMethod z).before a0 Z = true) (w3 : (Cond.initialized z.cls).before a0 Z = true) (w4 : (Cond.code z ybytes ymax yret).before a0 Z = true) (hy : y.cls ≠ "java/lang/invoke/MethodHandle" ∧ y.cls ≠ "java/lang/invoke/VarHandle")
    (E : Exa Z h a K) (M : Con l Z EL b z ybytes ymax yret [] rm (.ref a :: argsL).toArray h V Q') (hV : ∀ x ∈ V, x ∈ W) (hpd : parseMethodDescriptor y.desc = some ⟨ps, pr⟩) (hal : argsL.length = ps.length) (hst : st = argsL.reverse ++ .ref a :: rest) (hsz : L.length = maxL)
    (hd : decode bytes pc = .ok (.invokevirtual index, 3)) (hp : pc + 3 = pc') (hWt : (rest.map fun v => v.category).sum ≤ Wt) (hf : rm.frames + 1 ≤ R.frames) (hl : Wt + (ymax + 11) + rm.locals ≤ R.locals) (hc0 : k + rm.cells ≤ R.cells) (hn0 : n + rm.slots ≤ R.slots)
    (hr : ∀ v h' W', Q' v h' W' → h.size ≤ h'.size → WP p l e R s m args below meth c Z EL b Q pc' L (v.toList ++ rest) h' W (k + rm.cells) (n + rm.slots)) :
    WP p l e R s m args below meth c Z EL b Q pc L st h W k n :=
  callVW C w1 w2 wf w5 w6 w3 w4 hy E M hV hpd hal hst hsz hd hp hWt hf hl hc0 hn0 fun v h' W' q g => (hr v h' W' q g).wk fun x hx => List.mem_append_right _ hx
end Calls
end Jvm.Ow
namespace Jvm.Ow
open Sem ClassFile Op Lib Bundle Jvm.Stand Jvm.Free Jvm.LawKit Jvm.RoadKit
theorem room_le {s : State} {pl : Platform} {r r' : Room} (h : s.hasRoom pl r' = true) (h1 : r.frames ≤ r'.frames) (h2 : r.cells ≤ r'.cells) (h3 : r.slots ≤ r'.slots) (h4 : r.locals ≤ r'.locals) : s.hasRoom pl r = true := by
  exact State.hasRoom_ride (by omega) (by omega) rfl rfl (by omega) (by omega) (State.hasRoom_slotsTrue h) h
/-- a contract with more room than it asks -/
theorem Con.rm {l : Launch} {Z : State} {EL : List (String × Nat)} {b : Bool} {y : MethodName} {bytes : ByteArray} {maxL : Nat} {ret : Option FieldType} {ws : List Jvm.Cond} {rm rm' : Room} {as' : Array Value} {h : Heap} {W : List Nat} {Q : Option Value → Heap → List Nat → Prop}
    (M : Con l Z EL b y bytes maxL ret ws rm as' h W Q) (h1 : rm.frames ≤ rm'.frames) (h2 : rm.cells ≤ rm'.cells) (h3 : rm.slots ≤ rm'.slots) (h4 : rm.locals ≤ rm'.locals) : Con l Z EL b y bytes maxL ret ws rm' as' h W Q := by
  intro p e a1 a2 a3 s m args below hf ha hP hK
  obtain ⟨q1, q2, q3, q4, q5, q6, q7, q8⟩ := (Spec.appliesLoose_iff hf).mp ha
  obtain ⟨n, o, x1, x2, x3, v, L, x4, x5, x6, x7, x8⟩ := M p e a1 a2 a3 s m args below hf ((Spec.appliesLoose_iff hf).mpr ⟨q1, q2, q3, q4, q5, q6, room_le q7 h1 h2 h3 h4, q8⟩) hP hK
  exact ⟨n, o, x1, x2, x3, v, L, x4, x5, x6, ⟨x7.1, x7.2.1, x7.2.2.1, State.sameButNew.mono x7.2.2.2 h2 h3⟩, fun hb => ⟨(x8 hb).1, (x8 hb).2.1, State.sameButNew.mono (x8 hb).2.2 h2 h3⟩⟩
end Jvm.Ow
namespace Jvm.Ow
open Sem ClassFile Op Lib Bundle Jvm.Stand Jvm.Free Jvm.LawKit Jvm.RoadKit
/-! branches, said as plain propositions -/
theorem dec_of {P : Prop} [Decidable P] {x : Bool} (h1 : P → x = true) (h2 : ¬ P → x = false) : x = decide P := by
  by_cases q : P
  · rw [h1 q, decide_eq_true q]
  · rw [h2 q, decide_eq_false q]
theorem hEq (x : Int32) : ifCond.holds .eq x = decide (x = 0) := dec_of XT.i0_eq_t XT.i0_eq_f
theorem hNe (x : Int32) : ifCond.holds .ne x = decide (¬ x = 0) := dec_of XT.i0_ne_t (fun q => XT.i0_ne_f (Decidable.not_not.mp q))
theorem hLt (x : Int32) : ifCond.holds .lt x = decide (x < 0) := dec_of XT.i0_lt_t XT.i0_lt_f
theorem hGe (x : Int32) : ifCond.holds .ge x = decide (¬ x < 0) := dec_of XT.i0_ge_t (fun q => XT.i0_ge_f (Decidable.not_not.mp q))
theorem hGt (x : Int32) : ifCond.holds .gt x = decide (0 < x) := dec_of XT.i0_gt_t XT.i0_gt_f
theorem hLe (x : Int32) : ifCond.holds .le x = decide (¬ 0 < x) := dec_of XT.i0_le_t (fun q => XT.i0_le_f (Decidable.not_not.mp q))
theorem kEq (x y : Int32) : if_icmp.holds .eq x y = decide (x = y) := dec_of XT.ii_eq_t XT.ii_eq_f
theorem kNe (x y : Int32) : if_icmp.holds .ne x y = decide (¬ x = y) := dec_of XT.ii_ne_t (fun q => XT.ii_ne_f (Decidable.not_not.mp q))
theorem kLt (x y : Int32) : if_icmp.holds .lt x y = decide (x < y) := dec_of XT.ii_lt_t XT.ii_lt_f
theorem kGe (x y : Int32) : if_icmp.holds .ge x y = decide (¬ x < y) := dec_of XT.ii_ge_t (fun q => XT.ii_ge_f (Decidable.not_not.mp q))
theorem kGt (x y : Int32) : if_icmp.holds .gt x y = decide (y < x) := dec_of XT.ii_gt_t XT.ii_gt_f
theorem kLe (x y : Int32) : if_icmp.holds .le x y = decide (¬ y < x) := dec_of XT.ii_le_t (fun q => XT.ii_le_f (Decidable.not_not.mp q))
theorem aEq (x y : Value) : XT.acmp .eq x y = decide (x = y) := rfl
theorem aNe (x y : Value) : XT.acmp .ne x y = decide (¬ x = y) := rfl
/-! numbers -/
theorem nar_char (x : Int32) : (nar .char x).toInt = x.toInt % 65536 := by
  have := c_i2c x
  show x.toUInt32.toUInt16.toUInt32.toInt32.toInt = _
  omega
theorem nar_byte (x : Int32) : ((nar .byte x).toInt - x.toInt) % 256 = 0 ∧ -128 ≤ (nar .byte x).toInt ∧ (nar .byte x).toInt < 128 := c_i2b x
theorem i32_ext {x y : Int32} (q : x.toInt = y.toInt) : x = y := Int32.toInt_inj.mp q
theorem nar_char_id {x : Int32} (h0 : 0 ≤ x.toInt) (h1 : x.toInt < 65536) : nar .char x = x := i32_ext (by rw [nar_char]; omega)
theorem nar_byte_inj {x y : Int32} (hx : 0 ≤ x.toInt ∧ x.toInt < 256) (hy : 0 ≤ y.toInt ∧ y.toInt < 256) (q : nar .byte x = nar .byte y) : x = y := by
  have h1 := nar_byte x; have h2 := nar_byte y; rw [q] at h1
  exact i32_ext (by omega)
theorem lt32 {x y : Int32} : x < y ↔ x.toInt < y.toInt := Int32.lt_iff_toInt_lt
theorem ofNat_toInt {i : Nat} (hi : i < 2 ^ 31) : (Int32.ofNat i).toInt = (i : Int) := toInt_of rfl hi
theorem ofNat_inj {i j : Nat} (hi : i < 2 ^ 31) (hj : j < 2 ^ 31) (q : Int32.ofNat i = Int32.ofNat j) : i = j := by
  have h1 := ofNat_toInt hi; have h2 := ofNat_toInt hj; rw [q] at h1; omega
/-- the part of a heap fact that a later heap keeps -/
theorem nin1 {x y : Nat} (q : x ≠ y) : x ∉ [y] := fun z => q (List.mem_singleton.mp z)
theorem Keep.z {h h' : Heap} (E : Ext h h') : Keep h h' [] := (Keep.refl h []).ext E
/-! a String of Latin-1 signs -/
def StrL (Z : State) (h : Heap) (a d : Nat) (cs : List Int32) : Prop :=
  Exa Z h a "java/lang/String" ∧ Fld Z h a "java/lang/String" "value" "[B" (.ref d) ∧ Fld Z h a "java/lang/String" "coder" "B" (.int 0) ∧ ArI Z h d .byte (cs.map (nar .byte)) ∧ ∀ c ∈ cs, 0 ≤ c.toInt ∧ c.toInt < 256
theorem StrL.keep {Z : State} {h h' : Heap} {a d : Nat} {cs : List Int32} {ws : List Nat} (S : StrL Z h a d cs) (K : Keep h h' ws) (ha : a ∉ ws) (hd : d ∉ ws) : StrL Z h' a d cs :=
  ⟨S.1.keep K, S.2.1.keep K ha, S.2.2.1.keep K ha, S.2.2.2.1.keep K hd, S.2.2.2.2⟩
theorem StrL.ext {Z : State} {h h' : Heap} {a d : Nat} {cs : List Int32} (S : StrL Z h a d cs) (E : Ext h h') : StrL Z h' a d cs := S.keep (Keep.z E) nin0 nin0
theorem StrL.lt {Z : State} {h : Heap} {a d : Nat} {cs : List Int32} (S : StrL Z h a d cs) : a < h.size ∧ d < h.size := ⟨S.1.lt, S.2.2.2.1.lt⟩
theorem StrL.len {Z : State} {h : Heap} {a d : Nat} {cs : List Int32} (S : StrL Z h a d cs) : cs.length < 2 ^ 31 := by simpa using S.2.2.2.1.2
/-- how many signs from the left are Latin-1 -/
def lead (xs : List Int32) : Nat := (xs.takeWhile fun x => decide (x.toInt < 256)).length
theorem lead_le (xs : List Int32) : lead xs ≤ xs.length := by
  induction xs with
  | nil => simp [lead]
  | cons x xs ih =>
    unfold lead at ih ⊢
    by_cases q : x.toInt < 256
    · simp [q]; exact ih
    · simp [q]
theorem lead_all {xs : List Int32} (q : ∀ x ∈ xs, x.toInt < 256) : lead xs = xs.length := by
  induction xs with
  | nil => rfl
  | cons x xs ih =>
    unfold lead at ih ⊢
    have h1 := q x (by simp)
    have h2 := ih fun y hy => q y (by simp [hy])
    simp [h1, h2]
theorem lead_at {xs : List Int32} {i : Nat} (hi : i < xs.length) (q : ∀ j, j < i → (xs.getD j 0).toInt < 256) (r : ¬ (xs.getD i 0).toInt < 256) : lead xs = i := by
  induction xs generalizing i with
  | nil => simp at hi
  | cons x xs ih =>
    unfold lead at ih ⊢
    cases i with
    | zero => simp at r ⊢; simp [show ¬ x.toInt < 256 by omega]
    | succ i =>
      have h0 := q 0 (by omega)
      simp at h0 hi r
      have := ih hi (fun j hj => by have := q (j + 1) (by omega); simpa using this) (by simpa using r)
      simp [h0, this]
theorem take_snoc {xs : List Int32} {i : Nat} (hi : i < xs.length) : xs.take (i + 1) = xs.take i ++ [xs.getD i 0] := by rw [List.take_add_one]; simp [hi]
theorem take_step {xs : List Int32} {i r : Nat} (hi : i < xs.length) (f : Int32 → Int32) : (((xs.take i).map f) ++ List.replicate (r + 1) (0 : Int32)).set i (f (xs.getD i 0)) = ((xs.take (i + 1)).map f) ++ List.replicate r 0 := by
  have h1 : ((xs.take i).map f).length = i := by simp; omega
  rw [List.set_append_right _ _ (by omega), h1, Nat.sub_self, List.replicate_succ, List.set_cons_zero, take_snoc hi, List.map_append, List.append_assoc]
  rfl
end Jvm.Ow
namespace Jvm.Ow
open Sem ClassFile Op Lib Bundle Jvm.Stand Jvm.Free Jvm.LawKit Jvm.RoadKit
theorem cat_ref (a : Nat) : (Value.ref a).category = 1 := rfl
theorem cat_int (x : Int32) : (Value.int x).category = 1 := rfl
theorem cat_null : Value.null.category = 1 := rfl
theorem narO {v : Value} (hv : v.isRef = true) {t : String} : narrow (.object t) v = v := by cases v <;> first | rfl | (cases hv; done)
theorem fitO {v : Value} (hv : v.isRef = true) {t : String} : fits (.object t) v = true := by cases v <;> first | rfl | (cases hv; done)
theorem narZ {x : Int32} (hx : x = 0 ∨ x = 1) : narrow .boolean (.int x) = .int x := by rcases hx with rfl | rfl <;> rfl
theorem fitZ {x : Int32} (hx : x = 0 ∨ x = 1) : fits .boolean (.int x) = true := by rcases hx with rfl | rfl <;> rfl
theorem nar01 {x : Int32} (hx : x = 0 ∨ x = 1) : nar .boolean x = x := by rcases hx with rfl | rfl <;> rfl
end Jvm.Ow
namespace Jvm.Pilot.@@N@@
open Jvm Jvm.ClassFile Sem Op Lib Jvm.Free Jvm.Stand Jvm.LawKit Jvm.RoadKit Bundle Jvm.Pilot.@@N@@.Jvm.D
theorem pd_0 : parseMethodDescriptor "([CI[BII)I" = some ⟨[(.array .char), .int, (.array .byte), .int, .int], (some .int)⟩ := by decide +kernel
theorem pd_1 : parseMethodDescriptor "([CII)[B" = some ⟨[(.array .char), .int, .int], (some (.array .byte))⟩ := by decide +kernel
theorem pd_2 : parseMethodDescriptor "([BI)B" = some ⟨[(.array .byte), .int], (some .byte)⟩ := by decide +kernel
theorem pd_3 : parseMethodDescriptor "([CIILjava/lang/Void;)V" = some ⟨[(.array .char), .int, .int, (.object "java/lang/Void")], none⟩ := by decide +kernel
theorem pd_4 : parseMethodDescriptor "()V" = some ⟨[], none⟩ := by decide +kernel
theorem pd_5 : parseMethodDescriptor "(Lcom/example/congruent/congruent/verify/Verdict$Outcome;Ljava/lang/String;Z)V" = some ⟨[(.object "com/example/congruent/congruent/verify/Verdict$Outcome"), (.object "java/lang/String"), .boolean], none⟩ := by decide +kernel
theorem pd_6 : parseMethodDescriptor "(Ljava/lang/Object;)Z" = some ⟨[(.object "java/lang/Object")], (some .boolean)⟩ := by decide +kernel
theorem pd_7 : parseMethodDescriptor "()Lcom/example/congruent/congruent/verify/Verdict;" = some ⟨[], (some (.object "com/example/congruent/congruent/verify/Verdict"))⟩ := by decide +kernel
theorem pd_8 : parseMethodDescriptor "()Lcom/example/congruent/congruent/verify/Verdict$Outcome;" = some ⟨[], (some (.object "com/example/congruent/congruent/verify/Verdict$Outcome"))⟩ := by decide +kernel
theorem pd_9 : parseMethodDescriptor "()Ljava/lang/String;" = some ⟨[], (some (.object "java/lang/String"))⟩ := by decide +kernel
theorem pd_10 : parseMethodDescriptor "(Ljava/lang/String;Ljava/lang/String;)Z" = some ⟨[(.object "java/lang/String"), (.object "java/lang/String")], (some .boolean)⟩ := by decide +kernel
theorem pd_11 : parseMethodDescriptor "()Z" = some ⟨[], (some .boolean)⟩ := by decide +kernel
theorem pd_12 : parseMethodDescriptor "([C)V" = some ⟨[(.array .char)], none⟩ := by decide +kernel
theorem pd_13 : parseMethodDescriptor "(I)Lcom/example/congruent/congruent/verify/Verdict$Outcome;" = some ⟨[.int], (some (.object "com/example/congruent/congruent/verify/Verdict$Outcome"))⟩ := by decide +kernel
theorem pn_0 : plainFor (⟨"java/lang/StringUTF16", "compress", "([CI[BII)I"⟩ : MethodName) = true := by decide +kernel
theorem pn_1 : plainFor (⟨"java/lang/StringUTF16", "compress", "([CII)[B"⟩ : MethodName) = true := by decide +kernel
theorem pn_2 : plainFor (⟨"java/lang/StringUTF16", "coderFromArrayLen", "([BI)B"⟩ : MethodName) = true := by decide +kernel
theorem pn_3 : plainFor (⟨"java/lang/String", "<init>", "([CIILjava/lang/Void;)V"⟩ : MethodName) = true := by decide +kernel
theorem pn_4 : plainFor (⟨"java/lang/String", "<init>", "([C)V"⟩ : MethodName) = true := by decide +kernel
theorem pn_5 : plainFor (⟨"java/lang/String", "equals", "(Ljava/lang/Object;)Z"⟩ : MethodName) = true := by decide +kernel
theorem pn_6 : plainFor (⟨"com/example/congruent/congruent/verify/VerdictOfPartialTextPinLaw", "pick", "(I)Lcom/example/congruent/congruent/verify/Verdict$Outcome;"⟩ : MethodName) = true := by decide +kernel
theorem pn_7 : plainFor (⟨"java/lang/Record", "<init>", "()V"⟩ : MethodName) = true := by decide +kernel
theorem pn_8 : plainFor (⟨"com/example/congruent/congruent/verify/Verdict", "<init>", "(Lcom/example/congruent/congruent/verify/Verdict$Outcome;Ljava/lang/String;Z)V"⟩ : MethodName) = true := by decide +kernel
theorem pn_9 : plainFor (⟨"com/example/congruent/congruent/verify/Verdict", "outcome", "()Lcom/example/congruent/congruent/verify/Verdict$Outcome;"⟩ : MethodName) = true := by decide +kernel
theorem pn_10 : plainFor (⟨"com/example/congruent/congruent/verify/Verdict", "message", "()Ljava/lang/String;"⟩ : MethodName) = true := by decide +kernel
theorem pn_11 : plainFor (⟨"com/example/congruent/congruent/verify/Verdict", "partial", "()Z"⟩ : MethodName) = true := by decide +kernel
theorem pn_12 : plainFor (⟨"com/example/congruent/congruent/verify/Verdict", "ofPartialText", "()Lcom/example/congruent/congruent/verify/Verdict;"⟩ : MethodName) = true := by decide +kernel
theorem pn_13 : plainFor (⟨"com/example/congruent/congruent/verify/VerdictOfPartialTextPinLaw", "sameText", "(Ljava/lang/String;Ljava/lang/String;)Z"⟩ : MethodName) = true := by decide +kernel
theorem pn_14 : plainFor (⟨"com/example/congruent/congruent/verify/VerdictOfPartialTextPinLaw", "law", "(IIII)Z"⟩ : MethodName) = true := by decide +kernel
theorem dCL_3 : decode jdk_52_method_21_code 3 = .ok (.iload 5, 2) := by decide +kernel
theorem dCL_5 : decode jdk_52_method_21_code 5 = .ok (.iload 4, 2) := by decide +kernel
theorem dCL_7 : decode jdk_52_method_21_code 7 = .ok (.if_icmp .ge 37, 3) := by decide +kernel
theorem dCL_44 : decode jdk_52_method_21_code 44 = .ok (.iload 4, 2) := by decide +kernel
theorem dCL_46 : decode jdk_52_method_21_code 46 = .ok (.ireturn, 1) := by decide +kernel
theorem dCL_10 : decode jdk_52_method_21_code 10 = .ok (.aload_n 0, 1) := by decide +kernel
theorem dCL_11 : decode jdk_52_method_21_code 11 = .ok (.iload_n 1, 1) := by decide +kernel
theorem dCL_12 : decode jdk_52_method_21_code 12 = .ok (.caload, 1) := by decide +kernel
theorem dCL_13 : decode jdk_52_method_21_code 13 = .ok (.istore 6, 2) := by decide +kernel
theorem dCL_15 : decode jdk_52_method_21_code 15 = .ok (.iload 6, 2) := by decide +kernel
theorem dCL_17 : decode jdk_52_method_21_code 17 = .ok (.sipush 255, 3) := by decide +kernel
theorem dCL_20 : decode jdk_52_method_21_code 20 = .ok (.if_icmp .le 6, 3) := by decide +kernel
theorem dCL_26 : decode jdk_52_method_21_code 26 = .ok (.aload_n 2, 1) := by decide +kernel
theorem dCL_27 : decode jdk_52_method_21_code 27 = .ok (.iload_n 3, 1) := by decide +kernel
theorem dCL_28 : decode jdk_52_method_21_code 28 = .ok (.iload 6, 2) := by decide +kernel
theorem dCL_30 : decode jdk_52_method_21_code 30 = .ok (.i2b, 1) := by decide +kernel
theorem dCL_31 : decode jdk_52_method_21_code 31 = .ok (.bastore, 1) := by decide +kernel
theorem dCL_32 : decode jdk_52_method_21_code 32 = .ok (.iinc 1 1, 3) := by decide +kernel
theorem dCL_35 : decode jdk_52_method_21_code 35 = .ok (.iinc 3 1, 3) := by decide +kernel
theorem dCL_38 : decode jdk_52_method_21_code 38 = .ok (.iinc 5 1, 3) := by decide +kernel
theorem dCL_41 : decode jdk_52_method_21_code 41 = .ok (.goto (-38), 3) := by decide +kernel
theorem dCL_23 : decode jdk_52_method_21_code 23 = .ok (.iload 5, 2) := by decide +kernel
theorem dCL_25 : decode jdk_52_method_21_code 25 = .ok (.ireturn, 1) := by decide +kernel
theorem dCL_0 : decode jdk_52_method_21_code 0 = .ok (.iconst 0, 1) := by decide +kernel
theorem dCL_1 : decode jdk_52_method_21_code 1 = .ok (.istore 5, 2) := by decide +kernel
theorem dCM_0 : decode jdk_52_method_16_code 0 = .ok (.iload_n 2, 1) := by decide +kernel
theorem dCM_1 : decode jdk_52_method_16_code 1 = .ok (.newarray .byte, 2) := by decide +kernel
theorem dCM_3 : decode jdk_52_method_16_code 3 = .ok (.astore_n 3, 1) := by decide +kernel
theorem dCM_4 : decode jdk_52_method_16_code 4 = .ok (.aload_n 0, 1) := by decide +kernel
theorem dCM_5 : decode jdk_52_method_16_code 5 = .ok (.iload_n 1, 1) := by decide +kernel
theorem dCM_6 : decode jdk_52_method_16_code 6 = .ok (.aload_n 3, 1) := by decide +kernel
theorem dCM_7 : decode jdk_52_method_16_code 7 = .ok (.iconst 0, 1) := by decide +kernel
theorem dCM_8 : decode jdk_52_method_16_code 8 = .ok (.iload_n 2, 1) := by decide +kernel
theorem dCM_9 : decode jdk_52_method_16_code 9 = .ok (.invokestatic 115, 3) := by decide +kernel
theorem dCM_12 : decode jdk_52_method_16_code 12 = .ok (.istore 4, 2) := by decide +kernel
theorem dCM_14 : decode jdk_52_method_16_code 14 = .ok (.iload 4, 2) := by decide +kernel
theorem dCM_16 : decode jdk_52_method_16_code 16 = .ok (.iload_n 2, 1) := by decide +kernel
theorem dCM_17 : decode jdk_52_method_16_code 17 = .ok (.if_icmp .eq 40, 3) := by decide +kernel
theorem dCM_57 : decode jdk_52_method_16_code 57 = .ok (.aload_n 3, 1) := by decide +kernel
theorem dCM_58 : decode jdk_52_method_16_code 58 = .ok (.areturn, 1) := by decide +kernel
theorem dCF_0 : decode jdk_52_method_15_code 0 = .ok (.iload_n 1, 1) := by decide +kernel
theorem dCF_1 : decode jdk_52_method_15_code 1 = .ok (.aload_n 0, 1) := by decide +kernel
theorem dCF_2 : decode jdk_52_method_15_code 2 = .ok (.arraylength, 1) := by decide +kernel
theorem dCF_3 : decode jdk_52_method_15_code 3 = .ok (.isub, 1) := by decide +kernel
theorem dCF_4 : decode jdk_52_method_15_code 4 = .ok (.bipush 31, 2) := by decide +kernel
theorem dCF_6 : decode jdk_52_method_15_code 6 = .ok (.iushr, 1) := by decide +kernel
theorem dCF_7 : decode jdk_52_method_15_code 7 = .ok (.i2b, 1) := by decide +kernel
theorem dCF_8 : decode jdk_52_method_15_code 8 = .ok (.ireturn, 1) := by decide +kernel
theorem dI1_0 : decode jdk_42_method_149_code 0 = .ok (.aload_n 0, 1) := by decide +kernel
theorem dI1_1 : decode jdk_42_method_149_code 1 = .ok (.invokespecial 1, 3) := by decide +kernel
theorem dI1_4 : decode jdk_42_method_149_code 4 = .ok (.iload_n 3, 1) := by decide +kernel
theorem dI1_5 : decode jdk_42_method_149_code 5 = .ok (.ifCond .ne 22, 3) := by decide +kernel
theorem dI1_27 : decode jdk_42_method_149_code 27 = .ok (.getstatic 38, 3) := by decide +kernel
theorem dI1_30 : decode jdk_42_method_149_code 30 = .ok (.ifCond .eq 28, 3) := by decide +kernel
theorem dI1_33 : decode jdk_42_method_149_code 33 = .ok (.aload_n 1, 1) := by decide +kernel
theorem dI1_34 : decode jdk_42_method_149_code 34 = .ok (.iload_n 2, 1) := by decide +kernel
theorem dI1_35 : decode jdk_42_method_149_code 35 = .ok (.iload_n 3, 1) := by decide +kernel
theorem dI1_36 : decode jdk_42_method_149_code 36 = .ok (.invokestatic 177, 3) := by decide +kernel
theorem dI1_39 : decode jdk_42_method_149_code 39 = .ok (.astore 5, 2) := by decide +kernel
theorem dI1_41 : decode jdk_42_method_149_code 41 = .ok (.aload_n 0, 1) := by decide +kernel
theorem dI1_42 : decode jdk_42_method_149_code 42 = .ok (.aload 5, 2) := by decide +kernel
theorem dI1_44 : decode jdk_42_method_149_code 44 = .ok (.iload_n 3, 1) := by decide +kernel
theorem dI1_45 : decode jdk_42_method_149_code 45 = .ok (.invokestatic 47, 3) := by decide +kernel
theorem dI1_48 : decode jdk_42_method_149_code 48 = .ok (.putfield 15, 3) := by decide +kernel
theorem dI1_51 : decode jdk_42_method_149_code 51 = .ok (.aload_n 0, 1) := by decide +kernel
theorem dI1_52 : decode jdk_42_method_149_code 52 = .ok (.aload 5, 2) := by decide +kernel
theorem dI1_54 : decode jdk_42_method_149_code 54 = .ok (.putfield 9, 3) := by decide +kernel
theorem dI1_57 : decode jdk_42_method_149_code 57 = .ok (.return_, 1) := by decide +kernel
theorem dI0_0 : decode jdk_42_method_3_code 0 = .ok (.aload_n 0, 1) := by decide +kernel
theorem dI0_1 : decode jdk_42_method_3_code 1 = .ok (.aload_n 1, 1) := by decide +kernel
theorem dI0_2 : decode jdk_42_method_3_code 2 = .ok (.iconst 0, 1) := by decide +kernel
theorem dI0_3 : decode jdk_42_method_3_code 3 = .ok (.aload_n 1, 1) := by decide +kernel
theorem dI0_4 : decode jdk_42_method_3_code 4 = .ok (.arraylength, 1) := by decide +kernel
theorem dI0_5 : decode jdk_42_method_3_code 5 = .ok (.aconst_null, 1) := by decide +kernel
theorem dI0_6 : decode jdk_42_method_3_code 6 = .ok (.invokespecial 27, 3) := by decide +kernel
theorem dI0_9 : decode jdk_42_method_3_code 9 = .ok (.return_, 1) := by decide +kernel
theorem dEQ_0 : decode jdk_42_method_66_code 0 = .ok (.aload_n 0, 1) := by decide +kernel
theorem dEQ_1 : decode jdk_42_method_66_code 1 = .ok (.aload_n 1, 1) := by decide +kernel
theorem dEQ_2 : decode jdk_42_method_66_code 2 = .ok (.if_acmp .ne 5, 3) := by decide +kernel
theorem dEQ_5 : decode jdk_42_method_66_code 5 = .ok (.iconst 1, 1) := by decide +kernel
theorem dEQ_6 : decode jdk_42_method_66_code 6 = .ok (.ireturn, 1) := by decide +kernel
theorem dPK_0 : decode method_2_code 0 = .ok (.iload_n 0, 1) := by decide +kernel
theorem dPK_1 : decode method_2_code 1 = .ok (.ifCond .ne 7, 3) := by decide +kernel
theorem dPK_4 : decode method_2_code 4 = .ok (.getstatic 7, 3) := by decide +kernel
theorem dPK_7 : decode method_2_code 7 = .ok (.areturn, 1) := by decide +kernel
theorem dPK_8 : decode method_2_code 8 = .ok (.iload_n 0, 1) := by decide +kernel
theorem dPK_9 : decode method_2_code 9 = .ok (.iconst 1, 1) := by decide +kernel
theorem dPK_10 : decode method_2_code 10 = .ok (.if_icmp .ne 7, 3) := by decide +kernel
theorem dPK_13 : decode method_2_code 13 = .ok (.getstatic 13, 3) := by decide +kernel
theorem dPK_16 : decode method_2_code 16 = .ok (.areturn, 1) := by decide +kernel
theorem dPK_17 : decode method_2_code 17 = .ok (.iload_n 0, 1) := by decide +kernel
theorem dPK_18 : decode method_2_code 18 = .ok (.iconst 2, 1) := by decide +kernel
theorem dPK_19 : decode method_2_code 19 = .ok (.if_icmp .ne 7, 3) := by decide +kernel
theorem dPK_22 : decode method_2_code 22 = .ok (.getstatic 16, 3) := by decide +kernel
theorem dPK_25 : decode method_2_code 25 = .ok (.areturn, 1) := by decide +kernel
theorem dPK_26 : decode method_2_code 26 = .ok (.iload_n 0, 1) := by decide +kernel
theorem dPK_27 : decode method_2_code 27 = .ok (.iconst 3, 1) := by decide +kernel
theorem dPK_28 : decode method_2_code 28 = .ok (.if_icmp .ne 7, 3) := by decide +kernel
theorem dPK_31 : decode method_2_code 31 = .ok (.getstatic 19, 3) := by decide +kernel
theorem dPK_34 : decode method_2_code 34 = .ok (.areturn, 1) := by decide +kernel
theorem dPK_35 : decode method_2_code 35 = .ok (.iload_n 0, 1) := by decide +kernel
theorem dPK_36 : decode method_2_code 36 = .ok (.iconst 4, 1) := by decide +kernel
theorem dPK_37 : decode method_2_code 37 = .ok (.if_icmp .ne 7, 3) := by decide +kernel
theorem dPK_40 : decode method_2_code 40 = .ok (.getstatic 22, 3) := by decide +kernel
theorem dPK_43 : decode method_2_code 43 = .ok (.areturn, 1) := by decide +kernel
theorem dPK_44 : decode method_2_code 44 = .ok (.iload_n 0, 1) := by decide +kernel
theorem dPK_45 : decode method_2_code 45 = .ok (.iconst 5, 1) := by decide +kernel
theorem dPK_46 : decode method_2_code 46 = .ok (.if_icmp .ne 7, 3) := by decide +kernel
theorem dPK_49 : decode method_2_code 49 = .ok (.getstatic 25, 3) := by decide +kernel
theorem dPK_52 : decode method_2_code 52 = .ok (.areturn, 1) := by decide +kernel
theorem dPK_53 : decode method_2_code 53 = .ok (.getstatic 28, 3) := by decide +kernel
theorem dPK_56 : decode method_2_code 56 = .ok (.areturn, 1) := by decide +kernel
theorem dRI_0 : decode jdk_30_method_1_code 0 = .ok (.aload_n 0, 1) := by decide +kernel
theorem dRI_1 : decode jdk_30_method_1_code 1 = .ok (.invokespecial 1, 3) := by decide +kernel
theorem dRI_4 : decode jdk_30_method_1_code 4 = .ok (.return_, 1) := by decide +kernel
theorem dVI_0 : decode prog_26_method_2_code 0 = .ok (.aload_n 0, 1) := by decide +kernel
theorem dVI_1 : decode prog_26_method_2_code 1 = .ok (.invokespecial 1, 3) := by decide +kernel
theorem dVI_4 : decode prog_26_method_2_code 4 = .ok (.aload_n 0, 1) := by decide +kernel
theorem dVI_5 : decode prog_26_method_2_code 5 = .ok (.aload_n 1, 1) := by decide +kernel
theorem dVI_6 : decode prog_26_method_2_code 6 = .ok (.putfield 7, 3) := by decide +kernel
theorem dVI_9 : decode prog_26_method_2_code 9 = .ok (.aload_n 0, 1) := by decide +kernel
theorem dVI_10 : decode prog_26_method_2_code 10 = .ok (.aload_n 2, 1) := by decide +kernel
theorem dVI_11 : decode prog_26_method_2_code 11 = .ok (.putfield 13, 3) := by decide +kernel
theorem dVI_14 : decode prog_26_method_2_code 14 = .ok (.aload_n 0, 1) := by decide +kernel
theorem dVI_15 : decode prog_26_method_2_code 15 = .ok (.iload_n 3, 1) := by decide +kernel
theorem dVI_16 : decode prog_26_method_2_code 16 = .ok (.putfield 17, 3) := by decide +kernel
theorem dVI_19 : decode prog_26_method_2_code 19 = .ok (.return_, 1) := by decide +kernel
theorem dVO_0 : decode prog_26_method_7_code 0 = .ok (.aload_n 0, 1) := by decide +kernel
theorem dVO_1 : decode prog_26_method_7_code 1 = .ok (.getfield 7, 3) := by decide +kernel
theorem dVO_4 : decode prog_26_method_7_code 4 = .ok (.areturn, 1) := by decide +kernel
theorem dVM_0 : decode prog_26_method_8_code 0 = .ok (.aload_n 0, 1) := by decide +kernel
theorem dVM_1 : decode prog_26_method_8_code 1 = .ok (.getfield 13, 3) := by decide +kernel
theorem dVM_4 : decode prog_26_method_8_code 4 = .ok (.areturn, 1) := by decide +kernel
theorem dVP_0 : decode prog_26_method_9_code 0 = .ok (.aload_n 0, 1) := by decide +kernel
theorem dVP_1 : decode prog_26_method_9_code 1 = .ok (.getfield 17, 3) := by decide +kernel
theorem dVP_4 : decode prog_26_method_9_code 4 = .ok (.ireturn, 1) := by decide +kernel
theorem dOP_0 : decode prog_26_method_3_code 0 = .ok (.new 8, 3) := by decide +kernel
theorem dOP_3 : decode prog_26_method_3_code 3 = .ok (.dup, 1) := by decide +kernel
theorem dOP_4 : decode prog_26_method_3_code 4 = .ok (.aload_n 0, 1) := by decide +kernel
theorem dOP_5 : decode prog_26_method_3_code 5 = .ok (.getfield 7, 3) := by decide +kernel
theorem dOP_8 : decode prog_26_method_3_code 8 = .ok (.aload_n 0, 1) := by decide +kernel
theorem dOP_9 : decode prog_26_method_3_code 9 = .ok (.getfield 13, 3) := by decide +kernel
theorem dOP_12 : decode prog_26_method_3_code 12 = .ok (.iconst 1, 1) := by decide +kernel
theorem dOP_13 : decode prog_26_method_3_code 13 = .ok (.invokespecial 21, 3) := by decide +kernel
theorem dOP_16 : decode prog_26_method_3_code 16 = .ok (.areturn, 1) := by decide +kernel
theorem dST_0 : decode method_3_code 0 = .ok (.aload_n 0, 1) := by decide +kernel
theorem dST_1 : decode method_3_code 1 = .ok (.ifnonnull 13, 3) := by decide +kernel
theorem dST_4 : decode method_3_code 4 = .ok (.aload_n 1, 1) := by decide +kernel
theorem dST_5 : decode method_3_code 5 = .ok (.ifnonnull 7, 3) := by decide +kernel
theorem dST_8 : decode method_3_code 8 = .ok (.iconst 1, 1) := by decide +kernel
theorem dST_9 : decode method_3_code 9 = .ok (.goto 4, 3) := by decide +kernel
theorem dST_13 : decode method_3_code 13 = .ok (.ireturn, 1) := by decide +kernel
theorem dST_14 : decode method_3_code 14 = .ok (.aload_n 0, 1) := by decide +kernel
theorem dST_15 : decode method_3_code 15 = .ok (.aload_n 1, 1) := by decide +kernel
theorem dST_16 : decode method_3_code 16 = .ok (.invokevirtual 31, 3) := by decide +kernel
theorem dST_19 : decode method_3_code 19 = .ok (.ireturn, 1) := by decide +kernel
theorem tw0 {Z : State} {a0 : Array Value} (hw : ∀ d ∈ tables_1, d.before a0 Z = true) : (Jvm.Cond.constant "com/example/congruent/congruent/verify/VerdictOfPartialTextPinLaw" (37 : Nat) (2147483647 : Int32)).before a0 Z = true := hw _ (List.mem_of_getElem? (i := 0) rfl)
theorem tw1 {Z : State} {a0 : Array Value} (hw : ∀ d ∈ tables_1, d.before a0 Z = true) : (Jvm.Cond.methodLink "com/example/congruent/congruent/verify/VerdictOfPartialTextPinLaw" (38 : Nat) ({ cls := "com/example/congruent/congruent/verify/VerdictOfPartialTextPinLaw", name := "pick", desc := "(I)Lcom/example/congruent/congruent/verify/Verdict$Outcome;" } : Jvm.MethodName)).before a0 Z = true := hw _ (List.mem_of_getElem? (i := 1) rfl)
theorem tw2 {Z : State} {a0 : Array Value} (hw : ∀ d ∈ tables_1, d.before a0 Z = true) : (Jvm.Cond.static ({ cls := "com/example/congruent/congruent/verify/VerdictOfPartialTextPinLaw", name := "pick", desc := "(I)Lcom/example/congruent/congruent/verify/Verdict$Outcome;" } : Jvm.MethodName)).before a0 Z = true := hw _ (List.mem_of_getElem? (i := 2) rfl)
theorem tw3 {Z : State} {a0 : Array Value} (hw : ∀ d ∈ tables_1, d.before a0 Z = true) : (Jvm.Cond.initialized "com/example/congruent/congruent/verify/VerdictOfPartialTextPinLaw").before a0 Z = true := hw _ (List.mem_of_getElem? (i := 3) rfl)
theorem tw4 {Z : State} {a0 : Array Value} (hw : ∀ d ∈ tables_1, d.before a0 Z = true) : (Jvm.Cond.code ({ cls := "com/example/congruent/congruent/verify/VerdictOfPartialTextPinLaw", name := "pick", desc := "(I)Lcom/example/congruent/congruent/verify/Verdict$Outcome;" } : Jvm.MethodName) method_2_code (1 : Nat) (Option.some (Jvm.ClassFile.FieldType.object "com/example/congruent/congruent/verify/Verdict$Outcome"))).before a0 Z = true := hw _ (List.mem_of_getElem? (i := 4) rfl)
theorem tw5 {Z : State} {a0 : Array Value} (hw : ∀ d ∈ tables_1, d.before a0 Z = true) : (Jvm.Cond.fieldLink "com/example/congruent/congruent/verify/VerdictOfPartialTextPinLaw" (7 : Nat) "com/example/congruent/congruent/verify/Verdict$Outcome" "SAME" "Lcom/example/congruent/congruent/verify/Verdict$Outcome;").before a0 Z = true := hw _ (List.mem_of_getElem? (i := 5) rfl)
theorem tw8 {Z : State} {a0 : Array Value} (hw : ∀ d ∈ tables_1, d.before a0 Z = true) : (Jvm.Cond.arrayClass Jvm.ClassFile.FieldType.char).before a0 Z = true := hw _ (List.mem_of_getElem? (i := 8) rfl)
theorem tw9 {Z : State} {a0 : Array Value} (hw : ∀ d ∈ tables_1, d.before a0 Z = true) : (Jvm.Cond.classLink "com/example/congruent/congruent/verify/VerdictOfPartialTextPinLaw" (32 : Nat) "java/lang/String").before a0 Z = true := hw _ (List.mem_of_getElem? (i := 9) rfl)
theorem tw10 {Z : State} {a0 : Array Value} (hw : ∀ d ∈ tables_1, d.before a0 Z = true) : (Jvm.Cond.instantiable "java/lang/String" (4 : Nat)).before a0 Z = true := hw _ (List.mem_of_getElem? (i := 10) rfl)
theorem tw11 {Z : State} {a0 : Array Value} (hw : ∀ d ∈ tables_1, d.before a0 Z = true) : (Jvm.Cond.initialized "java/lang/String").before a0 Z = true := hw _ (List.mem_of_getElem? (i := 11) rfl)
theorem tw12 {Z : State} {a0 : Array Value} (hw : ∀ d ∈ tables_1, d.before a0 Z = true) : (Jvm.Cond.methodLink "com/example/congruent/congruent/verify/VerdictOfPartialTextPinLaw" (44 : Nat) ({ cls := "java/lang/String", name := "<init>", desc := "([C)V" } : Jvm.MethodName)).before a0 Z = true := hw _ (List.mem_of_getElem? (i := 12) rfl)
theorem tw13 {Z : State} {a0 : Array Value} (hw : ∀ d ∈ tables_1, d.before a0 Z = true) : (Jvm.Cond.instanceMethod ({ cls := "java/lang/String", name := "<init>", desc := "([C)V" } : Jvm.MethodName)).before a0 Z = true := hw _ (List.mem_of_getElem? (i := 13) rfl)
theorem tw14 {Z : State} {a0 : Array Value} (hw : ∀ d ∈ tables_1, d.before a0 Z = true) : (Jvm.Cond.code ({ cls := "java/lang/String", name := "<init>", desc := "([C)V" } : Jvm.MethodName) jdk_42_method_3_code (2 : Nat) (Option.none : Option Jvm.ClassFile.FieldType)).before a0 Z = true := hw _ (List.mem_of_getElem? (i := 14) rfl)
theorem tw15 {Z : State} {a0 : Array Value} (hw : ∀ d ∈ tables_1, d.before a0 Z = true) : (Jvm.Cond.methodLink "java/lang/String" (27 : Nat) ({ cls := "java/lang/String", name := "<init>", desc := "([CIILjava/lang/Void;)V" } : Jvm.MethodName)).before a0 Z = true := hw _ (List.mem_of_getElem? (i := 15) rfl)
theorem tw16 {Z : State} {a0 : Array Value} (hw : ∀ d ∈ tables_1, d.before a0 Z = true) : (Jvm.Cond.instanceMethod ({ cls := "java/lang/String", name := "<init>", desc := "([CIILjava/lang/Void;)V" } : Jvm.MethodName)).before a0 Z = true := hw _ (List.mem_of_getElem? (i := 16) rfl)
theorem tw18 {Z : State} {a0 : Array Value} (hw : ∀ d ∈ tables_1, d.before a0 Z = true) : (Jvm.Cond.code ({ cls := "java/lang/String", name := "<init>", desc := "([CIILjava/lang/Void;)V" } : Jvm.MethodName) jdk_42_method_149_code (6 : Nat) (Option.none : Option Jvm.ClassFile.FieldType)).before a0 Z = true := hw _ (List.mem_of_getElem? (i := 18) rfl)
theorem tw19 {Z : State} {a0 : Array Value} (hw : ∀ d ∈ tables_1, d.before a0 Z = true) : (Jvm.Cond.methodLink "java/lang/String" (1 : Nat) ({ cls := "java/lang/Object", name := "<init>", desc := "()V" } : Jvm.MethodName)).before a0 Z = true := hw _ (List.mem_of_getElem? (i := 19) rfl)
theorem tw20 {Z : State} {a0 : Array Value} (hw : ∀ d ∈ tables_1, d.before a0 Z = true) : (Jvm.Cond.instanceMethod ({ cls := "java/lang/Object", name := "<init>", desc := "()V" } : Jvm.MethodName)).before a0 Z = true := hw _ (List.mem_of_getElem? (i := 20) rfl)
theorem tw21 {Z : State} {a0 : Array Value} (hw : ∀ d ∈ tables_1, d.before a0 Z = true) : (Jvm.Cond.code ({ cls := "java/lang/Object", name := "<init>", desc := "()V" } : Jvm.MethodName) object_method_1_code (1 : Nat) (Option.none : Option Jvm.ClassFile.FieldType)).before a0 Z = true := hw _ (List.mem_of_getElem? (i := 21) rfl)
theorem tw22 {Z : State} {a0 : Array Value} (hw : ∀ d ∈ tables_1, d.before a0 Z = true) : (Jvm.Cond.fieldLink "java/lang/String" (38 : Nat) "java/lang/String" "COMPACT_STRINGS" "Z").before a0 Z = true := hw _ (List.mem_of_getElem? (i := 22) rfl)
theorem tw23 {Z : State} {a0 : Array Value} (hw : ∀ d ∈ tables_1, d.before a0 Z = true) : (Jvm.Cond.methodLink "java/lang/String" (177 : Nat) ({ cls := "java/lang/StringUTF16", name := "compress", desc := "([CII)[B" } : Jvm.MethodName)).before a0 Z = true := hw _ (List.mem_of_getElem? (i := 23) rfl)
theorem tw24 {Z : State} {a0 : Array Value} (hw : ∀ d ∈ tables_1, d.before a0 Z = true) : (Jvm.Cond.static ({ cls := "java/lang/StringUTF16", name := "compress", desc := "([CII)[B" } : Jvm.MethodName)).before a0 Z = true := hw _ (List.mem_of_getElem? (i := 24) rfl)
theorem tw25 {Z : State} {a0 : Array Value} (hw : ∀ d ∈ tables_1, d.before a0 Z = true) : (Jvm.Cond.initialized "java/lang/StringUTF16").before a0 Z = true := hw _ (List.mem_of_getElem? (i := 25) rfl)
theorem tw26 {Z : State} {a0 : Array Value} (hw : ∀ d ∈ tables_1, d.before a0 Z = true) : (Jvm.Cond.code ({ cls := "java/lang/StringUTF16", name := "compress", desc := "([CII)[B" } : Jvm.MethodName) jdk_52_method_16_code (6 : Nat) (Option.some (Jvm.ClassFile.FieldType.array Jvm.ClassFile.FieldType.byte))).before a0 Z = true := hw _ (List.mem_of_getElem? (i := 26) rfl)
theorem tw27 {Z : State} {a0 : Array Value} (hw : ∀ d ∈ tables_1, d.before a0 Z = true) : (Jvm.Cond.arrayClass Jvm.ClassFile.FieldType.byte).before a0 Z = true := hw _ (List.mem_of_getElem? (i := 27) rfl)
theorem tw28 {Z : State} {a0 : Array Value} (hw : ∀ d ∈ tables_1, d.before a0 Z = true) : (Jvm.Cond.methodLink "java/lang/StringUTF16" (115 : Nat) ({ cls := "java/lang/StringUTF16", name := "compress", desc := "([CI[BII)I" } : Jvm.MethodName)).before a0 Z = true := hw _ (List.mem_of_getElem? (i := 28) rfl)
theorem tw29 {Z : State} {a0 : Array Value} (hw : ∀ d ∈ tables_1, d.before a0 Z = true) : (Jvm.Cond.static ({ cls := "java/lang/StringUTF16", name := "compress", desc := "([CI[BII)I" } : Jvm.MethodName)).before a0 Z = true := hw _ (List.mem_of_getElem? (i := 29) rfl)
theorem tw30 {Z : State} {a0 : Array Value} (hw : ∀ d ∈ tables_1, d.before a0 Z = true) : (Jvm.Cond.code ({ cls := "java/lang/StringUTF16", name := "compress", desc := "([CI[BII)I" } : Jvm.MethodName) jdk_52_method_21_code (7 : Nat) (Option.some Jvm.ClassFile.FieldType.int)).before a0 Z = true := hw _ (List.mem_of_getElem? (i := 30) rfl)
theorem tw31 {Z : State} {a0 : Array Value} (hw : ∀ d ∈ tables_1, d.before a0 Z = true) : (Jvm.Cond.methodLink "java/lang/String" (47 : Nat) ({ cls := "java/lang/StringUTF16", name := "coderFromArrayLen", desc := "([BI)B" } : Jvm.MethodName)).before a0 Z = true := hw _ (List.mem_of_getElem? (i := 31) rfl)
theorem tw32 {Z : State} {a0 : Array Value} (hw : ∀ d ∈ tables_1, d.before a0 Z = true) : (Jvm.Cond.static ({ cls := "java/lang/StringUTF16", name := "coderFromArrayLen", desc := "([BI)B" } : Jvm.MethodName)).before a0 Z = true := hw _ (List.mem_of_getElem? (i := 32) rfl)
theorem tw33 {Z : State} {a0 : Array Value} (hw : ∀ d ∈ tables_1, d.before a0 Z = true) : (Jvm.Cond.code ({ cls := "java/lang/StringUTF16", name := "coderFromArrayLen", desc := "([BI)B" } : Jvm.MethodName) jdk_52_method_15_code (2 : Nat) (Option.some Jvm.ClassFile.FieldType.byte)).before a0 Z = true := hw _ (List.mem_of_getElem? (i := 33) rfl)
theorem tw34 {Z : State} {a0 : Array Value} (hw : ∀ d ∈ tables_1, d.before a0 Z = true) : (Jvm.Cond.fieldLink "java/lang/String" (15 : Nat) "java/lang/String" "coder" "B").before a0 Z = true := hw _ (List.mem_of_getElem? (i := 34) rfl)
theorem tw35 {Z : State} {a0 : Array Value} (hw : ∀ d ∈ tables_1, d.before a0 Z = true) : (Jvm.Cond.laysFinal "java/lang/String" "java/lang/String" "coder" "B").before a0 Z = true := hw _ (List.mem_of_getElem? (i := 35) rfl)
theorem tw36 {Z : State} {a0 : Array Value} (hw : ∀ d ∈ tables_1, d.before a0 Z = true) : (Jvm.Cond.fieldLink "java/lang/String" (9 : Nat) "java/lang/String" "value" "[B").before a0 Z = true := hw _ (List.mem_of_getElem? (i := 36) rfl)
theorem tw37 {Z : State} {a0 : Array Value} (hw : ∀ d ∈ tables_1, d.before a0 Z = true) : (Jvm.Cond.laysFinal "java/lang/String" "java/lang/String" "value" "[B").before a0 Z = true := hw _ (List.mem_of_getElem? (i := 37) rfl)
theorem tw38 {Z : State} {a0 : Array Value} (hw : ∀ d ∈ tables_1, d.before a0 Z = true) : (Jvm.Cond.classLink "com/example/congruent/congruent/verify/VerdictOfPartialTextPinLaw" (47 : Nat) "com/example/congruent/congruent/verify/Verdict").before a0 Z = true := hw _ (List.mem_of_getElem? (i := 38) rfl)
theorem tw39 {Z : State} {a0 : Array Value} (hw : ∀ d ∈ tables_1, d.before a0 Z = true) : (Jvm.Cond.instantiable "com/example/congruent/congruent/verify/Verdict" (3 : Nat)).before a0 Z = true := hw _ (List.mem_of_getElem? (i := 39) rfl)
theorem tw40 {Z : State} {a0 : Array Value} (hw : ∀ d ∈ tables_1, d.before a0 Z = true) : (Jvm.Cond.initialized "com/example/congruent/congruent/verify/Verdict").before a0 Z = true := hw _ (List.mem_of_getElem? (i := 40) rfl)
theorem tw41 {Z : State} {a0 : Array Value} (hw : ∀ d ∈ tables_1, d.before a0 Z = true) : (Jvm.Cond.methodLink "com/example/congruent/congruent/verify/VerdictOfPartialTextPinLaw" (49 : Nat) ({ cls := "com/example/congruent/congruent/verify/Verdict", name := "<init>", desc := "(Lcom/example/congruent/congruent/verify/Verdict$Outcome;Ljava/lang/String;Z)V" } : Jvm.MethodName)).before a0 Z = true := hw _ (List.mem_of_getElem? (i := 41) rfl)
theorem tw42 {Z : State} {a0 : Array Value} (hw : ∀ d ∈ tables_1, d.before a0 Z = true) : (Jvm.Cond.instanceMethod ({ cls := "com/example/congruent/congruent/verify/Verdict", name := "<init>", desc := "(Lcom/example/congruent/congruent/verify/Verdict$Outcome;Ljava/lang/String;Z)V" } : Jvm.MethodName)).before a0 Z = true := hw _ (List.mem_of_getElem? (i := 42) rfl)
theorem tw43 {Z : State} {a0 : Array Value} (hw : ∀ d ∈ tables_1, d.before a0 Z = true) : (Jvm.Cond.code ({ cls := "com/example/congruent/congruent/verify/Verdict", name := "<init>", desc := "(Lcom/example/congruent/congruent/verify/Verdict$Outcome;Ljava/lang/String;Z)V" } : Jvm.MethodName) prog_26_method_2_code (4 : Nat) (Option.none : Option Jvm.ClassFile.FieldType)).before a0 Z = true := hw _ (List.mem_of_getElem? (i := 43) rfl)
theorem tw44 {Z : State} {a0 : Array Value} (hw : ∀ d ∈ tables_1, d.before a0 Z = true) : (Jvm.Cond.methodLink "com/example/congruent/congruent/verify/Verdict" (1 : Nat) ({ cls := "java/lang/Record", name := "<init>", desc := "()V" } : Jvm.MethodName)).before a0 Z = true := hw _ (List.mem_of_getElem? (i := 44) rfl)
theorem tw45 {Z : State} {a0 : Array Value} (hw : ∀ d ∈ tables_1, d.before a0 Z = true) : (Jvm.Cond.instanceMethod ({ cls := "java/lang/Record", name := "<init>", desc := "()V" } : Jvm.MethodName)).before a0 Z = true := hw _ (List.mem_of_getElem? (i := 45) rfl)
theorem tw47 {Z : State} {a0 : Array Value} (hw : ∀ d ∈ tables_1, d.before a0 Z = true) : (Jvm.Cond.initialized "java/lang/Record").before a0 Z = true := hw _ (List.mem_of_getElem? (i := 47) rfl)
theorem tw48 {Z : State} {a0 : Array Value} (hw : ∀ d ∈ tables_1, d.before a0 Z = true) : (Jvm.Cond.code ({ cls := "java/lang/Record", name := "<init>", desc := "()V" } : Jvm.MethodName) jdk_30_method_1_code (1 : Nat) (Option.none : Option Jvm.ClassFile.FieldType)).before a0 Z = true := hw _ (List.mem_of_getElem? (i := 48) rfl)
theorem tw49 {Z : State} {a0 : Array Value} (hw : ∀ d ∈ tables_1, d.before a0 Z = true) : (Jvm.Cond.methodLink "java/lang/Record" (1 : Nat) ({ cls := "java/lang/Object", name := "<init>", desc := "()V" } : Jvm.MethodName)).before a0 Z = true := hw _ (List.mem_of_getElem? (i := 49) rfl)
theorem tw50 {Z : State} {a0 : Array Value} (hw : ∀ d ∈ tables_1, d.before a0 Z = true) : (Jvm.Cond.fieldLink "com/example/congruent/congruent/verify/Verdict" (7 : Nat) "com/example/congruent/congruent/verify/Verdict" "outcome" "Lcom/example/congruent/congruent/verify/Verdict$Outcome;").before a0 Z = true := hw _ (List.mem_of_getElem? (i := 50) rfl)
theorem tw51 {Z : State} {a0 : Array Value} (hw : ∀ d ∈ tables_1, d.before a0 Z = true) : (Jvm.Cond.laysFinal "com/example/congruent/congruent/verify/Verdict" "com/example/congruent/congruent/verify/Verdict" "outcome" "Lcom/example/congruent/congruent/verify/Verdict$Outcome;").before a0 Z = true := hw _ (List.mem_of_getElem? (i := 51) rfl)
theorem tw52 {Z : State} {a0 : Array Value} (hw : ∀ d ∈ tables_1, d.before a0 Z = true) : (Jvm.Cond.fieldLink "com/example/congruent/congruent/verify/Verdict" (13 : Nat) "com/example/congruent/congruent/verify/Verdict" "message" "Ljava/lang/String;").before a0 Z = true := hw _ (List.mem_of_getElem? (i := 52) rfl)
theorem tw53 {Z : State} {a0 : Array Value} (hw : ∀ d ∈ tables_1, d.before a0 Z = true) : (Jvm.Cond.laysFinal "com/example/congruent/congruent/verify/Verdict" "com/example/congruent/congruent/verify/Verdict" "message" "Ljava/lang/String;").before a0 Z = true := hw _ (List.mem_of_getElem? (i := 53) rfl)
theorem tw54 {Z : State} {a0 : Array Value} (hw : ∀ d ∈ tables_1, d.before a0 Z = true) : (Jvm.Cond.fieldLink "com/example/congruent/congruent/verify/Verdict" (17 : Nat) "com/example/congruent/congruent/verify/Verdict" "partial" "Z").before a0 Z = true := hw _ (List.mem_of_getElem? (i := 54) rfl)
theorem tw55 {Z : State} {a0 : Array Value} (hw : ∀ d ∈ tables_1, d.before a0 Z = true) : (Jvm.Cond.laysFinal "com/example/congruent/congruent/verify/Verdict" "com/example/congruent/congruent/verify/Verdict" "partial" "Z").before a0 Z = true := hw _ (List.mem_of_getElem? (i := 55) rfl)
theorem tw56 {Z : State} {a0 : Array Value} (hw : ∀ d ∈ tables_1, d.before a0 Z = true) : (Jvm.Cond.methodLink "com/example/congruent/congruent/verify/VerdictOfPartialTextPinLaw" (52 : Nat) ({ cls := "com/example/congruent/congruent/verify/Verdict", name := "ofPartialText", desc := "()Lcom/example/congruent/congruent/verify/Verdict;" } : Jvm.MethodName)).before a0 Z = true := hw _ (List.mem_of_getElem? (i := 56) rfl)
theorem tw57 {Z : State} {a0 : Array Value} (hw : ∀ d ∈ tables_1, d.before a0 Z = true) : (Jvm.Cond.declares ({ cls := "com/example/congruent/congruent/verify/Verdict", name := "ofPartialText", desc := "()Lcom/example/congruent/congruent/verify/Verdict;" } : Jvm.MethodName)).before a0 Z = true := hw _ (List.mem_of_getElem? (i := 57) rfl)
theorem tw58 {Z : State} {a0 : Array Value} (hw : ∀ d ∈ tables_1, d.before a0 Z = true) : (Jvm.Cond.instanceMethod ({ cls := "com/example/congruent/congruent/verify/Verdict", name := "ofPartialText", desc := "()Lcom/example/congruent/congruent/verify/Verdict;" } : Jvm.MethodName)).before a0 Z = true := hw _ (List.mem_of_getElem? (i := 58) rfl)
theorem tw59 {Z : State} {a0 : Array Value} (hw : ∀ d ∈ tables_1, d.before a0 Z = true) : (Jvm.Cond.selects "com/example/congruent/congruent/verify/Verdict" ({ cls := "com/example/congruent/congruent/verify/Verdict", name := "ofPartialText", desc := "()Lcom/example/congruent/congruent/verify/Verdict;" } : Jvm.MethodName) ({ cls := "com/example/congruent/congruent/verify/Verdict", name := "ofPartialText", desc := "()Lcom/example/congruent/congruent/verify/Verdict;" } : Jvm.MethodName)).before a0 Z = true := hw _ (List.mem_of_getElem? (i := 59) rfl)
theorem tw60 {Z : State} {a0 : Array Value} (hw : ∀ d ∈ tables_1, d.before a0 Z = true) : (Jvm.Cond.code ({ cls := "com/example/congruent/congruent/verify/Verdict", name := "ofPartialText", desc := "()Lcom/example/congruent/congruent/verify/Verdict;" } : Jvm.MethodName) prog_26_method_3_code (1 : Nat) (Option.some (Jvm.ClassFile.FieldType.object "com/example/congruent/congruent/verify/Verdict"))).before a0 Z = true := hw _ (List.mem_of_getElem? (i := 60) rfl)
theorem tw61 {Z : State} {a0 : Array Value} (hw : ∀ d ∈ tables_1, d.before a0 Z = true) : (Jvm.Cond.classLink "com/example/congruent/congruent/verify/Verdict" (8 : Nat) "com/example/congruent/congruent/verify/Verdict").before a0 Z = true := hw _ (List.mem_of_getElem? (i := 61) rfl)
theorem tw62 {Z : State} {a0 : Array Value} (hw : ∀ d ∈ tables_1, d.before a0 Z = true) : (Jvm.Cond.methodLink "com/example/congruent/congruent/verify/Verdict" (21 : Nat) ({ cls := "com/example/congruent/congruent/verify/Verdict", name := "<init>", desc := "(Lcom/example/congruent/congruent/verify/Verdict$Outcome;Ljava/lang/String;Z)V" } : Jvm.MethodName)).before a0 Z = true := hw _ (List.mem_of_getElem? (i := 62) rfl)
theorem tw63 {Z : State} {a0 : Array Value} (hw : ∀ d ∈ tables_1, d.before a0 Z = true) : (Jvm.Cond.methodLink "com/example/congruent/congruent/verify/VerdictOfPartialTextPinLaw" (56 : Nat) ({ cls := "com/example/congruent/congruent/verify/Verdict", name := "outcome", desc := "()Lcom/example/congruent/congruent/verify/Verdict$Outcome;" } : Jvm.MethodName)).before a0 Z = true := hw _ (List.mem_of_getElem? (i := 63) rfl)
theorem tw64 {Z : State} {a0 : Array Value} (hw : ∀ d ∈ tables_1, d.before a0 Z = true) : (Jvm.Cond.declares ({ cls := "com/example/congruent/congruent/verify/Verdict", name := "outcome", desc := "()Lcom/example/congruent/congruent/verify/Verdict$Outcome;" } : Jvm.MethodName)).before a0 Z = true := hw _ (List.mem_of_getElem? (i := 64) rfl)
theorem tw65 {Z : State} {a0 : Array Value} (hw : ∀ d ∈ tables_1, d.before a0 Z = true) : (Jvm.Cond.instanceMethod ({ cls := "com/example/congruent/congruent/verify/Verdict", name := "outcome", desc := "()Lcom/example/congruent/congruent/verify/Verdict$Outcome;" } : Jvm.MethodName)).before a0 Z = true := hw _ (List.mem_of_getElem? (i := 65) rfl)
theorem tw66 {Z : State} {a0 : Array Value} (hw : ∀ d ∈ tables_1, d.before a0 Z = true) : (Jvm.Cond.selects "com/example/congruent/congruent/verify/Verdict" ({ cls := "com/example/congruent/congruent/verify/Verdict", name := "outcome", desc := "()Lcom/example/congruent/congruent/verify/Verdict$Outcome;" } : Jvm.MethodName) ({ cls := "com/example/congruent/congruent/verify/Verdict", name := "outcome", desc := "()Lcom/example/congruent/congruent/verify/Verdict$Outcome;" } : Jvm.MethodName)).before a0 Z = true := hw _ (List.mem_of_getElem? (i := 66) rfl)
theorem tw67 {Z : State} {a0 : Array Value} (hw : ∀ d ∈ tables_1, d.before a0 Z = true) : (Jvm.Cond.code ({ cls := "com/example/congruent/congruent/verify/Verdict", name := "outcome", desc := "()Lcom/example/congruent/congruent/verify/Verdict$Outcome;" } : Jvm.MethodName) prog_26_method_7_code (1 : Nat) (Option.some (Jvm.ClassFile.FieldType.object "com/example/congruent/congruent/verify/Verdict$Outcome"))).before a0 Z = true := hw _ (List.mem_of_getElem? (i := 67) rfl)
theorem tw68 {Z : State} {a0 : Array Value} (hw : ∀ d ∈ tables_1, d.before a0 Z = true) : (Jvm.Cond.methodLink "com/example/congruent/congruent/verify/VerdictOfPartialTextPinLaw" (60 : Nat) ({ cls := "com/example/congruent/congruent/verify/Verdict", name := "message", desc := "()Ljava/lang/String;" } : Jvm.MethodName)).before a0 Z = true := hw _ (List.mem_of_getElem? (i := 68) rfl)
theorem tw69 {Z : State} {a0 : Array Value} (hw : ∀ d ∈ tables_1, d.before a0 Z = true) : (Jvm.Cond.declares ({ cls := "com/example/congruent/congruent/verify/Verdict", name := "message", desc := "()Ljava/lang/String;" } : Jvm.MethodName)).before a0 Z = true := hw _ (List.mem_of_getElem? (i := 69) rfl)
theorem tw70 {Z : State} {a0 : Array Value} (hw : ∀ d ∈ tables_1, d.before a0 Z = true) : (Jvm.Cond.instanceMethod ({ cls := "com/example/congruent/congruent/verify/Verdict", name := "message", desc := "()Ljava/lang/String;" } : Jvm.MethodName)).before a0 Z = true := hw _ (List.mem_of_getElem? (i := 70) rfl)
theorem tw71 {Z : State} {a0 : Array Value} (hw : ∀ d ∈ tables_1, d.before a0 Z = true) : (Jvm.Cond.selects "com/example/congruent/congruent/verify/Verdict" ({ cls := "com/example/congruent/congruent/verify/Verdict", name := "message", desc := "()Ljava/lang/String;" } : Jvm.MethodName) ({ cls := "com/example/congruent/congruent/verify/Verdict", name := "message", desc := "()Ljava/lang/String;" } : Jvm.MethodName)).before a0 Z = true := hw _ (List.mem_of_getElem? (i := 71) rfl)
theorem tw72 {Z : State} {a0 : Array Value} (hw : ∀ d ∈ tables_1, d.before a0 Z = true) : (Jvm.Cond.code ({ cls := "com/example/congruent/congruent/verify/Verdict", name := "message", desc := "()Ljava/lang/String;" } : Jvm.MethodName) prog_26_method_8_code (1 : Nat) (Option.some (Jvm.ClassFile.FieldType.object "java/lang/String"))).before a0 Z = true := hw _ (List.mem_of_getElem? (i := 72) rfl)
theorem tw73 {Z : State} {a0 : Array Value} (hw : ∀ d ∈ tables_1, d.before a0 Z = true) : (Jvm.Cond.methodLink "com/example/congruent/congruent/verify/VerdictOfPartialTextPinLaw" (64 : Nat) ({ cls := "com/example/congruent/congruent/verify/VerdictOfPartialTextPinLaw", name := "sameText", desc := "(Ljava/lang/String;Ljava/lang/String;)Z" } : Jvm.MethodName)).before a0 Z = true := hw _ (List.mem_of_getElem? (i := 73) rfl)
theorem tw74 {Z : State} {a0 : Array Value} (hw : ∀ d ∈ tables_1, d.before a0 Z = true) : (Jvm.Cond.static ({ cls := "com/example/congruent/congruent/verify/VerdictOfPartialTextPinLaw", name := "sameText", desc := "(Ljava/lang/String;Ljava/lang/String;)Z" } : Jvm.MethodName)).before a0 Z = true := hw _ (List.mem_of_getElem? (i := 74) rfl)
theorem tw75 {Z : State} {a0 : Array Value} (hw : ∀ d ∈ tables_1, d.before a0 Z = true) : (Jvm.Cond.code ({ cls := "com/example/congruent/congruent/verify/VerdictOfPartialTextPinLaw", name := "sameText", desc := "(Ljava/lang/String;Ljava/lang/String;)Z" } : Jvm.MethodName) method_3_code (2 : Nat) (Option.some Jvm.ClassFile.FieldType.boolean)).before a0 Z = true := hw _ (List.mem_of_getElem? (i := 75) rfl)
theorem tw76 {Z : State} {a0 : Array Value} (hw : ∀ d ∈ tables_1, d.before a0 Z = true) : (Jvm.Cond.methodLink "com/example/congruent/congruent/verify/VerdictOfPartialTextPinLaw" (31 : Nat) ({ cls := "java/lang/String", name := "equals", desc := "(Ljava/lang/Object;)Z" } : Jvm.MethodName)).before a0 Z = true := hw _ (List.mem_of_getElem? (i := 76) rfl)
theorem tw77 {Z : State} {a0 : Array Value} (hw : ∀ d ∈ tables_1, d.before a0 Z = true) : (Jvm.Cond.declares ({ cls := "java/lang/String", name := "equals", desc := "(Ljava/lang/Object;)Z" } : Jvm.MethodName)).before a0 Z = true := hw _ (List.mem_of_getElem? (i := 77) rfl)
theorem tw78 {Z : State} {a0 : Array Value} (hw : ∀ d ∈ tables_1, d.before a0 Z = true) : (Jvm.Cond.instanceMethod ({ cls := "java/lang/String", name := "equals", desc := "(Ljava/lang/Object;)Z" } : Jvm.MethodName)).before a0 Z = true := hw _ (List.mem_of_getElem? (i := 78) rfl)
theorem tw79 {Z : State} {a0 : Array Value} (hw : ∀ d ∈ tables_1, d.before a0 Z = true) : (Jvm.Cond.selects "java/lang/String" ({ cls := "java/lang/String", name := "equals", desc := "(Ljava/lang/Object;)Z" } : Jvm.MethodName) ({ cls := "java/lang/String", name := "equals", desc := "(Ljava/lang/Object;)Z" } : Jvm.MethodName)).before a0 Z = true := hw _ (List.mem_of_getElem? (i := 79) rfl)
theorem tw80 {Z : State} {a0 : Array Value} (hw : ∀ d ∈ tables_1, d.before a0 Z = true) : (Jvm.Cond.code ({ cls := "java/lang/String", name := "equals", desc := "(Ljava/lang/Object;)Z" } : Jvm.MethodName) jdk_42_method_66_code (3 : Nat) (Option.some Jvm.ClassFile.FieldType.boolean)).before a0 Z = true := hw _ (List.mem_of_getElem? (i := 80) rfl)
theorem tw81 {Z : State} {a0 : Array Value} (hw : ∀ d ∈ tables_1, d.before a0 Z = true) : (Jvm.Cond.methodLink "com/example/congruent/congruent/verify/VerdictOfPartialTextPinLaw" (68 : Nat) ({ cls := "com/example/congruent/congruent/verify/Verdict", name := "partial", desc := "()Z" } : Jvm.MethodName)).before a0 Z = true := hw _ (List.mem_of_getElem? (i := 81) rfl)
theorem tw82 {Z : State} {a0 : Array Value} (hw : ∀ d ∈ tables_1, d.before a0 Z = true) : (Jvm.Cond.declares ({ cls := "com/example/congruent/congruent/verify/Verdict", name := "partial", desc := "()Z" } : Jvm.MethodName)).before a0 Z = true := hw _ (List.mem_of_getElem? (i := 82) rfl)
theorem tw83 {Z : State} {a0 : Array Value} (hw : ∀ d ∈ tables_1, d.before a0 Z = true) : (Jvm.Cond.instanceMethod ({ cls := "com/example/congruent/congruent/verify/Verdict", name := "partial", desc := "()Z" } : Jvm.MethodName)).before a0 Z = true := hw _ (List.mem_of_getElem? (i := 83) rfl)
theorem tw84 {Z : State} {a0 : Array Value} (hw : ∀ d ∈ tables_1, d.before a0 Z = true) : (Jvm.Cond.selects "com/example/congruent/congruent/verify/Verdict" ({ cls := "com/example/congruent/congruent/verify/Verdict", name := "partial", desc := "()Z" } : Jvm.MethodName) ({ cls := "com/example/congruent/congruent/verify/Verdict", name := "partial", desc := "()Z" } : Jvm.MethodName)).before a0 Z = true := hw _ (List.mem_of_getElem? (i := 84) rfl)
theorem tw85 {Z : State} {a0 : Array Value} (hw : ∀ d ∈ tables_1, d.before a0 Z = true) : (Jvm.Cond.code ({ cls := "com/example/congruent/congruent/verify/Verdict", name := "partial", desc := "()Z" } : Jvm.MethodName) prog_26_method_9_code (1 : Nat) (Option.some Jvm.ClassFile.FieldType.boolean)).before a0 Z = true := hw _ (List.mem_of_getElem? (i := 85) rfl)
theorem tw86 {Z : State} {a0 : Array Value} (hw : ∀ d ∈ tables_1, d.before a0 Z = true) : (Jvm.Cond.fieldLink "com/example/congruent/congruent/verify/VerdictOfPartialTextPinLaw" (25 : Nat) "com/example/congruent/congruent/verify/Verdict$Outcome" "EVAL_ERROR" "Lcom/example/congruent/congruent/verify/Verdict$Outcome;").before a0 Z = true := hw _ (List.mem_of_getElem? (i := 86) rfl)
theorem tw88 {Z : State} {a0 : Array Value} (hw : ∀ d ∈ tables_1, d.before a0 Z = true) : (Jvm.Cond.fieldLink "com/example/congruent/congruent/verify/VerdictOfPartialTextPinLaw" (16 : Nat) "com/example/congruent/congruent/verify/Verdict$Outcome" "NONDETERMINISTIC" "Lcom/example/congruent/congruent/verify/Verdict$Outcome;").before a0 Z = true := hw _ (List.mem_of_getElem? (i := 88) rfl)
theorem tw90 {Z : State} {a0 : Array Value} (hw : ∀ d ∈ tables_1, d.before a0 Z = true) : (Jvm.Cond.fieldLink "com/example/congruent/congruent/verify/VerdictOfPartialTextPinLaw" (13 : Nat) "com/example/congruent/congruent/verify/Verdict$Outcome" "DIFFERENT" "Lcom/example/congruent/congruent/verify/Verdict$Outcome;").before a0 Z = true := hw _ (List.mem_of_getElem? (i := 90) rfl)
theorem tw92 {Z : State} {a0 : Array Value} (hw : ∀ d ∈ tables_1, d.before a0 Z = true) : (Jvm.Cond.fieldLink "com/example/congruent/congruent/verify/VerdictOfPartialTextPinLaw" (19 : Nat) "com/example/congruent/congruent/verify/Verdict$Outcome" "REFUSED" "Lcom/example/congruent/congruent/verify/Verdict$Outcome;").before a0 Z = true := hw _ (List.mem_of_getElem? (i := 92) rfl)
theorem tw94 {Z : State} {a0 : Array Value} (hw : ∀ d ∈ tables_1, d.before a0 Z = true) : (Jvm.Cond.fieldLink "com/example/congruent/congruent/verify/VerdictOfPartialTextPinLaw" (22 : Nat) "com/example/congruent/congruent/verify/Verdict$Outcome" "SYNTAX_ERROR" "Lcom/example/congruent/congruent/verify/Verdict$Outcome;").before a0 Z = true := hw _ (List.mem_of_getElem? (i := 94) rfl)
theorem tw96 {Z : State} {a0 : Array Value} (hw : ∀ d ∈ tables_1, d.before a0 Z = true) : (Jvm.Cond.fieldLink "com/example/congruent/congruent/verify/VerdictOfPartialTextPinLaw" (28 : Nat) "com/example/congruent/congruent/verify/Verdict$Outcome" "UNDECIDED" "Lcom/example/congruent/congruent/verify/Verdict$Outcome;").before a0 Z = true := hw _ (List.mem_of_getElem? (i := 96) rfl)
open Jvm.Ow (ArI WP Con)
def EL1 : List (String × Nat) := []
abbrev bb : Bool := true
abbrev OC : String := "com/example/congruent/congruent/verify/Verdict$Outcome"
abbrev OD : String := "Lcom/example/congruent/congruent/verify/Verdict$Outcome;"
abbrev VC : String := "com/example/congruent/congruent/verify/Verdict"
def Glob (Z : State) (a0 : Array Value) : Prop := (∀ d ∈ tables_1, d.before a0 Z = true) ∧ (∃ cv : Int32, ¬ cv = 0 ∧ Sta Z Z.heap "java/lang/String" "COMPACT_STRINGS" "Z" (.int cv)) ∧ (∀ nm ∈ ["SAME", "DIFFERENT", "NONDETERMINISTIC", "REFUSED", "SYNTAX_ERROR", "EVAL_ERROR", "UNDECIDED"], ∃ o : Nat, Sta Z Z.heap OC nm OD (.ref o))
theorem ewG {Z : State} {a0 : Array Value} (G : Glob Z a0) : EW Z a0 EL1 := EW.nil
theorem saG {Z : State} {a0 : Array Value} (G : Glob Z a0) : bb = false → ∀ a ∈ Bundle.stringAtoms, a.before a0 Z = true := fun q => nomatch q
theorem bbG : bb = true → EL1 = [] := fun _ => rfl
section StrL
variable {l : Launch} {Z : State} {a0 : Array Value}
abbrev rm0 : Room := { frames := 0, cells := 0, slots := 0, locals := 0 }
set_option maxHeartbeats 4000000 in
theorem con_CL (G : Glob Z a0) (x y : Nat) (xs : List Int32) (h : Heap) (W : List Nat) (X : ArI Z h x .char xs) (Y : ArI Z h y .byte (List.replicate xs.length 0)) (hy : y ∈ W) (hxy : x ≠ y) :
    Ow.Con l Z EL1 bb (⟨"java/lang/StringUTF16", "compress", "([CI[BII)I"⟩ : MethodName) jdk_52_method_21_code 7 (Option.some Jvm.ClassFile.FieldType.int) [] rm0 #[.ref x, .int 0, .ref y, .int 0, .int (Int32.ofNat xs.length)] h W
      (fun v h' W' => v = some (.int (Int32.ofNat (Ow.lead xs))) ∧ Keep h h' [y] ∧ (Ow.lead xs = xs.length → ArI Z h' y .byte (xs.map (nar .byte)))) := by
  refine Ow.Con.intro (a0 := a0) pn_0 (ewG G) (saG G) bbG [.val (.ref x), .val (.int 0), .val (.ref y), .val (.int 0), .val (.int (Int32.ofNat xs.length)), .unset, .unset] (by first | rfl | (simp [argsToLocals, Value.category]; done)) ?_
  intro p e s m below meth c C hO
  have hN : xs.length < 2 ^ 31 := X.2
  have loop : ∀ (r i : Nat) (h1 : Heap) (o6 : Slot), i + r = xs.length → (∀ j, j < i → (xs.getD j 0).toInt < 256) → Keep h h1 [y] → ArI Z h1 y .byte ((xs.take i).map (nar .byte) ++ List.replicate r 0) → Ow.okS (some o6) = true →
      Ow.WP p l e rm0 s m #[.ref x, .int 0, .ref y, .int 0, .int (Int32.ofNat xs.length)] below meth c Z EL1 bb (fun v h' W' => v = some (.int (Int32.ofNat (Ow.lead xs))) ∧ Keep h h' [y] ∧ (Ow.lead xs = xs.length → ArI Z h' y .byte (xs.map (nar .byte))))
        3 [.val (.ref x), .val (.int (Int32.ofNat i)), .val (.ref y), .val (.int (Int32.ofNat i)), .val (.int (Int32.ofNat xs.length)), .val (.int (Int32.ofNat i)), o6] [] h1 W 0 0 := by
    intro r
    induction r with
    | zero =>
      intro i h1 o6 hi hq K V ho6
      obtain rfl : i = xs.length := by omega
      refine Ow.iload C dCL_3 (pc' := 5) rfl rfl ?_
      refine Ow.iload C dCL_5 (pc' := 7) rfl rfl ?_
      refine Ow.icmpY C 44 dCL_7 (XT.ii_ge_t (by rw [Ow.lt32]; omega)) (by decide) (by decide) ?_
      refine Ow.iload C dCL_44 (pc' := 46) rfl rfl ?_
      have hl : Ow.lead xs = xs.length := Ow.lead_all fun z hz => by
        obtain ⟨j, hj, rfl⟩ := List.mem_iff_getElem.mp hz
        have := hq j hj
        simpa [List.getD_eq_getElem?_getD, hj] using this
      refine Ow.retI C rfl dCL_46 (by first | decide | (dsimp only; omega) | (simp [Value.category]; done) | (simp [Value.category]; omega)) (by first | decide | (dsimp only; omega) | (simp [Value.category]; done) | (simp [Value.category]; omega)) [] (by simp) ⟨by rw [hl], K, fun _ => by simpa using V⟩
    | succ r ih =>
      intro i h1 o6 hi hq K V ho6
      have hlt : i < xs.length := by omega
      have X1 := X.keep K (Ow.nin1 hxy)
      refine Ow.iload C dCL_3 (pc' := 5) rfl rfl ?_
      refine Ow.iload C dCL_5 (pc' := 7) rfl rfl ?_
      refine Ow.icmpN C dCL_7 (pc' := 10) rfl (XT.ii_ge_f (by rw [Ow.lt32, Ow.ofNat_toInt (by omega), Ow.ofNat_toInt hN]; omega)) ?_
      refine Ow.aloadN C dCL_10 (pc' := 11) rfl rfl rfl ?_
      refine Ow.iloadN C dCL_11 (pc' := 12) rfl rfl ?_
      refine Ow.caload C X1 (i := i) (Ow.ofNat_toInt (by omega)) hlt dCL_12 (pc' := 13) rfl ?_
      refine Ow.istore C dCL_13 (pc' := 15) rfl ho6 ?_
      dsimp only [List.set]
      refine Ow.iload C dCL_15 (pc' := 17) rfl rfl ?_
      refine Ow.sipush C (255 : Int32) dCL_17 (pc' := 20) rfl rfl ?_
      refine Ow.icmp C 26 23 dCL_20 (Ow.kLe _ _) (by decide) (by decide) rfl (fun hc => ?_) (fun hc => ?_)
      · have hc' : (xs.getD i 0).toInt < 256 := by rw [Ow.lt32] at hc; have : ((255 : Int32)).toInt = 255 := rfl; omega
        refine Ow.aloadN C dCL_26 (pc' := 27) rfl rfl rfl ?_
        refine Ow.iloadN C dCL_27 (pc' := 28) rfl rfl ?_
        refine Ow.iload C dCL_28 (pc' := 30) rfl rfl ?_
        refine Ow.i2b C dCL_30 (pc' := 31) rfl ?_
        refine Ow.bastore C V (i := i) (Ow.ofNat_toInt (by omega)) (by simp; omega) hy dCL_31 (pc' := 32) rfl (fun h2 K2 V2 => ?_)
        rw [show nar .byte (nar .byte (xs.getD i 0)) = nar .byte (xs.getD i 0) from Ow.i32_ext (by have h1 := Ow.nar_byte (nar .byte (xs.getD i 0)); have h2 := Ow.nar_byte (xs.getD i 0); omega)] at V2
        rw [Ow.take_step hlt] at V2
        refine Ow.iinc C (1 : Int32) dCL_32 (pc' := 35) rfl rfl rfl ?_
        dsimp only [List.set]
        refine Ow.iinc C (1 : Int32) dCL_35 (pc' := 38) rfl rfl rfl ?_
        dsimp only [List.set]
        refine Ow.iinc C (1 : Int32) dCL_38 (pc' := 41) rfl rfl rfl ?_
        dsimp only [List.set]
        refine Ow.goto C 3 dCL_41 (by decide) (by decide) ?_
        rw [← inc_ofNat]
        exact ih (i + 1) h2 _ (by omega) (fun j hj => by
          rcases Nat.lt_succ_iff_lt_or_eq.mp hj with q | rfl
          · exact hq j q
          · exact hc') (K.trans K2 (fun x hx => Or.inl hx)) V2 rfl
      · have hc' : ¬ (xs.getD i 0).toInt < 256 := by rw [Ow.lt32] at hc; have : ((255 : Int32)).toInt = 255 := rfl; omega
        refine Ow.iload C dCL_23 (pc' := 25) rfl rfl ?_
        have hl := Ow.lead_at hlt hq hc'
        refine Ow.retI C rfl dCL_25 (by first | decide | (dsimp only; omega) | (simp [Value.category]; done) | (simp [Value.category]; omega)) (by first | decide | (dsimp only; omega) | (simp [Value.category]; done) | (simp [Value.category]; omega)) [] (by simp) ⟨by rw [hl], K, fun q => by omega⟩
  refine Ow.iconst C (0 : Int32) dCL_0 (pc' := 1) rfl rfl ?_
  refine Ow.istore C dCL_1 (pc' := 3) rfl rfl ?_
  dsimp only [List.set]
  exact loop xs.length 0 h .unset (by omega) (fun j hj => by omega) (Keep.refl _ _) (by simpa using Y) rfl
abbrev rmCM (B : Nat) : Room := { frames := 1, cells := 1, slots := B, locals := 18 }
set_option maxHeartbeats 4000000 in
theorem con_CM (G : Glob Z a0) (B : Nat) (x : Nat) (xs : List Int32) (h : Heap) (W : List Nat) (X : ArI Z h x .char xs) (hL : ∀ z ∈ xs, 0 ≤ z.toInt ∧ z.toInt < 256) (hB : xs.length ≤ B) (hB2 : B ≤ 4000) :
    Ow.Con l Z EL1 bb (⟨"java/lang/StringUTF16", "compress", "([CII)[B"⟩ : MethodName) jdk_52_method_16_code 6 (Option.some (Jvm.ClassFile.FieldType.array Jvm.ClassFile.FieldType.byte)) [] (rmCM B) #[.ref x, .int 0, .int (Int32.ofNat xs.length)] h W
      (fun v h' W' => ∃ y : Nat, v = some (.ref y) ∧ h.size ≤ y ∧ Keep h h' [] ∧ ArI Z h' y .byte (xs.map (nar .byte))) := by
  refine Ow.Con.intro (a0 := a0) pn_1 (ewG G) (saG G) bbG [.val (.ref x), .val (.int 0), .val (.int (Int32.ofNat xs.length)), .unset, .unset, .unset] (by first | rfl | (simp [argsToLocals, Value.category]; done)) ?_
  intro p e s m below meth c C hO
  have hx : x < h.size := X.lt
  refine Ow.iloadN C dCM_0 (pc' := 1) rfl rfl ?_
  refine Ow.newarr C (ty := .byte) (cap := xs.length) rfl rfl (tw27 G.1) dCM_1 (pc' := 3) rfl rfl (by omega) (by dsimp only; omega) (by dsimp only; omega) (fun h1 a1 s1 z1 l1 E1 V1 => ?_)
  refine Ow.astoreN C dCM_3 (pc' := 4) rfl rfl rfl ?_
  dsimp only [List.set]
  refine Ow.aloadN C dCM_4 (pc' := 5) rfl rfl rfl ?_
  refine Ow.iloadN C dCM_5 (pc' := 6) rfl rfl ?_
  refine Ow.aloadN C dCM_6 (pc' := 7) rfl rfl rfl ?_
  refine Ow.iconst C (0 : Int32) dCM_7 (pc' := 8) rfl rfl ?_
  refine Ow.iloadN C dCM_8 (pc' := 9) rfl rfl ?_
  refine Ow.callS C (tw28 G.1) (tw29 G.1) (tw25 G.1) (tw30 G.1) (by decide) (con_CL G x a1 xs h1 (a1 :: W) (X.ext E1) V1 (by simp) (by omega)) (fun _ q => q) pd_0 rfl rfl rfl dCM_9 (pc' := 12) rfl (Wt := 0) (Nat.le_refl _) (by first | decide | (dsimp only; omega) | (simp [Value.category]; done) | (simp [Value.category]; omega)) (by first | decide | (dsimp only; omega) | (simp [Value.category]; done) | (simp [Value.category]; omega)) (by first | decide | (dsimp only; omega) | (simp [Value.category]; done) | (simp [Value.category]; omega)) (by first | decide | (dsimp only; omega) | (simp [Value.category]; done) | (simp [Value.category]; omega)) (fun v2 h2 W2 ⟨e2, K2, V2⟩ s2 => ?_)
  subst e2
  have hl : Ow.lead xs = xs.length := Ow.lead_all fun z hz => (hL z hz).2
  rw [hl]
  dsimp only [Option.toList, List.cons_append, List.nil_append]
  refine Ow.istore C dCM_12 (pc' := 14) rfl rfl ?_
  dsimp only [List.set]
  refine Ow.iload C dCM_14 (pc' := 16) rfl rfl ?_
  refine Ow.iloadN C dCM_16 (pc' := 17) rfl rfl ?_
  refine Ow.icmpY C 57 dCM_17 (XT.ii_eq_t rfl) (by decide) (by decide) ?_
  refine Ow.aloadN C dCM_57 (pc' := 58) rfl rfl rfl ?_
  refine Ow.retA C rfl rfl rfl dCM_58 (by first | decide | (dsimp only; omega) | (simp [Value.category]; done) | (simp [Value.category]; omega)) (by first | decide | (dsimp only; omega) | (simp [Value.category]; done) | (simp [Value.category]; omega)) [] (by simp) ⟨a1, rfl, by omega, (Ow.Keep.z E1).trans K2 (fun z hz => Or.inr (by rw [List.mem_singleton.mp hz]; omega)), V2 hl⟩
theorem con_CF (G : Glob Z a0) (y : Nat) (ty : FieldType) (ys : List Int32) (N : Nat) (h : Heap) (W : List Nat) (Y : ArI Z h y ty ys) :
    Ow.Con l Z EL1 bb (⟨"java/lang/StringUTF16", "coderFromArrayLen", "([BI)B"⟩ : MethodName) jdk_52_method_15_code 2 (Option.some Jvm.ClassFile.FieldType.byte) [] rm0 #[.ref y, .int (Int32.ofNat N)] h W
      (fun v h' W' => v = some (.int (nar .byte (nar .byte (((Int32.ofNat N - Int32.ofNat ys.length).toUInt32 >>> ((31 : Int32) &&& 31).toUInt32).toInt32)))) ∧ h' = h) := by
  refine Ow.Con.intro (a0 := a0) pn_2 (ewG G) (saG G) bbG [.val (.ref y), .val (.int (Int32.ofNat N))] (by first | rfl | (simp [argsToLocals, Value.category]; done)) ?_
  intro p e s m below meth c C hO
  refine Ow.iloadN C dCF_0 (pc' := 1) rfl rfl ?_
  refine Ow.aloadN C dCF_1 (pc' := 2) rfl rfl rfl ?_
  refine Ow.arrlen C Y dCF_2 (pc' := 3) rfl ?_
  refine Ow.isub C dCF_3 (pc' := 4) rfl ?_
  refine Ow.bipush C (31 : Int32) dCF_4 (pc' := 6) rfl rfl ?_
  refine Ow.iushr C dCF_6 (pc' := 7) rfl ?_
  refine Ow.i2b C dCF_7 (pc' := 8) rfl ?_
  refine Ow.retN C (t := .byte) rfl (by simp) dCF_8 (by first | decide | (dsimp only; omega) | (simp [Value.category]; done) | (simp [Value.category]; omega)) (by first | decide | (dsimp only; omega) | (simp [Value.category]; done) | (simp [Value.category]; omega)) [] (by simp) ⟨rfl, rfl⟩
theorem cf_lat (N : Nat) : nar .byte (nar .byte (((Int32.ofNat N - Int32.ofNat N).toUInt32 >>> ((31 : Int32) &&& 31).toUInt32).toInt32)) = 0 := by
  rw [Int32.sub_self]; decide
abbrev rmI1 (B : Nat) : Room := { frames := 2, cells := 1, slots := B, locals := 35 }
set_option maxHeartbeats 4000000 in
theorem con_I1 (G : Glob Z a0) (B : Nat) (a x : Nat) (xs : List Int32) (h : Heap) (W : List Nat) (ov oc : Value) (A : Exa Z h a "java/lang/String") (Fv : Fld Z h a "java/lang/String" "value" "[B" ov) (Fc : Fld Z h a "java/lang/String" "coder" "B" oc) (ha : a ∈ W) (X : ArI Z h x .char xs) (h0 : 0 < xs.length) (hL : ∀ z ∈ xs, 0 ≤ z.toInt ∧ z.toInt < 256) (hB : xs.length ≤ B) (hB2 : B ≤ 4000) :
    Ow.Con l Z EL1 bb (⟨"java/lang/String", "<init>", "([CIILjava/lang/Void;)V"⟩ : MethodName) jdk_42_method_149_code 6 (Option.none : Option Jvm.ClassFile.FieldType) [] (rmI1 B) #[.ref a, .ref x, .int 0, .int (Int32.ofNat xs.length), .null] h W
      (fun v h' W' => v = none ∧ ∃ d : Nat, Ow.StrL Z h' a d xs ∧ Keep h h' [a] ∧ h.size ≤ d) := by
  obtain ⟨cv, hcv, hst⟩ := G.2.1
  refine Ow.Con.intro (a0 := a0) pn_3 (ewG G) (saG G) bbG [.val (.ref a), .val (.ref x), .val (.int 0), .val (.int (Int32.ofNat xs.length)), .val .null, .unset] (by first | rfl | (simp [argsToLocals, Value.category]; done)) ?_
  intro p e s m below meth c C hO
  have hN : xs.length < 2 ^ 31 := X.2
  have haL : a < h.size := A.lt
  refine Ow.aloadN C dI1_0 (pc' := 1) rfl rfl rfl ?_
  refine Ow.initO C (tw19 G.1) (tw20 G.1) (tw21 G.1) dI1_1 (pc' := 4) rfl rfl (by first | decide | (dsimp only; omega) | (simp [Value.category]; done) | (simp [Value.category]; omega)) (by first | decide | (dsimp only; omega) | (simp [Value.category]; done) | (simp [Value.category]; omega)) ?_
  refine Ow.iloadN C dI1_4 (pc' := 5) rfl rfl ?_
  refine Ow.ifCY C 27 dI1_5 (XT.i0_ne_t (fun q => by have := Ow.ofNat_toInt hN; rw [q] at this; have e0 : ((0 : Int32)).toInt = 0 := rfl; omega)) (by decide) (by decide) ?_
  refine Ow.getS C (tw22 G.1) hst dI1_27 (pc' := 30) rfl ?_
  refine Ow.ifCN C dI1_30 (pc' := 33) rfl (XT.i0_eq_f hcv) ?_
  refine Ow.aloadN C dI1_33 (pc' := 34) rfl rfl rfl ?_
  refine Ow.iloadN C dI1_34 (pc' := 35) rfl rfl ?_
  refine Ow.iloadN C dI1_35 (pc' := 36) rfl rfl ?_
  refine Ow.callS C (tw23 G.1) (tw24 G.1) (tw25 G.1) (tw26 G.1) (by decide) (con_CM G B x xs h W X hL hB hB2) (fun _ q => q) pd_1 rfl rfl rfl dI1_36 (pc' := 39) rfl (Wt := 0) (Nat.le_refl _) (by first | decide | (dsimp only; omega) | (simp [Value.category]; done) | (simp [Value.category]; omega)) (by first | decide | (dsimp only; omega) | (simp [Value.category]; done) | (simp [Value.category]; omega)) (by first | decide | (dsimp only; omega) | (simp [Value.category]; done) | (simp [Value.category]; omega)) (by first | decide | (dsimp only; omega) | (simp [Value.category]; done) | (simp [Value.category]; omega)) (fun v2 h2 W2 ⟨d, e2, hd, K2, V2⟩ s2 => ?_)
  subst e2
  dsimp only [Option.toList, List.cons_append, List.nil_append]
  refine Ow.astore C dI1_39 (pc' := 41) rfl rfl rfl ?_
  dsimp only [List.set]
  refine Ow.aloadN C dI1_41 (pc' := 42) rfl rfl rfl ?_
  refine Ow.aload C dI1_42 (pc' := 44) rfl rfl rfl ?_
  refine Ow.iloadN C dI1_44 (pc' := 45) rfl rfl ?_
  refine Ow.callS C (tw31 G.1) (tw32 G.1) (tw25 G.1) (tw33 G.1) (by decide) (con_CF G d .byte (xs.map (nar .byte)) xs.length h2 W V2) (fun _ q => q) pd_2 rfl rfl rfl dI1_45 (pc' := 48) rfl (Wt := 1) (Nat.le_refl _) (by first | decide | (dsimp only; omega) | (simp [Value.category]; done) | (simp [Value.category]; omega)) (by first | decide | (dsimp only; omega) | (simp [Value.category]; done) | (simp [Value.category]; omega)) (by first | decide | (dsimp only; omega) | (simp [Value.category]; done) | (simp [Value.category]; omega)) (by first | decide | (dsimp only; omega) | (simp [Value.category]; done) | (simp [Value.category]; omega)) (fun v3 h3 W3 ⟨e3, e3'⟩ s3 => ?_)
  subst e3 e3'
  rw [List.length_map, cf_lat]
  dsimp only [Option.toList, List.cons_append, List.nil_append]
  have A2 := A.keep K2
  have Fc2 := Fc.keep K2 nin0
  have Fv2 := Fv.keep K2 nin0
  refine Ow.putF C (tw34 G.1) Fc2 A2 (Or.inr ⟨(tw35 G.1), rfl, rfl⟩) (tw10 G.1) (ty := .byte) (by decide) rfl rfl (by first | assumption | (simp; done) | (simp [*]; done)) dI1_48 (pc' := 51) rfl (fun h4 w4 K4 Fc4 => ?_)
  have Fv4 := Fv2.other w4 (Or.inr (slot_ne (Or.inr (tw37 G.1)) (Or.inr (tw35 G.1)) (by decide) (t := .array .byte) (t' := .byte) (by decide) (by decide)))
  have A4 := A2.keep K4
  have V4 := V2.keep K4 (Ow.nin1 (by omega))
  refine Ow.aloadN C dI1_51 (pc' := 52) rfl rfl rfl ?_
  refine Ow.aload C dI1_52 (pc' := 54) rfl rfl rfl ?_
  refine Ow.putF C (tw36 G.1) Fv4 A4 (Or.inr ⟨(tw37 G.1), rfl, rfl⟩) (tw10 G.1) (ty := (.array .byte)) (by decide) rfl rfl (by first | assumption | (simp; done) | (simp [*]; done)) dI1_54 (pc' := 57) rfl (fun h5 w5 K5 Fv5 => ?_)
  have Fc5 := Fc4.other w5 (Or.inr (slot_ne (Or.inr (tw35 G.1)) (Or.inr (tw37 G.1)) (by decide) (t := .byte) (t' := .array .byte) (by decide) (by decide)))
  have V5 := V4.keep K5 (Ow.nin1 (by omega))
  refine Ow.retV C rfl dI1_57 (by first | decide | (dsimp only; omega) | (simp [Value.category]; done) | (simp [Value.category]; omega)) (by first | decide | (dsimp only; omega) | (simp [Value.category]; done) | (simp [Value.category]; omega)) [] (by simp) ⟨rfl, d, ⟨A4.keep K5, Fv5, Fc5, V5, hL⟩, (((Keep.refl h [a]).trans K2 (fun z hz => by cases hz)).trans K4 (fun z hz => Or.inl hz)).trans K5 (fun z hz => Or.inl hz), hd⟩
abbrev rmI0 (B : Nat) : Room := { frames := 3, cells := 1, slots := B, locals := 52 }
set_option maxHeartbeats 4000000 in
theorem con_I0 (G : Glob Z a0) (B : Nat) (a x : Nat) (xs : List Int32) (h : Heap) (W : List Nat) (ov oc : Value) (A : Exa Z h a "java/lang/String") (Fv : Fld Z h a "java/lang/String" "value" "[B" ov) (Fc : Fld Z h a "java/lang/String" "coder" "B" oc) (ha : a ∈ W) (X : ArI Z h x .char xs) (h0 : 0 < xs.length) (hL : ∀ z ∈ xs, 0 ≤ z.toInt ∧ z.toInt < 256) (hB : xs.length ≤ B) (hB2 : B ≤ 4000) :
    Ow.Con l Z EL1 bb (⟨"java/lang/String", "<init>", "([C)V"⟩ : MethodName) jdk_42_method_3_code 2 (Option.none : Option Jvm.ClassFile.FieldType) [] (rmI0 B) #[.ref a, .ref x] h W
      (fun v h' W' => v = none ∧ ∃ d : Nat, Ow.StrL Z h' a d xs ∧ Keep h h' [a] ∧ h.size ≤ d) := by
  refine Ow.Con.intro (a0 := a0) pn_4 (ewG G) (saG G) bbG [.val (.ref a), .val (.ref x)] (by first | rfl | (simp [argsToLocals, Value.category]; done)) ?_
  intro p e s m below meth c C hO
  refine Ow.aloadN C dI0_0 (pc' := 1) rfl rfl rfl ?_
  refine Ow.aloadN C dI0_1 (pc' := 2) rfl rfl rfl ?_
  refine Ow.iconst C (0 : Int32) dI0_2 (pc' := 3) rfl rfl ?_
  refine Ow.aloadN C dI0_3 (pc' := 4) rfl rfl rfl ?_
  refine Ow.arrlen C X dI0_4 (pc' := 5) rfl ?_
  refine Ow.aconstNull C dI0_5 (pc' := 6) rfl ?_
  refine Ow.callI C rfl (tw15 G.1) (tw16 G.1) (tw11 G.1) (tw18 G.1) (by decide) (con_I1 G B a x xs h W ov oc A Fv Fc ha X h0 hL hB hB2) (fun _ q => q) pd_3 rfl rfl rfl dI0_6 (pc' := 9) rfl (Wt := 0) (Nat.le_refl _) (by first | decide | (dsimp only; omega) | (simp [Value.category]; done) | (simp [Value.category]; omega)) (by first | decide | (dsimp only; omega) | (simp [Value.category]; done) | (simp [Value.category]; omega)) (by first | decide | (dsimp only; omega) | (simp [Value.category]; done) | (simp [Value.category]; omega)) (by first | decide | (dsimp only; omega) | (simp [Value.category]; done) | (simp [Value.category]; omega)) (fun v2 h2 W2 ⟨e2, d, S2, K2, hd⟩ s2 => ?_)
  subst e2
  dsimp only [Option.toList, List.cons_append, List.nil_append]
  refine Ow.retV C rfl dI0_9 (by first | decide | (dsimp only; omega) | (simp [Value.category]; done) | (simp [Value.category]; omega)) (by first | decide | (dsimp only; omega) | (simp [Value.category]; done) | (simp [Value.category]; omega)) [] (by simp) ⟨rfl, d, S2, K2, hd⟩
end StrL

section StrEQs
variable {l : Launch} {Z : State} {a0 : Array Value}
theorem con_EQs (G : Glob Z a0) (a : Nat) (h : Heap) (W : List Nat) :
    Ow.Con l Z EL1 bb (⟨"java/lang/String", "equals", "(Ljava/lang/Object;)Z"⟩ : MethodName) jdk_42_method_66_code 3 (Option.some Jvm.ClassFile.FieldType.boolean) [] rm0 #[.ref a, .ref a] h W (fun v h' W' => v = some (.int 1) ∧ h' = h) := by
  refine Ow.Con.intro (a0 := a0) pn_5 (ewG G) (saG G) bbG [.val (.ref a), .val (.ref a), .unset] (by first | rfl | (simp [argsToLocals, Value.category]; done)) ?_
  intro p e s m below meth c C hO
  refine Ow.aloadN C dEQ_0 (pc' := 1) rfl rfl rfl ?_
  refine Ow.aloadN C dEQ_1 (pc' := 2) rfl rfl rfl ?_
  refine Ow.acmpN C dEQ_2 (pc' := 5) rfl rfl rfl (XT.aa_ne_f rfl) ?_
  refine Ow.iconst C (1 : Int32) dEQ_5 (pc' := 6) rfl rfl ?_
  refine Ow.retN C (t := .boolean) rfl (by simp) dEQ_6 (by first | decide | (dsimp only; omega) | (simp [Value.category]; done) | (simp [Value.category]; omega)) (by first | decide | (dsimp only; omega) | (simp [Value.category]; done) | (simp [Value.category]; omega)) [] (by simp) ⟨rfl, rfl⟩
end StrEQs

section Law
variable {l : Launch} {Z : State} {a0 : Array Value}
theorem con_PK (G : Glob Z a0) (k : Int32) (h : Heap) (W : List Nat) : Ow.Con l Z EL1 bb (⟨"com/example/congruent/congruent/verify/VerdictOfPartialTextPinLaw", "pick", "(I)Lcom/example/congruent/congruent/verify/Verdict$Outcome;"⟩ : MethodName) method_2_code 1 (Option.some (Jvm.ClassFile.FieldType.object "com/example/congruent/congruent/verify/Verdict$Outcome")) [] rm0 #[.int k] h W (fun v h' W' => (∃ o : Nat, v = some (.ref o)) ∧ h' = h) := by
  obtain ⟨o0, S0⟩ := G.2.2 "SAME" (by simp)
  obtain ⟨o1, S1⟩ := G.2.2 "DIFFERENT" (by simp)
  obtain ⟨o2, S2⟩ := G.2.2 "NONDETERMINISTIC" (by simp)
  obtain ⟨o3, S3⟩ := G.2.2 "REFUSED" (by simp)
  obtain ⟨o4, S4⟩ := G.2.2 "SYNTAX_ERROR" (by simp)
  obtain ⟨o5, S5⟩ := G.2.2 "EVAL_ERROR" (by simp)
  obtain ⟨o6, S6⟩ := G.2.2 "UNDECIDED" (by simp)
  refine Ow.Con.intro (a0 := a0) pn_6 (ewG G) (saG G) bbG [.val (.int k)] (by first | rfl | (simp [argsToLocals, Value.category]; done)) ?_
  intro p e s m below meth c C hO
  refine Ow.iloadN C dPK_0 (pc' := 1) rfl rfl ?_
  refine Ow.ifC C 8 4 dPK_1 (Ow.hNe _) (by decide) (by decide) rfl (fun q0 => ?_) (fun q0 => ?_)
  rotate_left
  · refine Ow.getS C (tw5 G.1) S0 dPK_4 (pc' := 7) rfl ?_
    refine Ow.retA C rfl rfl rfl dPK_7 (by first | decide | (dsimp only; omega) | (simp [Value.category]; done) | (simp [Value.category]; omega)) (by first | decide | (dsimp only; omega) | (simp [Value.category]; done) | (simp [Value.category]; omega)) [] (by simp) ⟨⟨o0, rfl⟩, rfl⟩
  refine Ow.iloadN C dPK_8 (pc' := 9) rfl rfl ?_
  refine Ow.iconst C (1 : Int32) dPK_9 (pc' := 10) rfl rfl ?_
  refine Ow.icmp C 17 13 dPK_10 (Ow.kNe _ _) (by decide) (by decide) rfl (fun q1 => ?_) (fun q1 => ?_)
  rotate_left
  · refine Ow.getS C (tw90 G.1) S1 dPK_13 (pc' := 16) rfl ?_
    refine Ow.retA C rfl rfl rfl dPK_16 (by first | decide | (dsimp only; omega) | (simp [Value.category]; done) | (simp [Value.category]; omega)) (by first | decide | (dsimp only; omega) | (simp [Value.category]; done) | (simp [Value.category]; omega)) [] (by simp) ⟨⟨o1, rfl⟩, rfl⟩
  refine Ow.iloadN C dPK_17 (pc' := 18) rfl rfl ?_
  refine Ow.iconst C (2 : Int32) dPK_18 (pc' := 19) rfl rfl ?_
  refine Ow.icmp C 26 22 dPK_19 (Ow.kNe _ _) (by decide) (by decide) rfl (fun q2 => ?_) (fun q2 => ?_)
  rotate_left
  · refine Ow.getS C (tw88 G.1) S2 dPK_22 (pc' := 25) rfl ?_
    refine Ow.retA C rfl rfl rfl dPK_25 (by first | decide | (dsimp only; omega) | (simp [Value.category]; done) | (simp [Value.category]; omega)) (by first | decide | (dsimp only; omega) | (simp [Value.category]; done) | (simp [Value.category]; omega)) [] (by simp) ⟨⟨o2, rfl⟩, rfl⟩
  refine Ow.iloadN C dPK_26 (pc' := 27) rfl rfl ?_
  refine Ow.iconst C (3 : Int32) dPK_27 (pc' := 28) rfl rfl ?_
  refine Ow.icmp C 35 31 dPK_28 (Ow.kNe _ _) (by decide) (by decide) rfl (fun q3 => ?_) (fun q3 => ?_)
  rotate_left
  · refine Ow.getS C (tw92 G.1) S3 dPK_31 (pc' := 34) rfl ?_
    refine Ow.retA C rfl rfl rfl dPK_34 (by first | decide | (dsimp only; omega) | (simp [Value.category]; done) | (simp [Value.category]; omega)) (by first | decide | (dsimp only; omega) | (simp [Value.category]; done) | (simp [Value.category]; omega)) [] (by simp) ⟨⟨o3, rfl⟩, rfl⟩
  refine Ow.iloadN C dPK_35 (pc' := 36) rfl rfl ?_
  refine Ow.iconst C (4 : Int32) dPK_36 (pc' := 37) rfl rfl ?_
  refine Ow.icmp C 44 40 dPK_37 (Ow.kNe _ _) (by decide) (by decide) rfl (fun q4 => ?_) (fun q4 => ?_)
  rotate_left
  · refine Ow.getS C (tw94 G.1) S4 dPK_40 (pc' := 43) rfl ?_
    refine Ow.retA C rfl rfl rfl dPK_43 (by first | decide | (dsimp only; omega) | (simp [Value.category]; done) | (simp [Value.category]; omega)) (by first | decide | (dsimp only; omega) | (simp [Value.category]; done) | (simp [Value.category]; omega)) [] (by simp) ⟨⟨o4, rfl⟩, rfl⟩
  refine Ow.iloadN C dPK_44 (pc' := 45) rfl rfl ?_
  refine Ow.iconst C (5 : Int32) dPK_45 (pc' := 46) rfl rfl ?_
  refine Ow.icmp C 53 49 dPK_46 (Ow.kNe _ _) (by decide) (by decide) rfl (fun q5 => ?_) (fun q5 => ?_)
  rotate_left
  · refine Ow.getS C (tw86 G.1) S5 dPK_49 (pc' := 52) rfl ?_
    refine Ow.retA C rfl rfl rfl dPK_52 (by first | decide | (dsimp only; omega) | (simp [Value.category]; done) | (simp [Value.category]; omega)) (by first | decide | (dsimp only; omega) | (simp [Value.category]; done) | (simp [Value.category]; omega)) [] (by simp) ⟨⟨o5, rfl⟩, rfl⟩
  refine Ow.getS C (tw96 G.1) S6 dPK_53 (pc' := 56) rfl ?_
  refine Ow.retA C rfl rfl rfl dPK_56 (by first | decide | (dsimp only; omega) | (simp [Value.category]; done) | (simp [Value.category]; omega)) (by first | decide | (dsimp only; omega) | (simp [Value.category]; done) | (simp [Value.category]; omega)) [] (by simp) ⟨⟨o6, rfl⟩, rfl⟩
abbrev rmRI : Room := { frames := 1, cells := 0, slots := 0, locals := 12 }
theorem con_RI (G : Glob Z a0) (a : Nat) (h : Heap) (W : List Nat) : Ow.Con l Z EL1 bb (⟨"java/lang/Record", "<init>", "()V"⟩ : MethodName) jdk_30_method_1_code 1 (Option.none : Option Jvm.ClassFile.FieldType) [] rmRI #[.ref a] h W (fun v h' W' => v = none ∧ h' = h) := by
  refine Ow.Con.intro (a0 := a0) pn_7 (ewG G) (saG G) bbG [.val (.ref a)] (by first | rfl | (simp [argsToLocals, Value.category]; done)) ?_
  intro p e s m below meth c C hO
  refine Ow.aloadN C dRI_0 (pc' := 1) rfl rfl rfl ?_
  refine Ow.initO C (tw49 G.1) (tw20 G.1) (tw21 G.1) dRI_1 (pc' := 4) rfl rfl (by first | decide | (dsimp only; omega) | (simp [Value.category]; done) | (simp [Value.category]; omega)) (by first | decide | (dsimp only; omega) | (simp [Value.category]; done) | (simp [Value.category]; omega)) ?_
  refine Ow.retV C rfl dRI_4 (by first | decide | (dsimp only; omega) | (simp [Value.category]; done) | (simp [Value.category]; omega)) (by first | decide | (dsimp only; omega) | (simp [Value.category]; done) | (simp [Value.category]; omega)) [] (by simp) ⟨rfl, rfl⟩
/-- a message: none, or a String -/
def Msg (Z : State) (h : Heap) (v : Value) : Prop := v = .null ∨ ∃ a : Nat, v = .ref a ∧ Exa Z h a "java/lang/String"
theorem Msg.keep {h h' : Heap} {v : Value} {ws : List Nat} (M : Msg Z h v) (K : Keep h h' ws) : Msg Z h' v := M.elim Or.inl (fun ⟨a, e, E⟩ => Or.inr ⟨a, e, E.keep K⟩)
theorem Msg.ref {h : Heap} {v : Value} (M : Msg Z h v) : v.isRef = true := by rcases M with rfl | ⟨a, rfl, -⟩ <;> rfl
/-- a Verdict with these parts -/
def Vd (Z : State) (h : Heap) (a o : Nat) (mv : Value) (p : Int32) : Prop := Exa Z h a VC ∧ Fld Z h a VC "outcome" OD (.ref o) ∧ Fld Z h a VC "message" "Ljava/lang/String;" mv ∧ Fld Z h a VC "partial" "Z" (.int p)
theorem Vd.keep {h h' : Heap} {a o : Nat} {mv : Value} {p : Int32} {ws : List Nat} (D : Vd Z h a o mv p) (K : Keep h h' ws) (ha : a ∉ ws) : Vd Z h' a o mv p := ⟨D.1.keep K, D.2.1.keep K ha, D.2.2.1.keep K ha, D.2.2.2.keep K ha⟩
abbrev rmVI : Room := { frames := 2, cells := 0, slots := 0, locals := 24 }
set_option maxHeartbeats 4000000 in
theorem con_VI (G : Glob Z a0) (a o : Nat) (mv : Value) (p : Int32) (h : Heap) (W : List Nat) (v1 v2 v3 : Value) (A : Exa Z h a VC) (F1 : Fld Z h a VC "outcome" OD v1) (F2 : Fld Z h a VC "message" "Ljava/lang/String;" v2) (F3 : Fld Z h a VC "partial" "Z" v3) (ha : a ∈ W) (hm : mv.isRef = true) (hp : p = 0 ∨ p = 1) :
    Ow.Con l Z EL1 bb (⟨"com/example/congruent/congruent/verify/Verdict", "<init>", "(Lcom/example/congruent/congruent/verify/Verdict$Outcome;Ljava/lang/String;Z)V"⟩ : MethodName) prog_26_method_2_code 4 (Option.none : Option Jvm.ClassFile.FieldType) [] rmVI #[.ref a, .ref o, mv, .int p] h W (fun v h' W' => v = none ∧ Keep h h' [a] ∧ Vd Z h' a o mv p) := by
  refine Ow.Con.intro (a0 := a0) pn_8 (ewG G) (saG G) bbG [.val (.ref a), .val (.ref o), .val mv, .val (.int p)] (by first | rfl | (simp [argsToLocals, Value.category]; done) | simp [argsToLocals, Ow.cat_ref, Ow.cat_int, Ow.cat_null, XT.cat1 hm]) ?_
  intro p e s m below meth c C hO
  refine Ow.aloadN C dVI_0 (pc' := 1) rfl rfl rfl ?_
  refine Ow.callI C rfl (tw44 G.1) (tw45 G.1) (tw47 G.1) (tw48 G.1) (by decide) (con_RI G a h W) (fun _ q => q) pd_4 rfl rfl rfl dVI_1 (pc' := 4) rfl (Wt := 0) (Nat.le_refl _) (by first | decide | (dsimp only; omega) | (simp [Value.category]; done) | (simp [Value.category]; omega)) (by first | decide | (dsimp only; omega) | (simp [Value.category]; done) | (simp [Value.category]; omega)) (by first | decide | (dsimp only; omega) | (simp [Value.category]; done) | (simp [Value.category]; omega)) (by first | decide | (dsimp only; omega) | (simp [Value.category]; done) | (simp [Value.category]; omega)) (fun v1 h1 W1 ⟨e1, e1'⟩ s1 => ?_)
  subst e1 e1'
  dsimp only [Option.toList, List.cons_append, List.nil_append]
  refine Ow.aloadN C dVI_4 (pc' := 5) rfl rfl rfl ?_
  refine Ow.aloadN C dVI_5 (pc' := 6) rfl rfl rfl ?_
  refine Ow.putF C (tw50 G.1) F1 A (Or.inr ⟨(tw51 G.1), rfl, rfl⟩) (tw39 G.1) (ty := (.object "com/example/congruent/congruent/verify/Verdict$Outcome")) (by decide) rfl rfl (by first | assumption | (simp; done) | (simp [*]; done)) dVI_6 (pc' := 9) rfl (fun h2 w2 K2 F1' => ?_)
  have A2 := A.keep K2
  have F22 := F2.other w2 (Or.inr (slot_ne (Or.inr (tw53 G.1)) (Or.inr (tw51 G.1)) (by decide) (t := .object "java/lang/String") (t' := .object OC) (by decide) (by decide)))
  have F32 := F3.other w2 (Or.inr (slot_ne (Or.inr (tw55 G.1)) (Or.inr (tw51 G.1)) (by decide) (t := .boolean) (t' := .object OC) (by decide) (by decide)))
  refine Ow.aloadN C dVI_9 (pc' := 10) rfl rfl rfl ?_
  refine Ow.aloadN C dVI_10 (pc' := 11) rfl rfl hm ?_
  refine Ow.putF C (tw52 G.1) F22 A2 (Or.inr ⟨(tw53 G.1), rfl, rfl⟩) (tw39 G.1) (ty := (.object "java/lang/String")) (by decide) (Ow.narO hm) (Ow.fitO hm) (by first | assumption | (simp; done) | (simp [*]; done)) dVI_11 (pc' := 14) rfl (fun h3 w3 K3 F2' => ?_)
  have A3 := A2.keep K3
  have F13 := F1'.other w3 (Or.inr (slot_ne (Or.inr (tw51 G.1)) (Or.inr (tw53 G.1)) (by decide) (t := .object OC) (t' := .object "java/lang/String") (by decide) (by decide)))
  have F33 := F32.other w3 (Or.inr (slot_ne (Or.inr (tw55 G.1)) (Or.inr (tw53 G.1)) (by decide) (t := .boolean) (t' := .object "java/lang/String") (by decide) (by decide)))
  refine Ow.aloadN C dVI_14 (pc' := 15) rfl rfl rfl ?_
  refine Ow.iloadN C dVI_15 (pc' := 16) rfl rfl ?_
  refine Ow.putF C (tw54 G.1) F33 A3 (Or.inr ⟨(tw55 G.1), rfl, rfl⟩) (tw39 G.1) (ty := .boolean) (by decide) (Ow.narZ hp) (Ow.fitZ hp) (by first | assumption | (simp; done) | (simp [*]; done)) dVI_16 (pc' := 19) rfl (fun h4 w4 K4 F3' => ?_)
  have F14 := F13.other w4 (Or.inr (slot_ne (Or.inr (tw51 G.1)) (Or.inr (tw55 G.1)) (by decide) (t := .object OC) (t' := .boolean) (by decide) (by decide)))
  have F24 := F2'.other w4 (Or.inr (slot_ne (Or.inr (tw53 G.1)) (Or.inr (tw55 G.1)) (by decide) (t := .object "java/lang/String") (t' := .boolean) (by decide) (by decide)))
  refine Ow.retV C rfl dVI_19 (by first | decide | (dsimp only; omega) | (simp [Value.category]; done) | (simp [Value.category]; omega)) (by first | decide | (dsimp only; omega) | (simp [Value.category]; done) | (simp [Value.category]; omega)) [] (by simp) ⟨rfl, (K2.trans K3 (fun _ q => Or.inl q)).trans K4 (fun _ q => Or.inl q), A3.keep K4, F14, F24, F3'⟩
theorem con_VO (G : Glob Z a0) (a o : Nat) (mv : Value) (p : Int32) (h : Heap) (W : List Nat) (D : Vd Z h a o mv p) : Ow.Con l Z EL1 bb (⟨"com/example/congruent/congruent/verify/Verdict", "outcome", "()Lcom/example/congruent/congruent/verify/Verdict$Outcome;"⟩ : MethodName) prog_26_method_7_code 1 (Option.some (Jvm.ClassFile.FieldType.object "com/example/congruent/congruent/verify/Verdict$Outcome")) [] rm0 #[.ref a] h W (fun v h' W' => v = some (.ref o) ∧ h' = h) := by
  refine Ow.Con.intro (a0 := a0) pn_9 (ewG G) (saG G) bbG [.val (.ref a)] (by first | rfl | (simp [argsToLocals, Value.category]; done)) ?_
  intro p e s m below meth c C hO
  refine Ow.aloadN C dVO_0 (pc' := 1) rfl rfl rfl ?_
  refine Ow.getF C (tw50 G.1) D.2.1 dVO_1 (pc' := 4) rfl ?_
  refine Ow.retA C rfl rfl rfl dVO_4 (by first | decide | (dsimp only; omega) | (simp [Value.category]; done) | (simp [Value.category]; omega)) (by first | decide | (dsimp only; omega) | (simp [Value.category]; done) | (simp [Value.category]; omega)) [] (by simp) ⟨rfl, rfl⟩
theorem con_VM (G : Glob Z a0) (a o : Nat) (mv : Value) (p : Int32) (h : Heap) (W : List Nat) (D : Vd Z h a o mv p) (hm : mv.isRef = true) : Ow.Con l Z EL1 bb (⟨"com/example/congruent/congruent/verify/Verdict", "message", "()Ljava/lang/String;"⟩ : MethodName) prog_26_method_8_code 1 (Option.some (Jvm.ClassFile.FieldType.object "java/lang/String")) [] rm0 #[.ref a] h W (fun v h' W' => v = some mv ∧ h' = h) := by
  refine Ow.Con.intro (a0 := a0) pn_10 (ewG G) (saG G) bbG [.val (.ref a)] (by first | rfl | (simp [argsToLocals, Value.category]; done)) ?_
  intro p e s m below meth c C hO
  refine Ow.aloadN C dVM_0 (pc' := 1) rfl rfl rfl ?_
  refine Ow.getF C (tw52 G.1) D.2.2.1 dVM_1 (pc' := 4) rfl ?_
  refine Ow.retA C rfl rfl hm dVM_4 (by decide) (by decide) [] (by simp) ⟨rfl, rfl⟩
theorem con_VP (G : Glob Z a0) (a o : Nat) (mv : Value) (p : Int32) (h : Heap) (W : List Nat) (D : Vd Z h a o mv p) (hp : p = 0 ∨ p = 1) : Ow.Con l Z EL1 bb (⟨"com/example/congruent/congruent/verify/Verdict", "partial", "()Z"⟩ : MethodName) prog_26_method_9_code 1 (Option.some Jvm.ClassFile.FieldType.boolean) [] rm0 #[.ref a] h W (fun v h' W' => v = some (.int p) ∧ h' = h) := by
  refine Ow.Con.intro (a0 := a0) pn_11 (ewG G) (saG G) bbG [.val (.ref a)] (by first | rfl | (simp [argsToLocals, Value.category]; done)) ?_
  intro p e s m below meth c C hO
  refine Ow.aloadN C dVP_0 (pc' := 1) rfl rfl rfl ?_
  refine Ow.getF C (tw54 G.1) D.2.2.2 dVP_1 (pc' := 4) rfl ?_
  refine Ow.retN C (t := .boolean) rfl (by simp) dVP_4 (by first | decide | (dsimp only; omega) | (simp [Value.category]; done) | (simp [Value.category]; omega)) (by first | decide | (dsimp only; omega) | (simp [Value.category]; done) | (simp [Value.category]; omega)) [] (by simp) ⟨by rw [Ow.nar01 hp], rfl⟩
abbrev rmOP : Room := { frames := 3, cells := 1, slots := 3, locals := 40 }
set_option maxHeartbeats 4000000 in
theorem con_OP (G : Glob Z a0) (a o : Nat) (mv : Value) (p : Int32) (h : Heap) (W : List Nat) (D : Vd Z h a o mv p) (hm : Msg Z h mv) : Ow.Con l Z EL1 bb (⟨"com/example/congruent/congruent/verify/Verdict", "ofPartialText", "()Lcom/example/congruent/congruent/verify/Verdict;"⟩ : MethodName) prog_26_method_3_code 1 (Option.some (Jvm.ClassFile.FieldType.object "com/example/congruent/congruent/verify/Verdict")) [] rmOP #[.ref a] h W (fun v h' W' => ∃ r : Nat, v = some (.ref r) ∧ Keep h h' [] ∧ Vd Z h' r o mv 1) := by
  refine Ow.Con.intro (a0 := a0) pn_12 (ewG G) (saG G) bbG [.val (.ref a)] (by first | rfl | (simp [argsToLocals, Value.category]; done)) ?_
  intro p e s m below meth c C hO
  refine Ow.newO C (tw61 G.1) (tw39 G.1) (tw40 G.1) dOP_0 (pc' := 3) rfl (by first | decide | (dsimp only; omega) | (simp [Value.category]; done) | (simp [Value.category]; omega)) (by first | decide | (dsimp only; omega) | (simp [Value.category]; done) | (simp [Value.category]; omega)) (fun h1 a1 s1 z1 l1 E1 ⟨A1, D1⟩ => ?_)
  refine Ow.dup C dOP_3 (pc' := 4) rfl rfl ?_
  refine Ow.aloadN C dOP_4 (pc' := 5) rfl rfl rfl ?_
  have D1' := D.keep (Ow.Keep.z E1) nin0
  refine Ow.getF C (tw50 G.1) D1'.2.1 dOP_5 (pc' := 8) rfl ?_
  refine Ow.aloadN C dOP_8 (pc' := 9) rfl rfl rfl ?_
  refine Ow.getF C (tw52 G.1) D1'.2.2.1 dOP_9 (pc' := 12) rfl ?_
  refine Ow.iconst C (1 : Int32) dOP_12 (pc' := 13) rfl rfl ?_
  refine Ow.callI C rfl (tw62 G.1) (tw42 G.1) (tw40 G.1) (tw43 G.1) (by decide) (con_VI G a1 o mv 1 h1 _ _ _ _ A1 (D1 (Or.inr (tw51 G.1)) (ty := .object OC) (by decide)) (D1 (Or.inr (tw53 G.1)) (ty := .object "java/lang/String") (by decide)) (D1 (Or.inr (tw55 G.1)) (ty := .boolean) (by decide)) (by simp) hm.ref (Or.inr rfl)) (fun _ q => q) pd_5 rfl rfl rfl dOP_13 (pc' := 16) rfl (Wt := 1) (Nat.le_refl _) (by first | decide | (dsimp only; omega) | (simp [Value.category]; done) | (simp [Value.category]; omega)) (by first | decide | (dsimp only; omega) | (simp [Value.category]; done) | (simp [Value.category]; omega)) (by first | decide | (dsimp only; omega) | (simp [Value.category]; done) | (simp [Value.category]; omega)) (by first | decide | (dsimp only; omega) | (simp [Value.category]; done) | (simp [Value.category]; omega)) (fun v2 h2 W2 ⟨e2, K2, D2⟩ s2 => ?_)
  subst e2
  dsimp only [Option.toList, List.cons_append, List.nil_append]
  refine Ow.retA C rfl rfl rfl dOP_16 (by first | decide | (dsimp only; omega) | (simp [Value.category]; done) | (simp [Value.category]; omega)) (by first | decide | (dsimp only; omega) | (simp [Value.category]; done) | (simp [Value.category]; omega)) [] (by simp) ⟨a1, rfl, (Ow.Keep.z E1).trans K2 (fun z hz => Or.inr (by rw [List.mem_singleton.mp hz]; omega)), D2⟩
abbrev rmST : Room := { frames := 1, cells := 0, slots := 0, locals := 14 }
set_option maxHeartbeats 4000000 in
theorem con_ST (G : Glob Z a0) (mv : Value) (h : Heap) (W : List Nat) (hm : Msg Z h mv) : Ow.Con l Z EL1 bb (⟨"com/example/congruent/congruent/verify/VerdictOfPartialTextPinLaw", "sameText", "(Ljava/lang/String;Ljava/lang/String;)Z"⟩ : MethodName) method_3_code 2 (Option.some Jvm.ClassFile.FieldType.boolean) [] rmST #[mv, mv] h W (fun v h' W' => v = some (.int 1) ∧ h' = h) := by
  rcases hm with rfl | ⟨a, rfl, E⟩
  · refine Ow.Con.intro (a0 := a0) pn_13 (ewG G) (saG G) bbG [.val .null, .val .null] (by first | rfl | (simp [argsToLocals, Value.category]; done)) ?_
    intro p e s m below meth c C hO
    refine Ow.aloadN C dST_0 (pc' := 1) rfl rfl rfl ?_
    refine Ow.ifnonnullN C dST_1 (pc' := 4) rfl ?_
    refine Ow.aloadN C dST_4 (pc' := 5) rfl rfl rfl ?_
    refine Ow.ifnonnullN C dST_5 (pc' := 8) rfl ?_
    refine Ow.iconst C (1 : Int32) dST_8 (pc' := 9) rfl rfl ?_
    refine Ow.goto C 13 dST_9 (by decide) (by decide) ?_
    refine Ow.retN C (t := .boolean) rfl (by simp) dST_13 (by first | decide | (dsimp only; omega) | (simp [Value.category]; done) | (simp [Value.category]; omega)) (by first | decide | (dsimp only; omega) | (simp [Value.category]; done) | (simp [Value.category]; omega)) [] (by simp) ⟨rfl, rfl⟩
  · refine Ow.Con.intro (a0 := a0) pn_13 (ewG G) (saG G) bbG [.val (.ref a), .val (.ref a)] (by first | rfl | (simp [argsToLocals, Value.category]; done)) ?_
    intro p e s m below meth c C hO
    refine Ow.aloadN C dST_0 (pc' := 1) rfl rfl rfl ?_
    refine Ow.ifnonnullY C 14 dST_1 (by decide) (by decide) ?_
    refine Ow.aloadN C dST_14 (pc' := 15) rfl rfl rfl ?_
    refine Ow.aloadN C dST_15 (pc' := 16) rfl rfl rfl ?_
    refine Ow.callV C (y := (⟨"java/lang/String", "equals", "(Ljava/lang/Object;)Z"⟩ : MethodName)) (z := (⟨"java/lang/String", "equals", "(Ljava/lang/Object;)Z"⟩ : MethodName)) (tw76 G.1) (tw77 G.1) (tw79 G.1) (tw79 G.1) (tw78 G.1) (tw11 G.1) (tw80 G.1) (by decide) E (con_EQs G a h W) (fun _ q => q) pd_6 rfl rfl rfl dST_16 (pc' := 19) rfl (Wt := 0) (Nat.le_refl _) (by first | decide | (dsimp only; omega) | (simp [Value.category]; done) | (simp [Value.category]; omega)) (by first | decide | (dsimp only; omega) | (simp [Value.category]; done) | (simp [Value.category]; omega)) (by first | decide | (dsimp only; omega) | (simp [Value.category]; done) | (simp [Value.category]; omega)) (by first | decide | (dsimp only; omega) | (simp [Value.category]; done) | (simp [Value.category]; omega)) (fun v1 h1 W1 ⟨e1, e1'⟩ s1 => ?_)
    subst e1 e1'
    dsimp only [Option.toList, List.cons_append, List.nil_append]
    refine Ow.retN C (t := .boolean) rfl (by simp) dST_19 (by first | decide | (dsimp only; omega) | (simp [Value.category]; done) | (simp [Value.category]; omega)) (by first | decide | (dsimp only; omega) | (simp [Value.category]; done) | (simp [Value.category]; omega)) [] (by simp) ⟨rfl, rfl⟩
theorem ch255 (x : Int32) : 0 ≤ (nar .char (nar .char (x &&& 255))).toInt ∧ (nar .char (nar .char (x &&& 255))).toInt < 256 := by
  have h := c_mask x 255 8 (by decide) (by decide)
  rw [Ow.nar_char, Ow.nar_char, h]
  omega
set_option maxHeartbeats 40000000 in
theorem con_law (G : Glob Z a0) (o c0 c1 fl : Int32) : Ow.Con l Z EL1 bb x code maxLocals ret tables_1 room_1 #[.int o, .int c0, .int c1, .int fl] Z.heap [] (fun v h' W' => v = some (.int 1)) := by
  refine Ow.Con.intro (a0 := a0) pn_14 (ewG G) (saG G) bbG [.val (.int o), .val (.int c0), .val (.int c1), .val (.int fl), .unset, .unset, .unset, .unset, .unset, .unset, .unset, .unset] (by first | rfl | (simp [argsToLocals, Value.category]; done)) ?_
  intro p e s m below meth c C0 hO
  have C : Ow.Cx p m meth c s Z a0 EL1 bb "com/example/congruent/congruent/verify/VerdictOfPartialTextPinLaw" "law" code 12 ret := C0
  -- from 82 on
  have J82 : ∀ (h : Heap) (out : Nat) (p5 p6 : Int32) (mv : Value) (o8 : Slot), (p5 = 0 ∨ p5 = 1) → Msg Z h mv → Ow.okS (some o8) = true →
      Ow.WP p l e room_1 s m #[.int o, .int c0, .int c1, .int fl] below meth c Z EL1 bb (fun v h' W' => v = some (.int 1)) 82 [.val (.int o), .val (.int c0), .val (.int c1), .val (.int fl), .val (.ref out), .val (.int p5), .val (.int p6), .val mv, o8, .unset, .unset, .unset] [] h [] 3 10 := by
    intro h out p5 p6 mv o8 hp5 hm ho8
    refine Ow.newO C (tw38 G.1) (tw39 G.1) (tw40 G.1) at_82 (pc' := 85) rfl (by first | decide | (dsimp only; omega) | (simp [Value.category]; done) | (simp [Value.category]; omega)) (by first | decide | (dsimp only; omega) | (simp [Value.category]; done) | (simp [Value.category]; omega)) (fun h1 a1 s1 z1 l1 E1 ⟨A1, D1⟩ => ?_)
    refine Ow.dup C at_85 (pc' := 86) rfl rfl ?_
    refine Ow.aload C at_86 (pc' := 88) rfl rfl rfl ?_
    refine Ow.aload C at_88 (pc' := 90) rfl rfl hm.ref ?_
    refine Ow.iload C at_90 (pc' := 92) rfl rfl ?_
    refine Ow.callI C rfl (tw41 G.1) (tw42 G.1) (tw40 G.1) (tw43 G.1) (by decide) (con_VI G a1 out mv p5 h1 _ _ _ _ A1 (D1 (Or.inr (tw51 G.1)) (ty := .object OC) (by decide)) (D1 (Or.inr (tw53 G.1)) (ty := .object "java/lang/String") (by decide)) (D1 (Or.inr (tw55 G.1)) (ty := .boolean) (by decide)) (by simp) hm.ref hp5) (fun _ q => q) pd_5 rfl rfl rfl at_92 (pc' := 95) rfl (Wt := 1) (Nat.le_refl _) (by first | decide | (dsimp only; omega) | (simp [Value.category]; done) | (simp [Value.category]; omega)) (by first | decide | (dsimp only; omega) | (simp [Value.category]; done) | (simp [Value.category]; omega)) (by first | decide | (dsimp only; omega) | (simp [Value.category]; done) | (simp [Value.category]; omega)) (by first | decide | (dsimp only; omega) | (simp [Value.category]; done) | (simp [Value.category]; omega)) (fun v2 h2 W2 ⟨e2, K2, D2⟩ s2 => ?_)
    subst e2
    dsimp only [Option.toList, List.cons_append, List.nil_append]
    have hm2 : Msg Z h2 mv := (hm.keep (Ow.Keep.z E1)).keep K2
    refine Ow.astore C at_95 (pc' := 97) rfl rfl ho8 ?_
    dsimp only [List.set]
    refine Ow.aload C at_97 (pc' := 99) rfl rfl rfl ?_
    refine Ow.callV C (y := (⟨"com/example/congruent/congruent/verify/Verdict", "ofPartialText", "()Lcom/example/congruent/congruent/verify/Verdict;"⟩ : MethodName)) (z := (⟨"com/example/congruent/congruent/verify/Verdict", "ofPartialText", "()Lcom/example/congruent/congruent/verify/Verdict;"⟩ : MethodName)) (tw56 G.1) (tw57 G.1) (tw59 G.1) (tw59 G.1) (tw58 G.1) (tw40 G.1) (tw60 G.1) (by decide) D2.1 (con_OP G a1 out mv p5 h2 _ D2 hm2) (fun _ q => q) pd_7 rfl rfl rfl at_99 (pc' := 102) rfl (Wt := 0) (Nat.le_refl _) (by first | decide | (dsimp only; omega) | (simp [Value.category]; done) | (simp [Value.category]; omega)) (by first | decide | (dsimp only; omega) | (simp [Value.category]; done) | (simp [Value.category]; omega)) (by first | decide | (dsimp only; omega) | (simp [Value.category]; done) | (simp [Value.category]; omega)) (by first | decide | (dsimp only; omega) | (simp [Value.category]; done) | (simp [Value.category]; omega)) (fun v3 h3 W3 ⟨r, e3, K3, D3⟩ s3 => ?_)
    subst e3
    dsimp only [Option.toList, List.cons_append, List.nil_append]
    have D2' := D2.keep K3 nin0
    have hm3 := hm2.keep K3
    refine Ow.astore C at_102 (pc' := 104) rfl rfl rfl ?_
    dsimp only [List.set]
    refine Ow.aload C at_104 (pc' := 106) rfl rfl rfl ?_
    refine Ow.ifnonnullY C 111 at_106 (by decide) (by decide) ?_
    refine Ow.aload C at_111 (pc' := 113) rfl rfl rfl ?_
    refine Ow.callV C (y := (⟨"com/example/congruent/congruent/verify/Verdict", "outcome", "()Lcom/example/congruent/congruent/verify/Verdict$Outcome;"⟩ : MethodName)) (z := (⟨"com/example/congruent/congruent/verify/Verdict", "outcome", "()Lcom/example/congruent/congruent/verify/Verdict$Outcome;"⟩ : MethodName)) (tw63 G.1) (tw64 G.1) (tw66 G.1) (tw66 G.1) (tw65 G.1) (tw40 G.1) (tw67 G.1) (by decide) D3.1 (con_VO G r out mv 1 h3 _ D3) (fun _ q => q) pd_8 rfl rfl rfl at_113 (pc' := 116) rfl (Wt := 0) (Nat.le_refl _) (by first | decide | (dsimp only; omega) | (simp [Value.category]; done) | (simp [Value.category]; omega)) (by first | decide | (dsimp only; omega) | (simp [Value.category]; done) | (simp [Value.category]; omega)) (by first | decide | (dsimp only; omega) | (simp [Value.category]; done) | (simp [Value.category]; omega)) (by first | decide | (dsimp only; omega) | (simp [Value.category]; done) | (simp [Value.category]; omega)) (fun v4 h4 W4 ⟨e4, e4'⟩ s4 => ?_)
    subst e4 e4'
    dsimp only [Option.toList, List.cons_append, List.nil_append]
    refine Ow.aload C at_116 (pc' := 118) rfl rfl rfl ?_
    refine Ow.acmpN C at_118 (pc' := 121) rfl rfl rfl (XT.aa_ne_f rfl) ?_
    refine Ow.aload C at_121 (pc' := 123) rfl rfl hm.ref ?_
    refine Ow.aload C at_123 (pc' := 125) rfl rfl rfl ?_
    refine Ow.callV C (y := (⟨"com/example/congruent/congruent/verify/Verdict", "message", "()Ljava/lang/String;"⟩ : MethodName)) (z := (⟨"com/example/congruent/congruent/verify/Verdict", "message", "()Ljava/lang/String;"⟩ : MethodName)) (tw68 G.1) (tw69 G.1) (tw71 G.1) (tw71 G.1) (tw70 G.1) (tw40 G.1) (tw72 G.1) (by decide) D3.1 (con_VM G r out mv 1 h4 _ D3 hm.ref) (fun _ q => q) pd_9 rfl rfl rfl at_125 (pc' := 128) rfl (Wt := 1) (by simp [XT.cat1 hm.ref]) (by first | decide | (dsimp only; omega) | (simp [Value.category]; done) | (simp [Value.category]; omega)) (by first | decide | (dsimp only; omega) | (simp [Value.category]; done) | (simp [Value.category]; omega)) (by first | decide | (dsimp only; omega) | (simp [Value.category]; done) | (simp [Value.category]; omega)) (by first | decide | (dsimp only; omega) | (simp [Value.category]; done) | (simp [Value.category]; omega)) (fun v5 h5 W5 ⟨e5, e5'⟩ s5 => ?_)
    subst e5 e5'
    dsimp only [Option.toList, List.cons_append, List.nil_append]
    refine Ow.callS C (tw73 G.1) (tw74 G.1) (tw3 G.1) (tw75 G.1) (by decide) (con_ST G mv h5 _ hm3) (fun _ q => q) pd_10 rfl rfl rfl at_128 (pc' := 131) rfl (Wt := 0) (Nat.le_refl _) (by first | decide | (dsimp only; omega) | (simp [Value.category]; done) | (simp [Value.category]; omega)) (by first | decide | (dsimp only; omega) | (simp [Value.category]; done) | (simp [Value.category]; omega)) (by first | decide | (dsimp only; omega) | (simp [Value.category]; done) | (simp [Value.category]; omega)) (by first | decide | (dsimp only; omega) | (simp [Value.category]; done) | (simp [Value.category]; omega)) (fun v6 h6 W6 ⟨e6, e6'⟩ s6 => ?_)
    subst e6 e6'
    dsimp only [Option.toList, List.cons_append, List.nil_append]
    refine Ow.ifCN C at_131 (pc' := 134) rfl (XT.i0_eq_f (by decide)) ?_
    refine Ow.aload C at_134 (pc' := 136) rfl rfl rfl ?_
    refine Ow.callV C (y := (⟨"com/example/congruent/congruent/verify/Verdict", "partial", "()Z"⟩ : MethodName)) (z := (⟨"com/example/congruent/congruent/verify/Verdict", "partial", "()Z"⟩ : MethodName)) (tw81 G.1) (tw82 G.1) (tw84 G.1) (tw84 G.1) (tw83 G.1) (tw40 G.1) (tw85 G.1) (by decide) D3.1 (con_VP G r out mv 1 h6 _ D3 (Or.inr rfl)) (fun _ q => q) pd_11 rfl rfl rfl at_136 (pc' := 139) rfl (Wt := 0) (Nat.le_refl _) (by first | decide | (dsimp only; omega) | (simp [Value.category]; done) | (simp [Value.category]; omega)) (by first | decide | (dsimp only; omega) | (simp [Value.category]; done) | (simp [Value.category]; omega)) (by first | decide | (dsimp only; omega) | (simp [Value.category]; done) | (simp [Value.category]; omega)) (by first | decide | (dsimp only; omega) | (simp [Value.category]; done) | (simp [Value.category]; omega)) (fun v7 h7 W7 ⟨e7, e7'⟩ s7 => ?_)
    subst e7 e7'
    dsimp only [Option.toList, List.cons_append, List.nil_append]
    refine Ow.ifCN C at_139 (pc' := 142) rfl (XT.i0_eq_f (by decide)) ?_
    refine Ow.iconst C (1 : Int32) at_142 (pc' := 143) rfl rfl ?_
    refine Ow.goto C 147 at_143 (by decide) (by decide) ?_
    refine Ow.istore C at_147 (pc' := 149) rfl rfl ?_
    dsimp only [List.set]
    refine Ow.aload C at_149 (pc' := 151) rfl rfl rfl ?_
    refine Ow.callV C (y := (⟨"com/example/congruent/congruent/verify/Verdict", "outcome", "()Lcom/example/congruent/congruent/verify/Verdict$Outcome;"⟩ : MethodName)) (z := (⟨"com/example/congruent/congruent/verify/Verdict", "outcome", "()Lcom/example/congruent/congruent/verify/Verdict$Outcome;"⟩ : MethodName)) (tw63 G.1) (tw64 G.1) (tw66 G.1) (tw66 G.1) (tw65 G.1) (tw40 G.1) (tw67 G.1) (by decide) D2'.1 (con_VO G a1 out mv p5 h7 _ D2') (fun _ q => q) pd_8 rfl rfl rfl at_151 (pc' := 154) rfl (Wt := 0) (Nat.le_refl _) (by first | decide | (dsimp only; omega) | (simp [Value.category]; done) | (simp [Value.category]; omega)) (by first | decide | (dsimp only; omega) | (simp [Value.category]; done) | (simp [Value.category]; omega)) (by first | decide | (dsimp only; omega) | (simp [Value.category]; done) | (simp [Value.category]; omega)) (by first | decide | (dsimp only; omega) | (simp [Value.category]; done) | (simp [Value.category]; omega)) (fun v8 h8 W8 ⟨e8, e8'⟩ s8 => ?_)
    subst e8 e8'
    dsimp only [Option.toList, List.cons_append, List.nil_append]
    refine Ow.aload C at_154 (pc' := 156) rfl rfl rfl ?_
    refine Ow.acmpN C at_156 (pc' := 159) rfl rfl rfl (XT.aa_ne_f rfl) ?_
    refine Ow.aload C at_159 (pc' := 161) rfl rfl hm.ref ?_
    refine Ow.aload C at_161 (pc' := 163) rfl rfl rfl ?_
    refine Ow.callV C (y := (⟨"com/example/congruent/congruent/verify/Verdict", "message", "()Ljava/lang/String;"⟩ : MethodName)) (z := (⟨"com/example/congruent/congruent/verify/Verdict", "message", "()Ljava/lang/String;"⟩ : MethodName)) (tw68 G.1) (tw69 G.1) (tw71 G.1) (tw71 G.1) (tw70 G.1) (tw40 G.1) (tw72 G.1) (by decide) D2'.1 (con_VM G a1 out mv p5 h8 _ D2' hm.ref) (fun _ q => q) pd_9 rfl rfl rfl at_163 (pc' := 166) rfl (Wt := 1) (by simp [XT.cat1 hm.ref]) (by first | decide | (dsimp only; omega) | (simp [Value.category]; done) | (simp [Value.category]; omega)) (by first | decide | (dsimp only; omega) | (simp [Value.category]; done) | (simp [Value.category]; omega)) (by first | decide | (dsimp only; omega) | (simp [Value.category]; done) | (simp [Value.category]; omega)) (by first | decide | (dsimp only; omega) | (simp [Value.category]; done) | (simp [Value.category]; omega)) (fun v9 h9 W9 ⟨e9, e9'⟩ s9 => ?_)
    subst e9 e9'
    dsimp only [Option.toList, List.cons_append, List.nil_append]
    refine Ow.callS C (tw73 G.1) (tw74 G.1) (tw3 G.1) (tw75 G.1) (by decide) (con_ST G mv h9 _ hm3) (fun _ q => q) pd_10 rfl rfl rfl at_166 (pc' := 169) rfl (Wt := 0) (Nat.le_refl _) (by first | decide | (dsimp only; omega) | (simp [Value.category]; done) | (simp [Value.category]; omega)) (by first | decide | (dsimp only; omega) | (simp [Value.category]; done) | (simp [Value.category]; omega)) (by first | decide | (dsimp only; omega) | (simp [Value.category]; done) | (simp [Value.category]; omega)) (by first | decide | (dsimp only; omega) | (simp [Value.category]; done) | (simp [Value.category]; omega)) (fun v10 h10 W10 ⟨e10, e10'⟩ s10 => ?_)
    subst e10 e10'
    dsimp only [Option.toList, List.cons_append, List.nil_append]
    refine Ow.ifCN C at_169 (pc' := 172) rfl (XT.i0_eq_f (by decide)) ?_
    refine Ow.aload C at_172 (pc' := 174) rfl rfl rfl ?_
    refine Ow.callV C (y := (⟨"com/example/congruent/congruent/verify/Verdict", "partial", "()Z"⟩ : MethodName)) (z := (⟨"com/example/congruent/congruent/verify/Verdict", "partial", "()Z"⟩ : MethodName)) (tw81 G.1) (tw82 G.1) (tw84 G.1) (tw84 G.1) (tw83 G.1) (tw40 G.1) (tw85 G.1) (by decide) D2'.1 (con_VP G a1 out mv p5 h10 _ D2' hp5) (fun _ q => q) pd_11 rfl rfl rfl at_174 (pc' := 177) rfl (Wt := 0) (Nat.le_refl _) (by first | decide | (dsimp only; omega) | (simp [Value.category]; done) | (simp [Value.category]; omega)) (by first | decide | (dsimp only; omega) | (simp [Value.category]; done) | (simp [Value.category]; omega)) (by first | decide | (dsimp only; omega) | (simp [Value.category]; done) | (simp [Value.category]; omega)) (by first | decide | (dsimp only; omega) | (simp [Value.category]; done) | (simp [Value.category]; omega)) (fun v11 h11 W11 ⟨e11, e11'⟩ s11 => ?_)
    subst e11 e11'
    dsimp only [Option.toList, List.cons_append, List.nil_append]
    refine Ow.iload C at_177 (pc' := 179) rfl rfl ?_
    refine Ow.icmpN C at_179 (pc' := 182) rfl (XT.ii_ne_f rfl) ?_
    refine Ow.iconst C (1 : Int32) at_182 (pc' := 183) rfl rfl ?_
    refine Ow.goto C 187 at_183 (by decide) (by decide) ?_
    refine Ow.istore C at_187 (pc' := 189) rfl rfl ?_
    dsimp only [List.set]
    refine Ow.iload C at_189 (pc' := 191) rfl rfl ?_
    refine Ow.ifCN C at_191 (pc' := 194) rfl (XT.i0_eq_f (by decide)) ?_
    refine Ow.iload C at_194 (pc' := 196) rfl rfl ?_
    refine Ow.ifCN C at_196 (pc' := 199) rfl (XT.i0_eq_f (by decide)) ?_
    refine Ow.iconst C (1 : Int32) at_199 (pc' := 200) rfl rfl ?_
    refine Ow.goto C 204 at_200 (by decide) (by decide) ?_
    refine Ow.retN C (t := .boolean) rfl (by simp) at_204 (by first | decide | (dsimp only; omega) | (simp [Value.category]; done) | (simp [Value.category]; omega)) (by first | decide | (dsimp only; omega) | (simp [Value.category]; done) | (simp [Value.category]; omega)) [] (by simp) rfl
  -- from 41 on: with a message or without
  have J41 : ∀ (h : Heap) (out : Nat) (p5 p6 : Int32), (p5 = 0 ∨ p5 = 1) →
      Ow.WP p l e room_1 s m #[.int o, .int c0, .int c1, .int fl] below meth c Z EL1 bb (fun v h' W' => v = some (.int 1)) 41 [.val (.int o), .val (.int c0), .val (.int c1), .val (.int fl), .val (.ref out), .val (.int p5), .val (.int p6), .val .null, .unset, .unset, .unset, .unset] [] h [] 0 0 := by
    intro h out p5 p6 hp5
    refine Ow.iload C at_41 (pc' := 43) rfl rfl ?_
    refine Ow.ifC C 82 46 at_43 (Ow.hNe _) (by decide) (by decide) rfl (fun hc => ?_) (fun hc => ?_)
    · exact (J82 h out p5 p6 .null .unset hp5 (Or.inl rfl) rfl).room (by decide) (by decide)
    · refine Ow.iconst C (2 : Int32) at_46 (pc' := 47) rfl rfl ?_
      refine Ow.newarr C (ty := .char) (cap := 2) rfl rfl (tw8 G.1) at_47 (pc' := 49) rfl rfl (by decide) (by first | decide | (dsimp only; omega) | (simp [Value.category]; done) | (simp [Value.category]; omega)) (by first | decide | (dsimp only; omega) | (simp [Value.category]; done) | (simp [Value.category]; omega)) (fun h1 a1 s1 z1 l1 E1 V1 => ?_)
      refine Ow.astore C at_49 (pc' := 51) rfl rfl rfl ?_
      dsimp only [List.set]
      refine Ow.aload C at_51 (pc' := 53) rfl rfl rfl ?_
      refine Ow.iconst C (0 : Int32) at_53 (pc' := 54) rfl rfl ?_
      refine Ow.iloadN C at_54 (pc' := 55) rfl rfl ?_
      refine Ow.sipush C (255 : Int32) at_55 (pc' := 58) rfl rfl ?_
      refine Ow.iand C at_58 (pc' := 59) rfl ?_
      refine Ow.i2c C at_59 (pc' := 60) rfl ?_
      refine Ow.castore C V1 (i := 0) rfl (by first | decide | (simp; done)) (by first | assumption | (simp; done) | (simp [*]; done)) at_60 (pc' := 61) rfl (fun h2 K2 V2 => ?_)
      refine Ow.aload C at_61 (pc' := 63) rfl rfl rfl ?_
      refine Ow.iconst C (1 : Int32) at_63 (pc' := 64) rfl rfl ?_
      refine Ow.iloadN C at_64 (pc' := 65) rfl rfl ?_
      refine Ow.sipush C (255 : Int32) at_65 (pc' := 68) rfl rfl ?_
      refine Ow.iand C at_68 (pc' := 69) rfl ?_
      refine Ow.i2c C at_69 (pc' := 70) rfl ?_
      refine Ow.castore C V2 (i := 1) rfl (by first | decide | (simp; done)) (by first | assumption | (simp; done) | (simp [*]; done)) at_70 (pc' := 71) rfl (fun h3 K3 V3 => ?_)
      refine Ow.newO C (tw9 G.1) (tw10 G.1) (tw11 G.1) at_71 (pc' := 74) rfl (by first | decide | (dsimp only; omega) | (simp [Value.category]; done) | (simp [Value.category]; omega)) (by first | decide | (dsimp only; omega) | (simp [Value.category]; done) | (simp [Value.category]; omega)) (fun h4 a4 s4 z4 l4 E4 ⟨A4, D4⟩ => ?_)
      refine Ow.dup C at_74 (pc' := 75) rfl rfl ?_
      refine Ow.aload C at_75 (pc' := 77) rfl rfl rfl ?_
      refine Ow.callI C rfl (tw12 G.1) (tw13 G.1) (tw11 G.1) (tw14 G.1) (by decide) (con_I0 G 2 a4 a1 [_, _] h4 _ _ _ A4 (D4 (Or.inr (tw37 G.1)) (ty := .array .byte) (by decide)) (D4 (Or.inr (tw35 G.1)) (ty := .byte) (by decide)) (by simp) (V3.ext E4) (by simp) (by intro z hz; simp at hz; rcases hz with rfl | rfl <;> exact ch255 _) (by simp) (by decide)) (fun _ q => q) pd_12 rfl rfl rfl at_77 (pc' := 80) rfl (Wt := 1) (Nat.le_refl _) (by first | decide | (dsimp only; omega) | (simp [Value.category]; done) | (simp [Value.category]; omega)) (by first | decide | (dsimp only; omega) | (simp [Value.category]; done) | (simp [Value.category]; omega)) (by first | decide | (dsimp only; omega) | (simp [Value.category]; done) | (simp [Value.category]; omega)) (by first | decide | (dsimp only; omega) | (simp [Value.category]; done) | (simp [Value.category]; omega)) (fun v5 h5 W5 ⟨e5, d5, S5, K5, hd5⟩ s5 => ?_)
      subst e5
      dsimp only [Option.toList, List.cons_append, List.nil_append]
      refine Ow.astore C at_80 (pc' := 82) rfl rfl rfl ?_
      dsimp only [List.set]
      exact ((J82 h5 out p5 p6 (.ref a4) _ hp5 (Or.inr ⟨a4, rfl, S5.1⟩) rfl).wk (by simp)).room (by decide) (by decide)
  have J25 : ∀ (h : Heap) (out : Nat) (p5 : Int32), (p5 = 0 ∨ p5 = 1) →
      Ow.WP p l e room_1 s m #[.int o, .int c0, .int c1, .int fl] below meth c Z EL1 bb (fun v h' W' => v = some (.int 1)) 25 [.val (.int o), .val (.int c0), .val (.int c1), .val (.int fl), .val (.ref out), .val (.int p5), .unset, .unset, .unset, .unset, .unset, .unset] [] h [] 0 0 := by
    intro h out p5 hp5
    refine Ow.iloadN C at_25 (pc' := 26) rfl rfl ?_
    refine Ow.iconst C (2 : Int32) at_26 (pc' := 27) rfl rfl ?_
    refine Ow.iand C at_27 (pc' := 28) rfl ?_
    refine Ow.ifC C 35 31 at_28 (Ow.hEq _) (by decide) (by decide) rfl (fun hc => ?_) (fun hc => ?_)
    · refine Ow.iconst C (0 : Int32) at_35 (pc' := 36) rfl rfl ?_
      refine Ow.istore C at_36 (pc' := 38) rfl rfl ?_
      dsimp only [List.set]
      refine Ow.aconstNull C at_38 (pc' := 39) rfl ?_
      refine Ow.astore C at_39 (pc' := 41) rfl rfl rfl ?_
      dsimp only [List.set]
      exact J41 h out p5 _ hp5
    · refine Ow.iconst C (1 : Int32) at_31 (pc' := 32) rfl rfl ?_
      refine Ow.goto C 36 at_32 (by decide) (by decide) ?_
      refine Ow.istore C at_36 (pc' := 38) rfl rfl ?_
      dsimp only [List.set]
      refine Ow.aconstNull C at_38 (pc' := 39) rfl ?_
      refine Ow.astore C at_39 (pc' := 41) rfl rfl rfl ?_
      dsimp only [List.set]
      exact J41 h out p5 _ hp5
  refine Ow.iloadN C at_0 (pc' := 1) rfl rfl ?_
  refine Ow.ldcI C (tw0 G.1) at_1 (pc' := 3) rfl ?_
  refine Ow.iand C at_3 (pc' := 4) rfl ?_
  refine Ow.bipush C (7 : Int32) at_4 (pc' := 6) rfl rfl ?_
  refine Ow.irem C at_6 (pc' := 7) rfl (by decide) ?_
  refine Ow.callS C (tw1 G.1) (tw2 G.1) (tw3 G.1) (tw4 G.1) (by decide) (con_PK G _ _ _) (fun _ q => q) pd_13 rfl rfl rfl at_7 (pc' := 10) rfl (Wt := 0) (Nat.le_refl _) (by first | decide | (dsimp only; omega) | (simp [Value.category]; done) | (simp [Value.category]; omega)) (by first | decide | (dsimp only; omega) | (simp [Value.category]; done) | (simp [Value.category]; omega)) (by first | decide | (dsimp only; omega) | (simp [Value.category]; done) | (simp [Value.category]; omega)) (by first | decide | (dsimp only; omega) | (simp [Value.category]; done) | (simp [Value.category]; omega)) (fun v1 h1 W1 ⟨⟨out, e1⟩, e1'⟩ s1 => ?_)
  subst e1 e1'
  dsimp only [Option.toList, List.cons_append, List.nil_append]
  refine Ow.astore C at_10 (pc' := 12) rfl rfl rfl ?_
  dsimp only [List.set]
  refine Ow.iloadN C at_12 (pc' := 13) rfl rfl ?_
  refine Ow.iconst C (1 : Int32) at_13 (pc' := 14) rfl rfl ?_
  refine Ow.iand C at_14 (pc' := 15) rfl ?_
  refine Ow.ifC C 22 18 at_15 (Ow.hEq _) (by decide) (by decide) rfl (fun hc => ?_) (fun hc => ?_)
  · refine Ow.iconst C (0 : Int32) at_22 (pc' := 23) rfl rfl ?_
    refine Ow.istore C at_23 (pc' := 25) rfl rfl ?_
    dsimp only [List.set]
    exact J25 _ out _ (Or.inl rfl)
  · refine Ow.iconst C (1 : Int32) at_18 (pc' := 19) rfl rfl ?_
    refine Ow.goto C 23 at_19 (by decide) (by decide) ?_
    refine Ow.istore C at_23 (pc' := 25) rfl rfl ?_
    dsimp only [List.set]
    exact J25 _ out _ (Or.inr rfl)
end Law
set_option maxRecDepth 65536 in
set_option maxHeartbeats 40000000 in
theorem comes_1 {Post : Tables → Env → Array Value → State → Outcome → State → Prop} (hpost : ∀ tb e args s v u, (limb_1_1.after args s (.returned v) u = true ∧ limb_1_2.after args s (.returned v) u = true ∧ True) → FrameEnd s (.returned v) u (Jvm.fieldLocs frame_1_writes args s ++ Jvm.arrayLocs frame_1_arrays args s ++ Jvm.staticLocs frame_1_statics s) 24 128 → Post tb e args s (.returned v) u) :
    ArmFor flags0 classFile x code maxLocals ret World_1 tables_1 room_1 Calls_1 rest_1 Pre_1 Post := by
  intro l hfl _ _ p e ha hc hk s m args below hf hA hF happ hP
  obtain ⟨hcalls, hrest, hpre⟩ := hP
  obtain ⟨-, -, -, hnamed, -, -, -, hat⟩ := (Spec.applies_iff hf).mp happ
  obtain ⟨hg, hn⟩ := and_e (Cond.before_iff.mp (show (Jvm.Cond.and given_1 narrow_1).before args s = true from hpre))
  obtain ⟨h1, h2⟩ := and_e hg
  obtain ⟨w0, w1, w2, w3, rfl⟩ : ∃ w0 w1 w2 w3 : Value, args = #[w0, w1, w2, w3] := by
    have hs : args.size = 4 := by simpa [Cond.value, given_1] using h1
    obtain ⟨L⟩ := args
    match L, hs with
    | [w0, w1, w2, w3], _ => exact ⟨w0, w1, w2, w3, rfl⟩
  have hw := fun d (hd : d ∈ tables_1) => atoms_spec (ws := Jvm.Cond.code x code maxLocals ret :: tables_1) hat d (List.mem_cons_of_mem _ hd)
  obtain ⟨hsets, hown0⟩ := atoms_of _ (rest_1_c_eq ▸ (show rest_1_c.before _ s = true from hrest))
  have hfit : Fit s := fun {y c} hc i hi => by
    obtain ⟨ha, rfl⟩ := Array.getElem?_eq_some_iff.mp hc
    have q := List.all_eq_true.mp ((Array.all_eq_true_iff_forall_mem.mp hF) _ (Array.getElem_mem ha)) i (List.mem_range.mpr hi)
    simpa [Array.getElem?_eq_getElem hi] using q
  obtain ⟨q0, h2⟩ := and_e h2
  obtain ⟨q1, h2⟩ := and_e h2
  obtain ⟨q2, h2⟩ := and_e h2
  have q3 := h2
  obtain ⟨i0, e0⟩ := is_v q0
  obtain rfl : w0 = (.int i0) := Option.some.inj e0
  obtain ⟨i1, e1⟩ := is_v q1
  obtain rfl : w1 = (.int i1) := Option.some.inj e1
  obtain ⟨i2, e2⟩ := is_v q2
  obtain rfl : w2 = (.int i2) := Option.some.inj e2
  obtain ⟨i3, e3⟩ := is_v q3
  obtain rfl : w3 = (.int i3) := Option.some.inj e3
  have n3 := not_v (Cond.before_iff.mp (hsets _ (List.mem_of_getElem? (i := 2) rfl)))
  obtain ⟨cv, ecv⟩ := is_v (Cond.before_iff.mp (hsets _ (List.mem_of_getElem? (i := 1) rfl)))
  have Scv : Sta s s.heap "java/lang/String" "COMPACT_STRINGS" "Z" (.int cv) := Sta.start ecv (Or.inl (hsets _ (List.mem_of_getElem? (i := 0) rfl)))
  have hcv : ¬ (cv = (0 : Int32)) := gotF (Cond.eq_ints ecv (Term.int_eval (0))) n3
  have hn' := hn
  obtain ⟨n0, hn'⟩ := and_e hn'
  obtain ⟨n1, hn'⟩ := and_e hn'
  obtain ⟨n2, hn'⟩ := and_e hn'
  obtain ⟨n4, hn'⟩ := and_e hn'
  obtain ⟨n5, hn'⟩ := and_e hn'
  obtain ⟨n6, n7⟩ := and_e hn'
  obtain ⟨x0, y0⟩ := exa_v n0
  obtain ⟨x1, y1⟩ := exa_v n1
  obtain ⟨x2, y2⟩ := exa_v n2
  obtain ⟨x4, y4⟩ := exa_v n4
  obtain ⟨x5, y5⟩ := exa_v n5
  obtain ⟨x6, y6⟩ := exa_v n6
  obtain ⟨x7, y7⟩ := exa_v n7
  have wz := hw _ (List.mem_of_getElem? (i := 6) rfl)
  have T0 : Sta s s.heap OC "SAME" OD (.ref x0) := Sta.start y0 (Or.inr ⟨wz, hw _ (List.mem_of_getElem? (i := 7) rfl)⟩)
  have T1 : Sta s s.heap OC "EVAL_ERROR" OD (.ref x1) := Sta.start y1 (Or.inr ⟨wz, hw _ (List.mem_of_getElem? (i := 87) rfl)⟩)
  have T2 : Sta s s.heap OC "NONDETERMINISTIC" OD (.ref x2) := Sta.start y2 (Or.inr ⟨wz, hw _ (List.mem_of_getElem? (i := 89) rfl)⟩)
  have T4 : Sta s s.heap OC "DIFFERENT" OD (.ref x4) := Sta.start y4 (Or.inr ⟨wz, hw _ (List.mem_of_getElem? (i := 91) rfl)⟩)
  have T5 : Sta s s.heap OC "REFUSED" OD (.ref x5) := Sta.start y5 (Or.inr ⟨wz, hw _ (List.mem_of_getElem? (i := 93) rfl)⟩)
  have T6 : Sta s s.heap OC "SYNTAX_ERROR" OD (.ref x6) := Sta.start y6 (Or.inr ⟨wz, hw _ (List.mem_of_getElem? (i := 95) rfl)⟩)
  have T7 : Sta s s.heap OC "UNDECIDED" OD (.ref x7) := Sta.start y7 (Or.inr ⟨wz, hw _ (List.mem_of_getElem? (i := 97) rfl)⟩)
  have G : Glob s _ := ⟨hw, ⟨cv, hcv, Scv⟩, by intro nm hnm; simp only [List.mem_cons, List.not_mem_nil, or_false] at hnm; rcases hnm with rfl | rfl | rfl | rfl | rfl | rfl | rfl; exact ⟨_, T0⟩; exact ⟨_, T4⟩; exact ⟨_, T2⟩; exact ⟨_, T5⟩; exact ⟨_, T6⟩; exact ⟨_, T1⟩; exact ⟨_, T7⟩⟩
  obtain ⟨n, o, h1, h2, h3, _, L, rfl, ⟨W', rfl, -, -, N⟩, -, hq, hq'⟩ := con_law G i0 i1 i2 i3 p e ha hc hk s m _ below hf ((Spec.applies_iff_loose hf).mp happ).1 ⟨rfl, State.Warmed39.refl s, rfl, (fun _ q => nomatch q), Old.start s, Ow.Own.nil⟩ trivial
  have hq := hq' rfl
  exact ⟨n, _, h1, h2, h3, hpost _ _ _ _ _ _ ⟨Cond.after_iff.mpr rfl, Cond.after_iff.mpr (eq_i res_at (Term.int_eval (1)) rfl), trivial⟩ ⟨hq.1, hq.2.1, (hq.2.2.sift fun y hy => Or.inr (N y hy)).mono (by decide) (by decide)⟩⟩
theorem main_1_1 : Claimed_1_1 := comes_1 fun _ _ _ _ _ _ h hF => ⟨h.1, hF⟩
theorem main_1_2 : Claimed_1_2 := comes_1 fun _ _ _ _ _ _ h hF => ⟨h.2.1, hF⟩

end Jvm.Pilot.@@N@@
namespace Jvm.Pilot.@@N@@
open Jvm Jvm.ClassFile Sem Op Lib Jvm.Free Jvm.Stand Jvm.Pilot.@@N@@.Jvm.D
/-! MADE BY PROGRAM (witnessworld.py) out of the Statement's table words and the real class files: 23 classes; the members and pool entries that the words name. The judged class is class 1, her method 3. -/
namespace start1
open Jvm.ClassFile
def u (s : String) : CpInfo := .utf8 (stringToUtf16 s)
/-- a pool by its gaps: so many unusable entries, then the entry; so many at the end -/
def gap : Nat → List CpInfo → List CpInfo
  | 0, r => r
  | n + 1, r => .unusable :: gap n r
def poolList (es : List (Nat × CpInfo)) (last : Nat) : List CpInfo := es.foldr (fun e r => gap e.1 (e.2 :: r)) (gap last [])
def pool (es : List (Nat × CpInfo)) (last : Nat) : Array CpInfo := ⟨poolList es last⟩
def fileOf (pool : Array CpInfo) (this : Nat) (attrs : Array Attribute := #[]) (ms : Array MethodInfo := #[]) (fl : Nat := 33) (sup : Nat := 0) (ifs : Array Nat := #[]) (fds : Array FieldInfo := #[]) : ClassFile where
  minorVersion := 0
  majorVersion := 65
  constantPool := pool
  accessFlags := fl
  thisClass := this
  superClass := sup
  interfaces := ifs
  fields := fds
  methods := ms
  attributes := attrs
def plain (name : String) (sup : Option ClassId) : Class where
  name := name
  kind := .ordinary
  loader := none
  accessFlags := 33
  super := sup
  interfaces := #[]
  cf := none
  fields := #[]
  methods := #[]
  instanceTypes := #[]
  staticTypes := #[]
  resolved := #[]
  callSites := []
  init := .initialized
  statics := none
  mirror := none

def pool0 : Array CpInfo := pool [(5, u "<init>"), (0, u "()V"), (1, .class_ 10), (1, u "java/lang/Object")] 113

def k0c0 : Code := { maxStack := 0, maxLocals := 1, code := object_method_1_code, exceptionTable := #[], attributes := #[] }
def k0m0 : Method := { name := "<init>", desc := "()V", sig := { parameters := [], returnType := none }, accessFlags := 1, code := some k0c0 }
/-- java/lang/Object -/
def k0 : Class := { plain "java/lang/Object" none with
  accessFlags := 33
  interfaces := #[]
  cf := some (fileOf pool0 8 #[] #[{ accessFlags := 1, nameIndex := 5, descriptorIndex := 6, attributes := #[] }] 33 0 #[] #[])
  fields := #[]
  methods := #[k0m0]
  instanceTypes := #[]
  staticTypes := #[]
  resolved := Array.replicate 124 none
  statics := none }

def pool1 : Array CpInfo := pool [(2, .class_ 4), (1, u "java/lang/Object"), (0, u "<init>"), (0, u "()V"), (0, .fieldref 8 9), (0, .class_ 10), (0, .nameAndType 11 12), (0, u "com/example/congruent/congruent/verify/Verdict$Outcome"), (0, u "SAME"), (0, u "Lcom/example/congruent/congruent/verify/Verdict$Outcome;"), (0, .fieldref 8 14), (0, .nameAndType 15 12), (0, u "DIFFERENT"), (0, .fieldref 8 17), (0, .nameAndType 18 12), (0, u "NONDETERMINISTIC"), (0, .fieldref 8 20), (0, .nameAndType 21 12), (0, u "REFUSED"), (0, .fieldref 8 23), (0, .nameAndType 24 12), (0, u "SYNTAX_ERROR"), (0, .fieldref 8 26), (0, .nameAndType 27 12), (0, u "EVAL_ERROR"), (0, .fieldref 8 29), (0, .nameAndType 30 12), (0, u "UNDECIDED"), (0, .methodref 32 33), (0, .class_ 34), (0, .nameAndType 35 36), (0, u "java/lang/String"), (0, u "equals"), (0, u "(Ljava/lang/Object;)Z"), (0, .integer 2147483647), (0, .methodref 39 40), (0, .class_ 41), (0, .nameAndType 42 43), (0, u "com/example/congruent/congruent/verify/VerdictOfPartialTextPinLaw"), (0, u "pick"), (0, u "(I)Lcom/example/congruent/congruent/verify/Verdict$Outcome;"), (0, .methodref 32 45), (0, .nameAndType 5 46), (0, u "([C)V"), (0, .class_ 48), (0, u "com/example/congruent/congruent/verify/Verdict"), (0, .methodref 47 50), (0, .nameAndType 5 51), (0, u "(Lcom/example/congruent/congruent/verify/Verdict$Outcome;Ljava/lang/String;Z)V"), (0, .methodref 47 53), (0, .nameAndType 54 55), (0, u "ofPartialText"), (0, u "()Lcom/example/congruent/congruent/verify/Verdict;"), (0, .methodref 47 57), (0, .nameAndType 58 59), (0, u "outcome"), (0, u "()Lcom/example/congruent/congruent/verify/Verdict$Outcome;"), (0, .methodref 47 61), (0, .nameAndType 62 63), (0, u "message"), (0, u "()Ljava/lang/String;"), (0, .methodref 39 65), (0, .nameAndType 66 67), (0, u "sameText"), (0, u "(Ljava/lang/String;Ljava/lang/String;)Z"), (0, .methodref 47 69), (0, .nameAndType 70 71), (0, u "partial"), (0, u "()Z"), (3, u "law"), (0, u "(IIII)Z")] 4

def k1m0 : Method := { name := "<init>", desc := "()V", sig := { parameters := [], returnType := none }, accessFlags := 1, code := none }
def k1c1 : Code := { maxStack := 2, maxLocals := 1, code := method_2_code, exceptionTable := #[], attributes := #[] }
def k1m1 : Method := { name := "pick", desc := "(I)Lcom/example/congruent/congruent/verify/Verdict$Outcome;", sig := { parameters := [.int], returnType := some (.object "com/example/congruent/congruent/verify/Verdict$Outcome") }, accessFlags := 10, code := some k1c1 }
def k1c2 : Code := { maxStack := 2, maxLocals := 2, code := method_3_code, exceptionTable := #[], attributes := #[] }
def k1m2 : Method := { name := "sameText", desc := "(Ljava/lang/String;Ljava/lang/String;)Z", sig := { parameters := [(.object "java/lang/String"), (.object "java/lang/String")], returnType := some .boolean }, accessFlags := 10, code := some k1c2 }
def k1c3 : Code := { maxStack := 5, maxLocals := 12, code := code, exceptionTable := #[], attributes := #[] }
def k1m3 : Method := { name := "law", desc := "(IIII)Z", sig := { parameters := [.int, .int, .int, .int], returnType := some .boolean }, accessFlags := 9, code := some k1c3 }
/-- com/example/congruent/congruent/verify/VerdictOfPartialTextPinLaw -/
def k1 : Class := { plain "com/example/congruent/congruent/verify/VerdictOfPartialTextPinLaw" (some 0) with
  accessFlags := 49
  interfaces := #[]
  cf := some (fileOf pool1 39 #[] #[{ accessFlags := 1, nameIndex := 5, descriptorIndex := 6, attributes := #[] }, { accessFlags := 10, nameIndex := 42, descriptorIndex := 43, attributes := #[] }, { accessFlags := 10, nameIndex := 66, descriptorIndex := 67, attributes := #[] }, { accessFlags := 9, nameIndex := 75, descriptorIndex := 76, attributes := #[] }] 49 2 #[] #[])
  fields := #[]
  methods := #[k1m0, k1m1, k1m2, k1m3]
  instanceTypes := #[]
  staticTypes := #[]
  resolved := Array.replicate 81 none
  statics := none }

def pool2 : Array CpInfo := pool [(1, .class_ 2), (0, u "java/lang/constant/Constable"), (0, .class_ 4), (0, u "java/lang/Object")] 6

/-- java/lang/constant/Constable -/
def k2 : Class := { plain "java/lang/constant/Constable" (some 0) with
  accessFlags := 1537
  interfaces := #[]
  cf := some (fileOf pool2 1 #[] #[] 1537 3 #[] #[])
  fields := #[]
  methods := #[]
  instanceTypes := #[]
  staticTypes := #[]
  resolved := Array.replicate 11 none
  statics := none }

def pool3 : Array CpInfo := pool [(1, .class_ 2), (0, u "java/lang/Comparable"), (0, .class_ 4), (0, u "java/lang/Object")] 7

/-- java/lang/Comparable -/
def k3 : Class := { plain "java/lang/Comparable" (some 0) with
  accessFlags := 1537
  interfaces := #[]
  cf := some (fileOf pool3 1 #[] #[] 1537 3 #[] #[])
  fields := #[]
  methods := #[]
  instanceTypes := #[]
  staticTypes := #[]
  resolved := Array.replicate 12 none
  statics := none }

def pool4 : Array CpInfo := pool [(1, .class_ 2), (0, u "java/io/Serializable"), (0, .class_ 4), (0, u "java/lang/Object")] 2

/-- java/io/Serializable -/
def k4 : Class := { plain "java/io/Serializable" (some 0) with
  accessFlags := 1537
  interfaces := #[]
  cf := some (fileOf pool4 1 #[] #[] 1537 3 #[] #[])
  fields := #[]
  methods := #[]
  instanceTypes := #[]
  staticTypes := #[]
  resolved := Array.replicate 7 none
  statics := none }

def pool5 : Array CpInfo := pool [(2, .class_ 4), (1, u "java/lang/Enum"), (0, u "name"), (0, u "Ljava/lang/String;"), (2, u "ordinal"), (0, u "I"), (1, .class_ 14), (1, u "java/lang/Object"), (4, u "hash"), (86, .class_ 108), (1, u "java/lang/Enum$EnumDesc"), (2, .class_ 112), (0, u "java/lang/constant/Constable"), (0, .class_ 114), (0, u "java/lang/Comparable"), (0, .class_ 116), (0, u "java/io/Serializable")] 87

/-- java/lang/Enum -/
def k5 : Class := { plain "java/lang/Enum" (some 0) with
  accessFlags := 1057
  interfaces := #[2, 3, 4]
  cf := some (fileOf pool5 2 #[.nestMembers #[106]] #[] 1057 12 #[111, 113, 115] #[{ accessFlags := 18, nameIndex := 5, descriptorIndex := 6, attributes := #[] }, { accessFlags := 18, nameIndex := 9, descriptorIndex := 10, attributes := #[] }, { accessFlags := 2, nameIndex := 19, descriptorIndex := 10, attributes := #[] }])
  fields := #[{ name := "name", type := (.object "java/lang/String"), accessFlags := 18, slot := 0, constantValue := 0 }, { name := "ordinal", type := .int, accessFlags := 18, slot := 1, constantValue := 0 }, { name := "hash", type := .int, accessFlags := 2, slot := 2, constantValue := 0 }]
  methods := #[]
  instanceTypes := #[(.object "java/lang/String"), .int, .int]
  staticTypes := #[]
  resolved := Array.replicate 204 none
  statics := none }

def pool6 : Array CpInfo := pool [(1, .class_ 2), (0, u "com/example/congruent/congruent/verify/Verdict$Outcome"), (2, u "SAME"), (0, u "Lcom/example/congruent/congruent/verify/Verdict$Outcome;"), (2, u "DIFFERENT"), (2, u "NONDETERMINISTIC"), (2, u "REFUSED"), (2, u "SYNTAX_ERROR"), (2, u "EVAL_ERROR"), (2, u "UNDECIDED"), (2, u "$VALUES"), (0, u "[Lcom/example/congruent/congruent/verify/Verdict$Outcome;"), (6, .class_ 37), (1, u "java/lang/Enum"), (8, u "word"), (0, u "Ljava/lang/String;"), (2, u "field"), (46, .class_ 98), (0, u "com/example/congruent/congruent/verify/Verdict")] 2

/-- com/example/congruent/congruent/verify/Verdict$Outcome -/
def k6 : Class := { plain "com/example/congruent/congruent/verify/Verdict$Outcome" (some 5) with
  accessFlags := 16433
  interfaces := #[]
  cf := some (fileOf pool6 1 #[.nestHost 97] #[] 16433 35 #[] #[{ accessFlags := 16409, nameIndex := 5, descriptorIndex := 6, attributes := #[] }, { accessFlags := 16409, nameIndex := 9, descriptorIndex := 6, attributes := #[] }, { accessFlags := 16409, nameIndex := 12, descriptorIndex := 6, attributes := #[] }, { accessFlags := 16409, nameIndex := 15, descriptorIndex := 6, attributes := #[] }, { accessFlags := 16409, nameIndex := 18, descriptorIndex := 6, attributes := #[] }, { accessFlags := 16409, nameIndex := 21, descriptorIndex := 6, attributes := #[] }, { accessFlags := 16409, nameIndex := 24, descriptorIndex := 6, attributes := #[] }, { accessFlags := 18, nameIndex := 46, descriptorIndex := 47, attributes := #[] }, { accessFlags := 18, nameIndex := 50, descriptorIndex := 47, attributes := #[] }, { accessFlags := 4122, nameIndex := 27, descriptorIndex := 28, attributes := #[] }])
  fields := #[{ name := "SAME", type := (.object "com/example/congruent/congruent/verify/Verdict$Outcome"), accessFlags := 16409, slot := 0, constantValue := 0 }, { name := "DIFFERENT", type := (.object "com/example/congruent/congruent/verify/Verdict$Outcome"), accessFlags := 16409, slot := 1, constantValue := 0 }, { name := "NONDETERMINISTIC", type := (.object "com/example/congruent/congruent/verify/Verdict$Outcome"), accessFlags := 16409, slot := 2, constantValue := 0 }, { name := "REFUSED", type := (.object "com/example/congruent/congruent/verify/Verdict$Outcome"), accessFlags := 16409, slot := 3, constantValue := 0 }, { name := "SYNTAX_ERROR", type := (.object "com/example/congruent/congruent/verify/Verdict$Outcome"), accessFlags := 16409, slot := 4, constantValue := 0 }, { name := "EVAL_ERROR", type := (.object "com/example/congruent/congruent/verify/Verdict$Outcome"), accessFlags := 16409, slot := 5, constantValue := 0 }, { name := "UNDECIDED", type := (.object "com/example/congruent/congruent/verify/Verdict$Outcome"), accessFlags := 16409, slot := 6, constantValue := 0 }, { name := "word", type := (.object "java/lang/String"), accessFlags := 18, slot := 3, constantValue := 0 }, { name := "field", type := (.object "java/lang/String"), accessFlags := 18, slot := 4, constantValue := 0 }, { name := "$VALUES", type := (.array (.object "com/example/congruent/congruent/verify/Verdict$Outcome")), accessFlags := 4122, slot := 7, constantValue := 0 }]
  methods := #[]
  instanceTypes := #[(.object "java/lang/String"), .int, .int, (.object "java/lang/String"), (.object "java/lang/String")]
  staticTypes := #[(.object "com/example/congruent/congruent/verify/Verdict$Outcome"), (.object "com/example/congruent/congruent/verify/Verdict$Outcome"), (.object "com/example/congruent/congruent/verify/Verdict$Outcome"), (.object "com/example/congruent/congruent/verify/Verdict$Outcome"), (.object "com/example/congruent/congruent/verify/Verdict$Outcome"), (.object "com/example/congruent/congruent/verify/Verdict$Outcome"), (.object "com/example/congruent/congruent/verify/Verdict$Outcome"), (.array (.object "com/example/congruent/congruent/verify/Verdict$Outcome"))]
  resolved := Array.replicate 101 none
  statics := some 0 }

def pool7 : Array CpInfo := pool [(2, .class_ 4), (1, u "java/lang/CharSequence"), (42, .class_ 48), (0, u "java/lang/CharSequence$1CodePointIterator"), (10, .class_ 60), (0, u "java/lang/CharSequence$1CharIterator"), (5, .class_ 67), (0, u "java/lang/Object")] 63

/-- java/lang/CharSequence -/
def k7 : Class := { plain "java/lang/CharSequence" (some 0) with
  accessFlags := 1537
  interfaces := #[]
  cf := some (fileOf pool7 2 #[.nestMembers #[47, 59]] #[] 1537 66 #[] #[])
  fields := #[]
  methods := #[]
  instanceTypes := #[]
  staticTypes := #[]
  resolved := Array.replicate 131 none
  statics := none }

def pool8 : Array CpInfo := pool [(1, .class_ 2), (0, u "java/lang/constant/ConstantDesc"), (0, .class_ 4), (0, u "java/lang/Object")] 32

/-- java/lang/constant/ConstantDesc -/
def k8 : Class := { plain "java/lang/constant/ConstantDesc" (some 0) with
  accessFlags := 1537
  interfaces := #[]
  cf := some (fileOf pool8 1 #[] #[] 1537 3 #[] #[])
  fields := #[]
  methods := #[]
  instanceTypes := #[]
  staticTypes := #[]
  resolved := Array.replicate 37 none
  statics := none }

def pool9 : Array CpInfo := pool [(1, .methodref 2 3), (0, .class_ 4), (0, .nameAndType 5 6), (0, u "java/lang/Object"), (0, u "<init>"), (0, u "()V"), (2, .fieldref 10 11), (0, .class_ 12), (0, .nameAndType 13 14), (0, u "java/lang/String"), (0, u "value"), (0, u "[B"), (0, .fieldref 10 16), (0, .nameAndType 17 18), (0, u "coder"), (0, u "B"), (2, u "hash"), (0, u "I"), (2, u "hashIsZero"), (0, u "Z"), (0, .methodref 10 28), (0, .nameAndType 5 29), (0, u "([CIILjava/lang/Void;)V"), (8, .fieldref 10 39), (0, .nameAndType 40 26), (0, u "COMPACT_STRINGS"), (1, .class_ 44), (1, u "java/lang/StringUTF16"), (0, u "compress"), (1, .methodref 42 48), (0, .nameAndType 49 50), (0, u "coderFromArrayLen"), (0, u "([BI)B"), (126, .methodref 42 178), (0, .nameAndType 45 179), (0, u "([CII)[B"), (363, u "equals"), (29, u "(Ljava/lang/Object;)Z"), (1, .class_ 576), (0, u "java/lang/CharSequence"), (22, u "CASE_INSENSITIVE_ORDER"), (0, u "Ljava/util/Comparator;"), (409, u "([C)V"), (90, u "serialPersistentFields"), (0, u "[Ljava/io/ObjectStreamField;"), (0, .class_ 1104), (0, u "java/lang/String$CaseInsensitiveComparator"), (1, .class_ 1107), (0, u "java/io/Serializable"), (0, .class_ 1109), (0, u "java/lang/Comparable"), (0, .class_ 1111), (0, u "java/lang/constant/Constable"), (0, .class_ 1113), (0, u "java/lang/constant/ConstantDesc"), (2, u "serialVersionUID"), (0, u "J"), (3, u "REPL"), (0, u "C"), (2, u "LATIN1"), (1, u "UTF16")] 323

def k9m0 : Method := { name := "<init>", desc := "()V", sig := { parameters := [], returnType := none }, accessFlags := 1, code := none }
def k9c1 : Code := { maxStack := 5, maxLocals := 2, code := jdk_42_method_3_code, exceptionTable := #[], attributes := #[] }
def k9m1 : Method := { name := "<init>", desc := "([C)V", sig := { parameters := [(.array .char)], returnType := none }, accessFlags := 1, code := some k9c1 }
def k9c2 : Code := { maxStack := 2, maxLocals := 3, code := jdk_42_method_66_code, exceptionTable := #[], attributes := #[] }
def k9m2 : Method := { name := "equals", desc := "(Ljava/lang/Object;)Z", sig := { parameters := [(.object "java/lang/Object")], returnType := some .boolean }, accessFlags := 1, code := some k9c2 }
def k9c3 : Code := { maxStack := 4, maxLocals := 6, code := jdk_42_method_149_code, exceptionTable := #[], attributes := #[] }
def k9m3 : Method := { name := "<init>", desc := "([CIILjava/lang/Void;)V", sig := { parameters := [(.array .char), .int, .int, (.object "java/lang/Void")], returnType := none }, accessFlags := 2, code := some k9c3 }
/-- java/lang/String -/
def k9 : Class := { plain "java/lang/String" (some 0) with
  accessFlags := 49
  interfaces := #[4, 3, 7, 2, 8]
  cf := some (fileOf pool9 10 #[.nestMembers #[1103]] #[{ accessFlags := 1, nameIndex := 5, descriptorIndex := 6, attributes := #[] }, { accessFlags := 1, nameIndex := 5, descriptorIndex := 1010, attributes := #[] }, { accessFlags := 1, nameIndex := 543, descriptorIndex := 573, attributes := #[] }, { accessFlags := 2, nameIndex := 5, descriptorIndex := 29, attributes := #[] }] 49 2 #[1106, 1108, 575, 1110, 1112] #[{ accessFlags := 18, nameIndex := 13, descriptorIndex := 14, attributes := #[] }, { accessFlags := 18, nameIndex := 17, descriptorIndex := 18, attributes := #[] }, { accessFlags := 2, nameIndex := 21, descriptorIndex := 22, attributes := #[] }, { accessFlags := 2, nameIndex := 25, descriptorIndex := 26, attributes := #[] }, { accessFlags := 26, nameIndex := 1116, descriptorIndex := 1117, attributes := #[] }, { accessFlags := 24, nameIndex := 40, descriptorIndex := 26, attributes := #[] }, { accessFlags := 26, nameIndex := 1101, descriptorIndex := 1102, attributes := #[] }, { accessFlags := 26, nameIndex := 1121, descriptorIndex := 1122, attributes := #[] }, { accessFlags := 25, nameIndex := 599, descriptorIndex := 600, attributes := #[] }, { accessFlags := 24, nameIndex := 1125, descriptorIndex := 18, attributes := #[] }, { accessFlags := 24, nameIndex := 1127, descriptorIndex := 18, attributes := #[] }])
  fields := #[{ name := "value", type := (.array .byte), accessFlags := 18, slot := 0, constantValue := 0 }, { name := "coder", type := .byte, accessFlags := 18, slot := 1, constantValue := 0 }, { name := "hash", type := .int, accessFlags := 2, slot := 2, constantValue := 0 }, { name := "hashIsZero", type := .boolean, accessFlags := 2, slot := 3, constantValue := 0 }, { name := "serialVersionUID", type := .long, accessFlags := 26, slot := 0, constantValue := 0 }, { name := "COMPACT_STRINGS", type := .boolean, accessFlags := 24, slot := 1, constantValue := 0 }, { name := "serialPersistentFields", type := (.array (.object "java/io/ObjectStreamField")), accessFlags := 26, slot := 2, constantValue := 0 }, { name := "REPL", type := .char, accessFlags := 26, slot := 3, constantValue := 0 }, { name := "CASE_INSENSITIVE_ORDER", type := (.object "java/util/Comparator"), accessFlags := 25, slot := 4, constantValue := 0 }, { name := "LATIN1", type := .byte, accessFlags := 24, slot := 5, constantValue := 0 }, { name := "UTF16", type := .byte, accessFlags := 24, slot := 6, constantValue := 0 }]
  methods := #[k9m0, k9m1, k9m2, k9m3]
  instanceTypes := #[(.array .byte), .byte, .int, .boolean]
  staticTypes := #[.long, .boolean, (.array (.object "java/io/ObjectStreamField")), .char, (.object "java/util/Comparator"), .byte, .byte]
  resolved := Array.replicate 1451 none
  statics := some 1 }

def pool10 : Array CpInfo := pool [(6, .class_ 8), (1, u "java/lang/Object"), (0, u "<init>"), (0, u "()V"), (1, .class_ 14), (1, u "java/lang/StringUTF16"), (31, u "$assertionsDisabled"), (0, u "Z"), (13, u "HI_BYTE_SHIFT"), (0, u "I"), (2, u "LO_BYTE_SHIFT"), (49, .methodref 12 116), (0, .nameAndType 117 118), (0, u "compress"), (0, u "([CI[BII)I"), (3, u "([CII)[B"), (138, u "coderFromArrayLen"), (0, u "([BI)B"), (106, .class_ 371), (1, u "java/lang/StringUTF16$LinesSpliterator"), (58, u "MAX_LENGTH"), (196, .class_ 628), (0, u "java/lang/StringUTF16$CodePointsSpliterator"), (0, .class_ 630), (0, u "java/lang/StringUTF16$CharsSpliterator")] 4

def k10m0 : Method := { name := "<init>", desc := "()V", sig := { parameters := [], returnType := none }, accessFlags := 0, code := none }
def k10c1 : Code := { maxStack := 2, maxLocals := 2, code := jdk_52_method_15_code, exceptionTable := #[], attributes := #[] }
def k10m1 : Method := { name := "coderFromArrayLen", desc := "([BI)B", sig := { parameters := [(.array .byte), .int], returnType := some .byte }, accessFlags := 8, code := some k10c1 }
def k10c2 : Code := { maxStack := 5, maxLocals := 6, code := jdk_52_method_16_code, exceptionTable := #[], attributes := #[] }
def k10m2 : Method := { name := "compress", desc := "([CII)[B", sig := { parameters := [(.array .char), .int, .int], returnType := some (.array .byte) }, accessFlags := 9, code := some k10c2 }
def k10c3 : Code := { maxStack := 3, maxLocals := 7, code := jdk_52_method_21_code, exceptionTable := #[], attributes := #[] }
def k10m3 : Method := { name := "compress", desc := "([CI[BII)I", sig := { parameters := [(.array .char), .int, (.array .byte), .int, .int], returnType := some .int }, accessFlags := 9, code := some k10c3 }
/-- java/lang/StringUTF16 -/
def k10 : Class := { plain "java/lang/StringUTF16" (some 0) with
  accessFlags := 48
  interfaces := #[]
  cf := some (fileOf pool10 12 #[.nestMembers #[627, 629, 369]] #[{ accessFlags := 0, nameIndex := 9, descriptorIndex := 10, attributes := #[] }, { accessFlags := 8, nameIndex := 261, descriptorIndex := 262, attributes := #[] }, { accessFlags := 9, nameIndex := 117, descriptorIndex := 122, attributes := #[] }, { accessFlags := 9, nameIndex := 117, descriptorIndex := 118, attributes := #[] }] 48 6 #[] #[{ accessFlags := 26, nameIndex := 61, descriptorIndex := 62, attributes := #[] }, { accessFlags := 26, nameIndex := 65, descriptorIndex := 62, attributes := #[] }, { accessFlags := 24, nameIndex := 430, descriptorIndex := 62, attributes := #[] }, { accessFlags := 4120, nameIndex := 46, descriptorIndex := 47, attributes := #[] }])
  fields := #[{ name := "HI_BYTE_SHIFT", type := .int, accessFlags := 26, slot := 0, constantValue := 0 }, { name := "LO_BYTE_SHIFT", type := .int, accessFlags := 26, slot := 1, constantValue := 0 }, { name := "MAX_LENGTH", type := .int, accessFlags := 24, slot := 2, constantValue := 0 }, { name := "$assertionsDisabled", type := .boolean, accessFlags := 4120, slot := 3, constantValue := 0 }]
  methods := #[k10m0, k10m1, k10m2, k10m3]
  instanceTypes := #[]
  staticTypes := #[.int, .int, .int, .boolean]
  resolved := Array.replicate 635 none
  statics := none }

def pool11 : Array CpInfo := pool [(1, .methodref 2 3), (0, .class_ 4), (0, .nameAndType 5 6), (0, u "java/lang/Object"), (0, u "<init>"), (0, u "()V"), (0, .class_ 8), (0, u "java/lang/Record")] 13

def k11c0 : Code := { maxStack := 1, maxLocals := 1, code := jdk_30_method_1_code, exceptionTable := #[], attributes := #[] }
def k11m0 : Method := { name := "<init>", desc := "()V", sig := { parameters := [], returnType := none }, accessFlags := 4, code := some k11c0 }
/-- java/lang/Record -/
def k11 : Class := { plain "java/lang/Record" (some 0) with
  accessFlags := 1057
  interfaces := #[]
  cf := some (fileOf pool11 7 #[] #[{ accessFlags := 4, nameIndex := 5, descriptorIndex := 6, attributes := #[] }] 1057 2 #[] #[])
  fields := #[]
  methods := #[k11m0]
  instanceTypes := #[]
  staticTypes := #[]
  resolved := Array.replicate 22 none
  statics := none }

def pool12 : Array CpInfo := pool [(1, .methodref 2 3), (0, .class_ 4), (0, .nameAndType 5 6), (0, u "java/lang/Record"), (0, u "<init>"), (0, u "()V"), (0, .fieldref 8 9), (0, .class_ 10), (0, .nameAndType 11 12), (0, u "com/example/congruent/congruent/verify/Verdict"), (0, u "outcome"), (0, u "Lcom/example/congruent/congruent/verify/Verdict$Outcome;"), (0, .fieldref 8 14), (0, .nameAndType 15 16), (0, u "message"), (0, u "Ljava/lang/String;"), (0, .fieldref 8 18), (0, .nameAndType 19 20), (0, u "partial"), (0, u "Z"), (0, .methodref 8 22), (0, .nameAndType 5 23), (0, u "(Lcom/example/congruent/congruent/verify/Verdict$Outcome;Ljava/lang/String;Z)V"), (16, u "ofPartialText"), (0, u "()Lcom/example/congruent/congruent/verify/Verdict;"), (0, u "()Ljava/lang/String;"), (2, u "()Lcom/example/congruent/congruent/verify/Verdict$Outcome;"), (0, u "()Z"), (3, .class_ 51), (0, u "com/example/congruent/congruent/verify/Verdict$Outcome")] 21

def k12c0 : Code := { maxStack := 2, maxLocals := 4, code := prog_26_method_2_code, exceptionTable := #[], attributes := #[] }
def k12m0 : Method := { name := "<init>", desc := "(Lcom/example/congruent/congruent/verify/Verdict$Outcome;Ljava/lang/String;Z)V", sig := { parameters := [(.object "com/example/congruent/congruent/verify/Verdict$Outcome"), (.object "java/lang/String"), .boolean], returnType := none }, accessFlags := 1, code := some k12c0 }
def k12c1 : Code := { maxStack := 5, maxLocals := 1, code := prog_26_method_3_code, exceptionTable := #[], attributes := #[] }
def k12m1 : Method := { name := "ofPartialText", desc := "()Lcom/example/congruent/congruent/verify/Verdict;", sig := { parameters := [], returnType := some (.object "com/example/congruent/congruent/verify/Verdict") }, accessFlags := 0, code := some k12c1 }
def k12c2 : Code := { maxStack := 1, maxLocals := 1, code := prog_26_method_7_code, exceptionTable := #[], attributes := #[] }
def k12m2 : Method := { name := "outcome", desc := "()Lcom/example/congruent/congruent/verify/Verdict$Outcome;", sig := { parameters := [], returnType := some (.object "com/example/congruent/congruent/verify/Verdict$Outcome") }, accessFlags := 1, code := some k12c2 }
def k12c3 : Code := { maxStack := 1, maxLocals := 1, code := prog_26_method_8_code, exceptionTable := #[], attributes := #[] }
def k12m3 : Method := { name := "message", desc := "()Ljava/lang/String;", sig := { parameters := [], returnType := some (.object "java/lang/String") }, accessFlags := 1, code := some k12c3 }
def k12c4 : Code := { maxStack := 1, maxLocals := 1, code := prog_26_method_9_code, exceptionTable := #[], attributes := #[] }
def k12m4 : Method := { name := "partial", desc := "()Z", sig := { parameters := [], returnType := some .boolean }, accessFlags := 1, code := some k12c4 }
/-- com/example/congruent/congruent/verify/Verdict -/
def k12 : Class := { plain "com/example/congruent/congruent/verify/Verdict" (some 11) with
  accessFlags := 49
  interfaces := #[]
  cf := some (fileOf pool12 8 #[.nestMembers #[50]] #[{ accessFlags := 1, nameIndex := 5, descriptorIndex := 23, attributes := #[] }, { accessFlags := 0, nameIndex := 40, descriptorIndex := 41, attributes := #[] }, { accessFlags := 1, nameIndex := 11, descriptorIndex := 45, attributes := #[] }, { accessFlags := 1, nameIndex := 15, descriptorIndex := 42, attributes := #[] }, { accessFlags := 1, nameIndex := 19, descriptorIndex := 46, attributes := #[] }] 49 2 #[] #[{ accessFlags := 18, nameIndex := 11, descriptorIndex := 12, attributes := #[] }, { accessFlags := 18, nameIndex := 15, descriptorIndex := 16, attributes := #[] }, { accessFlags := 18, nameIndex := 19, descriptorIndex := 20, attributes := #[] }])
  fields := #[{ name := "outcome", type := (.object "com/example/congruent/congruent/verify/Verdict$Outcome"), accessFlags := 18, slot := 0, constantValue := 0 }, { name := "message", type := (.object "java/lang/String"), accessFlags := 18, slot := 1, constantValue := 0 }, { name := "partial", type := .boolean, accessFlags := 18, slot := 2, constantValue := 0 }]
  methods := #[k12m0, k12m1, k12m2, k12m3, k12m4]
  instanceTypes := #[(.object "com/example/congruent/congruent/verify/Verdict$Outcome"), (.object "java/lang/String"), .boolean]
  staticTypes := #[]
  resolved := Array.replicate 73 none
  statics := none }

def pool13 : Array CpInfo := pool [(4, .class_ 6), (1, u "java/lang/Object"), (0, u "<init>"), (0, u "()V"), (5, .class_ 16), (1, u "java/lang/StringLatin1"), (104, u "$assertionsDisabled"), (0, u "Z"), (98, .class_ 223), (1, u "java/lang/StringLatin1$LinesSpliterator"), (166, .class_ 391), (0, u "java/lang/StringLatin1$CharsSpliterator")] 3

def k13m0 : Method := { name := "<init>", desc := "()V", sig := { parameters := [], returnType := none }, accessFlags := 0, code := none }
/-- java/lang/StringLatin1 -/
def k13 : Class := { plain "java/lang/StringLatin1" (some 0) with
  accessFlags := 48
  interfaces := #[]
  cf := some (fileOf pool13 14 #[.nestMembers #[390, 221]] #[{ accessFlags := 0, nameIndex := 7, descriptorIndex := 8, attributes := #[] }] 48 4 #[] #[{ accessFlags := 4120, nameIndex := 121, descriptorIndex := 122, attributes := #[] }])
  fields := #[{ name := "$assertionsDisabled", type := .boolean, accessFlags := 4120, slot := 0, constantValue := 0 }]
  methods := #[k13m0]
  instanceTypes := #[]
  staticTypes := #[.boolean]
  resolved := Array.replicate 395 none
  statics := none }

def pool14 : Array CpInfo := pool [(2, .class_ 4), (1, u "java/lang/Object"), (0, u "<init>"), (0, u "()V"), (17, .class_ 26), (1, u "jdk/internal/util/Preconditions"), (28, .class_ 56), (0, u "jdk/internal/util/Preconditions$4"), (57, .class_ 115), (0, u "jdk/internal/util/Preconditions$1"), (7, u "SIOOBE_FORMATTER"), (0, u "Ljava/util/function/BiFunction;"), (0, .class_ 126), (0, u "jdk/internal/util/Preconditions$2"), (3, u "AIOOBE_FORMATTER"), (0, .class_ 132), (0, u "jdk/internal/util/Preconditions$3"), (3, u "IOOBE_FORMATTER")] 57

def k14m0 : Method := { name := "<init>", desc := "()V", sig := { parameters := [], returnType := none }, accessFlags := 1, code := none }
/-- jdk/internal/util/Preconditions -/
def k14 : Class := { plain "jdk/internal/util/Preconditions" (some 0) with
  accessFlags := 33
  interfaces := #[]
  cf := some (fileOf pool14 24 #[.nestMembers #[55, 131, 125, 114]] #[{ accessFlags := 1, nameIndex := 5, descriptorIndex := 6, attributes := #[] }] 33 2 #[] #[{ accessFlags := 25, nameIndex := 123, descriptorIndex := 124, attributes := #[] }, { accessFlags := 25, nameIndex := 130, descriptorIndex := 124, attributes := #[] }, { accessFlags := 25, nameIndex := 136, descriptorIndex := 124, attributes := #[] }])
  fields := #[{ name := "SIOOBE_FORMATTER", type := (.object "java/util/function/BiFunction"), accessFlags := 25, slot := 0, constantValue := 0 }, { name := "AIOOBE_FORMATTER", type := (.object "java/util/function/BiFunction"), accessFlags := 25, slot := 1, constantValue := 0 }, { name := "IOOBE_FORMATTER", type := (.object "java/util/function/BiFunction"), accessFlags := 25, slot := 2, constantValue := 0 }]
  methods := #[k14m0]
  instanceTypes := #[]
  staticTypes := #[(.object "java/util/function/BiFunction"), (.object "java/util/function/BiFunction"), (.object "java/util/function/BiFunction")]
  resolved := Array.replicate 194 none
  statics := some 2 }

def pool15 : Array CpInfo := pool [(9, u "<init>"), (6, .class_ 18), (1, u "java/lang/Object"), (0, u "()V"), (1, .class_ 23), (1, u "jdk/internal/util/ArraysSupport"), (0, u "LOG2_ARRAY_LONG_INDEX_SCALE"), (0, u "I"), (2, u "U"), (0, u "Ljdk/internal/misc/Unsafe;"), (8, u "BIG_ENDIAN"), (0, u "Z"), (8, u "LOG2_BYTE_BIT_SIZE"), (4, u "LOG2_ARRAY_INT_INDEX_SCALE"), (54, u "JLA"), (0, u "Ljdk/internal/access/JavaLangAccess;"), (11, u "LOG2_ARRAY_BOOLEAN_INDEX_SCALE"), (9, u "LOG2_ARRAY_BYTE_INDEX_SCALE"), (5, u "LOG2_ARRAY_CHAR_INDEX_SCALE"), (5, u "LOG2_ARRAY_SHORT_INDEX_SCALE"), (18, u "LOG2_ARRAY_FLOAT_INDEX_SCALE"), (24, u "LOG2_ARRAY_DOUBLE_INDEX_SCALE"), (89, u "T_BOOLEAN"), (2, u "T_CHAR"), (1, u "T_FLOAT"), (1, u "T_DOUBLE"), (1, u "T_BYTE"), (1, u "T_SHORT"), (1, u "T_INT"), (1, u "T_LONG"), (1, u "SOFT_MAX_ARRAY_LENGTH")] 83

def k15m0 : Method := { name := "<init>", desc := "()V", sig := { parameters := [], returnType := none }, accessFlags := 2, code := none }
/-- jdk/internal/util/ArraysSupport -/
def k15 : Class := { plain "jdk/internal/util/ArraysSupport" (some 0) with
  accessFlags := 33
  interfaces := #[]
  cf := some (fileOf pool15 21 #[] #[{ accessFlags := 2, nameIndex := 9, descriptorIndex := 19, attributes := #[] }] 33 16 #[] #[{ accessFlags := 24, nameIndex := 28, descriptorIndex := 29, attributes := #[] }, { accessFlags := 26, nameIndex := 38, descriptorIndex := 39, attributes := #[] }, { accessFlags := 25, nameIndex := 121, descriptorIndex := 25, attributes := #[] }, { accessFlags := 25, nameIndex := 131, descriptorIndex := 25, attributes := #[] }, { accessFlags := 25, nameIndex := 137, descriptorIndex := 25, attributes := #[] }, { accessFlags := 25, nameIndex := 143, descriptorIndex := 25, attributes := #[] }, { accessFlags := 25, nameIndex := 53, descriptorIndex := 25, attributes := #[] }, { accessFlags := 25, nameIndex := 24, descriptorIndex := 25, attributes := #[] }, { accessFlags := 25, nameIndex := 162, descriptorIndex := 25, attributes := #[] }, { accessFlags := 25, nameIndex := 187, descriptorIndex := 25, attributes := #[] }, { accessFlags := 26, nameIndex := 48, descriptorIndex := 25, attributes := #[] }, { accessFlags := 25, nameIndex := 277, descriptorIndex := 25, attributes := #[] }, { accessFlags := 25, nameIndex := 280, descriptorIndex := 25, attributes := #[] }, { accessFlags := 25, nameIndex := 282, descriptorIndex := 25, attributes := #[] }, { accessFlags := 25, nameIndex := 284, descriptorIndex := 25, attributes := #[] }, { accessFlags := 25, nameIndex := 286, descriptorIndex := 25, attributes := #[] }, { accessFlags := 25, nameIndex := 288, descriptorIndex := 25, attributes := #[] }, { accessFlags := 25, nameIndex := 290, descriptorIndex := 25, attributes := #[] }, { accessFlags := 25, nameIndex := 292, descriptorIndex := 25, attributes := #[] }, { accessFlags := 26, nameIndex := 108, descriptorIndex := 109, attributes := #[] }, { accessFlags := 25, nameIndex := 294, descriptorIndex := 25, attributes := #[] }])
  fields := #[{ name := "U", type := (.object "jdk/internal/misc/Unsafe"), accessFlags := 24, slot := 0, constantValue := 0 }, { name := "BIG_ENDIAN", type := .boolean, accessFlags := 26, slot := 1, constantValue := 0 }, { name := "LOG2_ARRAY_BOOLEAN_INDEX_SCALE", type := .int, accessFlags := 25, slot := 2, constantValue := 0 }, { name := "LOG2_ARRAY_BYTE_INDEX_SCALE", type := .int, accessFlags := 25, slot := 3, constantValue := 0 }, { name := "LOG2_ARRAY_CHAR_INDEX_SCALE", type := .int, accessFlags := 25, slot := 4, constantValue := 0 }, { name := "LOG2_ARRAY_SHORT_INDEX_SCALE", type := .int, accessFlags := 25, slot := 5, constantValue := 0 }, { name := "LOG2_ARRAY_INT_INDEX_SCALE", type := .int, accessFlags := 25, slot := 6, constantValue := 0 }, { name := "LOG2_ARRAY_LONG_INDEX_SCALE", type := .int, accessFlags := 25, slot := 7, constantValue := 0 }, { name := "LOG2_ARRAY_FLOAT_INDEX_SCALE", type := .int, accessFlags := 25, slot := 8, constantValue := 0 }, { name := "LOG2_ARRAY_DOUBLE_INDEX_SCALE", type := .int, accessFlags := 25, slot := 9, constantValue := 0 }, { name := "LOG2_BYTE_BIT_SIZE", type := .int, accessFlags := 26, slot := 10, constantValue := 0 }, { name := "T_BOOLEAN", type := .int, accessFlags := 25, slot := 11, constantValue := 0 }, { name := "T_CHAR", type := .int, accessFlags := 25, slot := 12, constantValue := 0 }, { name := "T_FLOAT", type := .int, accessFlags := 25, slot := 13, constantValue := 0 }, { name := "T_DOUBLE", type := .int, accessFlags := 25, slot := 14, constantValue := 0 }, { name := "T_BYTE", type := .int, accessFlags := 25, slot := 15, constantValue := 0 }, { name := "T_SHORT", type := .int, accessFlags := 25, slot := 16, constantValue := 0 }, { name := "T_INT", type := .int, accessFlags := 25, slot := 17, constantValue := 0 }, { name := "T_LONG", type := .int, accessFlags := 25, slot := 18, constantValue := 0 }, { name := "JLA", type := (.object "jdk/internal/access/JavaLangAccess"), accessFlags := 26, slot := 19, constantValue := 0 }, { name := "SOFT_MAX_ARRAY_LENGTH", type := .int, accessFlags := 25, slot := 20, constantValue := 0 }]
  methods := #[k15m0]
  instanceTypes := #[]
  staticTypes := #[(.object "jdk/internal/misc/Unsafe"), .boolean, .int, .int, .int, .int, .int, .int, .int, .int, .int, .int, .int, .int, .int, .int, .int, .int, .int, (.object "jdk/internal/access/JavaLangAccess"), .int]
  resolved := Array.replicate 378 none
  statics := none }

def pool16 : Array CpInfo := pool [(1, u "java/lang/Cloneable"), (0, .class_ 1), (0, u "java/lang/Object"), (0, .class_ 3)] 3

/-- java/lang/Cloneable -/
def k16 : Class := { plain "java/lang/Cloneable" (some 0) with
  accessFlags := 1537
  interfaces := #[]
  cf := some (fileOf pool16 2 #[] #[] 1537 4 #[] #[])
  fields := #[]
  methods := #[]
  instanceTypes := #[]
  staticTypes := #[]
  resolved := Array.replicate 8 none
  statics := none }

/-- the primitive byte -/
def k17 : Class := { plain "byte" none with kind := .primitive 'B', accessFlags := 0x411 }
/-- [B -/
def k18 : Class := { plain "[B" (some 0) with kind := .array 17 .byte, interfaces := #[16, 4], accessFlags := 1041 }

/-- the primitive char -/
def k19 : Class := { plain "char" none with kind := .primitive 'C', accessFlags := 0x411 }
/-- [C -/
def k20 : Class := { plain "[C" (some 0) with kind := .array 19 .char, interfaces := #[16, 4], accessFlags := 1041 }

/-- the primitive int -/
def k21 : Class := { plain "int" none with kind := .primitive 'I', accessFlags := 0x411 }
/-- [I -/
def k22 : Class := { plain "[I" (some 0) with kind := .array 21 .int, interfaces := #[16, 4], accessFlags := 1041 }

def heap : Heap := #[{ cls := 6, slots := #[.ref 3, .ref 3, .ref 3, .ref 3, .ref 3, .ref 3, .ref 3, .null], vm := .statics 6 },
  { cls := 9, slots := #[.long 0, .int 1, .null, .int 0, .null, .int 0, .int 0], vm := .statics 9 },
  { cls := 14, slots := #[.null, .null, .null], vm := .statics 14 },
  { cls := 6, slots := #[.null, .int 0, .int 0, .null, .null], vm := .none }]
def classes : Array Class := #[k0, k1, k2, k3, k4, k5, k6, k7, k8, k9, k10, k11, k12, k13, k14, k15, k16, k17, k18, k19, k20, k21, k22]
def interned : List (Array UInt16 × Addr) := []
def slotsUsed : Nat := 23
def theMethod : MethodId := ⟨1, 3⟩
def args0 : Array Value := #[.int 5, .int 7, .int 300, .int 1]
def aboutOver (below : List Frame) : State where
  vm := { classes := classes, interned := interned.toArray }
  heap := heap
  slotsUsed := slotsUsed
  threads := #[{ frames := .invoking theMethod args0 :: below }]
def below0 : List Frame := [.native { method := ⟨0, 0⟩, args := #[] }]
def about1 : State := aboutOver below0
def p0 : Program := .bare "" "" ""
def e0 : Env := launch0.env 0 0 0
theorem w_frames : about1.frames = Frame.invoking theMethod args0 :: below0 := rfl
set_option maxRecDepth 65536 in
theorem w_args : argsFit about1.vm theMethod args0 = true := by decide +kernel
set_option maxRecDepth 65536 in
theorem w_heap : heapFits about1 = true := by decide +kernel
set_option maxRecDepth 65536 in
theorem w_runnable : about1.curStatus? = some .runnable := by decide +kernel
set_option maxRecDepth 65536 in
theorem w_alone : about1.alone = true := by decide +kernel
set_option maxRecDepth 65536 in
theorem w_named : about1.methodNamed? x = some theMethod := by decide +kernel
set_option maxRecDepth 65536 in
theorem w_hears : about1.hears theMethod below0 = true := by decide +kernel
set_option maxRecDepth 65536 in
theorem w_ripe : about1.ripe theMethod args0 below0 = true := by decide +kernel
theorem w_running : about1.status = .running := rfl
set_option maxRecDepth 65536 in
theorem w_room : about1.hasRoom e0.platform room_1 = true :=
  launch0.hasRoom_least _ room_1 (by decide +kernel) (by decide +kernel) (by decide +kernel) (by decide +kernel) (by decide +kernel) (by decide +kernel)
theorem allAtoms_all (ts : List Jvm.Cond) (a : Array Jvm.Value) (st : Jvm.State) : (allAtoms ts).before a st = ts.all (fun c => c.before a st) := by
  induction ts with
  | nil => rfl
  | cons c t ih =>
    show (Jvm.Cond.and c (allAtoms t)).before a st = _
    rw [Jvm.Cond.before_and, ih, List.all_cons]
def words1 : List Jvm.Cond := Jvm.Cond.code x code maxLocals ret :: tables_1
/-- a 'code' word, met by the world's own term for the bytes: nothing is compared byte by byte -/
theorem code_word {y : MethodName} {bytes : ByteArray} {mx : Nat} {rt : Option FieldType} {a : Array Value} {s : State} {m : MethodId} {meth : Method} {c : Code} (h1 : s.methodNamed? y = some m) (h2 : s.vm.method? m = some meth) (h3 : meth.code = some c) (h4 : c.code = bytes)
    (h5 : (c.maxLocals == mx && c.exceptionTable.isEmpty && decide (c.maxStack ≤ mostOperands) && decide (meth.sig.returnType = rt) && !meth.locks && decide (parseMethodDescriptor y.desc = some meth.sig)) = true) : (Jvm.Cond.code y bytes mx rt).before a s = true := by
  simp only [Bool.and_eq_true, beq_iff_eq, Bool.not_eq_true', decide_eq_true_eq] at h5
  obtain ⟨⟨⟨⟨⟨g1, g2⟩, g3⟩, g4⟩, g5⟩, g6⟩ := h5
  simp [Cond.before, Cond.holds, Cond.value, h1, h2, h3, h4, g1, g2, g3, g4, g5, g6]
def isCode : Jvm.Cond → Bool
  | .code _ _ _ _ => true
  | _ => false
theorem all_split {L : List Jvm.Cond} {P : Jvm.Cond → Bool} (h1 : L.all (fun c => isCode c || P c) = true) (h2 : ∀ c ∈ L.filter isCode, P c = true) : L.all P = true := by
  refine List.all_eq_true.mpr fun c hc => ?_
  have h := List.all_eq_true.mp h1 c hc
  rcases Bool.eq_false_or_eq_true (isCode c) with hi | hi
  · exact h2 c (List.mem_filter.mpr ⟨hc, hi⟩)
  · simpa [hi] using h
set_option maxRecDepth 65536 in
theorem w_c0 : (Jvm.Cond.code x code maxLocals ret).before args0 about1 = true := code_word (m := ⟨1, 3⟩) (meth := k1m3) (c := k1c3) (by decide +kernel) rfl rfl rfl (by decide +kernel)
set_option maxRecDepth 65536 in
theorem w_c1 : (Jvm.Cond.code ({ cls := "com/example/congruent/congruent/verify/VerdictOfPartialTextPinLaw", name := "pick", desc := "(I)Lcom/example/congruent/congruent/verify/Verdict$Outcome;" } : Jvm.MethodName) method_2_code (1 : Nat) (Option.some (Jvm.ClassFile.FieldType.object "com/example/congruent/congruent/verify/Verdict$Outcome"))).before args0 about1 = true := code_word (m := ⟨1, 1⟩) (meth := k1m1) (c := k1c1) (by decide +kernel) rfl rfl rfl (by decide +kernel)
set_option maxRecDepth 65536 in
theorem w_c2 : (Jvm.Cond.code ({ cls := "java/lang/String", name := "<init>", desc := "([C)V" } : Jvm.MethodName) jdk_42_method_3_code (2 : Nat) (Option.none : Option Jvm.ClassFile.FieldType)).before args0 about1 = true := code_word (m := ⟨9, 1⟩) (meth := k9m1) (c := k9c1) (by decide +kernel) rfl rfl rfl (by decide +kernel)
set_option maxRecDepth 65536 in
theorem w_c3 : (Jvm.Cond.code ({ cls := "java/lang/String", name := "<init>", desc := "([CIILjava/lang/Void;)V" } : Jvm.MethodName) jdk_42_method_149_code (6 : Nat) (Option.none : Option Jvm.ClassFile.FieldType)).before args0 about1 = true := code_word (m := ⟨9, 3⟩) (meth := k9m3) (c := k9c3) (by decide +kernel) rfl rfl rfl (by decide +kernel)
set_option maxRecDepth 65536 in
theorem w_c4 : (Jvm.Cond.code ({ cls := "java/lang/Object", name := "<init>", desc := "()V" } : Jvm.MethodName) object_method_1_code (1 : Nat) (Option.none : Option Jvm.ClassFile.FieldType)).before args0 about1 = true := code_word (m := ⟨0, 0⟩) (meth := k0m0) (c := k0c0) (by decide +kernel) rfl rfl rfl (by decide +kernel)
set_option maxRecDepth 65536 in
theorem w_c5 : (Jvm.Cond.code ({ cls := "java/lang/StringUTF16", name := "compress", desc := "([CII)[B" } : Jvm.MethodName) jdk_52_method_16_code (6 : Nat) (Option.some (Jvm.ClassFile.FieldType.array Jvm.ClassFile.FieldType.byte))).before args0 about1 = true := code_word (m := ⟨10, 2⟩) (meth := k10m2) (c := k10c2) (by decide +kernel) rfl rfl rfl (by decide +kernel)
set_option maxRecDepth 65536 in
theorem w_c6 : (Jvm.Cond.code ({ cls := "java/lang/StringUTF16", name := "compress", desc := "([CI[BII)I" } : Jvm.MethodName) jdk_52_method_21_code (7 : Nat) (Option.some Jvm.ClassFile.FieldType.int)).before args0 about1 = true := code_word (m := ⟨10, 3⟩) (meth := k10m3) (c := k10c3) (by decide +kernel) rfl rfl rfl (by decide +kernel)
set_option maxRecDepth 65536 in
theorem w_c7 : (Jvm.Cond.code ({ cls := "java/lang/StringUTF16", name := "coderFromArrayLen", desc := "([BI)B" } : Jvm.MethodName) jdk_52_method_15_code (2 : Nat) (Option.some Jvm.ClassFile.FieldType.byte)).before args0 about1 = true := code_word (m := ⟨10, 1⟩) (meth := k10m1) (c := k10c1) (by decide +kernel) rfl rfl rfl (by decide +kernel)
set_option maxRecDepth 65536 in
theorem w_c8 : (Jvm.Cond.code ({ cls := "com/example/congruent/congruent/verify/Verdict", name := "<init>", desc := "(Lcom/example/congruent/congruent/verify/Verdict$Outcome;Ljava/lang/String;Z)V" } : Jvm.MethodName) prog_26_method_2_code (4 : Nat) (Option.none : Option Jvm.ClassFile.FieldType)).before args0 about1 = true := code_word (m := ⟨12, 0⟩) (meth := k12m0) (c := k12c0) (by decide +kernel) rfl rfl rfl (by decide +kernel)
set_option maxRecDepth 65536 in
theorem w_c9 : (Jvm.Cond.code ({ cls := "java/lang/Record", name := "<init>", desc := "()V" } : Jvm.MethodName) jdk_30_method_1_code (1 : Nat) (Option.none : Option Jvm.ClassFile.FieldType)).before args0 about1 = true := code_word (m := ⟨11, 0⟩) (meth := k11m0) (c := k11c0) (by decide +kernel) rfl rfl rfl (by decide +kernel)
set_option maxRecDepth 65536 in
theorem w_c10 : (Jvm.Cond.code ({ cls := "com/example/congruent/congruent/verify/Verdict", name := "ofPartialText", desc := "()Lcom/example/congruent/congruent/verify/Verdict;" } : Jvm.MethodName) prog_26_method_3_code (1 : Nat) (Option.some (Jvm.ClassFile.FieldType.object "com/example/congruent/congruent/verify/Verdict"))).before args0 about1 = true := code_word (m := ⟨12, 1⟩) (meth := k12m1) (c := k12c1) (by decide +kernel) rfl rfl rfl (by decide +kernel)
set_option maxRecDepth 65536 in
theorem w_c11 : (Jvm.Cond.code ({ cls := "com/example/congruent/congruent/verify/Verdict", name := "outcome", desc := "()Lcom/example/congruent/congruent/verify/Verdict$Outcome;" } : Jvm.MethodName) prog_26_method_7_code (1 : Nat) (Option.some (Jvm.ClassFile.FieldType.object "com/example/congruent/congruent/verify/Verdict$Outcome"))).before args0 about1 = true := code_word (m := ⟨12, 2⟩) (meth := k12m2) (c := k12c2) (by decide +kernel) rfl rfl rfl (by decide +kernel)
set_option maxRecDepth 65536 in
theorem w_c12 : (Jvm.Cond.code ({ cls := "com/example/congruent/congruent/verify/Verdict", name := "message", desc := "()Ljava/lang/String;" } : Jvm.MethodName) prog_26_method_8_code (1 : Nat) (Option.some (Jvm.ClassFile.FieldType.object "java/lang/String"))).before args0 about1 = true := code_word (m := ⟨12, 3⟩) (meth := k12m3) (c := k12c3) (by decide +kernel) rfl rfl rfl (by decide +kernel)
set_option maxRecDepth 65536 in
theorem w_c13 : (Jvm.Cond.code ({ cls := "com/example/congruent/congruent/verify/VerdictOfPartialTextPinLaw", name := "sameText", desc := "(Ljava/lang/String;Ljava/lang/String;)Z" } : Jvm.MethodName) method_3_code (2 : Nat) (Option.some Jvm.ClassFile.FieldType.boolean)).before args0 about1 = true := code_word (m := ⟨1, 2⟩) (meth := k1m2) (c := k1c2) (by decide +kernel) rfl rfl rfl (by decide +kernel)
set_option maxRecDepth 65536 in
theorem w_c14 : (Jvm.Cond.code ({ cls := "java/lang/String", name := "equals", desc := "(Ljava/lang/Object;)Z" } : Jvm.MethodName) jdk_42_method_66_code (3 : Nat) (Option.some Jvm.ClassFile.FieldType.boolean)).before args0 about1 = true := code_word (m := ⟨9, 2⟩) (meth := k9m2) (c := k9c2) (by decide +kernel) rfl rfl rfl (by decide +kernel)
set_option maxRecDepth 65536 in
theorem w_c15 : (Jvm.Cond.code ({ cls := "com/example/congruent/congruent/verify/Verdict", name := "partial", desc := "()Z" } : Jvm.MethodName) prog_26_method_9_code (1 : Nat) (Option.some Jvm.ClassFile.FieldType.boolean)).before args0 about1 = true := code_word (m := ⟨12, 4⟩) (meth := k12m4) (c := k12c4) (by decide +kernel) rfl rfl rfl (by decide +kernel)
def codes1 : List Jvm.Cond := [Jvm.Cond.code x code maxLocals ret, Jvm.Cond.code ({ cls := "com/example/congruent/congruent/verify/VerdictOfPartialTextPinLaw", name := "pick", desc := "(I)Lcom/example/congruent/congruent/verify/Verdict$Outcome;" } : Jvm.MethodName) method_2_code (1 : Nat) (Option.some (Jvm.ClassFile.FieldType.object "com/example/congruent/congruent/verify/Verdict$Outcome")), Jvm.Cond.code ({ cls := "java/lang/String", name := "<init>", desc := "([C)V" } : Jvm.MethodName) jdk_42_method_3_code (2 : Nat) (Option.none : Option Jvm.ClassFile.FieldType), Jvm.Cond.code ({ cls := "java/lang/String", name := "<init>", desc := "([CIILjava/lang/Void;)V" } : Jvm.MethodName) jdk_42_method_149_code (6 : Nat) (Option.none : Option Jvm.ClassFile.FieldType), Jvm.Cond.code ({ cls := "java/lang/Object", name := "<init>", desc := "()V" } : Jvm.MethodName) object_method_1_code (1 : Nat) (Option.none : Option Jvm.ClassFile.FieldType), Jvm.Cond.code ({ cls := "java/lang/StringUTF16", name := "compress", desc := "([CII)[B" } : Jvm.MethodName) jdk_52_method_16_code (6 : Nat) (Option.some (Jvm.ClassFile.FieldType.array Jvm.ClassFile.FieldType.byte)), Jvm.Cond.code ({ cls := "java/lang/StringUTF16", name := "compress", desc := "([CI[BII)I" } : Jvm.MethodName) jdk_52_method_21_code (7 : Nat) (Option.some Jvm.ClassFile.FieldType.int), Jvm.Cond.code ({ cls := "java/lang/StringUTF16", name := "coderFromArrayLen", desc := "([BI)B" } : Jvm.MethodName) jdk_52_method_15_code (2 : Nat) (Option.some Jvm.ClassFile.FieldType.byte), Jvm.Cond.code ({ cls := "com/example/congruent/congruent/verify/Verdict", name := "<init>", desc := "(Lcom/example/congruent/congruent/verify/Verdict$Outcome;Ljava/lang/String;Z)V" } : Jvm.MethodName) prog_26_method_2_code (4 : Nat) (Option.none : Option Jvm.ClassFile.FieldType), Jvm.Cond.code ({ cls := "java/lang/Record", name := "<init>", desc := "()V" } : Jvm.MethodName) jdk_30_method_1_code (1 : Nat) (Option.none : Option Jvm.ClassFile.FieldType), Jvm.Cond.code ({ cls := "com/example/congruent/congruent/verify/Verdict", name := "ofPartialText", desc := "()Lcom/example/congruent/congruent/verify/Verdict;" } : Jvm.MethodName) prog_26_method_3_code (1 : Nat) (Option.some (Jvm.ClassFile.FieldType.object "com/example/congruent/congruent/verify/Verdict")), Jvm.Cond.code ({ cls := "com/example/congruent/congruent/verify/Verdict", name := "outcome", desc := "()Lcom/example/congruent/congruent/verify/Verdict$Outcome;" } : Jvm.MethodName) prog_26_method_7_code (1 : Nat) (Option.some (Jvm.ClassFile.FieldType.object "com/example/congruent/congruent/verify/Verdict$Outcome")), Jvm.Cond.code ({ cls := "com/example/congruent/congruent/verify/Verdict", name := "message", desc := "()Ljava/lang/String;" } : Jvm.MethodName) prog_26_method_8_code (1 : Nat) (Option.some (Jvm.ClassFile.FieldType.object "java/lang/String")), Jvm.Cond.code ({ cls := "com/example/congruent/congruent/verify/VerdictOfPartialTextPinLaw", name := "sameText", desc := "(Ljava/lang/String;Ljava/lang/String;)Z" } : Jvm.MethodName) method_3_code (2 : Nat) (Option.some Jvm.ClassFile.FieldType.boolean), Jvm.Cond.code ({ cls := "java/lang/String", name := "equals", desc := "(Ljava/lang/Object;)Z" } : Jvm.MethodName) jdk_42_method_66_code (3 : Nat) (Option.some Jvm.ClassFile.FieldType.boolean), Jvm.Cond.code ({ cls := "com/example/congruent/congruent/verify/Verdict", name := "partial", desc := "()Z" } : Jvm.MethodName) prog_26_method_9_code (1 : Nat) (Option.some Jvm.ClassFile.FieldType.boolean)]
set_option maxRecDepth 65536 in
theorem codes_eq : words1.filter isCode = codes1 := rfl
theorem w_codes : ∀ c ∈ words1.filter isCode, c.before args0 about1 = true := by
  rw [codes_eq]
  intro c hc
  simp only [codes1, List.mem_cons, List.not_mem_nil, or_false] at hc
  rcases hc with rfl | rfl | rfl | rfl | rfl | rfl | rfl | rfl | rfl | rfl | rfl | rfl | rfl | rfl | rfl | rfl
  · exact w_c0
  · exact w_c1
  · exact w_c2
  · exact w_c3
  · exact w_c4
  · exact w_c5
  · exact w_c6
  · exact w_c7
  · exact w_c8
  · exact w_c9
  · exact w_c10
  · exact w_c11
  · exact w_c12
  · exact w_c13
  · exact w_c14
  · exact w_c15
set_option maxRecDepth 65536 in
theorem w_t1 : (words1.take 24).all (fun c => isCode c || c.before args0 about1) = true := by decide +kernel
set_option maxRecDepth 65536 in
theorem w_t2 : ((words1.drop 24).take 24).all (fun c => isCode c || c.before args0 about1) = true := by decide +kernel
set_option maxRecDepth 65536 in
theorem w_t3 : (((words1.drop 24).drop 24).take 24).all (fun c => isCode c || c.before args0 about1) = true := by decide +kernel
set_option maxRecDepth 65536 in
theorem w_t4 : ((((words1.drop 24).drop 24).drop 24).take 24).all (fun c => isCode c || c.before args0 about1) = true := by decide +kernel
set_option maxRecDepth 65536 in
theorem w_t5 : ((((words1.drop 24).drop 24).drop 24).drop 24).all (fun c => isCode c || c.before args0 about1) = true := by decide +kernel
theorem w_tables : (allAtoms (Jvm.Cond.code x code maxLocals ret :: tables_1)).before args0 about1 = true := by
  rw [allAtoms_all]
  show words1.all (fun c => c.before args0 about1) = true
  refine all_split ?_ w_codes
  rw [← List.take_append_drop 24 words1, List.all_append, w_t1, ← List.take_append_drop 24 (words1.drop 24), List.all_append, w_t2, ← List.take_append_drop 24 ((words1.drop 24).drop 24), List.all_append, w_t3, ← List.take_append_drop 24 (((words1.drop 24).drop 24).drop 24), List.all_append, w_t4, w_t5]
  rfl
set_option maxRecDepth 65536 in
theorem w_rest : rest_1_c.before args0 about1 = true := by decide +kernel
set_option maxRecDepth 65536 in
theorem w_case : (Jvm.Cond.and given_1 narrow_1).before args0 about1 = true := by decide +kernel
theorem w_applies : (headSpec (Jvm.Cond.code x code maxLocals ret :: tables_1) room_1).applies x e0.platform about1 = true :=
  (Spec.applies_iff w_frames).mpr ⟨w_running, w_runnable, w_alone, w_named, w_hears, w_ripe, w_room, w_tables⟩
theorem atStart : AtStart classFile x code maxLocals ret World_1 tables_1 room_1 Calls_1 rest_1 Pre_1 launch0 p0 e0 about1 theMethod args0 below0 :=
  ⟨lists_1, trivial, launch0.admits_env _ _ _, launch0.least_env, fairChoices_fair.cas, fairChoices_fair.clock, w_frames, w_args, w_heap, w_applies, trivial, w_rest, w_case⟩
end start1
theorem witness_1 : WitnessClaimed_1 := ⟨start1.p0, start1.e0, start1.about1, start1.theMethod, start1.args0, start1.below0, start1.atStart⟩
end Jvm.Pilot.@@N@@
