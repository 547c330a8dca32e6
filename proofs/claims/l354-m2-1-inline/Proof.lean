import JvmDerived
import JvmDerived.Pilot.@@N@@Statement
import JvmDerived.Pilot.@@N@@Code
set_option linter.unusedVariables false
set_option linter.unusedSimpArgs false
namespace Jvm.Ow
open Sem ClassFile Op Lib Bundle Jvm.Stand Jvm.Free Jvm.LawKit Jvm.RoadKit
/-- what may be written: made since the case's start, and no literal's cell -/
def Own (Z : State) (EL : List (String × Nat)) (vm : Vm) (h : Heap) (W : List Nat) : Prop := ∀ x ∈ W, Z.heap.size ≤ x ∧ x < h.size ∧ Safe Z EL vm h x
theorem Own.nil {Z : State} {EL : List (String × Nat)} {vm : Vm} {h : Heap} : Own Z EL vm h [] := fun _ q => nomatch q
theorem Own.sub {Z : State} {EL : List (String × Nat)} {vm : Vm} {h : Heap} {W V : List Nat} (O : Own Z EL vm h W) (q : ∀ x ∈ V, x ∈ W) : Own Z EL vm h V := fun x hx => O x (q x hx)
theorem Own.app {Z : State} {EL : List (String × Nat)} {vm : Vm} {h : Heap} {W V : List Nat} (O : Own Z EL vm h W) (P : Own Z EL vm h V) : Own Z EL vm h (W ++ V) := fun x hx => (List.mem_append.mp hx).elim (O x) (P x)
theorem Own.r {Z : State} {EL : List (String × Nat)} {vm vm1 : Vm} {h h' : Heap} {W : List Nat} (O : Own Z EL vm h W) (A : CHr Z EL vm h vm1 h') : Own Z EL vm1 h' W := fun x hx =>
  ⟨(O x hx).1, Nat.lt_of_lt_of_le (O x hx).2.1 A.2.1, A.safe (O x hx).2.1 (O x hx).2.2⟩
theorem Own.new {Z : State} {EL : List (String × Nat)} {vm : Vm} {h h' : Heap} {W : List Nat} (O : Own Z EL vm h W) (H : CHv Z EL vm h) (E : Ext h h') (hs : Z.heap.size ≤ h.size) (hl : h.size < h'.size) : Own Z EL vm h' (h.size :: W) := fun x hx => by
  rcases List.mem_cons.mp hx with rfl | hx
  · exact ⟨hs, hl, Safe.ext E H (Safe.new (Nat.le_refl _))⟩
  · exact (O.r (CHr.ext E H)) x hx
/-- the walk's own facts, which do not change: the code, the class, the tables at the case's start -/
def Cx (p : Program) (m : MethodId) (meth : Method) (c : Code) (s : State) (Z : State) (a0 : Array Value) (EL : List (String × Nat)) (b : Bool) (own nm : String) (bytes : ByteArray) (maxL : Nat) (ret : Option FieldType) : Prop :=
  p.tables.exec = Jvm.exec ∧ c.code = bytes ∧ c.maxLocals = maxL ∧ meth.sig.returnType = ret ∧ meth.locks = false ∧ s.vm.findClass own = some m.cls ∧ Z.Warmed39 s.vm ∧ EW Z a0 EL ∧ meth.name = nm ∧ (b = false → ∀ a ∈ Bundle.stringAtoms, a.before a0 Z = true) ∧ (b = true → EL = [])
/-- a good end -/
def EndQ (R : Room) (Z : State) (EL : List (String × Nat)) (b : Bool) (Q : Option Value → Heap → List Nat → Prop) (s : State) (below : List Frame) (s2 : State) (v : Option Value) : Prop :=
  s2.status = .running ∧ Ended s2 below (.returned v) ∧ ∃ (L : List Loc) (W' : List Nat), Q v s2.heap W' ∧ Own Z EL s2.vm s2.heap W' ∧ Old Z Z.heap.size s2.heap ∧ Fr Z.heap.size L ∧ CHr Z EL s.vm s.heap s2.vm s2.heap ∧ ReturnedEndW s (.returned v) s2 L R.cells R.slots ∧ (b = true → FrameEnd s (.returned v) s2 L R.cells R.slots)
/-- from this frame over any state with this heap, the run comes to a good end -/
def WP (p : Program) (l : Launch) (e : Env) (R : Room) (s : State) (m : MethodId) (args : Array Value) (below : List Frame) (meth : Method) (c : Code) (Z : State) (EL : List (String × Nat)) (b : Bool) (Q : Option Value → Heap → List Nat → Prop)
    (pc : Nat) (L : List Slot) (st : List Value) (h : Heap) (W : List Nat) (k n : Nat) : Prop :=
  ∀ (T : State) (vm0 : Vm) (k0 : Nat) (locs : List Loc) (cells slots : Nat),
    Stand p l e R (s.setVm vm0) m args below meth c T locs cells slots → T.heap = h → s.Since vm0 k0 → k0 ≤ h.size → (b = true → vm0 = s.vm) →
    CHr Z EL s.vm s.heap vm0 h → Old Z Z.heap.size h → Own Z EL vm0 h W → Fr Z.heap.size locs → cells ≤ k → slots ≤ n →
    ∃ s2 v, Steps p.tables e below (T.setTop (mkF m pc L.toArray st)) s2 ∧ EndQ R Z EL b Q s below s2 v
section Steps
variable {p : Program} {l : Launch} {e : Env} {R : Room} {s : State} {m : MethodId} {args : Array Value} {below : List Frame} {meth : Method} {c : Code} {Z : State} {a0 : Array Value} {EL : List (String × Nat)} {b : Bool} {own nm : String} {bytes : ByteArray} {maxL : Nat} {ret : Option FieldType} {Q : Option Value → Heap → List Nat → Prop}
  {pc : Nat} {L : List Slot} {st : List Value} {h : Heap} {W : List Nat} {k n : Nat}
theorem Cx.z (C : Cx p m meth c s Z a0 EL b own nm bytes maxL ret) {vm0 : Vm} {k0 : Nat} (hS : s.Since vm0 k0) : Z.Warmed39 vm0 := State.Warmed39.trans C.2.2.2.2.2.2.1 hS.1
theorem Cx.o (C : Cx p m meth c s Z a0 EL b own nm bytes maxL ret) {vm0 : Vm} {k0 : Nat} (hS : s.Since vm0 k0) : vm0.findClass own = some m.cls := (hS.1.alike.findClass _ _).trans C.2.2.2.2.2.1
theorem Cx.ew (C : Cx p m meth c s Z a0 EL b own nm bytes maxL ret) : EW Z a0 EL := C.2.2.2.2.2.2.2.1
theorem WP.go {pc' : Nat} {L' : List Slot} {st' : List Value} (q : ∀ {T : State} {vm0 : Vm} {locs : List Loc} {cells slots : Nat}, Stand p l e R (s.setVm vm0) m args below meth c T locs cells slots → ∀ t, Steps p.tables e below (T.setTop (mkF m pc' L'.toArray st')) t → Steps p.tables e below (T.setTop (mkF m pc L.toArray st)) t)
    (hr : WP p l e R s m args below meth c Z EL b Q pc' L' st' h W k n) : WP p l e R s m args below meth c Z EL b Q pc L st h W k n := by
  intro T vm0 k0 locs cells slots X eT hS hk hb hC hO hW hF hc hn
  obtain ⟨s2, v, st, r⟩ := hr T vm0 k0 locs cells slots X eT hS hk hb hC hO hW hF hc hn
  exact ⟨s2, v, q X _ st, r⟩
theorem WP.hop {pc' : Nat} {L' : List Slot} {st' : List Value} (C : Cx p m meth c s Z a0 EL b own nm bytes maxL ret)
    (q : ∀ {T : State} {vm0 : Vm} {locs : List Loc} {cells slots : Nat}, Stand p l e R (s.setVm vm0) m args below meth c T locs cells slots → T.heap = h → Old Z Z.heap.size h → Z.Warmed39 (s.setVm vm0).vm → (s.setVm vm0).vm.findClass own = some m.cls →
      ∃ T', Stand p l e R (s.setVm vm0) m args below meth c T' locs cells slots ∧ T'.heap = h ∧ ∀ t, Steps p.tables e below (T'.setTop (mkF m pc' L'.toArray st')) t → Steps p.tables e below (T.setTop (mkF m pc L.toArray st)) t)
    (hr : WP p l e R s m args below meth c Z EL b Q pc' L' st' h W k n) : WP p l e R s m args below meth c Z EL b Q pc L st h W k n := by
  intro T vm0 k0 locs cells slots X eT hS hk hb hC hO hW hF hc hn
  obtain ⟨T', X', e', q'⟩ := q X eT hO (C.z hS) (C.o hS)
  obtain ⟨s2, v, st, r⟩ := hr T' vm0 k0 locs cells slots X' e' hS hk hb hC hO hW hF hc hn
  exact ⟨s2, v, q' _ st, r⟩
/-- a step that lays new cells and writes none -/
theorem WP.grow {pc' : Nat} {L' : List Slot} {st' : Nat → List Value} {dk dn : Nat} {F : Heap → Nat → Prop} (C : Cx p m meth c s Z a0 EL b own nm bytes maxL ret) (hc0 : k + dk ≤ R.cells) (hn0 : n + dn ≤ R.slots)
    (q : ∀ {T : State} {vm0 : Vm} {locs : List Loc} {cells slots : Nat}, Stand p l e R (s.setVm vm0) m args below meth c T locs cells slots → T.heap = h → Z.Warmed39 (s.setVm vm0).vm → (s.setVm vm0).vm.findClass own = some m.cls → cells + dk ≤ R.cells → slots + dn ≤ R.slots →
      ∃ T' h', Stand p l e R (s.setVm vm0) m args below meth c T' locs (cells + dk) (slots + dn) ∧ T'.heap = h' ∧ Ext h h' ∧ h.size < h'.size ∧ F h' h.size ∧ ∀ t, Steps p.tables e below (T'.setTop (mkF m pc' L'.toArray (st' h.size))) t → Steps p.tables e below (T.setTop (mkF m pc L.toArray st)) t)
    (hr : ∀ h' a, a = h.size → Z.heap.size ≤ a → a < h'.size → Ext h h' → F h' a → WP p l e R s m args below meth c Z EL b Q pc' L' (st' a) h' (a :: W) (k + dk) (n + dn)) : WP p l e R s m args below meth c Z EL b Q pc L st h W k n := by
  intro T vm0 k0 locs cells slots X eT hS hk hb hC hO hW hF hc hn
  obtain ⟨T', h', X', e', E, hl, f, q'⟩ := q X eT (C.z hS) (C.o hS) (by omega) (by omega)
  obtain ⟨s2, v, st, r⟩ := hr h' h.size rfl hO.2.1 hl E f T' vm0 k0 locs _ _ X' e' hS (Nat.le_trans hk E.1) hb (hC.trans (CHr.ext E hC.1)) (hO.ext E) (hW.new hC.1 E hO.2.1 hl) hF (by omega) (by omega)
  exact ⟨s2, v, q' _ st, r⟩
/-- a step that writes one place of a cell of W -/
theorem WP.write {pc' : Nat} {L' : List Slot} {st' : List Value} {a : Nat} {sl : Nat} {v : Value} (C : Cx p m meth c s Z a0 EL b own nm bytes maxL ret) (ha : a ∈ W)
    (q : ∀ {T : State} {vm0 : Vm} {locs : List Loc} {cells slots : Nat}, Stand p l e R (s.setVm vm0) m args below meth c T locs cells slots → T.heap = h → Z.Warmed39 (s.setVm vm0).vm → (s.setVm vm0).vm.findClass own = some m.cls →
      ∃ T' h', Stand p l e R (s.setVm vm0) m args below meth c T' (locs ++ [⟨a, sl⟩]) cells slots ∧ T'.heap = h' ∧ Wr h h' a sl v ∧ ∀ t, Steps p.tables e below (T'.setTop (mkF m pc' L'.toArray st')) t → Steps p.tables e below (T.setTop (mkF m pc L.toArray st)) t)
    (hr : ∀ h', Wr h h' a sl v → Keep h h' [a] → WP p l e R s m args below meth c Z EL b Q pc' L' st' h' W k n) : WP p l e R s m args below meth c Z EL b Q pc L st h W k n := by
  intro T vm0 k0 locs cells slots X eT hS hk hb hC hO hW hF hc hn
  obtain ⟨T', h', X', e', Wr', q'⟩ := q X eT (C.z hS) (C.o hS)
  have A := CHr.wr Wr' (hW a ha).2.2 hC.1
  obtain ⟨s2, v, st, r⟩ := hr h' Wr' (Keep.of_wr Wr') T' vm0 k0 _ _ _ X' e' hS (Nat.le_trans hk A.2.1) hb (hC.trans A) (hO.wr Wr' (hW a ha).1) (hW.r A) (Fr.snoc X' hF (hW a ha).1) hc hn
  exact ⟨s2, v, q' _ st, r⟩
/-- a local that one word may overwrite -/
def okS : Option Slot → Bool
  | some .unset => true
  | some (.val v) => v.category == 1
  | _ => false
theorem stoL {i : Nat} {v : Value} (hok : okS L[i]? = true) (hv : v.category = 1) : storeLocals L.toArray i v = some (L.set i (.val v)).toArray := by
  have e : L.toArray.setIfInBounds i (.val v) = (L.set i (.val v)).toArray := by simp
  cases hq : L[i]? with
  | none => rw [hq] at hok; cases hok
  | some o =>
    rw [hq] at hok
    have h1 : L.toArray[i]? = some o := by simpa using hq
    rw [← e]
    refine XS.store1 h1 ?_ hv
    cases o with
    | unset => exact Or.inl rfl
    | second => cases hok
    | val w => exact Or.inr ⟨w, rfl, by simpa [okS] using hok⟩
theorem getL {i : Nat} {o : Slot} (hl : L[i]? = some o) : L.toArray[i]? = some o := by simpa using hl
theorem iloadN (C : Cx p m meth c s Z a0 EL b own nm bytes maxL ret) {pc' : Nat} {i : Fin 4} {v : Int32} (hd : decode bytes pc = .ok (.iload_n i, 1)) (hp : pc + 1 = pc') (hl : L[i.val]? = some (.val (.int v))) (hr : WP p l e R s m args below meth c Z EL b Q pc' L (.int v :: st) h W k n) : WP p l e R s m args below meth c Z EL b Q pc L (st) h W k n := by
  subst hp; exact hr.go fun X t q => XS.iloadN X.here C.1 rfl (hb C.2.1 hd) (getL hl) q
theorem iload (C : Cx p m meth c s Z a0 EL b own nm bytes maxL ret) {pc' : Nat} {i : Nat} {v : Int32} (hd : decode bytes pc = .ok (.iload i, 2)) (hp : pc + 2 = pc') (hl : L[i]? = some (.val (.int v))) (hr : WP p l e R s m args below meth c Z EL b Q pc' L (.int v :: st) h W k n) : WP p l e R s m args below meth c Z EL b Q pc L (st) h W k n := by
  subst hp; exact hr.go fun X t q => XS.iload X.here C.1 rfl (hb C.2.1 hd) (getL hl) q
theorem aloadN (C : Cx p m meth c s Z a0 EL b own nm bytes maxL ret) {pc' : Nat} {i : Fin 4} {v : Value} (hd : decode bytes pc = .ok (.aload_n i, 1)) (hp : pc + 1 = pc') (hl : L[i.val]? = some (.val v)) (hv : v.isRef = true) (hr : WP p l e R s m args below meth c Z EL b Q pc' L (v :: st) h W k n) : WP p l e R s m args below meth c Z EL b Q pc L (st) h W k n := by
  subst hp; exact hr.go fun X t q => XS.aloadN X.here C.1 rfl (hb C.2.1 hd) (getL hl) hv q
theorem aload (C : Cx p m meth c s Z a0 EL b own nm bytes maxL ret) {pc' : Nat} {i : Nat} {v : Value} (hd : decode bytes pc = .ok (.aload i, 2)) (hp : pc + 2 = pc') (hl : L[i]? = some (.val v)) (hv : v.isRef = true) (hr : WP p l e R s m args below meth c Z EL b Q pc' L (v :: st) h W k n) : WP p l e R s m args below meth c Z EL b Q pc L (st) h W k n := by
  subst hp; exact hr.go fun X t q => XS.aload X.here C.1 rfl (hb C.2.1 hd) (getL hl) hv q
theorem lloadN (C : Cx p m meth c s Z a0 EL b own nm bytes maxL ret) {pc' : Nat} {i : Fin 4} {v : Int64} (hd : decode bytes pc = .ok (.lload_n i, 1)) (hp : pc + 1 = pc') (hl : L[i.val]? = some (.val (.long v))) (hr : WP p l e R s m args below meth c Z EL b Q pc' L (.long v :: st) h W k n) : WP p l e R s m args below meth c Z EL b Q pc L (st) h W k n := by
  subst hp; exact hr.go fun X t q => XT.lloadN X.here C.1 rfl (hb C.2.1 hd) (getL hl) q
theorem lload (C : Cx p m meth c s Z a0 EL b own nm bytes maxL ret) {pc' : Nat} {i : Nat} {v : Int64} (hd : decode bytes pc = .ok (.lload i, 2)) (hp : pc + 2 = pc') (hl : L[i]? = some (.val (.long v))) (hr : WP p l e R s m args below meth c Z EL b Q pc' L (.long v :: st) h W k n) : WP p l e R s m args below meth c Z EL b Q pc L (st) h W k n := by
  subst hp; exact hr.go fun X t q => XT.lload X.here C.1 rfl (hb C.2.1 hd) (getL hl) q
theorem aconstNull (C : Cx p m meth c s Z a0 EL b own nm bytes maxL ret) {pc' : Nat}  (hd : decode bytes pc = .ok (.aconst_null, 1)) (hp : pc + 1 = pc')  (hr : WP p l e R s m args below meth c Z EL b Q pc' L (.null :: st) h W k n) : WP p l e R s m args below meth c Z EL b Q pc L (st) h W k n := by
  subst hp; exact hr.go fun X t q => XS.aconstNull X.here C.1 rfl (hb C.2.1 hd)  q
theorem iconst (C : Cx p m meth c s Z a0 EL b own nm bytes maxL ret) {pc' : Nat} {i : Int} (v : Int32) (hd : decode bytes pc = .ok (.iconst i, 1)) (hp : pc + 1 = pc') (hv : Int32.ofInt i = v) (hr : WP p l e R s m args below meth c Z EL b Q pc' L (.int v :: st) h W k n) : WP p l e R s m args below meth c Z EL b Q pc L st h W k n := by
  subst hp hv; exact hr.go fun X t q => XS.iconst X.here C.1 rfl (hb C.2.1 hd) q
theorem bipush (C : Cx p m meth c s Z a0 EL b own nm bytes maxL ret) {pc' : Nat} {i : Int} (v : Int32) (hd : decode bytes pc = .ok (.bipush i, 2)) (hp : pc + 2 = pc') (hv : (Int8.ofInt i).toInt32 = v) (hr : WP p l e R s m args below meth c Z EL b Q pc' L (.int v :: st) h W k n) : WP p l e R s m args below meth c Z EL b Q pc L st h W k n := by
  subst hp hv; exact hr.go fun X t q => XS.bipush X.here C.1 rfl (hb C.2.1 hd) q
theorem sipush (C : Cx p m meth c s Z a0 EL b own nm bytes maxL ret) {pc' : Nat} {i : Int} (v : Int32) (hd : decode bytes pc = .ok (.sipush i, 3)) (hp : pc + 3 = pc') (hv : (Int16.ofInt i).toInt32 = v) (hr : WP p l e R s m args below meth c Z EL b Q pc' L (.int v :: st) h W k n) : WP p l e R s m args below meth c Z EL b Q pc L st h W k n := by
  subst hp hv; exact hr.go fun X t q => XS.sipush X.here C.1 rfl (hb C.2.1 hd) q
theorem lconst (C : Cx p m meth c s Z a0 EL b own nm bytes maxL ret) {pc' : Nat} {i : Fin 2} (v : Int64) (hd : decode bytes pc = .ok (.lconst i, 1)) (hp : pc + 1 = pc') (hv : Int64.ofNat i = v) (hr : WP p l e R s m args below meth c Z EL b Q pc' L (.long v :: st) h W k n) : WP p l e R s m args below meth c Z EL b Q pc L st h W k n := by
  subst hp hv; exact hr.go fun X t q => XT.lconst X.here C.1 rfl (hb C.2.1 hd) q
theorem iadd (C : Cx p m meth c s Z a0 EL b own nm bytes maxL ret) {pc' : Nat} {x y : Int32} (hd : decode bytes pc = .ok (.iadd, 1)) (hp : pc + 1 = pc')  (hr : WP p l e R s m args below meth c Z EL b Q pc' L (.int (x + y) :: st) h W k n) : WP p l e R s m args below meth c Z EL b Q pc L (.int y :: .int x :: st) h W k n := by
  subst hp; exact hr.go fun X t q => XS.iadd X.here C.1 rfl (hb C.2.1 hd) rfl q
theorem isub (C : Cx p m meth c s Z a0 EL b own nm bytes maxL ret) {pc' : Nat} {x y : Int32} (hd : decode bytes pc = .ok (.isub, 1)) (hp : pc + 1 = pc')  (hr : WP p l e R s m args below meth c Z EL b Q pc' L (.int (x - y) :: st) h W k n) : WP p l e R s m args below meth c Z EL b Q pc L (.int y :: .int x :: st) h W k n := by
  subst hp; exact hr.go fun X t q => XS.isub X.here C.1 rfl (hb C.2.1 hd) rfl q
theorem iand (C : Cx p m meth c s Z a0 EL b own nm bytes maxL ret) {pc' : Nat} {x y : Int32} (hd : decode bytes pc = .ok (.iand, 1)) (hp : pc + 1 = pc')  (hr : WP p l e R s m args below meth c Z EL b Q pc' L (.int (x &&& y) :: st) h W k n) : WP p l e R s m args below meth c Z EL b Q pc L (.int y :: .int x :: st) h W k n := by
  subst hp; exact hr.go fun X t q => XS.iand X.here C.1 rfl (hb C.2.1 hd) rfl q
theorem imul (C : Cx p m meth c s Z a0 EL b own nm bytes maxL ret) {pc' : Nat} {x y : Int32} (hd : decode bytes pc = .ok (.imul, 1)) (hp : pc + 1 = pc')  (hr : WP p l e R s m args below meth c Z EL b Q pc' L (.int (x * y) :: st) h W k n) : WP p l e R s m args below meth c Z EL b Q pc L (.int y :: .int x :: st) h W k n := by
  subst hp; exact hr.go fun X t q => XS.imul X.here C.1 rfl (hb C.2.1 hd) rfl q
theorem ior (C : Cx p m meth c s Z a0 EL b own nm bytes maxL ret) {pc' : Nat} {x y : Int32} (hd : decode bytes pc = .ok (.ior, 1)) (hp : pc + 1 = pc')  (hr : WP p l e R s m args below meth c Z EL b Q pc' L (.int (x ||| y) :: st) h W k n) : WP p l e R s m args below meth c Z EL b Q pc L (.int y :: .int x :: st) h W k n := by
  subst hp; exact hr.go fun X t q => XT.ior X.here C.1 rfl (hb C.2.1 hd) rfl q
theorem ixor (C : Cx p m meth c s Z a0 EL b own nm bytes maxL ret) {pc' : Nat} {x y : Int32} (hd : decode bytes pc = .ok (.ixor, 1)) (hp : pc + 1 = pc')  (hr : WP p l e R s m args below meth c Z EL b Q pc' L (.int (x ^^^ y) :: st) h W k n) : WP p l e R s m args below meth c Z EL b Q pc L (.int y :: .int x :: st) h W k n := by
  subst hp; exact hr.go fun X t q => XT.ixor X.here C.1 rfl (hb C.2.1 hd) rfl q
theorem ishl (C : Cx p m meth c s Z a0 EL b own nm bytes maxL ret) {pc' : Nat} {x y : Int32} (hd : decode bytes pc = .ok (.ishl, 1)) (hp : pc + 1 = pc')  (hr : WP p l e R s m args below meth c Z EL b Q pc' L (.int (x <<< (y &&& 31)) :: st) h W k n) : WP p l e R s m args below meth c Z EL b Q pc L (.int y :: .int x :: st) h W k n := by
  subst hp; exact hr.go fun X t q => XT.ishl X.here C.1 rfl (hb C.2.1 hd) rfl q
theorem ishr (C : Cx p m meth c s Z a0 EL b own nm bytes maxL ret) {pc' : Nat} {x y : Int32} (hd : decode bytes pc = .ok (.ishr, 1)) (hp : pc + 1 = pc')  (hr : WP p l e R s m args below meth c Z EL b Q pc' L (.int (x >>> (y &&& 31)) :: st) h W k n) : WP p l e R s m args below meth c Z EL b Q pc L (.int y :: .int x :: st) h W k n := by
  subst hp; exact hr.go fun X t q => XT.ishr X.here C.1 rfl (hb C.2.1 hd) rfl q
theorem iushr (C : Cx p m meth c s Z a0 EL b own nm bytes maxL ret) {pc' : Nat} {x y : Int32} (hd : decode bytes pc = .ok (.iushr, 1)) (hp : pc + 1 = pc')  (hr : WP p l e R s m args below meth c Z EL b Q pc' L (.int ((x.toUInt32 >>> (y &&& 31).toUInt32).toInt32) :: st) h W k n) : WP p l e R s m args below meth c Z EL b Q pc L (.int y :: .int x :: st) h W k n := by
  subst hp; exact hr.go fun X t q => XT.iushr X.here C.1 rfl (hb C.2.1 hd) rfl q
theorem irem (C : Cx p m meth c s Z a0 EL b own nm bytes maxL ret) {pc' : Nat} {x y : Int32} (hd : decode bytes pc = .ok (.irem, 1)) (hp : pc + 1 = pc') (hy : y ≠ 0) (hr : WP p l e R s m args below meth c Z EL b Q pc' L (.int (x % y) :: st) h W k n) : WP p l e R s m args below meth c Z EL b Q pc L (.int y :: .int x :: st) h W k n := by
  subst hp; exact hr.go fun X t q => iremM X C.1 rfl (hb C.2.1 hd) rfl hy q
theorem ineg (C : Cx p m meth c s Z a0 EL b own nm bytes maxL ret) {pc' : Nat} {x : Int32} (hd : decode bytes pc = .ok (.ineg, 1)) (hp : pc + 1 = pc')  (hr : WP p l e R s m args below meth c Z EL b Q pc' L (.int (-x) :: st) h W k n) : WP p l e R s m args below meth c Z EL b Q pc L (.int x :: st) h W k n := by
  subst hp; exact hr.go fun X t q => XS.ineg X.here C.1 rfl (hb C.2.1 hd) rfl q
theorem i2c (C : Cx p m meth c s Z a0 EL b own nm bytes maxL ret) {pc' : Nat} {x : Int32} (hd : decode bytes pc = .ok (.i2c, 1)) (hp : pc + 1 = pc')  (hr : WP p l e R s m args below meth c Z EL b Q pc' L (.int (nar .char x) :: st) h W k n) : WP p l e R s m args below meth c Z EL b Q pc L (.int x :: st) h W k n := by
  subst hp; exact hr.go fun X t q => XT.i2c X.here C.1 rfl (hb C.2.1 hd) rfl q
theorem i2b (C : Cx p m meth c s Z a0 EL b own nm bytes maxL ret) {pc' : Nat} {x : Int32} (hd : decode bytes pc = .ok (.i2b, 1)) (hp : pc + 1 = pc')  (hr : WP p l e R s m args below meth c Z EL b Q pc' L (.int (nar .byte x) :: st) h W k n) : WP p l e R s m args below meth c Z EL b Q pc L (.int x :: st) h W k n := by
  subst hp; exact hr.go fun X t q => XT.i2b X.here C.1 rfl (hb C.2.1 hd) rfl q
theorem i2l (C : Cx p m meth c s Z a0 EL b own nm bytes maxL ret) {pc' : Nat} {x : Int32} (hd : decode bytes pc = .ok (.i2l, 1)) (hp : pc + 1 = pc')  (hr : WP p l e R s m args below meth c Z EL b Q pc' L (.long x.toInt64 :: st) h W k n) : WP p l e R s m args below meth c Z EL b Q pc L (.int x :: st) h W k n := by
  subst hp; exact hr.go fun X t q => XT.i2l X.here C.1 rfl (hb C.2.1 hd) rfl q
theorem l2i (C : Cx p m meth c s Z a0 EL b own nm bytes maxL ret) {pc' : Nat} {x : Int64} (hd : decode bytes pc = .ok (.l2i, 1)) (hp : pc + 1 = pc')  (hr : WP p l e R s m args below meth c Z EL b Q pc' L (.int x.toInt32 :: st) h W k n) : WP p l e R s m args below meth c Z EL b Q pc L (.long x :: st) h W k n := by
  subst hp; exact hr.go fun X t q => XT.l2i X.here C.1 rfl (hb C.2.1 hd) rfl q
theorem land (C : Cx p m meth c s Z a0 EL b own nm bytes maxL ret) {pc' : Nat} {x y : Int64} (hd : decode bytes pc = .ok (.land, 1)) (hp : pc + 1 = pc')  (hr : WP p l e R s m args below meth c Z EL b Q pc' L (.long (x &&& y) :: st) h W k n) : WP p l e R s m args below meth c Z EL b Q pc L (.long y :: .long x :: st) h W k n := by
  subst hp; exact hr.go fun X t q => XT.land X.here C.1 rfl (hb C.2.1 hd) rfl q
theorem lushr (C : Cx p m meth c s Z a0 EL b own nm bytes maxL ret) {pc' : Nat} {x : Int64} {y : Int32} (hd : decode bytes pc = .ok (.lushr, 1)) (hp : pc + 1 = pc')  (hr : WP p l e R s m args below meth c Z EL b Q pc' L (.long (XT.ushrL x y) :: st) h W k n) : WP p l e R s m args below meth c Z EL b Q pc L (.int y :: .long x :: st) h W k n := by
  subst hp; exact hr.go fun X t q => XT.lushr X.here C.1 rfl (hb C.2.1 hd) rfl q
theorem dup (C : Cx p m meth c s Z a0 EL b own nm bytes maxL ret) {pc' : Nat} {x : Value} (hd : decode bytes pc = .ok (.dup, 1)) (hp : pc + 1 = pc') (hc : x.category = 1) (hr : WP p l e R s m args below meth c Z EL b Q pc' L (x :: x :: st) h W k n) : WP p l e R s m args below meth c Z EL b Q pc L (x :: st) h W k n := by
  subst hp; exact hr.go fun X t q => XS.dup X.here C.1 rfl (hb C.2.1 hd) rfl hc q
theorem pop (C : Cx p m meth c s Z a0 EL b own nm bytes maxL ret) {pc' : Nat} {x : Value} (hd : decode bytes pc = .ok (.pop, 1)) (hp : pc + 1 = pc') (hc : x.category = 1) (hr : WP p l e R s m args below meth c Z EL b Q pc' L (st) h W k n) : WP p l e R s m args below meth c Z EL b Q pc L (x :: st) h W k n := by
  subst hp; exact hr.go fun X t q => XT.pop X.here C.1 rfl (hb C.2.1 hd) rfl hc q
theorem dupX1 (C : Cx p m meth c s Z a0 EL b own nm bytes maxL ret) {pc' : Nat} {x y : Value} (hd : decode bytes pc = .ok (.dup_x1, 1)) (hp : pc + 1 = pc') (hc : x.category = 1) (hc' : y.category = 1) (hr : WP p l e R s m args below meth c Z EL b Q pc' L (x :: y :: x :: st) h W k n) : WP p l e R s m args below meth c Z EL b Q pc L (x :: y :: st) h W k n := by
  subst hp; exact hr.go fun X t q => XT.dupX1 X.here C.1 rfl (hb C.2.1 hd) rfl hc hc' q
theorem dup2 (C : Cx p m meth c s Z a0 EL b own nm bytes maxL ret) {pc' : Nat} {x y : Value} (hd : decode bytes pc = .ok (.dup2, 1)) (hp : pc + 1 = pc') (hc : x.category = 1) (hc' : y.category = 1) (hr : WP p l e R s m args below meth c Z EL b Q pc' L (x :: y :: x :: y :: st) h W k n) : WP p l e R s m args below meth c Z EL b Q pc L (x :: y :: st) h W k n := by
  subst hp; exact hr.go fun X t q => XT.dup2 X.here C.1 rfl (hb C.2.1 hd) rfl hc hc' q
theorem istoreN (C : Cx p m meth c s Z a0 EL b own nm bytes maxL ret) {pc' : Nat} {i : Fin 4} {x : Int32} (hd : decode bytes pc = .ok (.istore_n i, 1)) (hp : pc + 1 = pc') (hok : okS L[i.val]? = true) (hr : WP p l e R s m args below meth c Z EL b Q pc' (L.set i.val (.val (.int x))) (st) h W k n) : WP p l e R s m args below meth c Z EL b Q pc L (.int x :: st) h W k n := by
  subst hp; exact hr.go fun X t q => XS.istoreN X.here C.1 rfl (hb C.2.1 hd) rfl (stoL hok rfl) q
theorem istoreNG (C : Cx p m meth c s Z a0 EL b own nm bytes maxL ret) {pc' : Nat} {i : Fin 4} {x : Int32} (hd : decode bytes pc = .ok (.istore_n i, 1)) (hp : pc + 1 = pc') (hok : okS L[i.val]? = true) (hr : ∀ y : Int32, y = x → WP p l e R s m args below meth c Z EL b Q pc' (L.set i.val (.val (.int y))) st h W k n) : WP p l e R s m args below meth c Z EL b Q pc L (.int x :: st) h W k n := istoreN C hd hp hok (hr x rfl)
theorem istore (C : Cx p m meth c s Z a0 EL b own nm bytes maxL ret) {pc' : Nat} {i : Nat} {x : Int32} (hd : decode bytes pc = .ok (.istore i, 2)) (hp : pc + 2 = pc') (hok : okS L[i]? = true) (hr : WP p l e R s m args below meth c Z EL b Q pc' (L.set i (.val (.int x))) (st) h W k n) : WP p l e R s m args below meth c Z EL b Q pc L (.int x :: st) h W k n := by
  subst hp; exact hr.go fun X t q => XS.istore X.here C.1 rfl (hb C.2.1 hd) rfl (stoL hok rfl) q
theorem istoreG (C : Cx p m meth c s Z a0 EL b own nm bytes maxL ret) {pc' : Nat} {i : Nat} {x : Int32} (hd : decode bytes pc = .ok (.istore i, 2)) (hp : pc + 2 = pc') (hok : okS L[i]? = true) (hr : ∀ y : Int32, y = x → WP p l e R s m args below meth c Z EL b Q pc' (L.set i (.val (.int y))) st h W k n) : WP p l e R s m args below meth c Z EL b Q pc L (.int x :: st) h W k n := istore C hd hp hok (hr x rfl)
theorem astoreN (C : Cx p m meth c s Z a0 EL b own nm bytes maxL ret) {pc' : Nat} {i : Fin 4} {x : Value} (hd : decode bytes pc = .ok (.astore_n i, 1)) (hp : pc + 1 = pc') (hv : x.isRef = true) (hok : okS L[i.val]? = true) (hr : WP p l e R s m args below meth c Z EL b Q pc' (L.set i.val (.val x)) (st) h W k n) : WP p l e R s m args below meth c Z EL b Q pc L (x :: st) h W k n := by
  subst hp; exact hr.go fun X t q => XS.astoreN X.here C.1 rfl (hb C.2.1 hd) rfl hv (stoL hok (XT.cat1 hv)) q
theorem astore (C : Cx p m meth c s Z a0 EL b own nm bytes maxL ret) {pc' : Nat} {i : Nat} {x : Value} (hd : decode bytes pc = .ok (.astore i, 2)) (hp : pc + 2 = pc') (hv : x.isRef = true) (hok : okS L[i]? = true) (hr : WP p l e R s m args below meth c Z EL b Q pc' (L.set i (.val x)) (st) h W k n) : WP p l e R s m args below meth c Z EL b Q pc L (x :: st) h W k n := by
  subst hp; exact hr.go fun X t q => XS.astore X.here C.1 rfl (hb C.2.1 hd) rfl hv (stoL hok (XT.cat1 hv)) q
theorem iinc (C : Cx p m meth c s Z a0 EL b own nm bytes maxL ret) {pc' : Nat} {i : Nat} {d : Int} {x : Int32} (v : Int32) (hd : decode bytes pc = .ok (.iinc i d, 3)) (hp : pc + 3 = pc') (hv : Int32.ofInt d = v) (hl : L[i]? = some (.val (.int x))) (hr : WP p l e R s m args below meth c Z EL b Q pc' (L.set i (.val (.int (x + v)))) st h W k n) : WP p l e R s m args below meth c Z EL b Q pc L st h W k n := by
  subst hp hv; exact hr.go fun X t q => XS.iinc X.here C.1 rfl (hb C.2.1 hd) (getL hl) (stoL (by rw [hl]; rfl) rfl) q
theorem goto (C : Cx p m meth c s Z a0 EL b own nm bytes maxL ret) (pc' : Nat) {o : Int} (hd : decode bytes pc = .ok (.goto o, 3)) (ho : 0 ≤ (pc : Int) + o) (hp : ((pc : Int) + o).toNat = pc') (hr : WP p l e R s m args below meth c Z EL b Q pc' L st h W k n) : WP p l e R s m args below meth c Z EL b Q pc L st h W k n := by
  exact hr.go fun X t q => XS.goto X.here C.1 rfl (pc0 := pc) (pc' := pc') rfl (hb C.2.1 hd) ho hp q
theorem ifCY (C : Cx p m meth c s Z a0 EL b own nm bytes maxL ret) (pc' : Nat) {cd : ClassFile.Cond} {x : Int32} {o : Int} (hd : decode bytes pc = .ok (.ifCond cd o, 3))  (hc : ifCond.holds cd x = true) (ho : 0 ≤ (pc : Int) + o) (hp : ((pc : Int) + o).toNat = pc') (hr : WP p l e R s m args below meth c Z EL b Q pc' L st h W k n) : WP p l e R s m args below meth c Z EL b Q pc L (.int x :: st) h W k n := by
  exact hr.go fun X t q => XS.ifYes X.here C.1 rfl (pc0 := pc) (pc' := pc') rfl (hb C.2.1 hd) rfl hc ho hp q
theorem ifCN (C : Cx p m meth c s Z a0 EL b own nm bytes maxL ret) {pc' : Nat} {cd : ClassFile.Cond} {x : Int32} {o : Int} (hd : decode bytes pc = .ok (.ifCond cd o, 3)) (hp : pc + 3 = pc')  (hc : ifCond.holds cd x = false) (hr : WP p l e R s m args below meth c Z EL b Q pc' L st h W k n) : WP p l e R s m args below meth c Z EL b Q pc L (.int x :: st) h W k n := by
  subst hp; exact hr.go fun X t q => XS.ifNo X.here C.1 rfl (hb C.2.1 hd) rfl hc q
theorem ifC (C : Cx p m meth c s Z a0 EL b own nm bytes maxL ret) (pc1 pc2 : Nat) {cd : ClassFile.Cond} {x : Int32} {o : Int} {P : Prop} [Decidable P] (hd : decode bytes pc = .ok (.ifCond cd o, 3))  (hc : ifCond.holds cd x = decide P) (ho : 0 ≤ (pc : Int) + o) (hp : ((pc : Int) + o).toNat = pc1) (hp2 : pc + 3 = pc2) (h1 : P → WP p l e R s m args below meth c Z EL b Q pc1 L st h W k n) (h2 : ¬ P → WP p l e R s m args below meth c Z EL b Q pc2 L st h W k n) : WP p l e R s m args below meth c Z EL b Q pc L (.int x :: st) h W k n := by
  by_cases q : P
  · exact ifCY C pc1 hd (by rw [hc]; exact decide_eq_true q) ho hp (h1 q)
  · exact ifCN C hd hp2 (by rw [hc]; exact decide_eq_false q) (h2 q)
theorem icmpY (C : Cx p m meth c s Z a0 EL b own nm bytes maxL ret) (pc' : Nat) {cd : ClassFile.Cond} {x y : Int32} {o : Int} (hd : decode bytes pc = .ok (.if_icmp cd o, 3))  (hc : if_icmp.holds cd x y = true) (ho : 0 ≤ (pc : Int) + o) (hp : ((pc : Int) + o).toNat = pc') (hr : WP p l e R s m args below meth c Z EL b Q pc' L st h W k n) : WP p l e R s m args below meth c Z EL b Q pc L (.int y :: .int x :: st) h W k n := by
  exact hr.go fun X t q => XS.icmpYes X.here C.1 rfl (pc0 := pc) (pc' := pc') rfl (hb C.2.1 hd) rfl hc ho hp q
theorem icmpN (C : Cx p m meth c s Z a0 EL b own nm bytes maxL ret) {pc' : Nat} {cd : ClassFile.Cond} {x y : Int32} {o : Int} (hd : decode bytes pc = .ok (.if_icmp cd o, 3)) (hp : pc + 3 = pc')  (hc : if_icmp.holds cd x y = false) (hr : WP p l e R s m args below meth c Z EL b Q pc' L st h W k n) : WP p l e R s m args below meth c Z EL b Q pc L (.int y :: .int x :: st) h W k n := by
  subst hp; exact hr.go fun X t q => XS.icmpNo X.here C.1 rfl (hb C.2.1 hd) rfl hc q
theorem icmp (C : Cx p m meth c s Z a0 EL b own nm bytes maxL ret) (pc1 pc2 : Nat) {cd : ClassFile.Cond} {x y : Int32} {o : Int} {P : Prop} [Decidable P] (hd : decode bytes pc = .ok (.if_icmp cd o, 3))  (hc : if_icmp.holds cd x y = decide P) (ho : 0 ≤ (pc : Int) + o) (hp : ((pc : Int) + o).toNat = pc1) (hp2 : pc + 3 = pc2) (h1 : P → WP p l e R s m args below meth c Z EL b Q pc1 L st h W k n) (h2 : ¬ P → WP p l e R s m args below meth c Z EL b Q pc2 L st h W k n) : WP p l e R s m args below meth c Z EL b Q pc L (.int y :: .int x :: st) h W k n := by
  by_cases q : P
  · exact icmpY C pc1 hd (by rw [hc]; exact decide_eq_true q) ho hp (h1 q)
  · exact icmpN C hd hp2 (by rw [hc]; exact decide_eq_false q) (h2 q)
theorem acmpY (C : Cx p m meth c s Z a0 EL b own nm bytes maxL ret) (pc' : Nat) {cd : ClassFile.ACond} {x y : Value} {o : Int} (hd : decode bytes pc = .ok (.if_acmp cd o, 3)) (hx : x.isRef = true) (hy : y.isRef = true) (hc : XT.acmp cd x y = true) (ho : 0 ≤ (pc : Int) + o) (hp : ((pc : Int) + o).toNat = pc') (hr : WP p l e R s m args below meth c Z EL b Q pc' L st h W k n) : WP p l e R s m args below meth c Z EL b Q pc L (y :: x :: st) h W k n := by
  exact hr.go fun X t q => XT.acmpYes X.here C.1 rfl (pc0 := pc) (pc' := pc') rfl (hb C.2.1 hd) rfl hx hy hc ho hp q
theorem acmpN (C : Cx p m meth c s Z a0 EL b own nm bytes maxL ret) {pc' : Nat} {cd : ClassFile.ACond} {x y : Value} {o : Int} (hd : decode bytes pc = .ok (.if_acmp cd o, 3)) (hp : pc + 3 = pc') (hx : x.isRef = true) (hy : y.isRef = true) (hc : XT.acmp cd x y = false) (hr : WP p l e R s m args below meth c Z EL b Q pc' L st h W k n) : WP p l e R s m args below meth c Z EL b Q pc L (y :: x :: st) h W k n := by
  subst hp; exact hr.go fun X t q => XT.acmpNo X.here C.1 rfl (hb C.2.1 hd) rfl hx hy hc q
theorem acmp (C : Cx p m meth c s Z a0 EL b own nm bytes maxL ret) (pc1 pc2 : Nat) {cd : ClassFile.ACond} {x y : Value} {o : Int} {P : Prop} [Decidable P] (hd : decode bytes pc = .ok (.if_acmp cd o, 3)) (hx : x.isRef = true) (hy : y.isRef = true) (hc : XT.acmp cd x y = decide P) (ho : 0 ≤ (pc : Int) + o) (hp : ((pc : Int) + o).toNat = pc1) (hp2 : pc + 3 = pc2) (h1 : P → WP p l e R s m args below meth c Z EL b Q pc1 L st h W k n) (h2 : ¬ P → WP p l e R s m args below meth c Z EL b Q pc2 L st h W k n) : WP p l e R s m args below meth c Z EL b Q pc L (y :: x :: st) h W k n := by
  by_cases q : P
  · exact acmpY C pc1 hd hx hy (by rw [hc]; exact decide_eq_true q) ho hp (h1 q)
  · exact acmpN C hd hp2 hx hy (by rw [hc]; exact decide_eq_false q) (h2 q)
theorem ifnullY (C : Cx p m meth c s Z a0 EL b own nm bytes maxL ret) (pc' : Nat) {o : Int} (hd : decode bytes pc = .ok (.ifnull o, 3)) (ho : 0 ≤ (pc : Int) + o) (hp : ((pc : Int) + o).toNat = pc') (hr : WP p l e R s m args below meth c Z EL b Q pc' L st h W k n) : WP p l e R s m args below meth c Z EL b Q pc L (.null :: st) h W k n := by
  exact hr.go fun X t q => XS.ifnullYes X.here C.1 rfl (pc0 := pc) (pc' := pc') rfl (hb C.2.1 hd) rfl ho hp q
theorem ifnullN (C : Cx p m meth c s Z a0 EL b own nm bytes maxL ret) {pc' : Nat} {o : Int} {a : Nat} (hd : decode bytes pc = .ok (.ifnull o, 3)) (hp : pc + 3 = pc') (hr : WP p l e R s m args below meth c Z EL b Q pc' L st h W k n) : WP p l e R s m args below meth c Z EL b Q pc L (.ref a :: st) h W k n := by
  subst hp; exact hr.go fun X t q => XS.ifnullNo X.here C.1 rfl (hb C.2.1 hd) rfl q
theorem ifnonnullY (C : Cx p m meth c s Z a0 EL b own nm bytes maxL ret) (pc' : Nat) {o : Int} {a : Nat} (hd : decode bytes pc = .ok (.ifnonnull o, 3)) (ho : 0 ≤ (pc : Int) + o) (hp : ((pc : Int) + o).toNat = pc') (hr : WP p l e R s m args below meth c Z EL b Q pc' L st h W k n) : WP p l e R s m args below meth c Z EL b Q pc L (.ref a :: st) h W k n := by
  exact hr.go fun X t q => XT.ifnonnullYes X.here C.1 rfl (pc0 := pc) (pc' := pc') rfl (hb C.2.1 hd) rfl ho hp q
theorem ifnonnullN (C : Cx p m meth c s Z a0 EL b own nm bytes maxL ret) {pc' : Nat} {o : Int} (hd : decode bytes pc = .ok (.ifnonnull o, 3)) (hp : pc + 3 = pc') (hr : WP p l e R s m args below meth c Z EL b Q pc' L st h W k n) : WP p l e R s m args below meth c Z EL b Q pc L (.null :: st) h W k n := by
  subst hp; exact hr.go fun X t q => XT.ifnonnullNo X.here C.1 rfl (hb C.2.1 hd) rfl q
theorem ldcI (C : Cx p m meth c s Z a0 EL b own nm bytes maxL ret) {pc' : Nat} {index : Nat} {v : Int32} (w : (Cond.constant own index v).before a0 Z = true) (hd : decode bytes pc = .ok (.ldc index, 2)) (hp : pc + 2 = pc') (hr : WP p l e R s m args below meth c Z EL b Q pc' L (.int v :: st) h W k n) : WP p l e R s m args below meth c Z EL b Q pc L st h W k n := by
  subst hp; exact hr.hop C fun X eT _ hZ ho => ⟨_, X, eT, fun t q => X.ldcI C.1 ho (mv hZ w) rfl (hb C.2.1 hd) q⟩
/-! fields, statics, casts -/
theorem getF (C : Cx p m meth c s Z a0 EL b own nm bytes maxL ret) {pc' : Nat} {f O d : String} {index : Nat} {a : Nat} {v : Value} (w : (Cond.fieldLink own index O f d).before a0 Z = true) (F : Fld Z h a O f d v) (hd : decode bytes pc = .ok (.getfield index, 3)) (hp : pc + 3 = pc')
    (hr : WP p l e R s m args below meth c Z EL b Q pc' L (v :: st) h W k n) : WP p l e R s m args below meth c Z EL b Q pc L (.ref a :: st) h W k n := by
  subst hp
  exact hr.hop C fun X eT _ hZ ho => RoadKit.getF X C.1 hZ ho (host := "") (Or.inl w) Via.refl eT F (g := mkF m pc L.toArray (.ref a :: st)) rfl rfl (hb C.2.1 hd)
theorem getFV (C : Cx p m meth c s Z a0 EL b own nm bytes maxL ret) {pc' : Nat} {f R0 O d : String} {index : Nat} {a : Nat} {v : Value} (w : (Cond.fieldLink own index R0 f d).before a0 Z = true) (via : Via Z R0 O f d) (F : Fld Z h a O f d v) (hd : decode bytes pc = .ok (.getfield index, 3)) (hp : pc + 3 = pc')
    (hr : WP p l e R s m args below meth c Z EL b Q pc' L (v :: st) h W k n) : WP p l e R s m args below meth c Z EL b Q pc L (.ref a :: st) h W k n := by
  subst hp
  exact hr.hop C fun X eT _ hZ ho => RoadKit.getF X C.1 hZ ho (host := "") (Or.inl w) via eT F (g := mkF m pc L.toArray (.ref a :: st)) rfl rfl (hb C.2.1 hd)
theorem getS (C : Cx p m meth c s Z a0 EL b own nm bytes maxL ret) {pc' : Nat} {f O d : String} {index : Nat} {v : Value} (w : (Cond.fieldLink own index O f d).before a0 Z = true) (F : Sta Z Z.heap O f d v) (hd : decode bytes pc = .ok (.getstatic index, 3)) (hp : pc + 3 = pc')
    (hr : WP p l e R s m args below meth c Z EL b Q pc' L (v :: st) h W k n) : WP p l e R s m args below meth c Z EL b Q pc L st h W k n := by
  subst hp
  exact hr.hop C fun X eT hO hZ ho => RoadKit.getS X C.1 hZ (host := "") ho w Via.refl eT (F.ext hO.2) (g := mkF m pc L.toArray st) rfl (hb C.2.1 hd)
theorem castY (C : Cx p m meth c s Z a0 EL b own nm bytes maxL ret) {pc' : Nat} {K : String} {index : Nat} {a : Nat} (w : (Cond.classLink own index K).before a0 Z = true) (F : Ins Z h a K true) (hd : decode bytes pc = .ok (.checkcast index, 3)) (hp : pc + 3 = pc')
    (hr : WP p l e R s m args below meth c Z EL b Q pc' L (.ref a :: st) h W k n) : WP p l e R s m args below meth c Z EL b Q pc L (.ref a :: st) h W k n := by
  subst hp
  exact hr.hop C fun X eT _ hZ ho => RoadKit.castY X C.1 hZ ho w eT F (g := mkF m pc L.toArray (.ref a :: st)) rfl rfl (hb C.2.1 hd)
theorem instY (C : Cx p m meth c s Z a0 EL b own nm bytes maxL ret) {pc' : Nat} {K : String} {index : Nat} {a : Nat} (w : (Cond.classLink own index K).before a0 Z = true) (F : Ins Z h a K true) (hd : decode bytes pc = .ok (.instanceof index, 3)) (hp : pc + 3 = pc')
    (hr : WP p l e R s m args below meth c Z EL b Q pc' L (.int 1 :: st) h W k n) : WP p l e R s m args below meth c Z EL b Q pc L (.ref a :: st) h W k n := by
  subst hp
  exact hr.hop C fun X eT _ hZ ho => RoadKit.instY X C.1 hZ ho w eT F (g := mkF m pc L.toArray (.ref a :: st)) rfl rfl (hb C.2.1 hd)
theorem initO (C : Cx p m meth c s Z a0 EL b own nm bytes maxL ret) {pc' : Nat} {index : Nat} {a : Nat} (w1 : (Cond.methodLink own index Lib.objectInit).before a0 Z = true) (w2 : (Cond.instanceMethod Lib.objectInit).before a0 Z = true) (w3 : (Cond.code Lib.objectInit ⟨#[0xb1]⟩ 1 none).before a0 Z = true)
    (hd : decode bytes pc = .ok (.invokespecial index, 3)) (hp : pc + 3 = pc') (hsz : L.length = maxL) (hf : 1 ≤ R.frames) (hl : (st.map fun v => v.category).sum + 12 ≤ R.locals)
    (hr : WP p l e R s m args below meth c Z EL b Q pc' L st h W k n) : WP p l e R s m args below meth c Z EL b Q pc L (.ref a :: st) h W k n := by
  subst hp
  exact hr.hop C fun X eT _ hZ ho => RoadKit.initO X C.1 hZ ho w1 w2 w3 eT (g := mkF m pc L.toArray (.ref a :: st)) rfl (by rw [C.2.2.1, ← hsz]; simp) rfl (hb C.2.1 hd) hf (W := (st.map fun v => v.category).sum) (by show 2 * 0 + _ ≤ _; omega) hl
/-! new -/
theorem newO (C : Cx p m meth c s Z a0 EL b own nm bytes maxL ret) {pc' : Nat} {K : String} {index sz : Nat} (w : (Cond.classLink own index K).before a0 Z = true) (wi : (Cond.instantiable K sz).before a0 Z = true) (wz : (Cond.initialized K).before a0 Z = true) (hd : decode bytes pc = .ok (.new index, 3)) (hp : pc + 3 = pc') (hc : k + 1 ≤ R.cells) (hn : n + sz ≤ R.slots)
    (hr : ∀ h' a, a = h.size → Z.heap.size ≤ a → a < h'.size → Ext h h' → (Exa Z h' a K ∧ ∀ {O f d : String} {ty : FieldType}, Laid Z a0 K O f d → parseFieldDescriptor d = some ty → Fld Z h' a O f d (defaultValue ty)) → WP p l e R s m args below meth c Z EL b Q pc' L (.ref a :: st) h' (a :: W) (k + 1) (n + sz)) :
    WP p l e R s m args below meth c Z EL b Q pc L st h W k n := by
  subst hp
  refine WP.grow (F := fun h' a => Exa Z h' a K ∧ ∀ {O f d : String} {ty : FieldType}, Laid Z a0 K O f d → parseFieldDescriptor d = some ty → Fld Z h' a O f d (defaultValue ty)) (st' := fun a => .ref a :: st) C hc hn (fun X eT hZ ho h1 h2 => ?_) hr
  obtain ⟨T', h', X', e', E, A, D, -, q⟩ := RoadKit.newO X C.1 hZ ho w wi wz eT (g := mkF m pc L.toArray st) rfl (hb C.2.1 hd) h1 h2
  exact ⟨T', h', X', e', E, A.lt, ⟨A, D⟩, q⟩
/-- an array of ints (or bytes, chars ..) with these components -/
def ArI (Z : State) (h : Heap) (a : Nat) (ty : FieldType) (xs : List Int32) : Prop := (∃ kc, Arv Z h a kc ty (Int32.ofNat xs.length) (xs.map Value.int) (.int 0)) ∧ xs.length < 2 ^ 31
theorem ArI.lt {h : Heap} {a : Nat} {ty : FieldType} {xs : List Int32} (A : ArI Z h a ty xs) : a < h.size := by obtain ⟨⟨_, A⟩, _⟩ := A; exact A.lt
theorem ArI.ext {h h' : Heap} {a : Nat} {ty : FieldType} {xs : List Int32} (A : ArI Z h a ty xs) (E : Ext h h') : ArI Z h' a ty xs := by obtain ⟨⟨k, A⟩, q⟩ := A; exact ⟨⟨k, A.ext E⟩, q⟩
theorem ArI.keep {h h' : Heap} {a : Nat} {ty : FieldType} {xs : List Int32} {ws : List Nat} (A : ArI Z h a ty xs) (K : Keep h h' ws) (hn : a ∉ ws) : ArI Z h' a ty xs := by obtain ⟨⟨k, A⟩, q⟩ := A; exact ⟨⟨k, A.keep K hn⟩, q⟩
theorem ofNat_clamp {i : Nat} (hi : i < 2 ^ 31) : (Int32.ofNat i).toNatClampNeg = i := clamp_of rfl hi
theorem idx_ok {j : Int32} {i : Nat} (hj : j.toInt = (i : Int)) : ¬ j < 0 ∧ j.toNatClampNeg = i := by
  refine ⟨fun q => ?_, ?_⟩
  · rw [Int32.lt_iff_toInt_lt, hj, Int32.toInt_zero] at q; omega
  · show j.toInt.toNat = i; rw [hj]; rfl
theorem ArI.fit {h : Heap} {a : Nat} {ty : FieldType} {xs : List Int32} (A : ArI Z h a ty xs) {i : Nat} (hi : i < xs.length) : fits ty (.int (xs.getD i 0)) = true := by
  obtain ⟨⟨k, cl, A, q1, S, q3, H, G⟩, q⟩ := A
  have := G i (by rw [S, ofNat_clamp q]; exact hi)
  simpa [List.getD_eq_getElem?_getD, hi] using this
theorem ArI.cell {h : Heap} {a : Nat} {ty : FieldType} {xs : List Int32} (A : ArI Z h a ty xs) : ∃ cl : Cell, Arr Z h a cl ty ∧ cl.slots.size = xs.length ∧ ∀ {j : Int32} {i : Nat}, j.toInt = (i : Int) → i < xs.length → ¬ (j < 0 ∨ cl.slots.size ≤ j.toNatClampNeg) ∧ cl.slots[j.toNatClampNeg]? = some (.int (xs.getD i 0)) := by
  obtain ⟨⟨k, cl, A, q1, S, q3, H, G⟩, q⟩ := A
  rw [ofNat_clamp q] at S
  refine ⟨cl, A, S, fun {j i} hj hi => ?_⟩
  obtain ⟨h1, h2⟩ := idx_ok hj
  refine ⟨fun q => q.elim h1 (fun q => by omega), ?_⟩
  rw [h2, H i (by omega)]
  simp [List.getD_eq_getElem?_getD, hi]
theorem newarr (C : Cx p m meth c s Z a0 EL b own nm bytes maxL ret) {pc' : Nat} {aty : ArrayType} {ty : FieldType} {z : Int32} {cap : Nat} (hty : newarray.typeOf aty = ty) (hdv : defaultValue ty = .int 0) (w : (Cond.arrayClass ty).before a0 Z = true) (hd : decode bytes pc = .ok (.newarray aty, 2)) (hp : pc + 2 = pc') (hz : z = Int32.ofNat cap) (hcap : cap * 8 ≤ 536870912) (hc : k + 1 ≤ R.cells) (hn : n + cap ≤ R.slots)
    (hr : ∀ h' a, a = h.size → Z.heap.size ≤ a → a < h'.size → Ext h h' → ArI Z h' a ty (List.replicate cap 0) → WP p l e R s m args below meth c Z EL b Q pc' L (.ref a :: st) h' (a :: W) (k + 1) (n + cap)) :
    WP p l e R s m args below meth c Z EL b Q pc L (.int z :: st) h W k n := by
  subst hp hz hty
  have hb31 : cap < 2 ^ 31 := by omega
  refine WP.grow (F := fun h' a => ArI Z h' a (newarray.typeOf aty) (List.replicate cap 0)) (st' := fun a => .ref a :: st) C hc hn (fun X eT hZ ho h1 h2 => ?_) hr
  have hneg : ¬ Int32.ofNat cap < 0 := fun q => by
    rw [Int32.lt_iff_toInt_lt, toInt_of rfl hb31, Int32.toInt_zero] at q; omega
  obtain ⟨T', h', kA, X', e', E, A, q⟩ := RoadKit.newP X C.1 hZ w eT (g := mkF m pc L.toArray (.int (Int32.ofNat cap) :: st)) rfl (hb C.2.1 hd) rfl hneg (cap := cap) (by rw [ofNat_clamp hb31]; exact Nat.le_refl _) hcap h1 h2
  refine ⟨T', h', X', e', E, A.lt, ?_, q⟩
  have A' := Arv.new A hneg
  rw [hdv] at A'
  have A2 := A'.pad (vs' := (List.replicate cap (0 : Int32)).map Value.int) (by
    intro i
    have := pad_rep [] (.int (0 : Int32)) cap i
    simpa [List.map_replicate] using this)
  exact ⟨⟨kA, by simpa using A2⟩, by simpa using hb31⟩
/-! arrays -/
theorem arrlen (C : Cx p m meth c s Z a0 EL b own nm bytes maxL ret) {pc' : Nat} {a : Nat} {ty : FieldType} {xs : List Int32} (A : ArI Z h a ty xs) (hd : decode bytes pc = .ok (.arraylength, 1)) (hp : pc + 1 = pc')
    (hr : WP p l e R s m args below meth c Z EL b Q pc' L (.int (Int32.ofNat xs.length) :: st) h W k n) : WP p l e R s m args below meth c Z EL b Q pc L (.ref a :: st) h W k n := by
  subst hp
  obtain ⟨cl, A, S, -⟩ := A.cell
  have e : cl.slots.size.toInt32 = Int32.ofNat xs.length := by rw [S]
  rw [← e] at hr
  exact hr.hop C fun X eT _ hZ ho => ⟨_, X, eT, fun t q => X.arraylength C.1 (by rw [eT]; exact A.1) (State.isArrayOf_alike hZ.alike A.2.1) (g := mkF m pc L.toArray (.ref a :: st)) rfl rfl (hb C.2.1 hd) t q⟩
theorem caload (C : Cx p m meth c s Z a0 EL b own nm bytes maxL ret) {pc' : Nat} {a : Nat} {xs : List Int32} {j : Int32} {i : Nat} (A : ArI Z h a .char xs) (hj : j.toInt = (i : Int)) (hi : i < xs.length) (hd : decode bytes pc = .ok (.caload, 1)) (hp : pc + 1 = pc')
    (hr : WP p l e R s m args below meth c Z EL b Q pc' L (.int (xs.getD i 0) :: st) h W k n) : WP p l e R s m args below meth c Z EL b Q pc L (.int j :: .ref a :: st) h W k n := by
  subst hp
  obtain ⟨cl, A, S, G⟩ := A.cell
  obtain ⟨h1, h2⟩ := G hj hi
  exact hr.hop C fun X eT _ hZ ho => ⟨_, X, eT, fun t q => X.caload C.1 (by rw [eT]; exact A.1) (State.isArrayOf_alike hZ.alike A.2.1) A.2.2 h1 h2 (g := mkF m pc L.toArray (.int j :: .ref a :: st)) rfl rfl (hb C.2.1 hd) t q⟩
theorem baload (C : Cx p m meth c s Z a0 EL b own nm bytes maxL ret) {pc' : Nat} {a : Nat} {xs : List Int32} {j : Int32} {i : Nat} (A : ArI Z h a .byte xs) (hj : j.toInt = (i : Int)) (hi : i < xs.length) (hd : decode bytes pc = .ok (.baload, 1)) (hp : pc + 1 = pc')
    (hr : WP p l e R s m args below meth c Z EL b Q pc' L (.int (xs.getD i 0) :: st) h W k n) : WP p l e R s m args below meth c Z EL b Q pc L (.int j :: .ref a :: st) h W k n := by
  subst hp
  obtain ⟨cl, A, S, G⟩ := A.cell
  obtain ⟨h1, h2⟩ := G hj hi
  exact hr.hop C fun X eT _ hZ ho => ⟨_, X, eT, fun t q => X.baloadBytes C.1 (by rw [eT]; exact A.1) (State.isArrayOf_alike hZ.alike A.2.1) A.2.2 h1 h2 (g := mkF m pc L.toArray (.int j :: .ref a :: st)) rfl rfl (hb C.2.1 hd) t q⟩
theorem iaload (C : Cx p m meth c s Z a0 EL b own nm bytes maxL ret) {pc' : Nat} {a : Nat} {xs : List Int32} {j : Int32} {i : Nat} (A : ArI Z h a .int xs) (hj : j.toInt = (i : Int)) (hi : i < xs.length) (hd : decode bytes pc = .ok (.iaload, 1)) (hp : pc + 1 = pc')
    (hr : WP p l e R s m args below meth c Z EL b Q pc' L (.int (xs.getD i 0) :: st) h W k n) : WP p l e R s m args below meth c Z EL b Q pc L (.int j :: .ref a :: st) h W k n := by
  subst hp
  obtain ⟨cl, A, S, G⟩ := A.cell
  obtain ⟨h1, h2⟩ := G hj hi
  exact hr.hop C fun X eT _ hZ ho => ⟨_, X, eT, fun t q => X.iaload C.1 (by rw [eT]; exact A.1) (State.isArrayOf_alike hZ.alike A.2.1) A.2.2 h1 h2 (g := mkF m pc L.toArray (.int j :: .ref a :: st)) rfl rfl (hb C.2.1 hd) t q⟩
theorem ArI.set {h h' : Heap} {a : Nat} {ty : FieldType} {xs : List Int32} {j : Int32} {i : Nat} {x : Int32} (A : ArI Z h a ty xs) (hj : j.toInt = (i : Int)) (hi : i < xs.length) (hx : fits ty (.int x) = true) (Wr' : Wr h h' a j.toNatClampNeg (.int x)) : ArI Z h' a ty (xs.set i x) := by
  obtain ⟨⟨kc, cl, A, q1, S, q3, H, G⟩, q⟩ := A
  obtain ⟨h1, h2⟩ := idx_ok hj
  have := Arv.set A q1 S q3 H G hx Wr' i h2 (by simpa using hi)
  exact ⟨⟨kc, by simpa [List.map_set] using this⟩, by simpa using q⟩
theorem castore (C : Cx p m meth c s Z a0 EL b own nm bytes maxL ret) {pc' : Nat} {a : Nat} {xs : List Int32} {j x : Int32} {i : Nat} (A : ArI Z h a .char xs) (hj : j.toInt = (i : Int)) (hi : i < xs.length) (ha : a ∈ W) (hd : decode bytes pc = .ok (.castore, 1)) (hp : pc + 1 = pc')
    (hr : ∀ h', Keep h h' [a] → ArI Z h' a .char (xs.set i (nar .char x)) → WP p l e R s m args below meth c Z EL b Q pc' L st h' W k n) : WP p l e R s m args below meth c Z EL b Q pc L (.int x :: .int j :: .ref a :: st) h W k n := by
  subst hp
  obtain ⟨cl, B, S, G⟩ := A.cell
  refine WP.write C ha (fun X eT hZ ho => RoadKit.stC X C.1 hZ eT B (G hj hi).1 (g := mkF m pc L.toArray (.int x :: .int j :: .ref a :: st)) rfl rfl (hb C.2.1 hd)) fun h' w K => hr h' K (A.set hj hi (fits_nar_char _) w)
theorem bastore (C : Cx p m meth c s Z a0 EL b own nm bytes maxL ret) {pc' : Nat} {a : Nat} {xs : List Int32} {j x : Int32} {i : Nat} (A : ArI Z h a .byte xs) (hj : j.toInt = (i : Int)) (hi : i < xs.length) (ha : a ∈ W) (hd : decode bytes pc = .ok (.bastore, 1)) (hp : pc + 1 = pc')
    (hr : ∀ h', Keep h h' [a] → ArI Z h' a .byte (xs.set i (nar .byte x)) → WP p l e R s m args below meth c Z EL b Q pc' L st h' W k n) : WP p l e R s m args below meth c Z EL b Q pc L (.int x :: .int j :: .ref a :: st) h W k n := by
  subst hp
  obtain ⟨cl, B, S, G⟩ := A.cell
  refine WP.write C ha (fun X eT hZ ho => RoadKit.stB X C.1 hZ eT B (G hj hi).1 (g := mkF m pc L.toArray (.int x :: .int j :: .ref a :: st)) rfl rfl (hb C.2.1 hd)) fun h' w K => hr h' K (A.set hj hi (fits_nar_byte _) w)
theorem putF (C : Cx p m meth c s Z a0 EL b own nm bytes maxL ret) {pc' : Nat} {f O d K : String} {index kk : Nat} {ty : FieldType} {a : Nat} {v old : Value} (w : (Cond.fieldLink own index O f d).before a0 Z = true) (F : Fld Z h a O f d old) (E : Exa Z h a K) (ly : (Cond.lays K O f d).before a0 Z = true ∨ ((Cond.laysFinal K O f d).before a0 Z = true ∧ own = O ∧ nm = "<init>")) (wi : (Cond.instantiable K kk).before a0 Z = true)
    (hty : parseFieldDescriptor d = some ty) (hnr : narrow ty v = v) (hft : fits ty v = true) (ha : a ∈ W) (hd : decode bytes pc = .ok (.putfield index, 3)) (hp : pc + 3 = pc')
    (hr : ∀ h', Wr h h' a (Jvm.RoadKit.slotOf Z O f d) v → Keep h h' [a] → Fld Z h' a O f d v → WP p l e R s m args below meth c Z EL b Q pc' L st h' W k n) : WP p l e R s m args below meth c Z EL b Q pc L (v :: .ref a :: st) h W k n := by
  subst hp
  refine WP.write C ha (fun X eT hZ ho => RoadKit.putF X C.1 hZ ho (host := "") (Or.inl w) Via.refl eT F E (ly.imp id fun q => ⟨q.1, q.2.1, by rw [C.2.2.2.2.2.2.2.2.1]; exact q.2.2⟩) wi hty hnr hft (g := mkF m pc L.toArray (v :: .ref a :: st)) rfl rfl (hb C.2.1 hd)) fun h' w' K' => hr h' w' K' (F.same w')
/-! ldc of a String constant of EL -/
theorem ldcS (C : Cx p m meth c s Z a0 EL b own nm bytes maxL ret) (hbf : b = false) {pc' : Nat} {text : String} {index N : Nat} {xs : List Int32} (w : (Cond.stringLink own index text).before a0 Z = true) (hmem : (own, index) ∈ EL)
    (ht : (∀ ch ∈ text.toList, ch.toNat < 256) ∧ text.toList.map (fun ch => Value.int (Jvm.Lit.byteI ch.toNat.toUInt16)) = xs.map Value.int) (hlen : xs.length < 2 ^ 31)
    (hd : decode bytes pc = .ok (.ldc index, 2)) (hp : pc + 2 = pc') (hN : 4 * text.toList.length ≤ N) (hbig : N ≤ 536870912) (hc0 : k + 2 ≤ R.cells) (hn0 : n + (N + 4) ≤ R.slots)
    (hr : ∀ h' a d, Ext h h' → Exa Z h' a "java/lang/String" → Fld Z h' a "java/lang/String" "coder" "B" (.int 0) → Fld Z h' a "java/lang/String" "value" "[B" (.ref d) → ArI Z h' d .byte xs → (∀ x ∈ W, x ≠ a ∧ x ≠ d) → WP p l e R s m args below meth c Z EL b Q pc' L (.ref a :: st) h' W (k + 2) (n + (N + 4))) :
    WP p l e R s m args below meth c Z EL b Q pc L st h W k n := by
  subst hp
  intro T vm0 k0 locs cells slots X eT hS hk hb' hC hO hW hF hc hn
  obtain ⟨a, T', h', k1, d, kd, X', e', E, hS', hk', hZ', ho', A, Fc, Fv, V, -, -, hCH, -, hne, q⟩ := ldcCH (z := Int32.ofNat xs.length) X C.1 (C.z hS) (C.o hS) w (C.2.2.2.2.2.2.2.2.2.1 hbf) eT hS hk C.ew hmem hC.1 ht
    (fun q => by rw [Int32.lt_iff_toInt_lt, toInt_of rfl hlen, Int32.toInt_zero] at q; omega) (by rw [ofNat_clamp hlen]; simp) (g := mkF m pc L.toArray st) rfl (hb C.2.1 hd) hN hbig (by omega) (by omega)
  have hW' := hW.r hCH
  obtain ⟨s2, v, st, r⟩ := hr h' a d E A Fc Fv ⟨⟨kd, V⟩, hlen⟩ (fun x hx => hne x (hW' x hx).2.2) T' T'.vm k1 locs _ _ X' e' hS' hk' (fun q => by rw [hbf] at q; cases q) (hC.trans hCH) (hO.ext E) hW' hF (by omega) (by omega)
  exact ⟨s2, v, q _ st, r⟩
/-- ldc of any String constant: which object, not what it says -/
theorem ldcO (C : Cx p m meth c s Z a0 EL b own nm bytes maxL ret) (hbf : b = false) {pc' : Nat} {text : String} {index N : Nat} (w : (Cond.stringLink own index text).before a0 Z = true)
    (hd : decode bytes pc = .ok (.ldc index, 2)) (hp : pc + 2 = pc') (hN : 4 * text.toList.length ≤ N) (hbig : N ≤ 536870912) (hc0 : k + 2 ≤ R.cells) (hn0 : n + (N + 4) ≤ R.slots)
    (hr : ∀ h' a, Ext h h' → WP p l e R s m args below meth c Z EL b Q pc' L (.ref a :: st) h' W (k + 2) (n + (N + 4))) :
    WP p l e R s m args below meth c Z EL b Q pc L st h W k n := by
  subst hp
  intro T vm0 k0 locs cells slots X eT hS hk hb' hC hO hW hF hc hn
  obtain ⟨a, T', h', k1, X', e', E, hS', hk', hZ', ho', hCH, -, q⟩ := ldcOH X C.1 (C.z hS) (C.o hS) w (C.2.2.2.2.2.2.2.2.2.1 hbf) eT hS hk C.ew hC.1 (g := mkF m pc L.toArray st) rfl (hb C.2.1 hd) hN hbig (by omega) (by omega)
  obtain ⟨s2, v, st, r⟩ := hr h' a E T' T'.vm k1 locs _ _ X' e' hS' hk' (fun q => by rw [hbf] at q; cases q) (hC.trans hCH) (hO.ext E) (hW.r hCH) hF (by omega) (by omega)
  exact ⟨s2, v, q _ st, r⟩
/-! returns -/
theorem retW (C : Cx p m meth c s Z a0 EL b own nm bytes maxL ret) {v : Option Value} (hv : ret = none → v = none) (hk : k ≤ R.cells) (hn : n ≤ R.slots) {W' : List Nat} (hsub : ∀ x ∈ W', x ∈ W) (hQ : Q v h W')
    (q : ∀ {T : State} {vm0 : Vm} {locs : List Loc} {cells slots : Nat}, Stand p l e R (s.setVm vm0) m args below meth c T locs cells slots → ∀ {fs : List Frame}, (∀ (f : JFrame) (acts : List Action), f.method = m → f.locked = none → f.entered = [] → (doReturn e (T.setTop f) acts v).1 = T.setFrames fs) → Steps p.tables e below (T.setTop (mkF m pc L.toArray st)) (T.setFrames fs)) :
    WP p l e R s m args below meth c Z EL b Q pc L st h W k n := by
  intro T vm0 k0 locs cells slots X eT hS hk0 hb' hC hO hW hF hc hn'
  obtain ⟨fs, h1, h2, h3, hW1, hs⟩ := X.leave (v := v) (fun q => hv (by rw [← C.2.2.2.1]; exact q)) C.2.2.2.2.1
  obtain ⟨x1, x2, x3⟩ := hS.ended (U := T.setFrames fs) hW1 (by show k0 ≤ T.heap.size; rw [eT]; exact hk0) hs
  have hA := CHv.at X (C.z hS) C.ew hC.1
  refine ⟨T.setFrames fs, v, q X h1, h2, h3, locs, W', ?_, ?_, ?_, hF, ?_, ⟨⟨v, rfl⟩, x1, x2, x3.mono (by omega) (by omega)⟩, fun hbt => ?_⟩
  · show Q v T.heap W'; rw [eT]; exact hQ
  · show Own Z EL T.vm T.heap W'; rw [eT]; exact (hW.sub hsub).r hA
  · show Old Z Z.heap.size T.heap; rw [eT]; exact hO
  · show CHr Z EL s.vm s.heap T.vm T.heap; rw [eT]; exact hC.trans hA
  · obtain rfl := hb' hbt
    exact ⟨⟨v, rfl⟩, hW1, State.sameButNew.mono hs (by omega) (by omega)⟩
theorem retN (C : Cx p m meth c s Z a0 EL b own nm bytes maxL ret) {t : FieldType} {z : Int32} (hret : ret = some t) (ht : t = .boolean ∨ t = .byte ∨ t = .char ∨ t = .short) (hd : decode bytes pc = .ok (.ireturn, 1)) (hk : k ≤ R.cells) (hn : n ≤ R.slots) (W' : List Nat) (hsub : ∀ x ∈ W', x ∈ W) (hQ : Q (some (.int (nar t z))) h W') :
    WP p l e R s m args below meth c Z EL b Q pc L (.int z :: st) h W k n := by
  subst hret
  exact retW C (fun q => nomatch q) hk hn hsub hQ fun X _ h1 => RoadKit.retN X C.1 C.2.2.2.1 ht (hb C.2.1 hd) h1
theorem retV (C : Cx p m meth c s Z a0 EL b own nm bytes maxL ret) (hret : ret = none) (hd : decode bytes pc = .ok (.return_, 1)) (hk : k ≤ R.cells) (hn : n ≤ R.slots) (W' : List Nat) (hsub : ∀ x ∈ W', x ∈ W) (hQ : Q none h W') :
    WP p l e R s m args below meth c Z EL b Q pc L [] h W k n := by
  subst hret
  exact retW C (fun _ => rfl) hk hn hsub hQ fun X _ h1 => X.returnOut C.1 C.2.2.2.1 (hb C.2.1 hd) h1
theorem retI (C : Cx p m meth c s Z a0 EL b own nm bytes maxL ret) {z : Int32} (hret : ret = some .int) (hd : decode bytes pc = .ok (.ireturn, 1)) (hk : k ≤ R.cells) (hn : n ≤ R.slots) (W' : List Nat) (hsub : ∀ x ∈ W', x ∈ W) (hQ : Q (some (.int z)) h W') :
    WP p l e R s m args below meth c Z EL b Q pc L (.int z :: st) h W k n := by
  subst hret
  exact retW C (fun q => nomatch q) hk hn hsub hQ fun X _ h1 => RoadKit.retOut X C.1 (t := .int) C.2.2.2.1 rfl (Or.inl ⟨rfl, Or.inl rfl, z, rfl⟩) (hb C.2.1 hd) h1
theorem retA (C : Cx p m meth c s Z a0 EL b own nm bytes maxL ret) {t : FieldType} {v : Value} (hret : ret = some t) (ht : t.isReference = true) (hv : v.isRef = true) (hd : decode bytes pc = .ok (.areturn, 1)) (hk : k ≤ R.cells) (hn : n ≤ R.slots) (W' : List Nat) (hsub : ∀ x ∈ W', x ∈ W) (hQ : Q (some v) h W') :
    WP p l e R s m args below meth c Z EL b Q pc L (v :: st) h W k n := by
  subst hret
  exact retW C (fun q => nomatch q) hk hn hsub hQ fun X _ h1 => RoadKit.retOut X C.1 (t := t) C.2.2.2.1 (by cases t <;> cases v <;> first | rfl | (cases ht; done) | (cases hv; done)) (Or.inr (Or.inr (Or.inr (Or.inr ⟨rfl, ht, hv⟩)))) (hb C.2.1 hd) h1
end Steps
/-! contracts and calls -/
section Calls
variable {p : Program} {l : Launch} {e : Env} {R : Room} {s : State} {m : MethodId} {args : Array Value} {below : List Frame} {meth : Method} {c : Code} {Z : State} {a0 : Array Value} {EL : List (String × Nat)} {b : Bool} {own nm : String} {bytes : ByteArray} {maxL : Nat} {ret : Option FieldType} {Q : Option Value → Heap → List Nat → Prop}
  {pc : Nat} {L : List Slot} {st : List Value} {h : Heap} {W : List Nat} {k n : Nat}
/-- a method's contract: called with these arguments over this heap it returns, and Q says what it returned, the heap it left, and which cells may be written besides -/
def Con (l : Launch) (Z : State) (EL : List (String × Nat)) (b : Bool) (y : MethodName) (bytes : ByteArray) (maxL : Nat) (ret : Option FieldType) (ws : List Jvm.Cond) (rm : Room) (as' : Array Value) (h : Heap) (W : List Nat) (Q : Option Value → Heap → List Nat → Prop) : Prop :=
  MetFree l y (head1 (Cond.code y bytes maxL ret :: ws) rm) (fun a U => a = as' ∧ Z.Warmed39 U.vm ∧ U.heap = h ∧ CHv Z EL U.vm h ∧ Old Z Z.heap.size h ∧ Own Z EL U.vm h W) (fun _ _ _ _ _ => True)
    (fun _ U o U' => ∃ v L, o = .returned v ∧ (∃ W', Q v U'.heap W' ∧ Own Z EL U'.vm U'.heap W' ∧ Old Z Z.heap.size U'.heap ∧ Fr Z.heap.size L) ∧ CHr Z EL U.vm U.heap U'.vm U'.heap ∧ ReturnedEndW U o U' L rm.cells rm.slots ∧ (b = true → FrameEnd U o U' L rm.cells rm.slots))
theorem Con.intro {y : MethodName} {ws : List Jvm.Cond} {rm : Room} {as' : Array Value} (hpn : plainFor y = true) (hEL : EW Z a0 EL) (hS : b = false → ∀ a ∈ Bundle.stringAtoms, a.before a0 Z = true) (hB : b = true → EL = []) (L : List Slot) (hE : argsToLocals as' maxL = L.toArray)
    (H : ∀ (p : Program) (e : Env) (s : State) (m : MethodId) (below : List Frame) (meth : Method) (c : Code), Cx p m meth c s Z a0 EL b y.cls y.name bytes maxL ret → Old Z Z.heap.size h → WP p l e rm s m as' below meth c Z EL b Q 0 L [] h W 0 0) :
    Con l Z EL b y bytes maxL ret ws rm as' h W Q := by
  refine MetFree.of_bodySF hpn hisR ?_
  intro p e s m args below meth c s₁ Bd hml hP hK
  obtain ⟨rfl, hZ, hh, hC, hO, hW⟩ := hP
  have hnm := (name_of_methodNamed Bd.named Bd.method).1
  have X0 : Stand p l e rm s m args below meth c s₁ [] 0 0 := Stand.of_body Bd
  have e0 : s₁.heap = h := by rw [← hh, Bd.state]; rfl
  obtain ⟨s2, v, q, r1, r2, L', W', r3, r4, r5, r6, r7, r8, r9⟩ := H p e s m below meth c ⟨Bd.exec, Bd.bytes, hml, Bd.returns, Bd.notSynchronized, findClass_of_methodNamed Bd.named, hZ, hEL, hnm, hS, hB⟩ hO s₁ s.vm 0 [] 0 0 X0 e0 ((State.WarmedH.refl s).since 0) (Nat.zero_le _) (fun _ => rfl)
    (by rw [hh]; exact CHr.refl hC) hO hW (Fr.nil _) (Nat.le_refl _) (Nat.le_refl _)
  have he : entryFrame m args maxL = mkF m 0 L.toArray [] := by unfold entryFrame; rw [hE]
  exact ⟨s2, _, castTop he q, r1, r2, v, L', rfl, ⟨W', r3, r4, r5, r6⟩, r7, r8, r9⟩
/-- a contract used where less is asked, or more is known -/
theorem Con.mono {y : MethodName} {ws : List Jvm.Cond} {rm : Room} {as' : Array Value} {Q' : Option Value → Heap → List Nat → Prop} (M : Con l Z EL b y bytes maxL ret ws rm as' h W Q) (q : ∀ v h' W', Q v h' W' → Q' v h' W') : Con l Z EL b y bytes maxL ret ws rm as' h W Q' := by
  intro p e h1 h2 h3 s m args below hf ha hP hK
  obtain ⟨n, o, x1, x2, x3, v, L, x4, ⟨W', x5, x6⟩, x7⟩ := M p e h1 h2 h3 s m args below hf ha hP hK
  exact ⟨n, o, x1, x2, x3, v, L, x4, ⟨W', q _ _ _ x5, x6⟩, x7⟩
/-- what stands behind a call -/
def Post (Z : State) (EL : List (String × Nat)) (vm0 : Vm) (h : Heap) (rm : Room) (Q : Option Value → Heap → List Nat → Prop) (A : Pt) (v : Option Value) (B : Pt) : Prop :=
  ∃ (L : List Loc) (W' : List Nat), Q v B.U.heap W' ∧ Own Z EL B.U.vm B.U.heap W' ∧ Old Z Z.heap.size B.U.heap ∧ Fr Z.heap.size L ∧ B.locs = A.locs ++ L ∧ B.cells = A.cells + rm.cells ∧ B.slots = A.slots + rm.slots ∧ CHr Z EL vm0 h B.U.vm B.U.heap
theorem Con.backS {y : MethodName} {rm : Room} {as' : Array Value} {len Wt : Nat} {vm0 : Vm} (M : Con l Z EL b y bytes maxL ret [] rm as' h W Q) (hZ : Z.Warmed39 vm0) (wc : (Cond.code y bytes maxL ret).before a0 Z = true) (wz : (Cond.initialized y.cls).before a0 Z = true) (hf : rm.frames + 1 ≤ R.frames) (hl : Wt + (maxL + 11) + rm.locals ≤ R.locals)
    (hEL : EW Z a0 EL) (H : CHv Z EL vm0 h) (hO : Old Z Z.heap.size h) (hW : Own Z EL vm0 h W) :
    BackS l R p e below (s.setVm vm0) args y len Wt (fun A a => a = as' ∧ A.U.heap = h ∧ A.cells + rm.cells ≤ R.cells ∧ A.slots + rm.slots ≤ R.slots) (fun A _ v B => Post Z EL vm0 h rm Q A v B) :=
  BackS.of_freeW (bytes := bytes) (maxL := maxL) (ret := ret) (E := fun _ first o t L kk nn => kk = rm.cells ∧ nn = rm.slots ∧ (∃ v, o = .returned v ∧ ∃ W', Q v t.heap W' ∧ Own Z EL t.vm t.heap W' ∧ Old Z Z.heap.size t.heap ∧ Fr Z.heap.size L) ∧ CHr Z EL first.vm first.heap t.vm t.heap) M hf hl
    (fun m meth c A a Y hp => have hU : Z.Warmed39 A.U.vm := wtrans (s := s.setVm vm0) hZ Y.warmed
      ⟨by show (Cond.and _ .tt).before a A.U = true; rw [Cond.before_and, mv hU wc]; rfl, mv hU wc, mv hU wz, hp.2.2.1, hp.2.2.2⟩)
    (fun m meth c A a g mk Y hp => ⟨hp.1, wtrans (s := s.setVm vm0) hZ Y.warmed, hp.2.1, (CHv.at Y hZ hEL H).1, hO, (show Own Z EL A.U.vm h W from hW.r (CHv.at Y hZ hEL H))⟩) (fun _ _ _ _ _ _ _ _ _ => trivial)
    (fun _ _ _ _ ⟨v, L, h1, ⟨W', h2⟩, h3, h4, _⟩ => ⟨L, _, _, h4, rfl, rfl, ⟨v, h1, W', h2⟩, h3⟩)
    (fun m meth c A a g mk v t L kk nn Y hp _ _ ⟨e1, e2, ⟨v', e3, W', e4, e5, e6, e7⟩, e8⟩ => by
      cases e3; subst e1 e2
      refine ⟨L, W', e4, e5, e6, e7, rfl, rfl, rfl, ?_⟩
      have e9 : CHr Z EL A.U.vm A.U.heap t.vm t.heap := e8
      rw [hp.2.1] at e9
      exact (CHv.at Y hZ hEL H).trans e9)
theorem Con.back {y : MethodName} {rm : Room} {as' : Array Value} {len Wt : Nat} {vm0 : Vm} (M : Con l Z [] true y bytes maxL ret [] rm as' h W Q) (hZ : Z.Warmed39 vm0) (wc : (Cond.code y bytes maxL ret).before a0 Z = true) (wz : (Cond.initialized y.cls).before a0 Z = true) (hf : rm.frames + 1 ≤ R.frames) (hl : Wt + (maxL + 11) + rm.locals ≤ R.locals)
    (H : CHv Z [] vm0 h) (hO : Old Z Z.heap.size h) (hW : Own Z [] vm0 h W) :
    Back l R p e below (s.setVm vm0) args y len Wt (fun A a => a = as' ∧ A.U.heap = h ∧ A.cells + rm.cells ≤ R.cells ∧ A.slots + rm.slots ≤ R.slots) (fun A _ v B => Post Z [] vm0 h rm Q A v B) :=
  Back.of_free (bytes := bytes) (maxL := maxL) (ret := ret) (E := fun _ first o t L kk nn => kk = rm.cells ∧ nn = rm.slots ∧ (∃ v, o = .returned v ∧ ∃ W', Q v t.heap W' ∧ Own Z [] t.vm t.heap W' ∧ Old Z Z.heap.size t.heap ∧ Fr Z.heap.size L) ∧ CHr Z [] first.vm first.heap t.vm t.heap) M hf hl
    (fun m meth c A a Y hp => have hU : Z.Warmed39 A.U.vm := wtrans (s := s.setVm vm0) hZ Y.warmed
      ⟨by show (Cond.and _ .tt).before a A.U = true; rw [Cond.before_and, mv hU wc]; rfl, mv hU wc, mv hU wz, hp.2.2.1, hp.2.2.2⟩)
    (fun m meth c A a g mk Y hp => ⟨hp.1, wtrans (s := s.setVm vm0) hZ Y.warmed, hp.2.1, (CHv.at Y hZ (EW.nil (a0 := a0)) H).1, hO, (show Own Z [] A.U.vm h W from hW.r (CHv.at Y hZ (EW.nil (a0 := a0)) H))⟩) (fun _ _ _ _ _ _ _ _ _ => trivial)
    (fun _ _ _ _ ⟨v, L, h1, ⟨W', h2⟩, h3, _, h5⟩ => ⟨L, _, _, h5 rfl, rfl, rfl, ⟨v, h1, W', h2⟩, h3⟩)
    (fun m meth c A a g mk v t L kk nn Y hp _ _ ⟨e1, e2, ⟨v', e3, W', e4, e5, e6, e7⟩, e8⟩ => by
      cases e3; subst e1 e2
      refine ⟨L, W', e4, e5, e6, e7, rfl, rfl, rfl, ?_⟩
      have e9 : CHr Z [] A.U.vm A.U.heap t.vm t.heap := e8
      rw [hp.2.1] at e9
      exact (CHv.at Y hZ (EW.nil (a0 := a0)) H).trans e9)
theorem chr_nil {vm vm1 vm2 : Vm} {h h' : Heap} (A : CHr Z [] vm h vm1 h') : CHr Z [] vm h vm2 h' := ⟨(fun _ hp => nomatch hp), A.2.1, fun y q => by obtain ⟨_, hp, _⟩ := q; cases hp⟩
theorem own_nil {vm vm2 : Vm} {h : Heap} (A : Own Z [] vm h W) : Own Z [] vm2 h W := fun x hx => ⟨(A x hx).1, (A x hx).2.1, fun q => by obtain ⟨_, hp, _⟩ := q; cases hp⟩
theorem WP.wk {V : List Nat} (hsub : ∀ x ∈ V, x ∈ W) (hr : WP p l e R s m args below meth c Z EL b Q pc L st h V k n) : WP p l e R s m args below meth c Z EL b Q pc L st h W k n :=
  fun T vm0 k0 locs cells slots X eT hS hk hb' hC hO hW hF hc hn => hr T vm0 k0 locs cells slots X eT hS hk hb' hC hO (hW.sub hsub) hF hc hn
theorem WP.room {k' n' : Nat} (hk' : k ≤ k') (hn' : n ≤ n') (hr : WP p l e R s m args below meth c Z EL b Q pc L st h W k' n') : WP p l e R s m args below meth c Z EL b Q pc L st h W k n :=
  fun T vm0 k0 locs cells slots X eT hS hk hb' hC hO hW hF hc hn => hr T vm0 k0 locs cells slots X eT hS hk hb' hC hO hW hF (Nat.le_trans hc hk') (Nat.le_trans hn hn')
/-- the way on behind a call -/
theorem WP.after {rm : Room} {Q' : Option Value → Heap → List Nat → Prop} {pc' : Nat} {rest : List Value} {V : List Nat} (C : Cx p m meth c s Z a0 EL b own nm bytes maxL ret) (hc0 : k + rm.cells ≤ R.cells) (hn0 : n + rm.slots ≤ R.slots)
    (hr : ∀ v h' W', Q' v h' W' → h.size ≤ h'.size → WP p l e R s m args below meth c Z EL b Q pc' L (v.toList ++ rest) h' (W' ++ W) (k + rm.cells) (n + rm.slots))
    {T : State} {vm0 : Vm} {k0 : Nat} {locs : List Loc} {cells slots : Nat} (eT : T.heap = h) (hS : s.Since vm0 k0) (hk : k0 ≤ h.size) (hb' : b = true → vm0 = s.vm) (hC : CHr Z EL s.vm s.heap vm0 h) (hW : Own Z EL vm0 h W) (hF : Fr Z.heap.size locs) (hc : cells ≤ k) (hn : slots ≤ n)
    {v : Option Value} {vm1 vm2 : Vm} {B : Pt} (X' : Stand p l e R (s.setVm vm2) m args below meth c B.U B.locs B.cells B.slots) (hS' : (s.setVm vm0).Since vm2 B.U.heap.size) (hv : (b = false ∧ vm2 = B.U.vm) ∨ (b = true ∧ vm2 = vm0)) (hg : T.heap.size ≤ B.U.heap.size)
    (P : Post Z EL vm0 h rm Q' ⟨T.setVm vm1, locs, cells, slots⟩ v B) :
    ∃ s2 v2, Steps p.tables e below (B.U.setTop (mkF m pc' L.toArray (v.toList ++ rest))) s2 ∧ EndQ R Z EL b Q s below s2 v2 := by
  obtain ⟨L1, W', q1, q2, q3, q4, q5, q6, q7, q8⟩ := P
  rw [eT] at hg
  have hF' : Fr Z.heap.size B.locs := by rw [q5]; exact hF.app q4
  have hcc : B.cells ≤ k + rm.cells := by rw [q6]; show cells + rm.cells ≤ _; omega
  have hnn : B.slots ≤ n + rm.slots := by rw [q7]; show slots + rm.slots ≤ _; omega
  rcases hv with ⟨rfl, rfl⟩ | ⟨rfl, rfl⟩
  · exact hr v _ W' q1 hg B.U B.U.vm B.U.heap.size _ _ _ X' rfl (hS.trans hS' (Nat.le_trans hk hg)) (Nat.le_refl _) (fun q => nomatch q) (hC.trans q8) q3 (q2.app (hW.r q8)) hF' hcc hnn
  · obtain rfl := C.2.2.2.2.2.2.2.2.2.2 rfl
    exact hr v _ W' q1 hg B.U vm2 k0 _ _ _ X' rfl hS (Nat.le_trans hk hg) hb' (chr_nil (hC.trans q8)) q3 (own_nil (q2.app (hW.r q8))) hF' hcc hnn
theorem callSW (C : Cx p m meth c s Z a0 EL b own nm bytes maxL ret) {pc' index : Nat} {y : MethodName} {ybytes : ByteArray} {ymax : Nat} {yret : Option FieldType} {rm : Room} {V : List Nat} {Q' : Option Value → Heap → List Nat → Prop} {argsL rest : List Value} {ps : List FieldType} {pr : Option FieldType} {Wt : Nat}
    (w1 : (Cond.methodLink own index y).before a0 Z = true) (w2 : (Cond.static y).before a0 Z = true) (w3 : (Cond.initialized y.cls).before a0 Z = true) (w4 : (Cond.code y ybytes ymax yret).before a0 Z = true) (hy : y.cls ≠ "java/lang/invoke/MethodHandle" ∧ y.cls ≠ "java/lang/invoke/VarHandle")
    (M : Con l Z EL b y ybytes ymax yret [] rm argsL.toArray h V Q') (hV : ∀ x ∈ V, x ∈ W) (hpd : parseMethodDescriptor y.desc = some ⟨ps, pr⟩) (hal : argsL.length = ps.length) (hst : st = argsL.reverse ++ rest) (hsz : L.length = maxL)
    (hd : decode bytes pc = .ok (.invokestatic index, 3)) (hp : pc + 3 = pc') (hWt : (rest.map fun v => v.category).sum ≤ Wt) (hf : rm.frames + 1 ≤ R.frames) (hl : Wt + (ymax + 11) + rm.locals ≤ R.locals) (hc0 : k + rm.cells ≤ R.cells) (hn0 : n + rm.slots ≤ R.slots)
    (hr : ∀ v h' W', Q' v h' W' → h.size ≤ h'.size → WP p l e R s m args below meth c Z EL b Q pc' L (v.toList ++ rest) h' (W' ++ W) (k + rm.cells) (n + rm.slots)) :
    WP p l e R s m args below meth c Z EL b Q pc L st h W k n := by
  subst hp hst
  intro T vm0 k0 locs cells slots X eT hS hk hb' hC hO hW hF hc hn
  have hZ0 : Z.Warmed39 (s.setVm vm0).vm := C.z hS
  have hsz' : (mkF m pc L.toArray (argsL.reverse ++ rest)).locals.size = c.maxLocals := by rw [C.2.2.1, ← hsz]; simp
  cases b with
  | false =>
    obtain ⟨v, vm1, B, -, X', hS', hg, P, q⟩ := callSS X C.1 (C.o hS) (mv hZ0 w1) (mv hZ0 w2) (mv hZ0 w3) (mv hZ0 w4) hy (M.backS (W := V) hZ0 w4 w3 hf hl C.ew hC.1 hO (hW.sub hV)) (g := mkF m pc L.toArray (argsL.reverse ++ rest)) rfl hsz' (lenOf hpd hal) rfl (by show 2 * 0 + _ ≤ _; omega) (hb C.2.1 hd) (fun _ _ => ⟨rfl, eT, by show cells + _ ≤ _; omega, by show slots + _ ≤ _; omega⟩)
    obtain ⟨s2, v2, q2, r⟩ := WP.after (V := V) C hc0 hn0 hr eT hS hk hb' hC hW hF hc hn X' hS' (Or.inl ⟨rfl, rfl⟩) hg P
    exact ⟨s2, v2, q.trans q2, r⟩
  | true =>
    obtain rfl := C.2.2.2.2.2.2.2.2.2.2 rfl
    obtain ⟨v, vm1, B, -, X', P, q⟩ := LawKit.callS X C.1 (C.o hS) (mv hZ0 w1) (mv hZ0 w2) (mv hZ0 w3) (mv hZ0 w4) hy (M.back (W := V) hZ0 w4 w3 hf hl hC.1 hO (hW.sub hV)) (g := mkF m pc L.toArray (argsL.reverse ++ rest)) rfl hsz' (lenOf hpd hal) rfl (by show 2 * 0 + _ ≤ _; omega) (hb C.2.1 hd) (fun _ _ => ⟨rfl, eT, by show cells + _ ≤ _; omega, by show slots + _ ≤ _; omega⟩)
    have hg : T.heap.size ≤ B.U.heap.size := by obtain ⟨_, _, _, _, _, _, _, _, _, q8⟩ := P; rw [eT]; exact q8.2.1
    obtain ⟨s2, v2, q2, r⟩ := WP.after (V := V) C hc0 hn0 hr eT hS hk hb' hC hW hF hc hn X' ((State.WarmedH.refl _).since _) (Or.inr ⟨rfl, rfl⟩) hg P
    exact ⟨s2, v2, q _ q2, r⟩
theorem callS (C : Cx p m meth c s Z a0 EL b own nm bytes maxL ret) {pc' index : Nat} {y : MethodName} {ybytes : ByteArray} {ymax : Nat} {yret : Option FieldType} {rm : Room} {V : List Nat} {Q' : Option Value → Heap → List Nat → Prop} {argsL rest : List Value} {ps : List FieldType} {pr : Option FieldType} {Wt : Nat}
    (w1 : (Cond.methodLink own index y).before a0 Z = true) (w2 : (Cond.static y).before a0 Z = true) (w3 : (Cond.initialized y.cls).before a0 Z = true) (w4 : (Cond.code y ybytes ymax yret).before a0 Z = true) (hy : y.cls ≠ "java/lang/invoke/MethodHandle" ∧ y.cls ≠ "java/lang/invoke/VarHandle")
    (M : Con l Z EL b y ybytes ymax yret [] rm argsL.toArray h V Q') (hV : ∀ x ∈ V, x ∈ W) (hpd : parseMethodDescriptor y.desc = some ⟨ps, pr⟩) (hal : argsL.length = ps.length) (hst : st = argsL.reverse ++ rest) (hsz : L.length = maxL)
    (hd : decode bytes pc = .ok (.invokestatic index, 3)) (hp : pc + 3 = pc') (hWt : (rest.map fun v => v.category).sum ≤ Wt) (hf : rm.frames + 1 ≤ R.frames) (hl : Wt + (ymax + 11) + rm.locals ≤ R.locals) (hc0 : k + rm.cells ≤ R.cells) (hn0 : n + rm.slots ≤ R.slots)
    (hr : ∀ v h' W', Q' v h' W' → h.size ≤ h'.size → WP p l e R s m args below meth c Z EL b Q pc' L (v.toList ++ rest) h' W (k + rm.cells) (n + rm.slots)) :
    WP p l e R s m args below meth c Z EL b Q pc L st h W k n :=
  callSW C w1 w2 w3 w4 hy M hV hpd hal hst hsz hd hp hWt hf hl hc0 hn0 fun v h' W' q g => (hr v h' W' q g).wk fun x hx => List.mem_append_right _ hx
theorem callIW (C : Cx p m meth c s Z a0 EL b own nm bytes maxL ret) {pc' index : Nat} {y : MethodName} {ybytes : ByteArray} {ymax : Nat} {rm : Room} {V : List Nat} {Q' : Option Value → Heap → List Nat → Prop} {a : Nat} {argsL rest : List Value} {ps : List FieldType} {pr : Option FieldType} {Wt : Nat} (hy1 : y.name = "<init>")
    (w1 : (Cond.methodLink own index y).before a0 Z = true) (w2 : (Cond.instanceMethod y).before a0 Z = true) (w3 : (Cond.initialized y.cls).before a0 Z = true) (w4 : (Cond.code y ybytes ymax none).before a0 Z = true) (hy : y.cls ≠ "java/lang/invoke/MethodHandle" ∧ y.cls ≠ "java/lang/invoke/VarHandle")
    (M : Con l Z EL b y ybytes ymax none [] rm (.ref a :: argsL).toArray h V Q') (hV : ∀ x ∈ V, x ∈ W) (hpd : parseMethodDescriptor y.desc = some ⟨ps, pr⟩) (hal : argsL.length = ps.length) (hst : st = argsL.reverse ++ .ref a :: rest) (hsz : L.length = maxL)
    (hd : decode bytes pc = .ok (.invokespecial index, 3)) (hp : pc + 3 = pc') (hWt : (rest.map fun v => v.category).sum ≤ Wt) (hf : rm.frames + 1 ≤ R.frames) (hl : Wt + (ymax + 11) + rm.locals ≤ R.locals) (hc0 : k + rm.cells ≤ R.cells) (hn0 : n + rm.slots ≤ R.slots)
    (hr : ∀ v h' W', Q' v h' W' → h.size ≤ h'.size → WP p l e R s m args below meth c Z EL b Q pc' L (v.toList ++ rest) h' (W' ++ W) (k + rm.cells) (n + rm.slots)) :
    WP p l e R s m args below meth c Z EL b Q pc L st h W k n := by
  subst hp hst
  intro T vm0 k0 locs cells slots X eT hS hk hb' hC hO hW hF hc hn
  have hZ0 : Z.Warmed39 (s.setVm vm0).vm := C.z hS
  have hsz' : (mkF m pc L.toArray (argsL.reverse ++ .ref a :: rest)).locals.size = c.maxLocals := by rw [C.2.2.1, ← hsz]; simp
  cases b with
  | false =>
    obtain ⟨v, vm1, B, -, X', hS', hg, P, q⟩ := X.specialBackS C.1 hy1 (C.o hS) (mv hZ0 w1) (mv hZ0 w2) (mv hZ0 w4) hy (M.backS (W := V) hZ0 w4 w3 hf hl C.ew hC.1 hO (hW.sub hV)) (g := mkF m pc L.toArray (argsL.reverse ++ .ref a :: rest)) rfl hsz' (Steps.refl _) (lenOf hpd hal) rfl (by show 2 * 0 + _ ≤ _; omega) (hb C.2.1 hd) (fun _ _ => ⟨rfl, eT, by show cells + _ ≤ _; omega, by show slots + _ ≤ _; omega⟩)
    obtain ⟨s2, v2, q2, r⟩ := WP.after (V := V) C hc0 hn0 hr eT hS hk hb' hC hW hF hc hn X' hS' (Or.inl ⟨rfl, rfl⟩) hg P
    exact ⟨s2, v2, q.trans q2, r⟩
  | true =>
    obtain rfl := C.2.2.2.2.2.2.2.2.2.2 rfl
    obtain ⟨v, vm1, B, -, X', P, q⟩ := X.specialBack C.1 hy1 (C.o hS) (mv hZ0 w1) (mv hZ0 w2) (mv hZ0 w4) hy (M.back (W := V) hZ0 w4 w3 hf hl hC.1 hO (hW.sub hV)) (g := mkF m pc L.toArray (argsL.reverse ++ .ref a :: rest)) rfl hsz' (Steps.refl _) (lenOf hpd hal) rfl (by show 2 * 0 + _ ≤ _; omega) (hb C.2.1 hd) (fun _ _ => ⟨rfl, eT, by show cells + _ ≤ _; omega, by show slots + _ ≤ _; omega⟩)
    have hg : T.heap.size ≤ B.U.heap.size := by obtain ⟨_, _, _, _, _, _, _, _, _, q8⟩ := P; rw [eT]; exact q8.2.1
    obtain ⟨s2, v2, q2, r⟩ := WP.after (V := V) C hc0 hn0 hr eT hS hk hb' hC hW hF hc hn X' ((State.WarmedH.refl _).since _) (Or.inr ⟨rfl, rfl⟩) hg P
    exact ⟨s2, v2, q.trans q2, r⟩
theorem callI (C : Cx p m meth c s Z a0 EL b own nm bytes maxL ret) {pc' index : Nat} {y : MethodName} {ybytes : ByteArray} {ymax : Nat} {rm : Room} {V : List Nat} {Q' : Option Value → Heap → List Nat → Prop} {a : Nat} {argsL rest : List Value} {ps : List FieldType} {pr : Option FieldType} {Wt : Nat} (hy1 : y.name = "<init>")
    (w1 : (Cond.methodLink own index y).before a0 Z = true) (w2 : (Cond.instanceMethod y).before a0 Z = true) (w3 : (Cond.initialized y.cls).before a0 Z = true) (w4 : (Cond.code y ybytes ymax none).before a0 Z = true) (hy : y.cls ≠ "java/lang/invoke/MethodHandle" ∧ y.cls ≠ "java/lang/invoke/VarHandle")
    (M : Con l Z EL b y ybytes ymax none [] rm (.ref a :: argsL).toArray h V Q') (hV : ∀ x ∈ V, x ∈ W) (hpd : parseMethodDescriptor y.desc = some ⟨ps, pr⟩) (hal : argsL.length = ps.length) (hst : st = argsL.reverse ++ .ref a :: rest) (hsz : L.length = maxL)
    (hd : decode bytes pc = .ok (.invokespecial index, 3)) (hp : pc + 3 = pc') (hWt : (rest.map fun v => v.category).sum ≤ Wt) (hf : rm.frames + 1 ≤ R.frames) (hl : Wt + (ymax + 11) + rm.locals ≤ R.locals) (hc0 : k + rm.cells ≤ R.cells) (hn0 : n + rm.slots ≤ R.slots)
    (hr : ∀ v h' W', Q' v h' W' → h.size ≤ h'.size → WP p l e R s m args below meth c Z EL b Q pc' L (v.toList ++ rest) h' W (k + rm.cells) (n + rm.slots)) :
    WP p l e R s m args below meth c Z EL b Q pc L st h W k n :=
  callIW C hy1 w1 w2 w3 w4 hy M hV hpd hal hst hsz hd hp hWt hf hl hc0 hn0 fun v h' W' q g => (hr v h' W' q g).wk fun x hx => List.mem_append_right _ hx
theorem callVW (C : Cx p m meth c s Z a0 EL b own nm bytes maxL ret) {pc' index : Nat} {K : String} {y z : MethodName} {ybytes : ByteArray} {ymax : Nat} {yret : Option FieldType} {rm : Room} {V : List Nat} {Q' : Option Value → Heap → List Nat → Prop} {a : Nat} {argsL rest : List Value} {ps : List FieldType} {pr : Option FieldType} {Wt : Nat}
    (w1 : (Cond.methodLink own index y).before a0 Z = true) (w2 : (Cond.declares y).before a0 Z = true) (wf : (Cond.selects y.cls y y).before a0 Z = true) (w5 : (Cond.selects K y z).before a0 Z = true) (w6 : (Cond.instanceMethod z).before a0 Z = true) (w3 : (Cond.initialized z.cls).before a0 Z = true) (w4 : (Cond.code z ybytes ymax yret).before a0 Z = true) (hy : y.cls ≠ "java/lang/invoke/MethodHandle" ∧ y.cls ≠ "java/lang/invoke/VarHandle")
    (E : Exa Z h a K) (M : Con l Z EL b z ybytes ymax yret [] rm (.ref a :: argsL).toArray h V Q') (hV : ∀ x ∈ V, x ∈ W) (hpd : parseMethodDescriptor y.desc = some ⟨ps, pr⟩) (hal : argsL.length = ps.length) (hst : st = argsL.reverse ++ .ref a :: rest) (hsz : L.length = maxL)
    (hd : decode bytes pc = .ok (.invokevirtual index, 3)) (hp : pc + 3 = pc') (hWt : (rest.map fun v => v.category).sum ≤ Wt) (hf : rm.frames + 1 ≤ R.frames) (hl : Wt + (ymax + 11) + rm.locals ≤ R.locals) (hc0 : k + rm.cells ≤ R.cells) (hn0 : n + rm.slots ≤ R.slots)
    (hr : ∀ v h' W', Q' v h' W' → h.size ≤ h'.size → WP p l e R s m args below meth c Z EL b Q pc' L (v.toList ++ rest) h' (W' ++ W) (k + rm.cells) (n + rm.slots)) :
    WP p l e R s m args below meth c Z EL b Q pc L st h W k n := by
  subst hp hst
  intro T vm0 k0 locs cells slots X eT hS hk hb' hC hO hW hF hc hn
  have hZ0 : Z.Warmed39 (s.setVm vm0).vm := C.z hS
  have hsz' : (mkF m pc L.toArray (argsL.reverse ++ .ref a :: rest)).locals.size = c.maxLocals := by rw [C.2.2.1, ← hsz]; simp
  obtain ⟨cB, kB, qa, qb, qc⟩ := isOf hZ0 eT E
  have hnf : NotFace (s.setVm vm0) y := notFace_of_selects (args := #[]) (mv hZ0 wf)
  cases b with
  | false =>
    obtain ⟨v, vm1, B, -, X', hS', hg, P, q⟩ := X.virtualBackS C.1 (C.o hS) (mv hZ0 w1) (mv hZ0 w2) hnf (mv hZ0 w5) (mv hZ0 w6) hy (M.backS (W := V) hZ0 w4 w3 hf hl C.ew hC.1 hO (hW.sub hV)) qa qc (g := mkF m pc L.toArray (argsL.reverse ++ .ref a :: rest)) rfl hsz' (Steps.refl _) (lenOf hpd hal) rfl (by show 2 * 0 + _ ≤ _; omega) (hb C.2.1 hd) (fun _ _ => ⟨rfl, eT, by show cells + _ ≤ _; omega, by show slots + _ ≤ _; omega⟩)
    obtain ⟨s2, v2, q2, r⟩ := WP.after (V := V) C hc0 hn0 hr eT hS hk hb' hC hW hF hc hn X' hS' (Or.inl ⟨rfl, rfl⟩) hg P
    exact ⟨s2, v2, q.trans q2, r⟩
  | true =>
    obtain rfl := C.2.2.2.2.2.2.2.2.2.2 rfl
    obtain ⟨v, vm1, B, -, X', P, q⟩ := X.virtualBack C.1 (C.o hS) (mv hZ0 w1) (mv hZ0 w2) hnf (mv hZ0 w5) (mv hZ0 w6) hy (M.back (W := V) hZ0 w4 w3 hf hl hC.1 hO (hW.sub hV)) qa qc (g := mkF m pc L.toArray (argsL.reverse ++ .ref a :: rest)) rfl hsz' (Steps.refl _) (lenOf hpd hal) rfl (by show 2 * 0 + _ ≤ _; omega) (hb C.2.1 hd) (fun _ _ => ⟨rfl, eT, by show cells + _ ≤ _; omega, by show slots + _ ≤ _; omega⟩)
    have hg : T.heap.size ≤ B.U.heap.size := by obtain ⟨_, _, _, _, _, _, _, _, _, q8⟩ := P; rw [eT]; exact q8.2.1
    obtain ⟨s2, v2, q2, r⟩ := WP.after (V := V) C hc0 hn0 hr eT hS hk hb' hC hW hF hc hn X' ((State.WarmedH.refl _).since _) (Or.inr ⟨rfl, rfl⟩) hg P
    exact ⟨s2, v2, q.trans q2, r⟩
theorem callV (C : Cx p m meth c s Z a0 EL b own nm bytes maxL ret) {pc' index : Nat} {K : String} {y z : MethodName} {ybytes : ByteArray} {ymax : Nat} {yret : Option FieldType} {rm : Room} {V : List Nat} {Q' : Option Value → Heap → List Nat → Prop} {a : Nat} {argsL rest : List Value} {ps : List FieldType} {pr : Option FieldType} {Wt : Nat}
    (w1 : (Cond.methodLink own index y).before a0 Z = true) (w2 : (Cond.declares y).before a0 Z = true) (wf : (Cond.selects y.cls y y).before a0 Z = true) (w5 : (Cond.selects K y z).before a0 Z = true) (w6 : (Cond.instanceMethod z).before a0 Z = true) (w3 : (Cond.initialized z.cls).before a0 Z = true) (w4 : (Cond.code z ybytes ymax yret).before a0 Z = true) (hy : y.cls ≠ "java/lang/invoke/MethodHandle" ∧ y.cls ≠ "java/lang/invoke/VarHandle")
    (E : Exa Z h a K) (M : Con l Z EL b z ybytes ymax yret [] rm (.ref a :: argsL).toArray h V Q') (hV : ∀ x ∈ V, x ∈ W) (hpd : parseMethodDescriptor y.desc = some ⟨ps, pr⟩) (hal : argsL.length = ps.length) (hst : st = argsL.reverse ++ .ref a :: rest) (hsz : L.length = maxL)
    (hd : decode bytes pc = .ok (.invokevirtual index, 3)) (hp : pc + 3 = pc') (hWt : (rest.map fun v => v.category).sum ≤ Wt) (hf : rm.frames + 1 ≤ R.frames) (hl : Wt + (ymax + 11) + rm.locals ≤ R.locals) (hc0 : k + rm.cells ≤ R.cells) (hn0 : n + rm.slots ≤ R.slots)
    (hr : ∀ v h' W', Q' v h' W' → h.size ≤ h'.size → WP p l e R s m args below meth c Z EL b Q pc' L (v.toList ++ rest) h' W (k + rm.cells) (n + rm.slots)) :
    WP p l e R s m args below meth c Z EL b Q pc L st h W k n :=
  callVW C w1 w2 wf w5 w6 w3 w4 hy E M hV hpd hal hst hsz hd hp hWt hf hl hc0 hn0 fun v h' W' q g => (hr v h' W' q g).wk fun x hx => List.mem_append_right _ hx
end Calls
end Jvm.Ow
namespace Jvm.Ow
open Sem ClassFile Op Lib Bundle Jvm.Stand Jvm.Free Jvm.LawKit Jvm.RoadKit
theorem room_le {s : State} {pl : Platform} {r r' : Room} (h : s.hasRoom pl r' = true) (h1 : r.frames ≤ r'.frames) (h2 : r.cells ≤ r'.cells) (h3 : r.slots ≤ r'.slots) (h4 : r.locals ≤ r'.locals) : s.hasRoom pl r = true := by
  exact State.hasRoom_ride (by omega) (by omega) rfl rfl (by omega) (by omega) (State.hasRoom_slotsTrue h) h
/-- a contract with more room than it asks -/
theorem Con.rm {l : Launch} {Z : State} {EL : List (String × Nat)} {b : Bool} {y : MethodName} {bytes : ByteArray} {maxL : Nat} {ret : Option FieldType} {ws : List Jvm.Cond} {rm rm' : Room} {as' : Array Value} {h : Heap} {W : List Nat} {Q : Option Value → Heap → List Nat → Prop}
    (M : Con l Z EL b y bytes maxL ret ws rm as' h W Q) (h1 : rm.frames ≤ rm'.frames) (h2 : rm.cells ≤ rm'.cells) (h3 : rm.slots ≤ rm'.slots) (h4 : rm.locals ≤ rm'.locals) : Con l Z EL b y bytes maxL ret ws rm' as' h W Q := by
  intro p e a1 a2 a3 s m args below hf ha hP hK
  obtain ⟨q1, q2, q3, q4, q5, q6, q7, q8⟩ := (Spec.appliesLoose_iff hf).mp ha
  obtain ⟨n, o, x1, x2, x3, v, L, x4, x5, x6, x7, x8⟩ := M p e a1 a2 a3 s m args below hf ((Spec.appliesLoose_iff hf).mpr ⟨q1, q2, q3, q4, q5, q6, room_le q7 h1 h2 h3 h4, q8⟩) hP hK
  exact ⟨n, o, x1, x2, x3, v, L, x4, x5, x6, ⟨x7.1, x7.2.1, x7.2.2.1, State.sameButNew.mono x7.2.2.2 h2 h3⟩, fun hb => ⟨(x8 hb).1, (x8 hb).2.1, State.sameButNew.mono (x8 hb).2.2 h2 h3⟩⟩
end Jvm.Ow
namespace Jvm.Ow
open Sem ClassFile Op Lib
theorem locals_all {vs : List Value} {n : Nat} {L : List Slot} (hc : ∀ v ∈ vs, ¬ v.category = 2) (hL : vs.map Slot.val ++ List.replicate (n - vs.length) .unset = L) : argsToLocals vs.toArray n = L.toArray := by
  subst hL
  have f : ∀ (ws : List Value) (acc : Array Slot), (∀ v ∈ ws, ¬ v.category = 2) → ws.foldl (fun acc v => if v.category = 2 then (acc.push (.val v)).push .second else acc.push (.val v)) acc = acc ++ (ws.map Slot.val).toArray := by
    intro ws
    induction ws with
    | nil => intro acc _; simp
    | cons w ws ih => intro acc h; rw [List.foldl_cons, if_neg (h w (by simp)), ih _ (fun v hv => h v (by simp [hv]))]; simp
  unfold argsToLocals
  have e := f vs #[] hc
  simp only [List.size_toArray, List.foldl_toArray']
  rw [e]
  simp
end Jvm.Ow
namespace Jvm.Ow
open Sem ClassFile Op Lib Bundle Jvm.Stand Jvm.Free Jvm.LawKit Jvm.RoadKit
/-! branches, said as plain propositions -/
theorem dec_of {P : Prop} [Decidable P] {x : Bool} (h1 : P → x = true) (h2 : ¬ P → x = false) : x = decide P := by
  by_cases q : P
  · rw [h1 q, decide_eq_true q]
  · rw [h2 q, decide_eq_false q]
theorem hEq (x : Int32) : ifCond.holds .eq x = decide (x = 0) := dec_of XT.i0_eq_t XT.i0_eq_f
theorem hNe (x : Int32) : ifCond.holds .ne x = decide (¬ x = 0) := dec_of XT.i0_ne_t (fun q => XT.i0_ne_f (Decidable.not_not.mp q))
theorem hLt (x : Int32) : ifCond.holds .lt x = decide (x < 0) := dec_of XT.i0_lt_t XT.i0_lt_f
theorem hGe (x : Int32) : ifCond.holds .ge x = decide (¬ x < 0) := dec_of XT.i0_ge_t (fun q => XT.i0_ge_f (Decidable.not_not.mp q))
theorem hGt (x : Int32) : ifCond.holds .gt x = decide (0 < x) := dec_of XT.i0_gt_t XT.i0_gt_f
theorem hLe (x : Int32) : ifCond.holds .le x = decide (¬ 0 < x) := dec_of XT.i0_le_t (fun q => XT.i0_le_f (Decidable.not_not.mp q))
theorem kEq (x y : Int32) : if_icmp.holds .eq x y = decide (x = y) := dec_of XT.ii_eq_t XT.ii_eq_f
theorem kNe (x y : Int32) : if_icmp.holds .ne x y = decide (¬ x = y) := dec_of XT.ii_ne_t (fun q => XT.ii_ne_f (Decidable.not_not.mp q))
theorem kLt (x y : Int32) : if_icmp.holds .lt x y = decide (x < y) := dec_of XT.ii_lt_t XT.ii_lt_f
theorem kGe (x y : Int32) : if_icmp.holds .ge x y = decide (¬ x < y) := dec_of XT.ii_ge_t (fun q => XT.ii_ge_f (Decidable.not_not.mp q))
theorem kGt (x y : Int32) : if_icmp.holds .gt x y = decide (y < x) := dec_of XT.ii_gt_t XT.ii_gt_f
theorem kLe (x y : Int32) : if_icmp.holds .le x y = decide (¬ y < x) := dec_of XT.ii_le_t (fun q => XT.ii_le_f (Decidable.not_not.mp q))
theorem aEq (x y : Value) : XT.acmp .eq x y = decide (x = y) := rfl
theorem aNe (x y : Value) : XT.acmp .ne x y = decide (¬ x = y) := rfl
/-! numbers -/
theorem nar_char (x : Int32) : (nar .char x).toInt = x.toInt % 65536 := by
  have := c_i2c x
  show x.toUInt32.toUInt16.toUInt32.toInt32.toInt = _
  omega
theorem nar_byte (x : Int32) : ((nar .byte x).toInt - x.toInt) % 256 = 0 ∧ -128 ≤ (nar .byte x).toInt ∧ (nar .byte x).toInt < 128 := c_i2b x
theorem i32_ext {x y : Int32} (q : x.toInt = y.toInt) : x = y := Int32.toInt_inj.mp q
theorem nar_char_id {x : Int32} (h0 : 0 ≤ x.toInt) (h1 : x.toInt < 65536) : nar .char x = x := i32_ext (by rw [nar_char]; omega)
theorem nar_byte_inj {x y : Int32} (hx : 0 ≤ x.toInt ∧ x.toInt < 256) (hy : 0 ≤ y.toInt ∧ y.toInt < 256) (q : nar .byte x = nar .byte y) : x = y := by
  have h1 := nar_byte x; have h2 := nar_byte y; rw [q] at h1
  exact i32_ext (by omega)
theorem lt32 {x y : Int32} : x < y ↔ x.toInt < y.toInt := Int32.lt_iff_toInt_lt
theorem ofNat_toInt {i : Nat} (hi : i < 2 ^ 31) : (Int32.ofNat i).toInt = (i : Int) := toInt_of rfl hi
theorem ofNat_inj {i j : Nat} (hi : i < 2 ^ 31) (hj : j < 2 ^ 31) (q : Int32.ofNat i = Int32.ofNat j) : i = j := by
  have h1 := ofNat_toInt hi; have h2 := ofNat_toInt hj; rw [q] at h1; omega
/-- the part of a heap fact that a later heap keeps -/
theorem nin1 {x y : Nat} (q : x ≠ y) : x ∉ [y] := fun z => q (List.mem_singleton.mp z)
theorem Keep.z {h h' : Heap} (E : Ext h h') : Keep h h' [] := (Keep.refl h []).ext E
/-! a String of Latin-1 signs -/
def StrL (Z : State) (h : Heap) (a d : Nat) (cs : List Int32) : Prop :=
  Exa Z h a "java/lang/String" ∧ Fld Z h a "java/lang/String" "value" "[B" (.ref d) ∧ Fld Z h a "java/lang/String" "coder" "B" (.int 0) ∧ ArI Z h d .byte (cs.map (nar .byte)) ∧ ∀ c ∈ cs, 0 ≤ c.toInt ∧ c.toInt < 256
theorem StrL.keep {Z : State} {h h' : Heap} {a d : Nat} {cs : List Int32} {ws : List Nat} (S : StrL Z h a d cs) (K : Keep h h' ws) (ha : a ∉ ws) (hd : d ∉ ws) : StrL Z h' a d cs :=
  ⟨S.1.keep K, S.2.1.keep K ha, S.2.2.1.keep K ha, S.2.2.2.1.keep K hd, S.2.2.2.2⟩
theorem StrL.ext {Z : State} {h h' : Heap} {a d : Nat} {cs : List Int32} (S : StrL Z h a d cs) (E : Ext h h') : StrL Z h' a d cs := S.keep (Keep.z E) nin0 nin0
theorem StrL.lt {Z : State} {h : Heap} {a d : Nat} {cs : List Int32} (S : StrL Z h a d cs) : a < h.size ∧ d < h.size := ⟨S.1.lt, S.2.2.2.1.lt⟩
theorem StrL.len {Z : State} {h : Heap} {a d : Nat} {cs : List Int32} (S : StrL Z h a d cs) : cs.length < 2 ^ 31 := by simpa using S.2.2.2.1.2
/-- how many signs from the left are Latin-1 -/
def lead (xs : List Int32) : Nat := (xs.takeWhile fun x => decide (x.toInt < 256)).length
theorem lead_le (xs : List Int32) : lead xs ≤ xs.length := by
  induction xs with
  | nil => simp [lead]
  | cons x xs ih =>
    unfold lead at ih ⊢
    by_cases q : x.toInt < 256
    · simp [q]; exact ih
    · simp [q]
theorem lead_all {xs : List Int32} (q : ∀ x ∈ xs, x.toInt < 256) : lead xs = xs.length := by
  induction xs with
  | nil => rfl
  | cons x xs ih =>
    unfold lead at ih ⊢
    have h1 := q x (by simp)
    have h2 := ih fun y hy => q y (by simp [hy])
    simp [h1, h2]
theorem lead_at {xs : List Int32} {i : Nat} (hi : i < xs.length) (q : ∀ j, j < i → (xs.getD j 0).toInt < 256) (r : ¬ (xs.getD i 0).toInt < 256) : lead xs = i := by
  induction xs generalizing i with
  | nil => simp at hi
  | cons x xs ih =>
    unfold lead at ih ⊢
    cases i with
    | zero => simp at r ⊢; simp [show ¬ x.toInt < 256 by omega]
    | succ i =>
      have h0 := q 0 (by omega)
      simp at h0 hi r
      have := ih hi (fun j hj => by have := q (j + 1) (by omega); simpa using this) (by simpa using r)
      simp [h0, this]
theorem take_snoc {xs : List Int32} {i : Nat} (hi : i < xs.length) : xs.take (i + 1) = xs.take i ++ [xs.getD i 0] := by rw [List.take_add_one]; simp [hi]
theorem take_step {xs : List Int32} {i r : Nat} (hi : i < xs.length) (f : Int32 → Int32) : (((xs.take i).map f) ++ List.replicate (r + 1) (0 : Int32)).set i (f (xs.getD i 0)) = ((xs.take (i + 1)).map f) ++ List.replicate r 0 := by
  have h1 : ((xs.take i).map f).length = i := by simp; omega
  rw [List.set_append_right _ _ (by omega), h1, Nat.sub_self, List.replicate_succ, List.set_cons_zero, take_snoc hi, List.map_append, List.append_assoc]
  rfl
end Jvm.Ow
namespace Jvm.Ow
open Sem ClassFile Op Lib Bundle Jvm.Stand Jvm.Free Jvm.LawKit Jvm.RoadKit
theorem cat_ref (a : Nat) : (Value.ref a).category = 1 := rfl
theorem cat_int (x : Int32) : (Value.int x).category = 1 := rfl
theorem cat_null : Value.null.category = 1 := rfl
theorem narO {v : Value} (hv : v.isRef = true) {t : String} : narrow (.object t) v = v := by cases v <;> first | rfl | (cases hv; done)
theorem fitO {v : Value} (hv : v.isRef = true) {t : String} : fits (.object t) v = true := by cases v <;> first | rfl | (cases hv; done)
theorem narZ {x : Int32} (hx : x = 0 ∨ x = 1) : narrow .boolean (.int x) = .int x := by rcases hx with rfl | rfl <;> rfl
theorem fitZ {x : Int32} (hx : x = 0 ∨ x = 1) : fits .boolean (.int x) = true := by rcases hx with rfl | rfl <;> rfl
theorem nar01 {x : Int32} (hx : x = 0 ∨ x = 1) : nar .boolean x = x := by rcases hx with rfl | rfl <;> rfl
end Jvm.Ow
namespace Jvm.Ow
open Sem ClassFile Op Lib Bundle Jvm.Stand Jvm.Free Jvm.LawKit Jvm.RoadKit
/-! UTF-16 -/
def hi8 (c : Int32) : Int32 := c >>> ((8 : Int32) &&& 31)
def u16 : List Int32 → List Int32
  | [] => []
  | c :: cs => nar .byte c :: nar .byte (hi8 c) :: u16 cs
theorem u16_len (cs : List Int32) : (u16 cs).length = 2 * cs.length := by
  induction cs with
  | nil => rfl
  | cons c cs ih => simp only [u16, List.length_cons, ih]; omega
theorem u16_lo {cs : List Int32} {i : Nat} (hi : i < cs.length) : (u16 cs).getD (2 * i) 0 = nar .byte (cs.getD i 0) := by
  induction cs generalizing i with
  | nil => simp at hi
  | cons c cs ih =>
    cases i with
    | zero => rfl
    | succ i =>
      have := ih (i := i) (by simpa using hi)
      rw [show 2 * (i + 1) = 2 * i + 1 + 1 by omega]
      simp only [u16, List.getD_cons_succ]
      exact this
theorem u16_hi {cs : List Int32} {i : Nat} (hi : i < cs.length) : (u16 cs).getD (2 * i + 1) 0 = nar .byte (hi8 (cs.getD i 0)) := by
  induction cs generalizing i with
  | nil => simp at hi
  | cons c cs ih =>
    cases i with
    | zero => rfl
    | succ i =>
      have := ih (i := i) (by simpa using hi)
      rw [show 2 * (i + 1) + 1 = (2 * i + 1) + 1 + 1 by omega]
      simp only [u16, List.getD_cons_succ]
      exact this
theorem u16_app (xs ys : List Int32) : u16 (xs ++ ys) = u16 xs ++ u16 ys := by
  induction xs with
  | nil => rfl
  | cons c cs ih => simp only [List.cons_append, u16, ih]
theorem u16_step {xs : List Int32} {i r : Nat} (hi : i < xs.length) : ((u16 (xs.take i) ++ List.replicate (2 * (r + 1)) (0 : Int32)).set (2 * i) (nar .byte (xs.getD i 0))).set (2 * i + 1) (nar .byte (hi8 (xs.getD i 0))) = u16 (xs.take (i + 1)) ++ List.replicate (2 * r) 0 := by
  have h1 : (u16 (xs.take i)).length = 2 * i := by rw [u16_len, List.length_take]; omega
  have h2 : 2 * (r + 1) = 2 * r + 1 + 1 := by omega
  have h3 : xs.take (i + 1) = xs.take i ++ [xs.getD i 0] := take_snoc hi
  rw [List.set_append_right _ _ (by omega), h1, Nat.sub_self, List.set_append_right _ _ (by omega), h1, show 2 * i + 1 - 2 * i = 1 by omega, h2, h3, u16_app]
  simp [List.replicate_succ, u16]
theorem nar_byte_nar (x : Int32) : nar .byte (nar .byte x) = nar .byte x := i32_ext (by have h1 := nar_byte (nar .byte x); have h2 := nar_byte x; omega)
theorem shr_zero (x : Int32) : x >>> ((0 : Int32) &&& 31) = x := by
  apply i32_ext
  have := c_ishr x 0 0 (by decide)
  rw [this]; simp
theorem shl_zero (x : Int32) : x <<< ((0 : Int32) &&& 31) = x := by
  apply i32_ext
  have h1 := c_ishl x 0 0 (by decide)
  have h2 := rng32 (x <<< ((0 : Int32) &&& 31)); have h3 := rng32 x
  have : ((2 ^ 0 : Nat) : Int) = 1 := rfl
  rw [this] at h1; omega
theorem shl_one {i : Nat} (hi : i < 2 ^ 30) : Int32.ofNat i <<< ((1 : Int32) &&& 31) = Int32.ofNat (2 * i) := by
  apply i32_ext
  have h1 := c_ishl (Int32.ofNat i) 1 1 (by decide)
  have h2 := rng32 (Int32.ofNat i <<< ((1 : Int32) &&& 31))
  rw [ofNat_toInt (by omega)] at h1 ⊢
  have : ((2 ^ 1 : Nat) : Int) = 2 := rfl
  rw [this] at h1
  omega
theorem shr_one {i : Nat} (hi : i < 2 ^ 30) : Int32.ofNat (2 * i) >>> ((1 : Int32) &&& 31) = Int32.ofNat i := by
  apply i32_ext
  have h1 := c_ishr (Int32.ofNat (2 * i)) 1 1 (by decide)
  rw [h1, ofNat_toInt (by omega), ofNat_toInt (by omega)]
  have : ((2 ^ 1 : Nat) : Int) = 2 := rfl
  rw [this]; omega
theorem and255 (x : Int32) : (x &&& 255).toInt = x.toInt % 256 := by
  have h := c_mask x 255 8 (by decide) (by decide)
  rw [h]; rfl
theorem hi8_val (c : Int32) : (hi8 c).toInt = c.toInt / 256 := by
  have := c_ishr c 8 8 (by decide)
  unfold hi8; rw [this]; rfl
/-- the two bytes of a sign, put together again -/
theorem glue (c : Int32) (h0 : 0 ≤ c.toInt) (h1 : c.toInt < 65536) : nar .char (((nar .byte c &&& 255) <<< ((0 : Int32) &&& 31)) ||| ((nar .byte (hi8 c) &&& 255) <<< ((8 : Int32) &&& 31))) = c := by
  rw [shl_zero]
  have b1 := nar_byte c
  have b2 := nar_byte (hi8 c)
  rw [hi8_val] at b2
  have a1 := and255 (nar .byte c)
  have a2 := and255 (nar .byte (hi8 c))
  have s1 := c_ishl (nar .byte (hi8 c) &&& 255) 8 8 (by decide)
  have s2 := rng32 ((nar .byte (hi8 c) &&& 255) <<< ((8 : Int32) &&& 31))
  have e8 : ((2 ^ 8 : Nat) : Int) = 256 := rfl
  rw [e8] at s1
  have o1 := c_or' (nar .byte c &&& 255) ((nar .byte (hi8 c) &&& 255) <<< ((8 : Int32) &&& 31)) 8 (by decide) 256 rfl
  have o2 := o1 (by omega) (by omega) (by omega)
  apply i32_ext
  rw [nar_char]
  omega
def StrU (Z : State) (h : Heap) (a d : Nat) (cs : List Int32) : Prop :=
  Exa Z h a "java/lang/String" ∧ Fld Z h a "java/lang/String" "value" "[B" (.ref d) ∧ Fld Z h a "java/lang/String" "coder" "B" (.int 1) ∧ ArI Z h d .byte (u16 cs) ∧ (∀ c ∈ cs, 0 ≤ c.toInt ∧ c.toInt < 65536) ∧ ∃ c ∈ cs, 256 ≤ c.toInt
theorem StrU.keep {Z : State} {h h' : Heap} {a d : Nat} {cs : List Int32} {ws : List Nat} (S : StrU Z h a d cs) (K : Keep h h' ws) (ha : a ∉ ws) (hd : d ∉ ws) : StrU Z h' a d cs :=
  ⟨S.1.keep K, S.2.1.keep K ha, S.2.2.1.keep K ha, S.2.2.2.1.keep K hd, S.2.2.2.2⟩
theorem StrU.ext {Z : State} {h h' : Heap} {a d : Nat} {cs : List Int32} (S : StrU Z h a d cs) (E : Ext h h') : StrU Z h' a d cs := S.keep (Keep.z E) nin0 nin0
theorem StrU.len {Z : State} {h : Heap} {a d : Nat} {cs : List Int32} (S : StrU Z h a d cs) : 2 * cs.length < 2 ^ 31 := by have := S.2.2.2.1.2; rwa [u16_len] at this
/-- a String, in either form -/
def Str (Z : State) (h : Heap) (a d : Nat) (cs : List Int32) : Prop := StrL Z h a d cs ∨ StrU Z h a d cs
theorem Str.keep {Z : State} {h h' : Heap} {a d : Nat} {cs : List Int32} {ws : List Nat} (S : Str Z h a d cs) (K : Keep h h' ws) (ha : a ∉ ws) (hd : d ∉ ws) : Str Z h' a d cs := S.imp (fun q => q.keep K ha hd) (fun q => q.keep K ha hd)
theorem Str.ext {Z : State} {h h' : Heap} {a d : Nat} {cs : List Int32} (S : Str Z h a d cs) (E : Ext h h') : Str Z h' a d cs := S.imp (fun q => q.ext E) (fun q => q.ext E)
theorem Str.exa {Z : State} {h : Heap} {a d : Nat} {cs : List Int32} (S : Str Z h a d cs) : Exa Z h a "java/lang/String" := S.elim (fun q => q.1) (fun q => q.1)
theorem Str.val {Z : State} {h : Heap} {a d : Nat} {cs : List Int32} (S : Str Z h a d cs) : Fld Z h a "java/lang/String" "value" "[B" (.ref d) := S.elim (fun q => q.2.1) (fun q => q.2.1)
theorem Str.lt {Z : State} {h : Heap} {a d : Nat} {cs : List Int32} (S : Str Z h a d cs) : a < h.size ∧ d < h.size := S.elim (fun q => q.lt) (fun q => ⟨q.1.lt, q.2.2.2.1.lt⟩)
theorem Str.len {Z : State} {h : Heap} {a d : Nat} {cs : List Int32} (S : Str Z h a d cs) : cs.length < 2 ^ 31 := S.elim (fun q => q.len) (fun q => by have := q.len; omega)
theorem Str.chr {Z : State} {h : Heap} {a d : Nat} {cs : List Int32} (S : Str Z h a d cs) : ∀ c ∈ cs, 0 ≤ c.toInt ∧ c.toInt < 65536 := S.elim (fun q c hc => by have := q.2.2.2.2 c hc; omega) (fun q => q.2.2.2.2.1)
theorem lat_dec (cs : List Int32) : (∀ c ∈ cs, c.toInt < 256) ∨ ∃ c ∈ cs, 256 ≤ c.toInt := by
  by_cases q : ∃ c ∈ cs, 256 ≤ c.toInt
  · exact Or.inr q
  · exact Or.inl fun c hc => by
      by_cases r : c.toInt < 256
      · exact r
      · exact absurd ⟨c, hc, by omega⟩ q
theorem lead_lt {xs : List Int32} (q : ∃ c ∈ xs, 256 ≤ c.toInt) : lead xs < xs.length ∧ 256 ≤ (xs.getD (lead xs) 0).toInt := by
  induction xs with
  | nil => obtain ⟨c, hc, _⟩ := q; cases hc
  | cons x xs ih =>
    unfold lead at ih ⊢
    by_cases r : x.toInt < 256
    · have q' : ∃ c ∈ xs, 256 ≤ c.toInt := by
        obtain ⟨c, hc, h⟩ := q
        rcases List.mem_cons.mp hc with rfl | hc
        · omega
        · exact ⟨c, hc, h⟩
      obtain ⟨h1, h2⟩ := ih q'
      simp [r]
      exact ⟨h1, by simpa using h2⟩
    · simp [r]; omega
end Jvm.Ow
namespace Jvm.Ow
open Sem ClassFile Op Lib Bundle Jvm.Stand Jvm.Free Jvm.LawKit Jvm.RoadKit
/-- what indexOf says: the first place at or behind i that holds ch, or -1 -/
def Idx (cs : List Int32) (ch : Int32) (i : Nat) (v : Int32) : Prop :=
  (∃ j, i ≤ j ∧ j < cs.length ∧ cs.getD j 0 = ch ∧ (∀ k, i ≤ k → k < j → ¬ cs.getD k 0 = ch) ∧ v = Int32.ofNat j) ∨ ((∀ k, i ≤ k → k < cs.length → ¬ cs.getD k 0 = ch) ∧ v = -1)
theorem getD_mem {cs : List Int32} {i : Nat} (hi : i < cs.length) : cs.getD i 0 ∈ cs := by
  rw [List.getD_eq_getElem?_getD, List.getElem?_eq_getElem hi]; exact List.getElem_mem hi
theorem map_getD {cs : List Int32} {i : Nat} {f : Int32 → Int32} (hi : i < cs.length) : (cs.map f).getD i 0 = f (cs.getD i 0) := by
  simp [List.getD_eq_getElem?_getD, hi]
theorem zero_toInt : ((0 : Int32)).toInt = 0 := rfl
end Jvm.Ow
namespace Jvm.Ow
open Sem ClassFile Op Lib Bundle Jvm.Stand Jvm.Free Jvm.LawKit Jvm.RoadKit
theorem Idx.one {cs : List Int32} {ch : Int32} {i : Nat} {v w : Int32} (A : Idx cs ch i v) (B : Idx cs ch i w) : v = w := by
  rcases A with ⟨j, a1, a2, a3, a4, rfl⟩ | ⟨a1, rfl⟩ <;> rcases B with ⟨k, b1, b2, b3, b4, rfl⟩ | ⟨b1, rfl⟩
  · rcases Nat.lt_trichotomy j k with q | q | q
    · exact absurd a3 (b4 j a1 q)
    · rw [q]
    · exact absurd b3 (a4 k b1 q)
  · exact absurd a3 (b1 j a1 a2)
  · exact absurd b3 (a1 k b1 b2)
  · rfl
theorem charR (x : Int32) : 0 ≤ (nar .char x).toInt ∧ (nar .char x).toInt < 65536 := by rw [nar_char]; omega
end Jvm.Ow
namespace Jvm.Ow
open Sem ClassFile Op Lib Bundle Jvm.Stand Jvm.Free Jvm.LawKit Jvm.RoadKit
/-- a static that the sheet's words give a value -/
theorem staEq {s : State} {args : Array Value} {C n d : String} {x : Int32} (w1 : (Cond.initializedFor C n d).before args s = true) (w2 : (Cond.eq (Term.static C n d) (Term.int x)).before args s = true) : Sta s s.heap C n d (.int x) := by
  have q := Cond.before_iff.mp w2
  obtain ⟨u, v, h1, h2, k1, k2⟩ := cmp_v (Or.inl q)
  have h3 : (Term.int x).eval args s none [] s = some (.int x) := Term.int_eval x
  obtain rfl : v = .int x := Option.some.inj (h2.symm.trans h3)
  obtain ⟨z, rfl⟩ := k2
  obtain rfl := gotT (Cond.eq_ints h1 h3) q
  exact Sta.start h1 (Or.inl w1)
end Jvm.Ow
namespace Jvm.Ow
open Sem ClassFile Op Lib Bundle Jvm.Stand Jvm.Free Jvm.LawKit Jvm.RoadKit
section Copy
variable {p : Program} {l : Launch} {e : Env} {R : Room} {s : State} {m : MethodId} {args : Array Value} {below : List Frame} {meth : Method} {c : Code} {Z : State} {a0 : Array Value} {EL : List (String × Nat)} {b : Bool} {own nm : String} {bytes : ByteArray} {maxL : Nat} {ret : Option FieldType} {Q : Option Value → Heap → List Nat → Prop}
  {pc : Nat} {L : List Slot} {st : List Value} {h : Heap} {W : List Nat} {k n : Nat}
theorem stretch_eq (xs : List Int32) (i q : Nat) (h : i + q ≤ xs.length) : (List.range q).map (fun t => (xs.map Value.int).getD (i + t) (.int 0)) = ((xs.drop i).take q).map Value.int := by
  apply List.ext_getElem
  · simp; omega
  · intro t h1 h2
    simp at h1 h2
    simp [List.getD_eq_getElem?_getD, show i + t < xs.length by omega]
theorem acopy (C : Cx p m meth c s Z a0 EL b own nm bytes maxL ret) {pc' index : Nat} {x y : Nat} {ty : FieldType} {xs ys : List Int32} {sp dp nn : Int32} {i j q : Nat}
    (w1 : (Cond.methodLink own index Jvm.Stand.acN).before a0 Z = true) (w2 : (Cond.native Jvm.Stand.acN).before a0 Z = true) (w3 : (Cond.static Jvm.Stand.acN).before a0 Z = true) (w4 : (Cond.initialized "java/lang/System").before a0 Z = true)
    (A : ArI Z h x ty xs) (B : ArI Z h y ty ys) (hk : refKind ty = false) (hi : sp.toInt = (i : Int)) (hj : dp.toInt = (j : Int)) (hq : nn.toInt = (q : Int)) (h4 : i + q ≤ xs.length) (h5 : j + q ≤ ys.length) (hyW : y ∈ W)
    (hd : decode bytes pc = .ok (.invokestatic index, 3)) (hp : pc + 3 = pc') (hsz : L.length = maxL) (hf : 1 ≤ R.frames) {Wt : Nat} (hWt : (st.map fun v => v.category).sum ≤ Wt) (hlo : Wt + (nativeFrameWords "java/lang/System" "arraycopy" 5 + 11) ≤ R.locals)
    (hr : ∀ h', Keep h h' [y] → ArI Z h' y ty (ys.take j ++ (xs.drop i).take q ++ ys.drop (j + q)) → WP p l e R s m args below meth c Z EL b Q pc' L st h' W k n) :
    WP p l e R s m args below meth c Z EL b Q pc L (.int nn :: .int dp :: .ref y :: .int sp :: .ref x :: st) h W k n := by
  subst hp
  intro T vm0 k0 locs cells slots X eT hS hk0 hb' hC hO hW hF hc hn
  obtain ⟨⟨ka, Av⟩, la⟩ := A
  obtain ⟨⟨kb, Bv⟩, lb⟩ := B
  obtain ⟨i1, i2⟩ := idx_ok hi
  obtain ⟨j1, j2⟩ := idx_ok hj
  obtain ⟨q1, q2⟩ := idx_ok hq
  have hsz' : (mkF m pc L.toArray (.int nn :: .int dp :: .ref y :: .int sp :: .ref x :: st)).locals.size = c.maxLocals := by rw [C.2.2.1, ← hsz]; simp
  obtain ⟨T', h', L', X', e', N', K', B', go⟩ := cpA X C.1 (C.z hS) (C.o hS) w1 w2 w3 w4 eT Av Bv (us := ((xs.drop i).take q).map Value.int) (Or.inl ⟨rfl, hk⟩) i1 j1 q1 (by rw [i2, q2, ofNat_clamp la]; exact h4) (by rw [j2, q2, ofNat_clamp lb]; exact h5)
    (by rw [i2, q2]; exact (stretch_eq xs i q h4).symm) (by rw [j2, q2]; simpa using h5) hF (hW y hyW).1 (g := mkF m pc L.toArray (.int nn :: .int dp :: .ref y :: .int sp :: .ref x :: st)) rfl hsz' rfl (hb C.2.1 hd) hf (W := Wt) (by show 2 * 0 + _ ≤ _; omega) hlo
  have hl : (ys.take j ++ (xs.drop i).take q ++ ys.drop (j + q)).length = ys.length := by simp; omega
  have A' := CHr.keep K' (fun z hz => by rw [List.mem_singleton.mp hz]; exact (hW y hyW).2.2) hC.1
  have hO' := hO.keep K' (fun z hz => by rw [List.mem_singleton.mp hz]; exact (hW y hyW).1)
  obtain ⟨s2, v, st2, r⟩ := hr h' K' ⟨⟨kb, by rw [hl]; rw [j2, q2] at B'; simpa [List.map_append, List.map_take, List.map_drop] using B'⟩, by rw [hl]; exact lb⟩ T' vm0 k0 L' cells slots X' e' hS (Nat.le_trans hk0 K'.1) hb' (hC.trans A') hO' (hW.r A') N' hc hn
  exact ⟨s2, v, go _ st2, r⟩
end Copy
end Jvm.Ow
namespace Jvm.Ow
open Sem ClassFile Op Lib Bundle Jvm.Stand Jvm.Free Jvm.LawKit Jvm.RoadKit
theorem eq32 {x y : Int32} : x = y ↔ x.toInt = y.toInt := ⟨fun q => by rw [q], i32_ext⟩
theorem ArI.same_len {Z : State} {h : Heap} {a : Nat} {ty ty' : FieldType} {xs ys : List Int32} (A : ArI Z h a ty xs) (B : ArI Z h a ty' ys) : xs.length = ys.length := by
  obtain ⟨c1, A1, s1, -⟩ := A.cell
  obtain ⟨c2, A2, s2, -⟩ := B.cell
  have := A1.1.symm.trans A2.1
  cases this
  omega
/-- the capital letters of Latin-1 -/
def upp (c : Int32) : Prop := (65 ≤ c.toInt ∧ c.toInt ≤ 90) ∨ (192 ≤ c.toInt ∧ c.toInt ≤ 222 ∧ ¬ c.toInt = 215)
instance (c : Int32) : Decidable (upp c) := by unfold upp; infer_instance
def low (c : Int32) : Int32 := if upp c then c + 32 else c
/-- CharacterDataLatin1.toLowerCase, as its body reckons -/
def clo (c : Int32) : Int32 := if ¬ c < 65 then (if ¬ 122 < (c ||| 32) then (c ||| 32) else if (c ||| 32) < 224 then c else if 254 < (c ||| 32) then c else if (c ||| 32) = 247 then c else (c ||| 32)) else c
theorem clo_low0 : ∀ n : Fin 256, clo (Int32.ofNat n.val) = low (Int32.ofNat n.val) := by decide +kernel
theorem of_range {c : Int32} (h0 : 0 ≤ c.toInt) (h1 : c.toInt < 256) : ∃ n : Fin 256, c = Int32.ofNat n.val := by
  refine ⟨⟨c.toInt.toNat, by omega⟩, i32_ext ?_⟩
  rw [ofNat_toInt (by show c.toInt.toNat < 2 ^ 31; omega)]
  show c.toInt = ((c.toInt.toNat : Nat) : Int)
  omega
theorem clo_low {c : Int32} (h0 : 0 ≤ c.toInt) (h1 : c.toInt < 256) : clo c = low c := by
  obtain ⟨n, rfl⟩ := of_range h0 h1; exact clo_low0 n
theorem add32v {c : Int32} (h0 : 0 ≤ c.toInt) (h1 : c.toInt < 256) : (c + 32).toInt = c.toInt + 32 := by
  have h := c_iadd c 32
  have r := rng32 (c + 32)
  have e : ((32 : Int32)).toInt = 32 := rfl
  rw [e] at h; omega
theorem low_rng {c : Int32} (h0 : 0 ≤ c.toInt) (h1 : c.toInt < 256) : 0 ≤ (low c).toInt ∧ (low c).toInt < 256 := by
  unfold low
  by_cases q : upp c
  · rw [if_pos q, add32v h0 h1]; unfold upp at q; omega
  · rw [if_neg q]; exact ⟨h0, h1⟩
theorem byte_back {c : Int32} (h0 : 0 ≤ c.toInt) (h1 : c.toInt < 256) : nar .byte c &&& 255 = c := by
  apply i32_ext
  have h := c_mask (nar .byte c) 255 8 (by decide) (by decide)
  have b := nar_byte c
  have e : ((2 ^ 8 : Nat) : Int) = 256 := rfl
  rw [h, e]; omega
theorem getD_rng {cs : List Int32} {i : Nat} {P : Int32 → Prop} (h : ∀ c ∈ cs, P c) (hi : i < cs.length) : P (cs.getD i 0) := h _ (by rw [List.getD_eq_getElem?_getD, List.getElem?_eq_getElem hi]; exact List.getElem_mem hi)
theorem map_id_of {cs : List Int32} {f : Int32 → Int32} (h : ∀ j, j < cs.length → f (cs.getD j 0) = cs.getD j 0) : cs.map f = cs := by
  apply List.ext_getElem (by simp)
  intro j h1 h2
  have := h j h2
  simpa [List.getD_eq_getElem?_getD, h2] using this
theorem take_map_id {cs : List Int32} {f : Int32 → Int32} {i : Nat} (hi : i ≤ cs.length) (h : ∀ j, j < i → f (cs.getD j 0) = cs.getD j 0) : (cs.map f).take i = cs.take i := by
  apply List.ext_getElem (by simp)
  intro j h1 h2
  simp at h1 h2
  have := h j (by omega)
  simpa [List.getD_eq_getElem?_getD, show j < cs.length by omega] using this
theorem nar_byte_nar' (x : Int32) : nar .byte (nar .byte x) = nar .byte x := i32_ext (by have h1 := nar_byte (nar .byte x); have h2 := nar_byte x; omega)
theorem mask255 (x : Int32) : 0 ≤ (nar .char (x &&& 255)).toInt ∧ (nar .char (x &&& 255)).toInt < 256 := by
  have h := c_mask x 255 8 (by decide) (by decide)
  rw [nar_char, h]
  omega
theorem and3 (x : Int32) : ∃ i : Nat, i ≤ 3 ∧ x &&& 3 = Int32.ofNat i := by
  have h := c_mask x 3 2 (by decide) (by decide)
  refine ⟨(x.toInt % 4).toNat, by omega, i32_ext ?_⟩
  rw [h, ofNat_toInt (by omega)]
  have : ((2 ^ 2 : Nat) : Int) = 4 := by decide
  omega
theorem ArI.ne0 {Z : State} {h : Heap} {a b : Nat} {ty ty' : FieldType} {xs : List Int32} {c : Cell} (A : Arr Z h a c ty) (h0 : c.slots.size = 0) (B : ArI Z h b ty' xs) (hx : 0 < xs.length) : a ≠ b := fun q => by
  subst q
  obtain ⟨c2, A2, s2, -⟩ := B.cell
  have := A.1.symm.trans A2.1
  cases this
  omega
end Jvm.Ow
namespace Jvm.Ow
open Sem ClassFile Op Lib Bundle Jvm.Stand Jvm.Free Jvm.LawKit Jvm.RoadKit
theorem sub_ofNat {i j : Nat} (h : i ≤ j) (hj : j < 2 ^ 31) : Int32.ofNat j - Int32.ofNat i = Int32.ofNat (j - i) := by
  apply i32_ext
  have h1 := c_isub (Int32.ofNat j) (Int32.ofNat i)
  have h2 := rng32 (Int32.ofNat j - Int32.ofNat i)
  rw [ofNat_toInt hj, ofNat_toInt (by omega)] at h1
  rw [ofNat_toInt (by omega)]
  omega
theorem add_ofNat {i j : Nat} (h : i + j < 2 ^ 31) : Int32.ofNat i + Int32.ofNat j = Int32.ofNat (i + j) := by
  apply i32_ext
  have h1 := c_iadd (Int32.ofNat i) (Int32.ofNat j)
  have h2 := rng32 (Int32.ofNat i + Int32.ofNat j)
  rw [ofNat_toInt (by omega), ofNat_toInt (by omega)] at h1
  rw [ofNat_toInt (by omega)]
  omega
theorem dec_ofNat {i : Nat} (h : i + 1 < 2 ^ 31) : Int32.ofNat (i + 1) + (-1) = Int32.ofNat i := by
  apply i32_ext
  have h1 := c_iadd (Int32.ofNat (i + 1)) (-1)
  have h2 := rng32 (Int32.ofNat (i + 1) + (-1))
  have h3 : ((-1 : Int32)).toInt = -1 := rfl
  rw [ofNat_toInt (by omega), h3] at h1
  rw [ofNat_toInt (by omega)]
  omega
theorem pred_ofNat {i : Nat} (h : i + 1 < 2 ^ 31) : Int32.ofNat (i + 1) - 1 = Int32.ofNat i := sub_ofNat (i := 1) (j := i + 1) (by omega) h
/-- Java's white space among the Latin-1 signs -/
def wsp (c : Int32) : Prop := (9 ≤ c.toInt ∧ c.toInt ≤ 13) ∨ (28 ≤ c.toInt ∧ c.toInt ≤ 32)
instance (c : Int32) : Decidable (wsp c) := by unfold wsp; infer_instance
/-- the places where the stripped text begins and ends -/
def Str0 (cs : List Int32) (s e : Nat) : Prop := s ≤ cs.length ∧ e ≤ cs.length ∧ (∀ k, k < s → wsp (cs.getD k 0)) ∧ (s = cs.length ∨ ¬ wsp (cs.getD s 0)) ∧ (∀ k, e ≤ k → k < cs.length → wsp (cs.getD k 0)) ∧ (e = 0 ∨ ¬ wsp (cs.getD (e - 1) 0))
theorem StrL.uniq {Z : State} {h : Heap} {a d d' : Nat} {cs ds : List Int32} (S : StrL Z h a d cs) (T : StrL Z h a d' ds) : cs = ds := by
  have hd : d = d' := by
    rcases Nat.decEq d d' with q | q
    · exact absurd rfl (Fld.ne S.2.1 T.2.1 (fun e => q (Value.ref.inj e)))
    · exact q
  subst hd
  have hl := S.2.2.2.1.same_len T.2.2.2.1
  simp at hl
  obtain ⟨c1, A1, s1, g1⟩ := S.2.2.2.1.cell
  obtain ⟨c2, A2, s2, g2⟩ := T.2.2.2.1.cell
  have := A1.1.symm.trans A2.1
  cases this
  apply List.ext_getElem hl
  intro i h1 h2
  have hN : cs.length < 2 ^ 31 := S.len
  have e1 := (g1 (j := Int32.ofNat i) (i := i) (ofNat_toInt (by omega)) (by simpa using h1)).2
  have e2 := (g2 (j := Int32.ofNat i) (i := i) (ofNat_toInt (by omega)) (by simpa using h2)).2
  have e3 := e1.symm.trans e2
  simp [List.getD_eq_getElem?_getD, h1, h2] at e3
  exact nar_byte_inj (S.2.2.2.2 _ (List.getElem_mem h1)) (T.2.2.2.2 _ (List.getElem_mem h2)) e3
/-- an array of ints that the sheet's words list -/
theorem ArI.table {Z : State} {a0 : Array Value} {t : Term} {ty : FieldType} {xs : List Int32} (hf : Fit Z) (hx : xs.length < 2 ^ 31) (w1 : (Cond.arrayOf t ty).before a0 Z = true) (w2 : (Cond.eq (Term.length t) (Term.int (Int32.ofNat xs.length))).before a0 Z = true)
    (w3 : ∀ j, j < xs.length → (Cond.eq (Term.elem t (Term.int (Int32.ofNat j))) (Term.int (xs.getD j 0))).before a0 Z = true) : ∃ a : Nat, t.eval a0 Z none [] Z = some (.ref a) ∧ ArI Z Z.heap a ty xs := by
  obtain ⟨a, e1⟩ := arr_v (Cond.before_iff.mp w1)
  obtain ⟨c, A⟩ := Arr.start e1 (Cond.before_iff.mp w1)
  have e5 := eqv_i (Term.int_eval _) (Cond.before_iff.mp w2)
  have e6 := A.fin (Vm.Alike.refl _)
  have e7 : (if c.slots.size < 2 ^ 31 then some (Value.int c.slots.size.toInt32) else none) = some (.int (Int32.ofNat xs.length)) := by
    have q : (Term.length t).eval a0 Z none [] Z = (if c.slots.size < 2 ^ 31 then some (.int c.slots.size.toInt32) else none) := by simp [Term.eval, e1, e6]
    exact q.symm.trans e5
  split at e7
  · rename_i hl
    have e8 : c.slots.size.toInt32 = Int32.ofNat xs.length := by injection e7 with e7; injection e7
    have e9 : c.slots.size = xs.length := ofNat_inj hl hx e8
    have e10 : ∀ j, j < xs.length → c.slots[j]? = some (.int (xs.getD j 0)) := fun j hj => by
      have q := eqv_i (Term.int_eval _) (Cond.before_iff.mp (w3 j hj))
      have hn : ¬ (Int32.ofNat j) < 0 := by rw [lt32, ofNat_toInt (by omega)]; show ¬ ((j : Int) < 0); omega
      rw [elem_f e1 (Term.int_eval _) e6 hn, ofNat_clamp (by omega)] at q
      exact q
    have hL : ∀ (ys : List Int32) (i : Nat), (∀ j, j < ys.length → c.slots[i + j]? = some (.int (ys.getD j 0))) → HasL c i (ys.map Value.int) := by
      intro ys
      induction ys with
      | nil => intro i _; trivial
      | cons y ys ih => intro i hq; exact ⟨by simpa using hq 0 (by simp), ih (i + 1) (fun j hj => by have := hq (j + 1) (by simp; omega); simpa [Nat.add_assoc, Nat.add_comm 1] using this)⟩
    refine ⟨a, e1, ⟨c.cls, Arv.start hf A hl e8 (by rw [lt32, ofNat_toInt hx]; show ¬ ((xs.length : Int) < 0); omega) (by rw [ofNat_clamp hx]; simp) (hL xs 0 (fun j hj => by simpa using e10 j hj))⟩, hx⟩
  · cases e7
end Jvm.Ow
namespace Jvm.Ow
open Sem ClassFile Op Lib Bundle Jvm.Stand Jvm.Free Jvm.LawKit Jvm.RoadKit
section More
variable {p : Program} {l : Launch} {e : Env} {R : Room} {s : State} {m : MethodId} {args : Array Value} {below : List Frame} {meth : Method} {c : Code} {Z : State} {a0 : Array Value} {EL : List (String × Nat)} {b : Bool} {own nm : String} {bytes : ByteArray} {maxL : Nat} {ret : Option FieldType} {Q : Option Value → Heap → List Nat → Prop}
  {pc : Nat} {L : List Slot} {st : List Value} {h : Heap} {W : List Nat} {k n : Nat}
/-! a switch -/
theorem lookHit (C : Cx p m meth c s Z a0 EL b own nm bytes maxL ret) (pc' : Nat) {len : Nat} {x : Int32} {dflt : Int} {pairs : Array (Int × Int)} {a off : Int} (hd : decode bytes pc = .ok (.lookupswitch dflt pairs, len)) (hs : (pairs.toList.zip (pairs.toList.drop 1)).all (fun (a, next) => a.1 < next.1) = true) (hf : pairs.find? (·.1 == x.toInt) = some (a, off)) (ho : 0 ≤ (pc : Int) + off) (hp : ((pc : Int) + off).toNat = pc')
    (hr : WP p l e R s m args below meth c Z EL b Q pc' L st h W k n) : WP p l e R s m args below meth c Z EL b Q pc L (.int x :: st) h W k n := by
  subst hp
  exact hr.go fun X t q => X.lookupswitchHit C.1 (g := mkF m pc L.toArray (.int x :: st)) rfl rfl (hb C.2.1 hd) hs hf ho t q
theorem lookMiss (C : Cx p m meth c s Z a0 EL b own nm bytes maxL ret) (pc' : Nat) {len : Nat} {x : Int32} {dflt : Int} {pairs : Array (Int × Int)} (hd : decode bytes pc = .ok (.lookupswitch dflt pairs, len)) (hs : (pairs.toList.zip (pairs.toList.drop 1)).all (fun (a, next) => a.1 < next.1) = true) (hf : pairs.find? (·.1 == x.toInt) = none) (ho : 0 ≤ (pc : Int) + dflt) (hp : ((pc : Int) + dflt).toNat = pc')
    (hr : WP p l e R s m args below meth c Z EL b Q pc' L st h W k n) : WP p l e R s m args below meth c Z EL b Q pc L (.int x :: st) h W k n := by
  subst hp
  exact hr.go fun X t q => X.lookupswitchMiss C.1 (g := mkF m pc L.toArray (.int x :: st)) rfl rfl (hb C.2.1 hd) hs hf ho t q
/-! newarray, with the array's class told -/
theorem newarrE (C : Cx p m meth c s Z a0 EL b own nm bytes maxL ret) {pc' : Nat} {aty : ArrayType} {ty : FieldType} {z : Int32} {cap : Nat} {ad : String} (had : "[" ++ (newarray.typeOf aty).toString = ad) (hty : newarray.typeOf aty = ty) (hdv : defaultValue ty = .int 0) (w : (Cond.arrayClass ty).before a0 Z = true) (hd : decode bytes pc = .ok (.newarray aty, 2)) (hp : pc + 2 = pc') (hz : z = Int32.ofNat cap) (hcap : cap * 8 ≤ 536870912) (hc : k + 1 ≤ R.cells) (hn : n + cap ≤ R.slots)
    (hr : ∀ h' a, a = h.size → Z.heap.size ≤ a → a < h'.size → Ext h h' → (ArI Z h' a ty (List.replicate cap 0) ∧ Exa Z h' a ad) → WP p l e R s m args below meth c Z EL b Q pc' L (.ref a :: st) h' (a :: W) (k + 1) (n + cap)) :
    WP p l e R s m args below meth c Z EL b Q pc L (.int z :: st) h W k n := by
  subst hp hz hty
  have hb31 : cap < 2 ^ 31 := by omega
  refine WP.grow (F := fun h' a => ArI Z h' a (newarray.typeOf aty) (List.replicate cap 0) ∧ Exa Z h' a ad) (st' := fun a => .ref a :: st) C hc hn (fun X eT hZ ho h1 h2 => ?_) hr
  have hneg : ¬ Int32.ofNat cap < 0 := fun q => by
    rw [Int32.lt_iff_toInt_lt, toInt_of rfl hb31, Int32.toInt_zero] at q; omega
  obtain ⟨T', h', kA, X', e', E, A, Ex, q⟩ := RoadKit.newPE X C.1 hZ w eT (g := mkF m pc L.toArray (.int (Int32.ofNat cap) :: st)) rfl (hb C.2.1 hd) rfl hneg (cap := cap) (by rw [ofNat_clamp hb31]; exact Nat.le_refl _) hcap h1 h2 had
  refine ⟨T', h', X', e', E, A.lt, ⟨?_, Ex⟩, q⟩
  have A' := Arv.new A hneg
  rw [hdv] at A'
  have A2 := A'.pad (vs' := (List.replicate cap (0 : Int32)).map Value.int) (by
    intro i
    have := pad_rep [] (.int (0 : Int32)) cap i
    simpa [List.map_replicate] using this)
  exact ⟨⟨kA, by simpa using A2⟩, by simpa using hb31⟩
theorem cloneI (C : Cx p m meth c s Z a0 EL b own nm bytes maxL ret) {pc' index : Nat} {a : Nat} {ty : FieldType} {ad : String} {xs : List Int32}
    (w1 : (Cond.methodLink own index ⟨ad, "clone", "()Ljava/lang/Object;"⟩).before a0 Z = true) (w2 : (Cond.sameMethod ad "java/lang/Object" "clone" "()Ljava/lang/Object;").before a0 Z = true) (w3 : (Cond.native ⟨"java/lang/Object", "clone", "()Ljava/lang/Object;"⟩).before a0 Z = true)
    (w4 : (Cond.instanceMethod ⟨"java/lang/Object", "clone", "()Ljava/lang/Object;"⟩).before a0 Z = true) (w5 : (Cond.selects ad ⟨ad, "clone", "()Ljava/lang/Object;"⟩ ⟨"java/lang/Object", "clone", "()Ljava/lang/Object;"⟩).before a0 Z = true) (w6 : (Cond.castable ad "java/lang/Cloneable").before a0 Z = true)
    (A : ArI Z h a ty xs) (E : Exa Z h a ad) (hd : decode bytes pc = .ok (.invokevirtual index, 3)) (hp : pc + 3 = pc') (hsz : L.length = maxL) (hf : 1 ≤ R.frames) {Wt : Nat} (hWt : (st.map fun v => v.category).sum ≤ Wt) (hlo : Wt + 14 ≤ R.locals) (hc : k + 1 ≤ R.cells) (hn : n + xs.length ≤ R.slots)
    (hr : ∀ h' a', a' = h.size → Z.heap.size ≤ a' → a' < h'.size → Ext h h' → (ArI Z h' a' ty xs ∧ Exa Z h' a' ad) → WP p l e R s m args below meth c Z EL b Q pc' L (.ref a' :: st) h' (a' :: W) (k + 1) (n + xs.length)) :
    WP p l e R s m args below meth c Z EL b Q pc L (.ref a :: st) h W k n := by
  subst hp
  obtain ⟨⟨kc, Av⟩, q⟩ := A
  refine WP.grow (F := fun h' a' => ArI Z h' a' ty xs ∧ Exa Z h' a' ad) (st' := fun a => .ref a :: st) C hc hn (fun X eT hZ ho h1 h2 => ?_) hr
  have hsz' : (mkF m pc L.toArray (.ref a :: st)).locals.size = c.maxLocals := by rw [C.2.2.1, ← hsz]; simp
  obtain ⟨T', h', X', e', E', A', Ex', go⟩ := RoadKit.cloneH X C.1 hZ ho w1 w2 w3 w4 w5 w6 eT Av.arh E (g := mkF m pc L.toArray (.ref a :: st)) rfl hsz' rfl (hb C.2.1 hd) hf (W := Wt) (cap := xs.length) (by show 2 * 0 + _ ≤ _; omega) hlo (by rw [ofNat_clamp q]; exact Nat.le_refl _) h1 h2
  exact ⟨T', h', X', e', E', Ex'.lt, ⟨⟨⟨kc, A'⟩, q⟩, Ex'⟩, go⟩
/-! invokespecial of a superclass's method -/
theorem callUW (C : Cx p m meth c s Z a0 EL false own nm bytes maxL ret) {pc' index : Nat} {K : String} {y : MethodName} {ybytes : ByteArray} {ymax : Nat} {yret : Option FieldType} {rm : Room} {V : List Nat} {Q' : Option Value → Heap → List Nat → Prop} {a : Nat} {argsL rest : List Value} {ps : List FieldType} {pr : Option FieldType} {Wt : Nat} (hy1 : y.name ≠ "<init>")
    (w1 : (Cond.methodLink own index y).before a0 Z = true) (w2 : (Cond.sameMethod y.cls y.cls y.name y.desc).before a0 Z = true) (w5 : (Cond.instanceMethod y).before a0 Z = true) (w6 : (Cond.superclass own y.cls).before a0 Z = true) (w3 : (Cond.initialized y.cls).before a0 Z = true) (w4 : (Cond.code y ybytes ymax yret).before a0 Z = true)
    (I : Ins Z h a K true) (M : Con l Z EL false y ybytes ymax yret [] rm (.ref a :: argsL).toArray h V Q') (hV : ∀ x ∈ V, x ∈ W) (hpd : parseMethodDescriptor y.desc = some ⟨ps, pr⟩) (hal : argsL.length = ps.length) (hst : st = argsL.reverse ++ .ref a :: rest) (hsz : L.length = maxL)
    (hd : decode bytes pc = .ok (.invokespecial index, 3)) (hp : pc + 3 = pc') (hWt : (rest.map fun v => v.category).sum ≤ Wt) (hf : rm.frames + 1 ≤ R.frames) (hl : Wt + (ymax + 11) + rm.locals ≤ R.locals) (hc0 : k + rm.cells ≤ R.cells) (hn0 : n + rm.slots ≤ R.slots)
    (hr : ∀ v h' W', Q' v h' W' → h.size ≤ h'.size → WP p l e R s m args below meth c Z EL false Q pc' L (v.toList ++ rest) h' (W' ++ W) (k + rm.cells) (n + rm.slots)) :
    WP p l e R s m args below meth c Z EL false Q pc L st h W k n := by
  subst hp hst
  intro T vm0 k0 locs cells slots X eT hS hk hb' hC hO hW hF hc hn
  have hZ0 : Z.Warmed39 (s.setVm vm0).vm := C.z hS
  have hsz' : (mkF m pc L.toArray (argsL.reverse ++ .ref a :: rest)).locals.size = c.maxLocals := by rw [C.2.2.1, ← hsz]; simp
  obtain ⟨v, vm1, B, -, X', hS', hg, P, q⟩ := superBackS X C.1 hZ0 (C.o hS) w1 w2 w5 w6 hy1 (M.backS (W := V) hZ0 w4 w3 hf hl C.ew hC.1 hO (hW.sub hV)) eT I (g := mkF m pc L.toArray (argsL.reverse ++ .ref a :: rest)) rfl hsz' w4 (lenOf hpd hal) rfl (by show 2 * 0 + _ ≤ _; omega) (hb C.2.1 hd) (fun _ _ => ⟨rfl, eT, by show cells + _ ≤ _; omega, by show slots + _ ≤ _; omega⟩)
  obtain ⟨s2, v2, q2, r⟩ := WP.after (V := V) C hc0 hn0 hr eT hS hk hb' hC hW hF hc hn X' hS' (Or.inl ⟨rfl, rfl⟩) hg P
  exact ⟨s2, v2, q.trans q2, r⟩
theorem callU (C : Cx p m meth c s Z a0 EL false own nm bytes maxL ret) {pc' index : Nat} {K : String} {y : MethodName} {ybytes : ByteArray} {ymax : Nat} {yret : Option FieldType} {rm : Room} {V : List Nat} {Q' : Option Value → Heap → List Nat → Prop} {a : Nat} {argsL rest : List Value} {ps : List FieldType} {pr : Option FieldType} {Wt : Nat} (hy1 : y.name ≠ "<init>")
    (w1 : (Cond.methodLink own index y).before a0 Z = true) (w2 : (Cond.sameMethod y.cls y.cls y.name y.desc).before a0 Z = true) (w5 : (Cond.instanceMethod y).before a0 Z = true) (w6 : (Cond.superclass own y.cls).before a0 Z = true) (w3 : (Cond.initialized y.cls).before a0 Z = true) (w4 : (Cond.code y ybytes ymax yret).before a0 Z = true)
    (I : Ins Z h a K true) (M : Con l Z EL false y ybytes ymax yret [] rm (.ref a :: argsL).toArray h V Q') (hV : ∀ x ∈ V, x ∈ W) (hpd : parseMethodDescriptor y.desc = some ⟨ps, pr⟩) (hal : argsL.length = ps.length) (hst : st = argsL.reverse ++ .ref a :: rest) (hsz : L.length = maxL)
    (hd : decode bytes pc = .ok (.invokespecial index, 3)) (hp : pc + 3 = pc') (hWt : (rest.map fun v => v.category).sum ≤ Wt) (hf : rm.frames + 1 ≤ R.frames) (hl : Wt + (ymax + 11) + rm.locals ≤ R.locals) (hc0 : k + rm.cells ≤ R.cells) (hn0 : n + rm.slots ≤ R.slots)
    (hr : ∀ v h' W', Q' v h' W' → h.size ≤ h'.size → WP p l e R s m args below meth c Z EL false Q pc' L (v.toList ++ rest) h' W (k + rm.cells) (n + rm.slots)) :
    WP p l e R s m args below meth c Z EL false Q pc L st h W k n :=
  callUW C hy1 w1 w2 w5 w6 w3 w4 I M hV hpd hal hst hsz hd hp hWt hf hl hc0 hn0 fun v h' W' q g => (hr v h' W' q g).wk fun x hx => List.mem_append_right _ hx
/-! words out of other words -/
theorem declares_of {y : MethodName} {yb : ByteArray} {ym : Nat} {yr : Option FieldType} (w : (Cond.instanceMethod y).before a0 Z = true) (wc : (Cond.code y yb ym yr).before a0 Z = true) : (Cond.declares y).before a0 Z = true := by
  obtain ⟨mk, meth, hn, hm, hs, -⟩ := Cond.instanceMethod_spec w
  obtain ⟨m2, cM, q1, -, -, -, -, -, -, hsig⟩ := Cond.code_spec hn wc
  cases hm.symm.trans q1
  simp [Cond.before, Cond.holds, Cond.value, hn, hm, hs, hsig]
theorem notFace_cls {s : State} {args : Array Value} {K : String} {y2 y : MethodName} (w : (Cond.selects K y2 y2).before args s = true) (hc : y2.cls = y.cls) : NotFace s y := fun r0 h0 => by
  obtain ⟨c2, r2, m2, q1, q2, q3, q4, kP, hkP, hkPi⟩ := Cond.selects_spec w
  have e1 := findClass_of_methodNamed q3
  have e2 := findClass_of_methodNamed h0
  rw [hc] at e1
  have e3 : m2.cls = r0.cls := Option.some.inj (e1.symm.trans e2)
  exact ⟨kP, by rw [← e3]; exact hkP, hkPi⟩
theorem same_of {K : String} {y2 y : MethodName} (wi : (Cond.instanceMethod y).before a0 Z = true) (w : (Cond.selects K y2 y2).before a0 Z = true) (hc : y2.cls = y.cls) (hy : y.cls ≠ "java/lang/invoke/MethodHandle" ∧ y.cls ≠ "java/lang/invoke/VarHandle") : (Cond.sameMethod y.cls y.cls y.name y.desc).before a0 Z = true := by
  obtain ⟨mk, meth, hn, hm, hs, -⟩ := Cond.instanceMethod_spec wi
  obtain ⟨kr, h1, h2⟩ := notFace_cls w hc mk hn
  have e2 := findClass_of_methodNamed hn
  have e3 := State.methodFound?_of_named hn hy
  have hn' : Z.methodNamed? ⟨y.cls, y.name, y.desc⟩ = some mk := hn
  simp [Cond.before, Cond.holds, Cond.value, e2, e3, hn', h1, h2]
/-! invokevirtual, the class that the entry names being no interface by another method's word -/
theorem callNW (C : Cx p m meth c s Z a0 EL false own nm bytes maxL ret) {pc' index : Nat} {K K2 : String} {y z y2 : MethodName} {ybytes : ByteArray} {ymax : Nat} {yret : Option FieldType} {rm : Room} {V : List Nat} {Q' : Option Value → Heap → List Nat → Prop} {a : Nat} {argsL rest : List Value} {ps : List FieldType} {pr : Option FieldType} {Wt : Nat}
    (w1 : (Cond.methodLink own index y).before a0 Z = true) (w2 : (Cond.declares y).before a0 Z = true) (wf : (Cond.selects K2 y2 y2).before a0 Z = true) (hyc : y2.cls = y.cls) (w5 : (Cond.selects K y z).before a0 Z = true) (w6 : (Cond.instanceMethod z).before a0 Z = true) (w3 : (Cond.initialized z.cls).before a0 Z = true) (w4 : (Cond.code z ybytes ymax yret).before a0 Z = true) (hy : y.cls ≠ "java/lang/invoke/MethodHandle" ∧ y.cls ≠ "java/lang/invoke/VarHandle")
    (E : Exa Z h a K) (M : Con l Z EL false z ybytes ymax yret [] rm (.ref a :: argsL).toArray h V Q') (hV : ∀ x ∈ V, x ∈ W) (hpd : parseMethodDescriptor y.desc = some ⟨ps, pr⟩) (hal : argsL.length = ps.length) (hst : st = argsL.reverse ++ .ref a :: rest) (hsz : L.length = maxL)
    (hd : decode bytes pc = .ok (.invokevirtual index, 3)) (hp : pc + 3 = pc') (hWt : (rest.map fun v => v.category).sum ≤ Wt) (hf : rm.frames + 1 ≤ R.frames) (hl : Wt + (ymax + 11) + rm.locals ≤ R.locals) (hc0 : k + rm.cells ≤ R.cells) (hn0 : n + rm.slots ≤ R.slots)
    (hr : ∀ v h' W', Q' v h' W' → h.size ≤ h'.size → WP p l e R s m args below meth c Z EL false Q pc' L (v.toList ++ rest) h' (W' ++ W) (k + rm.cells) (n + rm.slots)) :
    WP p l e R s m args below meth c Z EL false Q pc L st h W k n := by
  subst hp hst
  intro T vm0 k0 locs cells slots X eT hS hk hb' hC hO hW hF hc hn
  have hZ0 : Z.Warmed39 (s.setVm vm0).vm := C.z hS
  have hsz' : (mkF m pc L.toArray (argsL.reverse ++ .ref a :: rest)).locals.size = c.maxLocals := by rw [C.2.2.1, ← hsz]; simp
  obtain ⟨cB, kB, qa, qb, qc⟩ := isOf hZ0 eT E
  have hnf : NotFace (s.setVm vm0) y := notFace_cls (args := #[]) (mv hZ0 wf) hyc
  obtain ⟨v, vm1, B, -, X', hS', hg, P, q⟩ := X.virtualBackS C.1 (C.o hS) (mv hZ0 w1) (mv hZ0 w2) hnf (mv hZ0 w5) (mv hZ0 w6) hy (M.backS (W := V) hZ0 w4 w3 hf hl C.ew hC.1 hO (hW.sub hV)) qa qc (g := mkF m pc L.toArray (argsL.reverse ++ .ref a :: rest)) rfl hsz' (Steps.refl _) (lenOf hpd hal) rfl (by show 2 * 0 + _ ≤ _; omega) (hb C.2.1 hd) (fun _ _ => ⟨rfl, eT, by show cells + _ ≤ _; omega, by show slots + _ ≤ _; omega⟩)
  obtain ⟨s2, v2, q2, r⟩ := WP.after (V := V) C hc0 hn0 hr eT hS hk hb' hC hW hF hc hn X' hS' (Or.inl ⟨rfl, rfl⟩) hg P
  exact ⟨s2, v2, q.trans q2, r⟩
theorem callN (C : Cx p m meth c s Z a0 EL false own nm bytes maxL ret) {pc' index : Nat} {K K2 : String} {y z y2 : MethodName} {ybytes : ByteArray} {ymax : Nat} {yret : Option FieldType} {rm : Room} {V : List Nat} {Q' : Option Value → Heap → List Nat → Prop} {a : Nat} {argsL rest : List Value} {ps : List FieldType} {pr : Option FieldType} {Wt : Nat}
    (w1 : (Cond.methodLink own index y).before a0 Z = true) (w2 : (Cond.declares y).before a0 Z = true) (wf : (Cond.selects K2 y2 y2).before a0 Z = true) (hyc : y2.cls = y.cls) (w5 : (Cond.selects K y z).before a0 Z = true) (w6 : (Cond.instanceMethod z).before a0 Z = true) (w3 : (Cond.initialized z.cls).before a0 Z = true) (w4 : (Cond.code z ybytes ymax yret).before a0 Z = true) (hy : y.cls ≠ "java/lang/invoke/MethodHandle" ∧ y.cls ≠ "java/lang/invoke/VarHandle")
    (E : Exa Z h a K) (M : Con l Z EL false z ybytes ymax yret [] rm (.ref a :: argsL).toArray h V Q') (hV : ∀ x ∈ V, x ∈ W) (hpd : parseMethodDescriptor y.desc = some ⟨ps, pr⟩) (hal : argsL.length = ps.length) (hst : st = argsL.reverse ++ .ref a :: rest) (hsz : L.length = maxL)
    (hd : decode bytes pc = .ok (.invokevirtual index, 3)) (hp : pc + 3 = pc') (hWt : (rest.map fun v => v.category).sum ≤ Wt) (hf : rm.frames + 1 ≤ R.frames) (hl : Wt + (ymax + 11) + rm.locals ≤ R.locals) (hc0 : k + rm.cells ≤ R.cells) (hn0 : n + rm.slots ≤ R.slots)
    (hr : ∀ v h' W', Q' v h' W' → h.size ≤ h'.size → WP p l e R s m args below meth c Z EL false Q pc' L (v.toList ++ rest) h' W (k + rm.cells) (n + rm.slots)) :
    WP p l e R s m args below meth c Z EL false Q pc L st h W k n :=
  callNW C w1 w2 wf hyc w5 w6 w3 w4 hy E M hV hpd hal hst hsz hd hp hWt hf hl hc0 hn0 fun v h' W' q g => (hr v h' W' q g).wk fun x hx => List.mem_append_right _ hx
end More
/-- what holds of signs kept so -/
def Sg (u : Nat) (cs : List Int32) : Prop := (u = 0 ∨ u = 1) ∧ (u = 0 → ∀ c ∈ cs, 0 ≤ c.toInt ∧ c.toInt < 256) ∧ (∀ c ∈ cs, 0 ≤ c.toInt ∧ c.toInt < 65536)
theorem Sg.u {u : Nat} {cs : List Int32} (S : Sg u cs) : u = 0 ∨ u = 1 := S.1
theorem Sg.l {u : Nat} {cs : List Int32} (S : Sg u cs) (q : u = 0) : ∀ c ∈ cs, 0 ≤ c.toInt ∧ c.toInt < 256 := S.2.1 q
theorem Sg.r {u : Nat} {cs : List Int32} (S : Sg u cs) : ∀ c ∈ cs, 0 ≤ c.toInt ∧ c.toInt < 65536 := S.2.2
theorem Sg.app {u : Nat} {cs ds : List Int32} (S : Sg u cs) (T : Sg u ds) : Sg u (cs ++ ds) := ⟨S.1, fun q c hc => (List.mem_append.mp hc).elim (S.l q c) (T.l q c), fun c hc => (List.mem_append.mp hc).elim (S.r c) (T.r c)⟩
theorem Sg.up {u : Nat} {cs : List Int32} (S : Sg u cs) : Sg 1 cs := ⟨Or.inr rfl, fun q => (nomatch q), S.r⟩
theorem Sg.nil {u : Nat} (hu : u = 0 ∨ u = 1) : Sg u [] := ⟨hu, fun _ c hc => absurd hc List.not_mem_nil, fun c hc => absurd hc List.not_mem_nil⟩
/-! a StringBuilder -/
abbrev ASB : String := "java/lang/AbstractStringBuilder"
/-- the object alone: its array, its coder, its count -/
def SBo (Z : State) (h : Heap) (a : Nat) (v : Value) (u : Int32) (n : Nat) : Prop :=
  Exa Z h a "java/lang/StringBuilder" ∧ Fld Z h a ASB "value" "[B" v ∧ Fld Z h a ASB "coder" "B" (.int u) ∧ Fld Z h a ASB "count" "I" (.int (Int32.ofNat n)) ∧ Fld Z h a ASB "maybeLatin1" "Z" (.int 0)
section Sb
variable {Z : State} {h h' : Heap} {a v u n r : Nat} {vv : Value} {uu : Int32} {cs : List Int32} {ws : List Nat}
theorem SBo.exa (S : SBo Z h a vv uu n) : Exa Z h a "java/lang/StringBuilder" := S.1
theorem SBo.val (S : SBo Z h a vv uu n) : Fld Z h a ASB "value" "[B" vv := S.2.1
theorem SBo.cod (S : SBo Z h a vv uu n) : Fld Z h a ASB "coder" "B" (.int uu) := S.2.2.1
theorem SBo.cnt (S : SBo Z h a vv uu n) : Fld Z h a ASB "count" "I" (.int (Int32.ofNat n)) := S.2.2.2.1
theorem SBo.may (S : SBo Z h a vv uu n) : Fld Z h a ASB "maybeLatin1" "Z" (.int 0) := S.2.2.2.2
theorem SBo.keep (S : SBo Z h a vv uu n) (K : Keep h h' ws) (ha : a ∉ ws) : SBo Z h' a vv uu n :=
  ⟨S.1.keep K, S.2.1.keep K ha, S.2.2.1.keep K ha, S.2.2.2.1.keep K ha, S.2.2.2.2.keep K ha⟩
theorem SBo.ext (S : SBo Z h a vv uu n) (E : Ext h h') : SBo Z h' a vv uu n := S.keep (Keep.z E) nin0
theorem SBo.lt (S : SBo Z h a vv uu n) : a < h.size := S.1.lt
/-- signs, in Latin-1 (u = 0) or in UTF-16 (u = 1) -/
def enc (u : Nat) (cs : List Int32) : List Int32 := if u = 0 then cs.map (nar .byte) else u16 cs
theorem enc0 (cs : List Int32) : enc 0 cs = cs.map (nar .byte) := rfl
theorem enc1 (cs : List Int32) : enc 1 cs = u16 cs := rfl
theorem enc_len (hu : u = 0 ∨ u = 1) (cs : List Int32) : (enc u cs).length = (u + 1) * cs.length := by
  rcases hu with rfl | rfl
  · rw [enc0, List.length_map]; omega
  · rw [enc1, u16_len]
theorem enc_app (u : Nat) (xs ys : List Int32) : enc u (xs ++ ys) = enc u xs ++ enc u ys := by
  unfold enc; split
  · rw [List.map_append]
  · rw [u16_app]
/-- a String of this coder -/
def StrK (Z : State) (h : Heap) (a d u : Nat) (cs : List Int32) : Prop :=
  Exa Z h a "java/lang/String" ∧ Fld Z h a "java/lang/String" "value" "[B" (.ref d) ∧ Fld Z h a "java/lang/String" "coder" "B" (.int (Int32.ofNat u)) ∧ ArI Z h d .byte (enc u cs) ∧ Sg u cs
theorem StrK.exa {d : Nat} (S : StrK Z h a d u cs) : Exa Z h a "java/lang/String" := S.1
theorem StrK.val {d : Nat} (S : StrK Z h a d u cs) : Fld Z h a "java/lang/String" "value" "[B" (.ref d) := S.2.1
theorem StrK.cod {d : Nat} (S : StrK Z h a d u cs) : Fld Z h a "java/lang/String" "coder" "B" (.int (Int32.ofNat u)) := S.2.2.1
theorem StrK.ar {d : Nat} (S : StrK Z h a d u cs) : ArI Z h d .byte (enc u cs) := S.2.2.2.1
theorem StrK.sg {d : Nat} (S : StrK Z h a d u cs) : Sg u cs := S.2.2.2.2
theorem StrK.keep {d : Nat} (S : StrK Z h a d u cs) (K : Keep h h' ws) (ha : a ∉ ws) (hd : d ∉ ws) : StrK Z h' a d u cs := ⟨S.1.keep K, S.2.1.keep K ha, S.2.2.1.keep K ha, S.2.2.2.1.keep K hd, S.2.2.2.2⟩
theorem StrK.ext {d : Nat} (S : StrK Z h a d u cs) (E : Ext h h') : StrK Z h' a d u cs := S.keep (Keep.z E) nin0 nin0
theorem StrK.lt {d : Nat} (S : StrK Z h a d u cs) : a < h.size ∧ d < h.size := ⟨S.1.lt, S.2.2.2.1.lt⟩
theorem StrK.len {d : Nat} (S : StrK Z h a d u cs) : (u + 1) * cs.length < 2 ^ 31 := by have := S.ar.2; rwa [enc_len S.sg.u] at this
theorem StrL.k {d : Nat} (S : StrL Z h a d cs) : StrK Z h a d 0 cs := ⟨S.1, S.2.1, S.2.2.1, S.2.2.2.1, Or.inl rfl, fun _ => S.2.2.2.2, fun c hc => by have := S.2.2.2.2 c hc; omega⟩
theorem StrU.k {d : Nat} (S : StrU Z h a d cs) : StrK Z h a d 1 cs := ⟨S.1, S.2.1, S.2.2.1, S.2.2.2.1, Or.inr rfl, fun q => (nomatch q), S.2.2.2.2.1⟩
theorem Str.k {d : Nat} (S : Str Z h a d cs) : ∃ u, StrK Z h a d u cs := S.elim (fun q => ⟨0, q.k⟩) (fun q => ⟨1, q.k⟩)
/-- a builder with these signs and room for r more -/
def SB (Z : State) (h : Heap) (a v u : Nat) (cs : List Int32) (r : Nat) : Prop :=
  SBo Z h a (.ref v) (Int32.ofNat u) cs.length ∧ ArI Z h v .byte (enc u cs ++ List.replicate ((u + 1) * r) 0) ∧ Exa Z h v "[B" ∧ a ≠ v ∧ Sg u cs
theorem SB.o (S : SB Z h a v u cs r) : SBo Z h a (.ref v) (Int32.ofNat u) cs.length := S.1
theorem SB.ar (S : SB Z h a v u cs r) : ArI Z h v .byte (enc u cs ++ List.replicate ((u + 1) * r) 0) := S.2.1
theorem SB.ex (S : SB Z h a v u cs r) : Exa Z h v "[B" := S.2.2.1
theorem SB.ne (S : SB Z h a v u cs r) : a ≠ v := S.2.2.2.1
theorem SB.sg (S : SB Z h a v u cs r) : Sg u cs := S.2.2.2.2
theorem SB.keep (S : SB Z h a v u cs r) (K : Keep h h' ws) (ha : a ∉ ws) (hv : v ∉ ws) : SB Z h' a v u cs r := ⟨S.1.keep K ha, S.2.1.keep K hv, S.2.2.1.keep K, S.2.2.2⟩
theorem SB.ext (S : SB Z h a v u cs r) (E : Ext h h') : SB Z h' a v u cs r := S.keep (Keep.z E) nin0 nin0
theorem SB.lt (S : SB Z h a v u cs r) : a < h.size ∧ v < h.size := ⟨S.1.lt, S.2.1.lt⟩
theorem SB.len (S : SB Z h a v u cs r) : (u + 1) * (cs.length + r) < 2 ^ 31 := by
  have := S.ar.2; rw [List.length_append, enc_len S.sg.u, List.length_replicate, ← Nat.mul_add] at this; exact this
theorem SB.alen (S : SB Z h a v u cs r) : (enc u cs ++ List.replicate ((u + 1) * r) (0 : Int32)).length = (u + 1) * (cs.length + r) := by
  rw [List.length_append, enc_len S.sg.u, List.length_replicate, ← Nat.mul_add]
end Sb
theorem shrU {u i : Nat} (hu : u = 0 ∨ u = 1) (hi : (u + 1) * i < 2 ^ 31) : Int32.ofNat ((u + 1) * i) >>> (Int32.ofNat u &&& 31) = Int32.ofNat i := by
  rcases hu with rfl | rfl
  · rw [show (0 + 1) * i = i by omega]; exact shr_zero _
  · exact shr_one (by omega)
theorem shlU {u i : Nat} (hu : u = 0 ∨ u = 1) (hi : (u + 1) * i < 2 ^ 31) : Int32.ofNat i <<< (Int32.ofNat u &&& 31) = Int32.ofNat ((u + 1) * i) := by
  rcases hu with rfl | rfl
  · rw [show (0 + 1) * i = i by omega]; exact shl_zero _
  · exact shl_one (by omega)
theorem narU {u : Nat} (hu : u = 0 ∨ u = 1) : nar .byte (Int32.ofNat u) = Int32.ofNat u := by rcases hu with rfl | rfl <;> rfl
theorem sub_toInt {i j : Nat} (hi : i < 2 ^ 31) (hj : j < 2 ^ 31) : (Int32.ofNat i - Int32.ofNat j).toInt = (i : Int) - (j : Int) := by
  have h1 := c_isub (Int32.ofNat i) (Int32.ofNat j)
  have h2 := rng32 (Int32.ofNat i - Int32.ofNat j)
  rw [ofNat_toInt hi, ofNat_toInt hj] at h1
  omega
theorem or_nn {x y : Int32} (hx : ¬ x < 0) (hy : ¬ y < 0) : ¬ (x ||| y) < 0 := by
  rw [lt32, zero_toInt] at hx hy ⊢
  have e : (x ||| y).toBitVec = x.toBitVec ||| y.toBitVec := Int32.toBitVec_or ..
  have f : ∀ z : Int32, z.toBitVec.msb = decide (z.toInt < 0) := fun z => by rw [BitVec.msb_eq_toInt]; rfl
  have g := f (x ||| y)
  rw [e, BitVec.msb_or, f x, f y, decide_eq_false hx, decide_eq_false hy] at g
  intro q
  rw [decide_eq_true q] at g
  cases g
theorem nn_ofNat {i : Nat} (hi : i < 2 ^ 31) : ¬ Int32.ofNat i < 0 := by rw [lt32, ofNat_toInt hi, zero_toInt]; omega
theorem getD_left {xs ys : List Int32} {i : Nat} (h : i < xs.length) : (xs ++ ys).getD i 0 = xs.getD i 0 := by
  rw [List.getD_eq_getElem?_getD, List.getD_eq_getElem?_getD, List.getElem?_append_left h]
theorem getD_right {xs ys : List Int32} {i : Nat} (h : xs.length ≤ i) : (xs ++ ys).getD i 0 = ys.getD (i - xs.length) 0 := by
  rw [List.getD_eq_getElem?_getD, List.getD_eq_getElem?_getD, List.getElem?_append_right h]
theorem repl_split (j q : Nat) : List.replicate (j + q) (0 : Int32) = List.replicate j 0 ++ List.replicate q 0 := by rw [List.replicate_append_replicate]
/-- xs laid behind pre over zeros -/
theorem lay_at {pre xs : List Int32} {r : Nat} {X : List Int32} (hX : X = xs) : ((pre ++ List.replicate (xs.length + r) 0).take pre.length ++ X ++ (pre ++ List.replicate (xs.length + r) 0).drop (pre.length + xs.length)) = pre ++ xs ++ List.replicate r (0 : Int32) := by
  subst hX
  rw [List.take_left' rfl, repl_split, ← List.append_assoc, List.drop_append_of_le_length (by simp)]
  simp
theorem u16_set {ds cs : List Int32} {i r : Nat} (hi : i < cs.length) : ((u16 (ds ++ cs.take i) ++ List.replicate (2 * (r + 1)) (0 : Int32)).set (2 * (ds.length + i)) (nar .byte (cs.getD i 0))).set (2 * (ds.length + i) + 1) (nar .byte (hi8 (cs.getD i 0))) = u16 (ds ++ cs.take (i + 1)) ++ List.replicate (2 * r) 0 := by
  have h1 : (u16 (ds ++ cs.take i)).length = 2 * (ds.length + i) := by rw [u16_len, List.length_append, List.length_take]; omega
  have h2 : 2 * (r + 1) = 2 * r + 1 + 1 := by omega
  have h3 : cs.take (i + 1) = cs.take i ++ [cs.getD i 0] := take_snoc hi
  rw [List.set_append_right _ _ (by omega), h1, Nat.sub_self, List.set_append_right _ _ (by omega), h1, show 2 * (ds.length + i) + 1 - 2 * (ds.length + i) = 1 by omega, h2, h3]
  simp [List.replicate_succ, u16, u16_app]
/-- a static of a reference type that the sheet lays, its value unsaid -/
theorem staLaid {Z : State} {a0 : Array Value} {C n d t : String} (hf : Fit Z) (w1 : (Cond.initialized C).before a0 Z = true) (w2 : (Cond.laysStatic C n d).before a0 Z = true) (hd : parseFieldDescriptor d = some (.object t)) : ∃ w : Value, Sta Z Z.heap C n d w ∧ w.isRef = true := by
  obtain ⟨c, k, i, f, a, cell, hc, hi, hst, hsta, hcell, hs, hcls, hlt, hty⟩ := Cond.laysStatic_spec w2
  have hk := State.fieldFound?_class hi
  have q := hf hcell hlt
  have ht := (State.fieldFound?_type hi hd).2
  refine ⟨cell.slots[f.slot], ⟨c, i, k, f, a, cell, hi, hst, Cond.initialized_spec hc hk w1, hsta, hcell, hs, Array.getElem?_eq_getElem hlt⟩, ?_⟩
  have e : Z.slotType? cell.cls cell.vm f.slot = some f.type := by
    unfold State.slotType?
    rw [hcls, hk]
    cases hv : cell.vm <;> rw [hv] at hs <;> first | exact hty | (cases hs; done)
  unfold State.fitsSlot at q
  rw [e, ht] at q
  revert q
  cases cell.slots[f.slot] <;> intro q <;> first | rfl | (cases q; done)
end Jvm.Ow
namespace Jvm.Ow
open Sem ClassFile Op Lib Bundle Jvm.Stand Jvm.Free Jvm.LawKit Jvm.RoadKit Jvm.Free.Exc
section Exc
variable {p : Program} {l : Launch} {e : Env} {R : Room} {s : State} {m : MethodId} {args : Array Value} {below : List Frame} {meth : Method} {c : Code} {Z : State} {a0 : Array Value} {EL : List (String × Nat)} {b : Bool} {own nm : String} {bytes : ByteArray} {maxL : Nat} {ret : Option FieldType} {Q : Option Value → Heap → List Nat → Prop}
  {pc : Nat} {L : List Slot} {st : List Value} {h : Heap} {W : List Nat} {k n : Nat}
/-- `new`, and the object is as the VM made it -/
theorem newX (C : Cx p m meth c s Z a0 EL b own nm bytes maxL ret) {pc' : Nat} {K : String} {index sz : Nat} (w : (Cond.classLink own index K).before a0 Z = true) (wi : (Cond.instantiable K sz).before a0 Z = true) (wz : (Cond.initialized K).before a0 Z = true) (hd : decode bytes pc = .ok (.new index, 3)) (hp : pc + 3 = pc') (hc : k + 1 ≤ R.cells) (hn : n + sz ≤ R.slots)
    (hr : ∀ h' a, a = h.size → Z.heap.size ≤ a → a < h'.size → Ext h h' → ((Exa Z h' a K ∧ Unt h' a) ∧ ∀ {O f d : String} {ty : FieldType}, Laid Z a0 K O f d → parseFieldDescriptor d = some ty → Fld Z h' a O f d (defaultValue ty)) → WP p l e R s m args below meth c Z EL b Q pc' L (.ref a :: st) h' (a :: W) (k + 1) (n + sz)) :
    WP p l e R s m args below meth c Z EL b Q pc L st h W k n := by
  subst hp
  refine WP.grow (F := fun h' a => (Exa Z h' a K ∧ Unt h' a) ∧ ∀ {O f d : String} {ty : FieldType}, Laid Z a0 K O f d → parseFieldDescriptor d = some ty → Fld Z h' a O f d (defaultValue ty)) (st' := fun a => .ref a :: st) C hc hn (fun X eT hZ ho h1 h2 => ?_) hr
  obtain ⟨T', h', X', e', E, A, D, N, q⟩ := RoadKit.newO X C.1 hZ ho w wi wz eT (g := mkF m pc L.toArray st) rfl (hb C.2.1 hd) h1 h2
  exact ⟨T', h', X', e', E, A.lt, ⟨⟨A, N⟩, D⟩, q⟩
/-- a contract that asks that the tables' methods and the frames beneath are known -/
def ConK (l : Launch) (Z : State) (EL : List (String × Nat)) (y : MethodName) (bytes : ByteArray) (maxL : Nat) (ret : Option FieldType) (ws : List Jvm.Cond) (rm : Room) (as' : Array Value) (h : Heap) (W : List Nat) (Q : Option Value → Heap → List Nat → Prop) : Prop :=
  MetFree l y (head1 (Cond.code y bytes maxL ret :: ws) rm) (fun a U => a = as' ∧ Z.Warmed39 U.vm ∧ U.heap = h ∧ CHv Z EL U.vm h ∧ Old Z Z.heap.size h ∧ Own Z EL U.vm h W) (fun _ _ bl s _ => s.vm.MethodsKnown ∧ s.vm.FramesKnown bl)
    (fun _ U o U' => ∃ v L, o = .returned v ∧ (∃ W', Q v U'.heap W' ∧ Own Z EL U'.vm U'.heap W' ∧ Old Z Z.heap.size U'.heap ∧ Fr Z.heap.size L) ∧ CHr Z EL U.vm U.heap U'.vm U'.heap ∧ ReturnedEndW U o U' L rm.cells rm.slots ∧ True)
theorem ConK.intro {y : MethodName} {ws : List Jvm.Cond} {rm : Room} {as' : Array Value} (hpn : plainFor y = true) (hEL : EW Z a0 EL) (hS : ∀ a ∈ Bundle.stringAtoms, a.before a0 Z = true) (L : List Slot) (hE : argsToLocals as' maxL = L.toArray)
    (H : ∀ (p : Program) (e : Env) (s : State) (m : MethodId) (below : List Frame) (meth : Method) (c : Code), Cx p m meth c s Z a0 EL false y.cls y.name bytes maxL ret → Old Z Z.heap.size h → s.vm.MethodsKnown → s.vm.FramesKnown below → ThS Z s.heap → WP p l e rm s m as' below meth c Z EL false Q 0 L [] h W 0 0) :
    ConK l Z EL y bytes maxL ret ws rm as' h W Q := by
  refine MetFree.of_bodySF hpn hisR ?_
  intro p e s m args below meth c s₁ Bd hml hP hK
  obtain ⟨rfl, hZ, hh, hC, hO, hW⟩ := hP
  have hnm := (name_of_methodNamed Bd.named Bd.method).1
  have X0 : Stand p l e rm s m args below meth c s₁ [] 0 0 := Stand.of_body Bd
  have e0 : s₁.heap = h := by rw [← hh, Bd.state]; rfl
  obtain ⟨s2, v, q, r1, r2, L', W', r3, r4, r5, r6, r7, r8, r9⟩ := H p e s m below meth c ⟨Bd.exec, Bd.bytes, hml, Bd.returns, Bd.notSynchronized, findClass_of_methodNamed Bd.named, hZ, hEL, hnm, fun _ => hS, fun q => nomatch q⟩ hO hK.1 hK.2 (by rw [hh]; exact ThS.ext hO.2 ThS.start) s₁ s.vm 0 [] 0 0 X0 e0 ((State.WarmedH.refl s).since 0) (Nat.zero_le _) (fun _ => rfl)
    (by rw [hh]; exact CHr.refl hC) hO hW (Fr.nil _) (Nat.le_refl _) (Nat.le_refl _)
  have he : entryFrame m args maxL = mkF m 0 L.toArray [] := by unfold entryFrame; rw [hE]
  exact ⟨s2, _, castTop he q, r1, r2, v, L', rfl, ⟨W', r3, r4, r5, r6⟩, r7, r8, trivial⟩
theorem ConK.backS {y : MethodName} {rm : Room} {as' : Array Value} {len Wt : Nat} {vm0 : Vm} (M : ConK l Z EL y bytes maxL ret [] rm as' h W Q) (hZ : Z.Warmed39 vm0) (wc : (Cond.code y bytes maxL ret).before a0 Z = true) (wz : (Cond.initialized y.cls).before a0 Z = true) (hf : rm.frames + 1 ≤ R.frames) (hl : Wt + (maxL + 11) + rm.locals ≤ R.locals)
    (hEL : EW Z a0 EL) (H : CHv Z EL vm0 h) (hO : Old Z Z.heap.size h) (hW : Own Z EL vm0 h W) (hTK : vm0.MethodsKnown) (hBelow : vm0.FramesKnown below) :
    BackS l R p e below (s.setVm vm0) args y len Wt (fun A a => a = as' ∧ A.U.heap = h ∧ A.cells + rm.cells ≤ R.cells ∧ A.slots + rm.slots ≤ R.slots) (fun A _ v B => Post Z EL vm0 h rm Q A v B) :=
  BackS.of_freeWG (bytes := bytes) (maxL := maxL) (ret := ret) (E := fun _ first o t L kk nn => kk = rm.cells ∧ nn = rm.slots ∧ (∃ v, o = .returned v ∧ ∃ W', Q v t.heap W' ∧ Own Z EL t.vm t.heap W' ∧ Old Z Z.heap.size t.heap ∧ Fr Z.heap.size L) ∧ CHr Z EL first.vm first.heap t.vm t.heap) M hf hl
    (fun m meth c A a Y hp => have hU : Z.Warmed39 A.U.vm := wtrans (s := s.setVm vm0) hZ Y.warmed
      ⟨by show (Cond.and _ .tt).before a A.U = true; rw [Cond.before_and, mv hU wc]; rfl, mv hU wc, mv hU wz, hp.2.2.1, hp.2.2.2⟩)
    (fun m meth c A a g mk Y hp => ⟨hp.1, wtrans (s := s.setVm vm0) hZ Y.warmed, hp.2.1, (CHv.at Y hZ hEL H).1, hO, (show Own Z EL A.U.vm h W from hW.r (CHv.at Y hZ hEL H))⟩)
    (fun m meth c A a g mk Y _ hg => known_frames Y hg hTK hBelow)
    (fun _ _ _ _ ⟨v, L, h1, ⟨W', h2⟩, h3, h4, _⟩ => ⟨L, _, _, h4, rfl, rfl, ⟨v, h1, W', h2⟩, h3⟩)
    (fun m meth c A a g mk v t L kk nn Y hp _ _ ⟨e1, e2, ⟨v', e3, W', e4, e5, e6, e7⟩, e8⟩ => by
      cases e3; subst e1 e2
      refine ⟨L, W', e4, e5, e6, e7, rfl, rfl, rfl, ?_⟩
      have e9 : CHr Z EL A.U.vm A.U.heap t.vm t.heap := e8
      rw [hp.2.1] at e9
      exact (CHv.at Y hZ hEL H).trans e9)
theorem callSK (C : Cx p m meth c s Z a0 EL false own nm bytes maxL ret) (hTK : s.vm.MethodsKnown) (hBelow : s.vm.FramesKnown below) {pc' index : Nat} {y : MethodName} {ybytes : ByteArray} {ymax : Nat} {yret : Option FieldType} {rm : Room} {V : List Nat} {Q' : Option Value → Heap → List Nat → Prop} {argsL rest : List Value} {ps : List FieldType} {pr : Option FieldType} {Wt : Nat}
    (w1 : (Cond.methodLink own index y).before a0 Z = true) (w2 : (Cond.static y).before a0 Z = true) (w3 : (Cond.initialized y.cls).before a0 Z = true) (w4 : (Cond.code y ybytes ymax yret).before a0 Z = true) (hy : y.cls ≠ "java/lang/invoke/MethodHandle" ∧ y.cls ≠ "java/lang/invoke/VarHandle")
    (M : ConK l Z EL y ybytes ymax yret [] rm argsL.toArray h V Q') (hV : ∀ x ∈ V, x ∈ W) (hpd : parseMethodDescriptor y.desc = some ⟨ps, pr⟩) (hal : argsL.length = ps.length) (hst : st = argsL.reverse ++ rest) (hsz : L.length = maxL)
    (hd : decode bytes pc = .ok (.invokestatic index, 3)) (hp : pc + 3 = pc') (hWt : (rest.map fun v => v.category).sum ≤ Wt) (hf : rm.frames + 1 ≤ R.frames) (hl : Wt + (ymax + 11) + rm.locals ≤ R.locals) (hc0 : k + rm.cells ≤ R.cells) (hn0 : n + rm.slots ≤ R.slots)
    (hr : ∀ v h' W', Q' v h' W' → h.size ≤ h'.size → WP p l e R s m args below meth c Z EL false Q pc' L (v.toList ++ rest) h' W (k + rm.cells) (n + rm.slots)) :
    WP p l e R s m args below meth c Z EL false Q pc L st h W k n := by
  subst hp hst
  intro T vm0 k0 locs cells slots X eT hS hk hb' hC hO hW hF hc hn
  have hZ0 : Z.Warmed39 (s.setVm vm0).vm := C.z hS
  have hsz' : (mkF m pc L.toArray (argsL.reverse ++ rest)).locals.size = c.maxLocals := by rw [C.2.2.1, ← hsz]; simp
  obtain ⟨v, vm1, B, -, X', hS', hg, P, q⟩ := callSS X C.1 (C.o hS) (mv hZ0 w1) (mv hZ0 w2) (mv hZ0 w3) (mv hZ0 w4) hy (M.backS (W := V) hZ0 w4 w3 hf hl C.ew hC.1 hO (hW.sub hV) (Vm.MethodsKnown.alikeC hS.1.alike hTK) (Vm.FramesKnown.alikeC hS.1.alike hBelow)) (g := mkF m pc L.toArray (argsL.reverse ++ rest)) rfl hsz' (lenOf hpd hal) rfl (by show 2 * 0 + _ ≤ _; omega) (hb C.2.1 hd) (fun _ _ => ⟨rfl, eT, by show cells + _ ≤ _; omega, by show slots + _ ≤ _; omega⟩)
  obtain ⟨s2, v2, q2, r⟩ := WP.after (V := V) (pc' := pc + 3) C hc0 hn0 (fun v h' W' q g => (hr v h' W' q g).wk fun x hx => List.mem_append_right _ hx) eT hS hk hb' hC hW hF hc hn X' hS' (Or.inl ⟨rfl, rfl⟩) hg P
  exact ⟨s2, v2, q.trans q2, r⟩
/-! invokevirtual of a method that the named class inherits -/
theorem callVU (C : Cx p m meth c s Z a0 EL false own nm bytes maxL ret) {pc' index : Nat} {K owner : String} {y z : MethodName} {ybytes : ByteArray} {ymax : Nat} {yret : Option FieldType} {rm : Room} {V : List Nat} {Q' : Option Value → Heap → List Nat → Prop} {a : Nat} {argsL rest : List Value} {ps : List FieldType} {pr : Option FieldType} {Wt : Nat}
    (w1 : (Cond.methodLink own index y).before a0 Z = true) (ws : (Cond.sameMethod y.cls owner y.name y.desc).before a0 Z = true) (w2 : (Cond.declares ⟨owner, y.name, y.desc⟩).before a0 Z = true) (hy : owner ≠ "java/lang/invoke/MethodHandle" ∧ owner ≠ "java/lang/invoke/VarHandle") (w5 : (Cond.selects K y z).before a0 Z = true) (w6 : (Cond.instanceMethod z).before a0 Z = true) (w3 : (Cond.initialized z.cls).before a0 Z = true) (w4 : (Cond.code z ybytes ymax yret).before a0 Z = true)
    (E : Exa Z h a K) (M : Con l Z EL false z ybytes ymax yret [] rm (.ref a :: argsL).toArray h V Q') (hV : ∀ x ∈ V, x ∈ W) (hpd : parseMethodDescriptor y.desc = some ⟨ps, pr⟩) (hal : argsL.length = ps.length) (hst : st = argsL.reverse ++ .ref a :: rest) (hsz : L.length = maxL)
    (hd : decode bytes pc = .ok (.invokevirtual index, 3)) (hp : pc + 3 = pc') (hWt : (rest.map fun v => v.category).sum ≤ Wt) (hf : rm.frames + 1 ≤ R.frames) (hl : Wt + (ymax + 11) + rm.locals ≤ R.locals) (hc0 : k + rm.cells ≤ R.cells) (hn0 : n + rm.slots ≤ R.slots)
    (hr : ∀ v h' W', Q' v h' W' → h.size ≤ h'.size → WP p l e R s m args below meth c Z EL false Q pc' L (v.toList ++ rest) h' W (k + rm.cells) (n + rm.slots)) :
    WP p l e R s m args below meth c Z EL false Q pc L st h W k n := by
  subst hp hst
  intro T vm0 k0 locs cells slots X eT hS hk hb' hC hO hW hF hc hn
  have hZ0 : Z.Warmed39 (s.setVm vm0).vm := C.z hS
  have hsz' : (mkF m pc L.toArray (argsL.reverse ++ .ref a :: rest)).locals.size = c.maxLocals := by rw [C.2.2.1, ← hsz]; simp
  obtain ⟨cB, kB, qa, qb, qc⟩ := isOf hZ0 eT E
  obtain ⟨v, vm1, B, -, X', hS', hg, P, q⟩ := X.virtualBackUpS C.1 (C.o hS) (mv hZ0 w1) (mv hZ0 ws) (mv hZ0 w2) hy (mv hZ0 w5) (mv hZ0 w6) (M.backS (W := V) hZ0 w4 w3 hf hl C.ew hC.1 hO (hW.sub hV)) qa qc (g := mkF m pc L.toArray (argsL.reverse ++ .ref a :: rest)) rfl hsz' (Steps.refl _) (lenOf hpd hal) rfl (by show 2 * 0 + _ ≤ _; omega) (hb C.2.1 hd) (fun _ _ => ⟨rfl, eT, by show cells + _ ≤ _; omega, by show slots + _ ≤ _; omega⟩)
  obtain ⟨s2, v2, q2, r⟩ := WP.after (V := V) (pc' := pc + 3) C hc0 hn0 (fun v h' W' q g => (hr v h' W' q g).wk fun x hx => List.mem_append_right _ hx) eT hS hk hb' hC hW hF hc hn X' hS' (Or.inl ⟨rfl, rfl⟩) hg P
  exact ⟨s2, v2, q.trans q2, r⟩
theorem kn_of {vm : Vm} {m : MethodId} (h : Jvm.ShelfD.methodKnown vm m = true) : vm.knowsMethod m := by
  unfold Jvm.ShelfD.methodKnown at h
  cases hk : vm.classes[m.cls]? with
  | none => rw [hk] at h; cases h
  | some k =>
    rw [hk] at h
    refine ⟨k, hk, fun cf hcf => ?_⟩
    simp only [hcf] at h
    exact h
theorem known_start {s : State} {m : MethodId} {args : Array Value} {below : List Frame} (hf : s.frames = Frame.invoking m args :: below) (w1 : Jvm.ShelfD.framesKnown s = true) (w2 : Jvm.ShelfD.tablesKnown s = true) : s.vm.MethodsKnown ∧ s.vm.FramesKnown below := by
  refine ⟨fun mm x hx => ?_, fun y hy m' hm' => ?_⟩
  · cases hk : s.vm.classes[mm.cls]? with
    | none => simp [Vm.method?, hk] at hx
    | some k =>
      refine ⟨k, hk, fun cf hcf => ?_⟩
      have h1 : k.methods[mm.idx]? = some x := by simpa [Vm.method?, hk] using hx
      have h2 := (Array.all_eq_true_iff_forall_mem.mp w2) k (Array.mem_of_getElem? hk)
      simp only [hcf, beq_iff_eq] at h2
      have h3 : mm.idx < k.methods.size := (Array.getElem?_eq_some_iff.mp h1).1
      rw [h2] at h3
      simp [h3]
  · have h2 := (List.all_eq_true.mp w1) y (by rw [hf]; exact List.mem_cons_of_mem _ hy)
    cases y with
    | java g => cases hm'; exact kn_of h2
    | native g => cases hm'; exact kn_of h2
    | _ => cases hm'
end Exc
end Jvm.Ow
namespace Jvm.Ow
open Sem ClassFile Op Lib Bundle Jvm.Stand Jvm.Free Jvm.LawKit Jvm.RoadKit Jvm.Free.Exc
section Thr
variable {p : Program} {l : Launch} {e : Env} {R : Room} {s : State} {m : MethodId} {args : Array Value} {below : List Frame} {meth : Method} {c : Code} {Z : State} {a0 : Array Value} {EL : List (String × Nat)} {b : Bool} {own nm : String} {bytes : ByteArray} {maxL : Nat} {ret : Option FieldType} {Q : Option Value → Heap → List Nat → Prop}
  {pc : Nat} {L : List Slot} {st : List Value} {h : Heap} {W : List Nat} {k n : Nat}
/-- the one word of Throwable that the sheet does not lay -/
abbrev suppW : Cond := .lays tN tN "suppressedExceptions" listD
abbrev ExcW (rc : String) (args : Array Value) (s : State) : Prop := ∀ x, x ∈ excAtoms rc ∧ x ≠ suppW → x.before args s = true
def ThrF (T : ThrowableC) (s : State) : Prop := s.vm.findClass tN = some T.cT ∧ s.methodNamed? tFill = some T.fill ∧ s.methodNamed? tFill0 = some T.fill0 ∧ (∃ i, s.fieldFound? tN "stackTrace" steD = some (T.cT, T.kT, i, T.fStack)) ∧ (∃ i, s.fieldFound? tN "UNASSIGNED_STACK" steD = some (T.cT, T.kT, i, T.fUnassigned)) ∧
  T.fStack.name = "stackTrace" ∧ T.fStack.type = .array (.object "java/lang/StackTraceElement") ∧ ∃ cell, s.heap[T.aS]? = some cell ∧ cell.vm.isStatics = true
set_option maxHeartbeats 4000000 in
theorem thr_links {pl : Platform} {rc : String} (hrc : rc ≠ tN) (howns : pl.frameOwnsMonitors = true) (hfin : pl.finalization = false) (hpl : pl.magicAccessors = ({} : Platform).magicAccessors) (W : ExcW rc args s) : ∃ T : ThrowableC, T.Links pl s ∧ ThrF T s := by
  have w : ∀ x, x ∈ excAtoms rc ∧ x ≠ suppW → x.holds args s none s [] = true := W
  obtain ⟨⟨cT, i0⟩, m0, n0, g0, t0, o0, k0, s0⟩ := Cond.native_spec (w (.native tFill0) (by simp [excAtoms, throwableAtoms]))
  have fT : s.vm.findClass tN = some cT := findClass_of_methodNamed n0
  obtain ⟨kT, atT, nameT⟩ := Vm.findClass_spec fT
  obtain ⟨_, kT', _, _, atT', _, _, ordT, _, faceT⟩ := Cond.superclass_spec fT (w (.superclass tN "java/lang/Object") (by simp [excAtoms, throwableAtoms]))
  obtain rfl : kT = kT' := Option.some.inj (atT.symm.trans atT')
  obtain ⟨jF, mF, nF, gF, aF, xF, yF, -, -⟩ := Cond.ownMethod (x := tFill) fT atT (w (.instanceMethod tFill) (by simp [excAtoms, throwableAtoms]))
  obtain ⟨mF', cF, gF', c1F, c2F, c3F, c4F, c5F, -, sF⟩ := Cond.codeSync_spec nF (w (.codeSync tFill LibCode.Throwable.Fill.code 1 (some (.object tN))) (by simp [excAtoms, throwableAtoms]))
  obtain rfl : mF = mF' := Option.some.inj (gF.symm.trans gF')
  obtain ⟨j0, m0', n0', g0', a0', x0, y0, nm0, ds0⟩ := Cond.ownMethod (x := tFill0) fT atT (w (.instanceMethod tFill0) (by simp [excAtoms, throwableAtoms]))
  obtain rfl : i0 = j0 := by have := Option.some.inj (n0.symm.trans n0'); simpa using this
  obtain rfl : m0 = m0' := Option.some.inj (g0.symm.trans g0')
  obtain ⟨jZ, mZ, nZ, gZ, aZ, -, -, -, -⟩ := Cond.ownMethod (x := tInit0) fT atT (w (.instanceMethod tInit0) (by simp [excAtoms, throwableAtoms]))
  obtain ⟨mZ', cZ, gZ', -, -, -, -, -, -, -⟩ := Cond.code_spec nZ (w (.code tInit0 LibCode.Throwable.Init0.code 1 none) (by simp [excAtoms, throwableAtoms]))
  obtain ⟨mO, meO, nO, gO, xO, yO⟩ := Cond.instanceMethod_spec (w (.instanceMethod oInit) (by simp [excAtoms, throwableAtoms]))
  obtain ⟨meO', cO, gO', c1O, c2O, -, -, c5O, -, sO⟩ := Cond.code_spec nO (w (.code oInit ⟨#[0xb1]⟩ 1 none) (by simp [excAtoms, throwableAtoms]))
  obtain rfl : meO = meO' := Option.some.inj (gO.symm.trans gO')
  obtain ⟨kO, atO, nameO⟩ := Vm.findClass_spec (findClass_of_methodNamed nO)
  obtain ⟨nmO, dsO⟩ := name_of_methodNamed nO gO
  obtain ⟨ci1, n1, cf, l1, r1, fileT, p1⟩ := Cond.linkedMethod fT atT nO (w (.methodLink tN 1 oInit) (by simp [excAtoms, throwableAtoms])) pl hpl
  obtain ⟨ci27, n27, cf', l27, r27, file', p27⟩ := Cond.linkedMethod fT atT nF (w (.methodLink tN 27 tFill) (by simp [excAtoms, throwableAtoms])) pl hpl
  obtain rfl : cf = cf' := Option.some.inj (fileT.symm.trans file')
  obtain ⟨ci202, n202, cf', l202, r202, file2, p202⟩ := Cond.linkedMethod fT atT n0 (w (.methodLink tN 202 tFill0) (by simp [excAtoms, throwableAtoms])) pl hpl
  obtain rfl : cf = cf' := Option.some.inj (fileT.symm.trans file2)
  obtain ⟨ci7, i7, f7, k7, q7, a7, s7, f7', -, -, ff7⟩ := Cond.ownField (t := .object tN) fT atT (by decide +kernel) (w (.fieldLink tN 7 tN "cause" thD) (by simp [excAtoms, throwableAtoms])) (w (.lays rc tN "cause" thD) (by simp [excAtoms, throwableAtoms])) pl hpl
  obtain ⟨ci17, i17, f17, k17, q17, a17, s17, f17', nm17, t17, ff17⟩ := Cond.ownField (t := .array (.object "java/lang/StackTraceElement")) fT atT (by decide +kernel) (w (.fieldLink tN 17 tN "stackTrace" steD) (by simp [excAtoms, throwableAtoms])) (w (.lays rc tN "stackTrace" steD) (by simp [excAtoms, throwableAtoms])) pl hpl
  obtain ⟨ci24, i24, f24, k24, q24, a24, s24, f24', nm24, -, ff24⟩ := Cond.ownField (t := .object "java/util/List") fT atT (by decide +kernel) (w (.fieldLink tN 24 tN "suppressedExceptions" listD) (by simp [excAtoms, throwableAtoms])) (w (.lays rc tN "suppressedExceptions" listD) (by simp [excAtoms, throwableAtoms, hrc])) pl hpl
  obtain ⟨ci13, i13, f13, aS, ceS, k13, q13, a13, s13, -, -, staT, atS, isS, -, -, ff13⟩ := Cond.ownStatic (t := .array (.object "java/lang/StackTraceElement")) fT atT (by decide +kernel) (w (.fieldLink tN 13 tN "UNASSIGNED_STACK" steD) (by simp [excAtoms, throwableAtoms])) (w (.laysStatic tN "UNASSIGNED_STACK" steD) (by simp [excAtoms, throwableAtoms])) pl hpl
  obtain ⟨ci20, i20, f20, _, _, k20, q20, a20, s20, -, -, -, -, -, -, -, -⟩ := Cond.ownStatic (t := .object "java/util/List") fT atT (by decide +kernel) (w (.fieldLink tN 20 tN "SUPPRESSED_SENTINEL" listD) (by simp [excAtoms, throwableAtoms])) (w (.laysStatic tN "SUPPRESSED_SENTINEL" listD) (by simp [excAtoms, throwableAtoms])) pl hpl
  obtain ⟨_, _, _, _, _, fM, _, _, _, sM, fM', _⟩ := Cond.lays_spec (w (.lays tN tN "detailMessage" "Ljava/lang/String;") (by simp [excAtoms, throwableAtoms]))
  have apart : f17.slot ≠ f24.slot := by
    obtain ⟨cX, kX, _, _, _, _, fX, atX, -⟩ := Cond.lays_spec (w (.lays rc tN "stackTrace" steD) (by simp [excAtoms, throwableAtoms]))
    obtain ⟨-, d1, u1, v1⟩ := Cond.laysAt fX atX ff17 (w (.lays rc tN "stackTrace" steD) (by simp [excAtoms, throwableAtoms]))
    obtain ⟨-, d2, u2, v2⟩ := Cond.laysAt fX atX ff24 (w (.lays rc tN "suppressedExceptions" listD) (by simp [excAtoms, throwableAtoms, hrc]))
    exact Cond.laysApart u1 u2 v1 v2 (by rw [nm17, nm24]; decide)
  have pF : mF.sig.parameters = [] := by
    have q : (parseMethodDescriptor tFill.desc).map (·.parameters) = some [] := by decide +kernel
    rw [sF] at q; simpa using q
  have p0 : m0.sig.parameters = [.int] := by
    have q : (parseMethodDescriptor tFill0.desc).map (·.parameters) = some [.int] := by decide +kernel
    rw [s0] at q; simpa using q
  have pO : meO.sig.parameters.length = 0 := by
    have q : (parseMethodDescriptor oInit.desc).map (·.parameters) = some [] := by decide +kernel
    rw [sO] at q
    have q' : meO.sig.parameters = [] := by simpa using q
    rw [q']; rfl
  let T : ThrowableC := { cT := cT, kT := kT, cO := cT, aS := aS, fillIdx := jF, fill0Idx := i0, initSIdx := jZ, obj := mO, kObj := kO, methFill := mF, methFill0 := m0, methInitS := mZ, methObj := meO, codeFill := cF, codeInitS := cZ, codeObj := cO, fBack := f7, fDepth := f7, fStack := f17, fCause := f7, fSupp := f24, fMsg := fM, fUnassigned := f13, fSentinel := f20, cfT := cf, ci1 := ci1, n1 := n1, ci27 := ci27, n27 := n27, ci202 := ci202, n202 := n202, ci7 := ci7, i7 := i7, ci13 := ci13, i13 := i13, ci17 := ci17, i17 := i17, ci20 := ci20, i20 := i20, ci24 := ci24, i24 := i24 }
  have LT : T.Links pl s := { owns := howns, noFinalization := hfin, cls := atT, name := nameT, boot := Vm.findClass_boot fT atT, notInterface := faceT, initialized := Cond.initialized_spec fT atT (w (.initialized tN) (by simp [excAtoms, throwableAtoms])), statics := staT, fillAt := aF, fillCode := c1F, fillBytes := c2F, fillLocals := c3F, fillLocks := c5F, fillStatic := xF, fillAbstract := yF, fillReturns := c4F, fillParams := pF, fill0At := a0', fill0Name := nm0, fill0Desc := ds0, fill0Params := p0, fill0Static := x0, fill0Native := t0, fill0Code := o0, fill0Locks := k0, fill0Abstract := y0, stackInstance := s17, stackNotFinal := f17', unassignedStatic := s13, objClass := atO, objClassName := nameO, objMethod := gO, objName := nmO, objStatic := xO, objAbstract := yO, objFound := by rw [dsO]; exact lookupSpecial_of_named nO gO xO, objParams := pO, objCode := c1O, objBytes := c2O, objLocks := c5O, causeInstance := s7, causeNotFinal := f7', sentinelStatic := s20, suppInstance := s24, suppNotFinal := f24', msgInstance := sM, msgNotFinal := fM', stackApartSupp := apart, file := fileT, mlink1 := l1, mright1 := r1, pool1 := p1, mlink27 := l27, mright27 := r27, pool27 := p27, mlink202 := l202, mright202 := r202, pool202 := p202, link7 := k7, right7 := q7, at7 := a7, link13 := k13, right13 := q13, at13 := a13, link17 := k17, right17 := q17, at17 := a17, link20 := k20, right20 := q20, at20 := a20, link24 := k24, right24 := q24, at24 := a24 }
  exact ⟨T, LT, fT, nF, n0, ⟨_, ff17⟩, ⟨_, ff13⟩, nm17, t17, ceS, atS, isS⟩
/-- `invokespecial` of a constructor by a contract that asks for the known frames -/
theorem callIK (C : Cx p m meth c s Z a0 EL false own nm bytes maxL ret) (hTK : s.vm.MethodsKnown) (hBelow : s.vm.FramesKnown below) {pc' index : Nat} {y : MethodName} {ybytes : ByteArray} {ymax : Nat} {rm : Room} {V : List Nat} {Q' : Option Value → Heap → List Nat → Prop} {a : Nat} {argsL rest : List Value} {ps : List FieldType} {pr : Option FieldType} {Wt : Nat} (hy1 : y.name = "<init>")
    (w1 : (Cond.methodLink own index y).before a0 Z = true) (w2 : (Cond.instanceMethod y).before a0 Z = true) (w3 : (Cond.initialized y.cls).before a0 Z = true) (w4 : (Cond.code y ybytes ymax none).before a0 Z = true) (hy : y.cls ≠ "java/lang/invoke/MethodHandle" ∧ y.cls ≠ "java/lang/invoke/VarHandle")
    (M : ConK l Z EL y ybytes ymax none [] rm (.ref a :: argsL).toArray h V Q') (hV : ∀ x ∈ V, x ∈ W) (hpd : parseMethodDescriptor y.desc = some ⟨ps, pr⟩) (hal : argsL.length = ps.length) (hst : st = argsL.reverse ++ .ref a :: rest) (hsz : L.length = maxL)
    (hd : decode bytes pc = .ok (.invokespecial index, 3)) (hp : pc + 3 = pc') (hWt : (rest.map fun v => v.category).sum ≤ Wt) (hf : rm.frames + 1 ≤ R.frames) (hl : Wt + (ymax + 11) + rm.locals ≤ R.locals) (hc0 : k + rm.cells ≤ R.cells) (hn0 : n + rm.slots ≤ R.slots)
    (hr : ∀ v h' W', Q' v h' W' → h.size ≤ h'.size → WP p l e R s m args below meth c Z EL false Q pc' L (v.toList ++ rest) h' W (k + rm.cells) (n + rm.slots)) :
    WP p l e R s m args below meth c Z EL false Q pc L st h W k n := by
  subst hp hst
  intro T vm0 k0 locs cells slots X eT hS hk hb' hC hO hW hF hc hn
  have hZ0 : Z.Warmed39 (s.setVm vm0).vm := C.z hS
  have hsz' : (mkF m pc L.toArray (argsL.reverse ++ .ref a :: rest)).locals.size = c.maxLocals := by rw [C.2.2.1, ← hsz]; simp
  obtain ⟨v, vm1, B, -, X', hS', hg, P, q⟩ := X.specialBackS C.1 hy1 (C.o hS) (mv hZ0 w1) (mv hZ0 w2) (mv hZ0 w4) hy (M.backS (W := V) hZ0 w4 w3 hf hl C.ew hC.1 hO (hW.sub hV) (Vm.MethodsKnown.alikeC hS.1.alike hTK) (Vm.FramesKnown.alikeC hS.1.alike hBelow)) (g := mkF m pc L.toArray (argsL.reverse ++ .ref a :: rest)) rfl hsz' (Steps.refl _) (lenOf hpd hal) rfl (by show 2 * 0 + _ ≤ _; omega) (hb C.2.1 hd) (fun _ _ => ⟨rfl, eT, by show cells + _ ≤ _; omega, by show slots + _ ≤ _; omega⟩)
  obtain ⟨s2, v2, q2, r⟩ := WP.after (V := V) (pc' := pc + 3) C hc0 hn0 (fun v h' W' q g => (hr v h' W' q g).wk fun x hx => List.mem_append_right _ hx) eT hS hk hb' hC hW hF hc hn X' hS' (Or.inl ⟨rfl, rfl⟩) hg P
  exact ⟨s2, v2, q.trans q2, r⟩
/-- fillInStackTrace() of an exception that is being made -/
theorem fillW (C : Cx p m meth c s Z a0 EL false tN nm bytes maxL ret) {pc' : Nat} (hl : l.stackTraces = true) (hTK : s.vm.MethodsKnown) (hBelow : s.vm.FramesKnown below) (hT0 : ThS Z s.heap) {rc : String} (hrc : rc ≠ tN) {sz : Nat} (W0 : ExcW rc a0 Z) (wi : (Cond.instantiable rc sz).before a0 Z = true)
    {a u : Nat} (E : Exa Z h a rc) (N : Unt h a) (B : Fld Z h a tN "backtrace" obD .null) (F : Fld Z h a tN "stackTrace" steD (.ref u)) (U : Sta Z Z.heap tN "UNASSIGNED_STACK" steD (.ref u)) (ha : a ∈ W) (hsz : L.length = maxL)
    (hd : decode bytes pc = .ok (.invokevirtual 27, 3)) (hp : pc + 3 = pc') (hf : 3 ≤ R.frames) (hlo : (st.map fun v => v.category).sum + 42 ≤ R.locals) (hc0 : k + 1 ≤ R.cells) (hn0 : n + 2752 ≤ R.slots)
    (hr : ∀ h' v, Keep h h' [a] → Exa Z h' a rc → Unt h' a → Fld Z h' a tN "detailMessage" msgD v → WP p l e R s m args below meth c Z EL false Q pc' L (.ref a :: st) h' W (k + 1) (n + 2752)) :
    WP p l e R s m args below meth c Z EL false Q pc L (.ref a :: st) h W k n := by
  subst hp
  intro T vm0 k0 locs cells slots X eT hS hk hb' hC hO hW hF hc hn
  have hZ0 : Z.Warmed39 (s.setVm vm0).vm := C.z hS
  have hal : Z.vm.Alike (s.setVm vm0).vm := hZ0.alike
  have hsz' : (mkF m pc L.toArray (.ref a :: st)).locals.size = c.maxLocals := by rw [C.2.2.1, ← hsz]; simp
  have W1 : ExcW rc args (s.setVm vm0) := fun x hx => mvX (s := s.setVm vm0) hT0 hZ0 (List.all_eq_true.mp exc_ok x hx.1) (W0 x hx)
  have htr : e.platform.stackTraces = true := by rw [X.admits.platform]; exact hl
  have hpl : e.platform.magicAccessors = ({} : Platform).magicAccessors := by rw [X.admits.platform]
  obtain ⟨Th, LT, fT, nF, n0, ⟨i17, ff17⟩, ⟨i13, ff13⟩, nm17, t17, ceS, atS, isS⟩ := thr_links (pl := e.platform) hrc (by rw [X.admits.platform]) (by rw [X.admits.platform]) hpl W1
  obtain ⟨cell, kc, h1, h2, h3, h4, h5⟩ := id E
  obtain ⟨c2, u1, u2, u3⟩ := id N
  cases h1.symm.trans u1
  obtain ⟨c4, k4, j1, j2, j3, -⟩ := Cond.instantiable_spec wi
  cases h2.symm.trans j1
  cases h3.symm.trans j2
  obtain ⟨kX, x1, x2⟩ := hal.2.2 _ _ h3
  have hfound : (s.setVm vm0).vm.findClass rc = some cell.cls := by rw [hal.findClass]; exact h2
  have hord : kX.kind = .ordinary := by rw [x2]; exact j3
  have hsize : cell.slots.size = kX.instanceTypes.size := by rw [x2]; exact h5 j3
  have hsel0 : selectMethod e.platform (s.setVm vm0).vm cell.cls Th.fill0 = .method Th.fill0 := by
    obtain ⟨c3, r3, m3, q1, q2, q3, q4, -⟩ := Cond.selects_spec (W1 (.selects rc tFill0 tFill0) (by simp [excAtoms]))
    cases q1.symm.trans hfound
    cases q2.symm.trans (State.methodFound?_of_named n0 (by decide))
    cases q3.symm.trans n0
    rw [Launch.admits_selectMethod X.admits]; exact q4
  -- the static
  obtain ⟨cu, iu, ku, fu, au, cellU, g1, g2, g3, g4, g5, g6, g7⟩ := id U
  obtain ⟨ku', g1', g8⟩ := State.fieldFound?_setVm (s := Z) hal g1
  have g1'' : (s.setVm vm0).fieldFound? tN "UNASSIGNED_STACK" steD = some (cu, ku', iu, fu) := g1'
  cases g1''.symm.trans ff13
  have eS : au = Th.aS := by
    have q := LT.statics
    rw [g8] at q
    exact Option.some.inj (g4.symm.trans q)
  subst eS
  have g9 : h[Th.aS]? = some cellU := hO.2.2 _ _ g5
  have hlt : Th.aS < Z.heap.size := (Array.getElem?_eq_some_iff.mp g5).1
  have hne : Th.aS ≠ a := Nat.ne_of_lt (Nat.lt_of_lt_of_le hlt (hW a ha).1)
  have hkn : cellU.vm ≠ .unknown := fun z => by rw [z] at g6; cases g6
  -- the receiver's own places
  obtain ⟨cf7, ck7, kk7, ii7, f7, b1, b2, -, -, -, -, b7⟩ := id F
  cases h1.symm.trans b1
  obtain ⟨kk7', b2', -⟩ := State.fieldFound?_setVm (s := Z) hal b2
  cases (show (s.setVm vm0).fieldFound? tN "stackTrace" steD = _ from b2').symm.trans ff17
  obtain ⟨ci198, i198, fB, l198, r198, a198, sB, -, nB, tB, ffB⟩ := Cond.ownField (t := .object "java/lang/Object") fT LT.cls (by decide +kernel) (W1 (.fieldLink tN 198 tN "backtrace" obD) (by simp [excAtoms])) (W1 (.lays rc tN "backtrace" obD) (by simp [excAtoms])) e.platform hpl
  obtain ⟨cf9, ck9, kk9, ii9, f9, d1, d2, -, -, -, -, d7⟩ := id B
  cases h1.symm.trans d1
  obtain ⟨kk9', d2', -⟩ := State.fieldFound?_setVm (s := Z) hal d2
  cases (show (s.setVm vm0).fieldFound? tN "backtrace" obD = _ from d2').symm.trans ffB
  obtain ⟨_, _, cD, kD, iD, fD, -, -, ffD, sD, -, -, -, -⟩ := Cond.lays_spec (W1 (.lays rc tN "depth" "I") (by simp [excAtoms]))
  cases (Cond.lays_declared (W1 (.lays rc tN "depth" "I") (by simp [excAtoms])) ffD).symm.trans fT
  obtain ⟨kD1, atD⟩ := State.fieldFound?_spec ffD
  cases kD1.symm.trans LT.cls
  obtain ⟨nD, tD⟩ := State.fieldFound?_type ffD (t := .int) (by decide +kernel)
  have hfb := Cond.soleField_find fT LT.cls (W1 (.soleField tN "backtrace") (by simp [excAtoms])) a198 nB sB
  have hfd := Cond.soleField_find fT LT.cls (W1 (.soleField tN "depth") (by simp [excAtoms])) atD nD sD
  obtain ⟨comp, cO, kO, -, -, kO1, kO2, fO⟩ := Cond.arrayOver_spec (W1 (.arrayOver (.object "java/lang/Object")) (by simp [excAtoms]))
  have tyS := (Cond.laysAt hfound x1 ff17 (W1 (.lays rc tN "stackTrace" steD) (by simp [excAtoms]))).1
  have tyB := (Cond.laysAt hfound x1 ffB (W1 (.lays rc tN "backtrace" obD) (by simp [excAtoms]))).1
  have tyD := (Cond.laysAt hfound x1 ffD (W1 (.lays rc tN "depth" "I") (by simp [excAtoms]))).1
  have tk : ∀ {f : Field} {v : Value}, kX.instanceTypes[f.slot]? = some f.type → fits f.type v = true → Jvm.Takes (s.setVm vm0) cell f v := fun {f v} q1 q2 => by
    obtain ⟨y1, y2⟩ := Takes.of_laid (v := v) x1 hord q1 q2
    exact ⟨by rw [hsize]; simpa using y1, by rw [u2]; exact y2⟩
  have hSE := W1 (.selects rc tFill tFill) (by simp [excAtoms])
  obtain ⟨v6, vm6, ⟨T6, L6, c6, n6⟩, hW6, X6, ⟨hv6, vm7, lines, hlen, hW7, hU, hL6, hc6, hn6⟩, come⟩ := X.virtualBack C.1 (own := tN) (C := rc) (index := 27) (y := tFill) (z := tFill) (C.o hS) (W1 (.methodLink tN 27 tFill) (by simp [excAtoms, throwableAtoms])) (W1 (.declares tFill) (by simp [excAtoms])) (notFace_of_selects hSE) hSE (W1 (.instanceMethod tFill) (by simp [excAtoms, throwableAtoms])) (by decide)
    (Jvm.Free.Str.fillPays (l := l) (W := (st.map fun v => v.category).sum) C.1 htr Th LT nF (u0 := ⟨.ref u, rfl⟩) (fun z => nomatch z) (self := a) (cell := cell) (cellS := cellU) (fun _ => by rw [u2]; simp) (by rw [u2]; simp) (by rw [u3]) (by rw [u3]) b7 hsel0 hne hkn g7 (tk tyS (by rw [t17]; rfl))
      ⟨{ ci198 := ci198, i198 := i198, fBack := fB }, ⟨l198, r198, a198, sB⟩, d7⟩ (Vm.MethodsKnown.alikeC hS.1.alike hTK) (Vm.FramesKnown.alikeC hS.1.alike hBelow) fT fO kO1 kO2 hfb hfd (fun x => tk tyB (by rw [tB]; rfl)) (fun x => tk tyD (by rw [tD]; rfl)) (by omega) hlo)
    (b := a) (cB := cell.cls) hfound ⟨cell, by rw [eT]; exact h1, rfl, h4⟩ (g := mkF m pc L.toArray (.ref a :: st)) rfl hsz' (Steps.refl _) (argsL := []) (rest := st) (lenOf (by decide +kernel : parseMethodDescriptor tFill.desc = some ⟨[], some (.object tN)⟩) rfl) rfl (by show 2 * 0 + _ ≤ _; omega) (hb C.2.1 hd)
    (fun vmx hWx => ⟨rfl, by show cells + 1 ≤ R.cells; omega, by show slots + 2752 ≤ R.slots; omega, by show T.heap[a]? = _; rw [eT]; exact h1, by show T.heap[Th.aS]? = _; rw [eT]; exact g9⟩)
  dsimp only [Pt.U, Pt.locs, Pt.cells, Pt.slots] at X6 hU hL6 hc6 hn6 come
  subst hv6 hL6 hc6 hn6
  have hh : T6.heap = (h.push (traceHolder cO lines)).setIfInBounds a (Jvm.Free.Str.filledOn Th.toThrowableT fB fD cell ⟨.ref u, rfl⟩ h.size lines.length.toInt32) := by
    rw [hU, ← eT]; rfl
  have haL : a < h.size := (Array.getElem?_eq_some_iff.mp h1).1
  have hself : T6.heap[a]? = some (Jvm.Free.Str.filledOn Th.toThrowableT fB fD cell ⟨.ref u, rfl⟩ h.size lines.length.toInt32) := by
    rw [hh, Array.getElem?_setIfInBounds]
    simp; omega
  have hoth : ∀ (x : Nat) (cl : Cell), h[x]? = some cl → x ≠ a → T6.heap[x]? = some cl := fun x cl q ne => by
    have hx : x < h.size := (Array.getElem?_eq_some_iff.mp q).1
    rw [hh, Array.getElem?_setIfInBounds_ne (Ne.symm ne), Array.getElem?_push_lt hx, ← q, Array.getElem?_eq_getElem hx]
  have K : Keep h T6.heap [a] := by
    refine ⟨by rw [hh]; simp, fun x cl q ne => hoth x cl q (by simpa using ne), fun x cl q => ?_⟩
    by_cases z : x = a
    · subst z
      cases h1.symm.trans q
      exact ⟨_, hself, rfl, rfl, by simp [Jvm.Free.Str.filledOn, Cell.setSlot]⟩
    · exact ⟨cl, hoth x cl q z, rfl, rfl, rfl⟩
  have N' : Unt T6.heap a := ⟨_, hself, u2, u3⟩
  have E' := E.keep K
  obtain ⟨v', F'⟩ := fld_laid (O := tN) (n := "detailMessage") (d := msgD) E' N'.known wi (Or.inl (W0 (.lays rc tN "detailMessage" msgD) (by simp [excAtoms])))
  have A' := CHr.keep K (fun z hz => by rw [List.mem_singleton.mp hz]; exact (hW a ha).2.2) hC.1
  have hO' := hO.keep K (fun z hz => by rw [List.mem_singleton.mp hz]; exact (hW a ha).1)
  have hsl := traceHolder_size_le cO hlen
  have hsl' : (traceHolder cO lines).slots.size ≤ 2752 := hsl
  obtain ⟨s2, v, st2, q⟩ := hr T6.heap v' K E' N' F' T6 vm0 k0 _ _ _ X6 rfl hS (Nat.le_trans hk K.1) hb' (hC.trans A') hO' (hW.r A') (hF.app fun y hy => by
    simp only [List.mem_cons, List.not_mem_nil, or_false] at hy
    rcases hy with rfl | rfl | rfl <;> exact (hW a ha).1) (by omega) (by omega)
  exact ⟨s2, v, come.trans st2, q⟩
end Thr
end Jvm.Ow
namespace Jvm.Pilot.@@N@@
open Jvm Jvm.ClassFile Sem Op Lib Jvm.Free Jvm.Stand Jvm.LawKit Jvm.RoadKit Bundle Jvm.Pilot.@@N@@.Jvm.D
theorem pd_0 : parseMethodDescriptor "([CI[BII)I" = some ⟨[(.array .char), .int, (.array .byte), .int, .int], (some .int)⟩ := by decide +kernel
theorem pd_1 : parseMethodDescriptor "([CII)[B" = some ⟨[(.array .char), .int, .int], (some (.array .byte))⟩ := by decide +kernel
theorem pd_2 : parseMethodDescriptor "([BI)B" = some ⟨[(.array .byte), .int], (some .byte)⟩ := by decide +kernel
theorem pd_3 : parseMethodDescriptor "([CIILjava/lang/Void;)V" = some ⟨[(.array .char), .int, .int, (.object "java/lang/Void")], none⟩ := by decide +kernel
theorem pd_4 : parseMethodDescriptor "()B" = some ⟨[], (some .byte)⟩ := by decide +kernel
theorem pd_5 : parseMethodDescriptor "(I)I" = some ⟨[.int], (some .int)⟩ := by decide +kernel
theorem pd_6 : parseMethodDescriptor "(I)[B" = some ⟨[.int], (some (.array .byte))⟩ := by decide +kernel
theorem pd_7 : parseMethodDescriptor "([BII)V" = some ⟨[(.array .byte), .int, .int], none⟩ := by decide +kernel
theorem pd_8 : parseMethodDescriptor "([BI)C" = some ⟨[(.array .byte), .int], (some .char)⟩ := by decide +kernel
theorem pd_9 : parseMethodDescriptor "(II)V" = some ⟨[.int, .int], none⟩ := by decide +kernel
theorem pd_10 : parseMethodDescriptor "(II)I" = some ⟨[.int, .int], (some .int)⟩ := by decide +kernel
theorem pd_11 : parseMethodDescriptor "([BII)[B" = some ⟨[(.array .byte), .int, .int], (some (.array .byte))⟩ := by decide +kernel
theorem pd_12 : parseMethodDescriptor "(IIILjava/util/function/BiFunction;)I" = some ⟨[.int, .int, .int, (.object "java/util/function/BiFunction")], (some .int)⟩ := by decide +kernel
theorem pd_13 : parseMethodDescriptor "([B)I" = some ⟨[(.array .byte)], (some .int)⟩ := by decide +kernel
theorem pd_14 : parseMethodDescriptor "(III)I" = some ⟨[.int, .int, .int], (some .int)⟩ := by decide +kernel
theorem pd_15 : parseMethodDescriptor "(II[B)V" = some ⟨[.int, .int, (.array .byte)], none⟩ := by decide +kernel
theorem pd_16 : parseMethodDescriptor "([BI[BII)V" = some ⟨[(.array .byte), .int, (.array .byte), .int, .int], none⟩ := by decide +kernel
theorem pd_17 : parseMethodDescriptor "()Z" = some ⟨[], (some .boolean)⟩ := by decide +kernel
theorem pd_18 : parseMethodDescriptor "()V" = some ⟨[], none⟩ := by decide +kernel
theorem pd_19 : parseMethodDescriptor "(Ljava/lang/String;)V" = some ⟨[(.object "java/lang/String")], none⟩ := by decide +kernel
theorem pd_20 : parseMethodDescriptor "([BIB)V" = some ⟨[(.array .byte), .int, .byte], none⟩ := by decide +kernel
theorem pd_21 : parseMethodDescriptor "()I" = some ⟨[], (some .int)⟩ := by decide +kernel
theorem pd_22 : parseMethodDescriptor "(I)V" = some ⟨[.int], none⟩ := by decide +kernel
theorem pd_23 : parseMethodDescriptor "(ILjava/lang/String;)V" = some ⟨[.int, (.object "java/lang/String")], none⟩ := by decide +kernel
theorem pd_24 : parseMethodDescriptor "(Ljava/lang/String;)Ljava/lang/AbstractStringBuilder;" = some ⟨[(.object "java/lang/String")], (some (.object "java/lang/AbstractStringBuilder"))⟩ := by decide +kernel
theorem pd_25 : parseMethodDescriptor "()[B" = some ⟨[], (some (.array .byte))⟩ := by decide +kernel
theorem pd_26 : parseMethodDescriptor "(Ljava/lang/AbstractStringBuilder;Ljava/lang/Void;)V" = some ⟨[(.object "java/lang/AbstractStringBuilder"), (.object "java/lang/Void")], none⟩ := by decide +kernel
theorem pd_27 : parseMethodDescriptor "(Ljava/lang/StringBuilder;)V" = some ⟨[(.object "java/lang/StringBuilder")], none⟩ := by decide +kernel
theorem pd_28 : parseMethodDescriptor "([BI)[B" = some ⟨[(.array .byte), .int], (some (.array .byte))⟩ := by decide +kernel
theorem pd_29 : parseMethodDescriptor "(IILjava/util/function/BiFunction;)I" = some ⟨[.int, .int, (.object "java/util/function/BiFunction")], (some .int)⟩ := by decide +kernel
theorem pd_30 : parseMethodDescriptor "(I[B)V" = some ⟨[.int, (.array .byte)], none⟩ := by decide +kernel
theorem pd_31 : parseMethodDescriptor "(C)Z" = some ⟨[.char], (some .boolean)⟩ := by decide +kernel
theorem pd_32 : parseMethodDescriptor "(C)[B" = some ⟨[.char], (some (.array .byte))⟩ := by decide +kernel
theorem pd_33 : parseMethodDescriptor "([BB)V" = some ⟨[(.array .byte), .byte], none⟩ := by decide +kernel
theorem pd_34 : parseMethodDescriptor "(I)C" = some ⟨[.int], (some .char)⟩ := by decide +kernel
theorem pd_35 : parseMethodDescriptor "(Ljava/lang/String;)Ljava/lang/StringBuilder;" = some ⟨[(.object "java/lang/String")], (some (.object "java/lang/StringBuilder"))⟩ := by decide +kernel
theorem pd_36 : parseMethodDescriptor "()Ljava/lang/String;" = some ⟨[], (some (.object "java/lang/String"))⟩ := by decide +kernel
theorem pd_37 : parseMethodDescriptor "([C)V" = some ⟨[(.array .char)], none⟩ := by decide +kernel
theorem pd_38 : parseMethodDescriptor "(C)Ljava/lang/String;" = some ⟨[.char], (some (.object "java/lang/String"))⟩ := by decide +kernel
theorem pd_39 : parseMethodDescriptor "(Ljava/lang/String;)Lcom/example/congruent/congruent/io/UnreadableInputException;" = some ⟨[(.object "java/lang/String")], (some (.object "com/example/congruent/congruent/io/UnreadableInputException"))⟩ := by decide +kernel
theorem pd_40 : parseMethodDescriptor "(Ljava/lang/String;I)Z" = some ⟨[(.object "java/lang/String"), .int], (some .boolean)⟩ := by decide +kernel
theorem pn_0 : plainFor (⟨"java/lang/StringUTF16", "compress", "([CI[BII)I"⟩ : MethodName) = true := by decide +kernel
theorem pn_1 : plainFor (⟨"java/lang/StringUTF16", "compress", "([CII)[B"⟩ : MethodName) = true := by decide +kernel
theorem pn_2 : plainFor (⟨"java/lang/StringUTF16", "coderFromArrayLen", "([BI)B"⟩ : MethodName) = true := by decide +kernel
theorem pn_3 : plainFor (⟨"java/lang/String", "<init>", "([CIILjava/lang/Void;)V"⟩ : MethodName) = true := by decide +kernel
theorem pn_4 : plainFor (⟨"java/lang/String", "<init>", "([C)V"⟩ : MethodName) = true := by decide +kernel
theorem pn_5 : plainFor (⟨"java/lang/String", "coder", "()B"⟩ : MethodName) = true := by decide +kernel
theorem pn_6 : plainFor (⟨"java/lang/String", "length", "()I"⟩ : MethodName) = true := by decide +kernel
theorem pn_7 : plainFor (⟨"java/lang/String", "isLatin1", "()Z"⟩ : MethodName) = true := by decide +kernel
theorem pn_8 : plainFor (⟨"java/lang/Math", "min", "(II)I"⟩ : MethodName) = true := by decide +kernel
theorem pn_9 : plainFor (⟨"java/lang/Math", "max", "(II)I"⟩ : MethodName) = true := by decide +kernel
theorem pn_10 : plainFor (⟨"java/lang/StringUTF16", "newBytesLength", "(I)I"⟩ : MethodName) = true := by decide +kernel
theorem pn_11 : plainFor (⟨"java/lang/StringUTF16", "newBytesFor", "(I)[B"⟩ : MethodName) = true := by decide +kernel
theorem pn_12 : plainFor (⟨"java/lang/StringUTF16", "putChar", "([BII)V"⟩ : MethodName) = true := by decide +kernel
theorem pn_13 : plainFor (⟨"java/lang/StringUTF16", "getChar", "([BI)C"⟩ : MethodName) = true := by decide +kernel
theorem pn_14 : plainFor (⟨"java/lang/StringUTF16", "toBytes", "([CII)[B"⟩ : MethodName) = true := by decide +kernel
theorem pn_15 : plainFor (⟨"java/util/Arrays", "checkLength", "(II)V"⟩ : MethodName) = true := by decide +kernel
theorem pn_16 : plainFor (⟨"java/util/Arrays", "copyOfRangeByte", "([BII)[B"⟩ : MethodName) = true := by decide +kernel
theorem pn_17 : plainFor (⟨"java/util/Arrays", "copyOfRange", "([BII)[B"⟩ : MethodName) = true := by decide +kernel
theorem pn_18 : plainFor (⟨"java/lang/AbstractStringBuilder", "<init>", "(I)V"⟩ : MethodName) = true := by decide +kernel
theorem pn_19 : plainFor (⟨"java/lang/AbstractStringBuilder", "isLatin1", "()Z"⟩ : MethodName) = true := by decide +kernel
theorem pn_20 : plainFor (⟨"java/lang/AbstractStringBuilder", "ensureCapacityInternal", "(I)V"⟩ : MethodName) = true := by decide +kernel
theorem pn_21 : plainFor (⟨"jdk/internal/util/Preconditions", "checkFromIndexSize", "(IIILjava/util/function/BiFunction;)I"⟩ : MethodName) = true := by decide +kernel
theorem pn_22 : plainFor (⟨"java/lang/String", "checkBoundsOffCount", "(III)I"⟩ : MethodName) = true := by decide +kernel
theorem pn_23 : plainFor (⟨"java/lang/StringUTF16", "length", "([B)I"⟩ : MethodName) = true := by decide +kernel
theorem pn_24 : plainFor (⟨"java/lang/StringUTF16", "checkBoundsOffCount", "(II[B)V"⟩ : MethodName) = true := by decide +kernel
theorem pn_25 : plainFor (⟨"java/lang/StringUTF16", "inflate", "([BI[BII)V"⟩ : MethodName) = true := by decide +kernel
theorem pn_26 : plainFor (⟨"java/lang/StringLatin1", "inflate", "([BI[BII)V"⟩ : MethodName) = true := by decide +kernel
theorem pn_27 : plainFor (⟨"java/lang/AbstractStringBuilder", "inflate", "()V"⟩ : MethodName) = true := by decide +kernel
theorem pn_28 : plainFor (⟨"java/lang/AbstractStringBuilder", "inflateIfNeededFor", "(Ljava/lang/String;)V"⟩ : MethodName) = true := by decide +kernel
theorem pn_29 : plainFor (⟨"java/lang/String", "getBytes", "([BIB)V"⟩ : MethodName) = true := by decide +kernel
theorem pn_30 : plainFor (⟨"java/lang/AbstractStringBuilder", "putStringAt", "(ILjava/lang/String;)V"⟩ : MethodName) = true := by decide +kernel
theorem pn_31 : plainFor (⟨"java/lang/AbstractStringBuilder", "append", "(Ljava/lang/String;)Ljava/lang/AbstractStringBuilder;"⟩ : MethodName) = true := by decide +kernel
theorem pn_32 : plainFor (⟨"java/lang/StringBuilder", "append", "(Ljava/lang/String;)Ljava/lang/StringBuilder;"⟩ : MethodName) = true := by decide +kernel
theorem pn_33 : plainFor (⟨"java/lang/AbstractStringBuilder", "getValue", "()[B"⟩ : MethodName) = true := by decide +kernel
theorem pn_34 : plainFor (⟨"java/lang/AbstractStringBuilder", "length", "()I"⟩ : MethodName) = true := by decide +kernel
theorem pn_35 : plainFor (⟨"java/lang/StringBuilder", "length", "()I"⟩ : MethodName) = true := by decide +kernel
theorem pn_36 : plainFor (⟨"java/lang/String", "<init>", "(Ljava/lang/AbstractStringBuilder;Ljava/lang/Void;)V"⟩ : MethodName) = true := by decide +kernel
theorem pn_37 : plainFor (⟨"java/lang/String", "<init>", "(Ljava/lang/StringBuilder;)V"⟩ : MethodName) = true := by decide +kernel
theorem pn_38 : plainFor (⟨"java/lang/StringBuilder", "toString", "()Ljava/lang/String;"⟩ : MethodName) = true := by decide +kernel
theorem pn_39 : plainFor (⟨"jdk/internal/util/ArraysSupport", "newLength", "(III)I"⟩ : MethodName) = true := by decide +kernel
theorem pn_40 : plainFor (⟨"java/lang/AbstractStringBuilder", "newCapacity", "(I)I"⟩ : MethodName) = true := by decide +kernel
theorem pn_41 : plainFor (⟨"java/util/Arrays", "copyOf", "([BI)[B"⟩ : MethodName) = true := by decide +kernel
theorem pn_42 : plainFor (⟨"jdk/internal/util/Preconditions", "checkIndex", "(IILjava/util/function/BiFunction;)I"⟩ : MethodName) = true := by decide +kernel
theorem pn_43 : plainFor (⟨"java/lang/String", "checkIndex", "(II)V"⟩ : MethodName) = true := by decide +kernel
theorem pn_44 : plainFor (⟨"java/lang/StringLatin1", "charAt", "([BI)C"⟩ : MethodName) = true := by decide +kernel
theorem pn_45 : plainFor (⟨"java/lang/String", "charAt", "(I)C"⟩ : MethodName) = true := by decide +kernel
theorem pn_46 : plainFor (⟨"java/lang/StringUTF16", "checkIndex", "(I[B)V"⟩ : MethodName) = true := by decide +kernel
theorem pn_47 : plainFor (⟨"java/lang/StringUTF16", "charAt", "([BI)C"⟩ : MethodName) = true := by decide +kernel
theorem pn_48 : plainFor (⟨"java/lang/StringLatin1", "canEncode", "(C)Z"⟩ : MethodName) = true := by decide +kernel
theorem pn_49 : plainFor (⟨"java/lang/StringLatin1", "toBytes", "(C)[B"⟩ : MethodName) = true := by decide +kernel
theorem pn_50 : plainFor (⟨"java/lang/StringUTF16", "toBytes", "(C)[B"⟩ : MethodName) = true := by decide +kernel
theorem pn_51 : plainFor (⟨"java/lang/String", "<init>", "([BB)V"⟩ : MethodName) = true := by decide +kernel
theorem pn_52 : plainFor (⟨"java/lang/String", "valueOf", "(C)Ljava/lang/String;"⟩ : MethodName) = true := by decide +kernel
theorem pn_53 : plainFor (⟨"com/example/congruent/congruent/io/UnreadableInputExceptionNotUtf8PinLaw", "suffixAt", "(Ljava/lang/String;I)Z"⟩ : MethodName) = true := by decide +kernel
theorem pn_54 : plainFor (⟨"java/lang/Throwable", "<init>", "(Ljava/lang/String;)V"⟩ : MethodName) = true := by decide +kernel
theorem pn_55 : plainFor (⟨"java/lang/Exception", "<init>", "(Ljava/lang/String;)V"⟩ : MethodName) = true := by decide +kernel
theorem pn_56 : plainFor (⟨"com/example/congruent/congruent/io/UnreadableInputException", "<init>", "(Ljava/lang/String;)V"⟩ : MethodName) = true := by decide +kernel
theorem pn_57 : plainFor (⟨"java/lang/StringBuilder", "<init>", "()V"⟩ : MethodName) = true := by decide +kernel
theorem pn_58 : plainFor (⟨"java/lang/Throwable", "getMessage", "()Ljava/lang/String;"⟩ : MethodName) = true := by decide +kernel
theorem pn_59 : plainFor (⟨"com/example/congruent/congruent/io/UnreadableInputException", "notUtf8", "(Ljava/lang/String;)Lcom/example/congruent/congruent/io/UnreadableInputException;"⟩ : MethodName) = true := by decide +kernel
theorem pn_60 : plainFor (⟨"com/example/congruent/congruent/io/UnreadableInputExceptionNotUtf8PinLaw", "law", "(IIII)Z"⟩ : MethodName) = true := by decide +kernel
theorem dCL_3 : decode jdk_52_method_21_code 3 = .ok (.iload 5, 2) := by decide +kernel
theorem dCL_5 : decode jdk_52_method_21_code 5 = .ok (.iload 4, 2) := by decide +kernel
theorem dCL_7 : decode jdk_52_method_21_code 7 = .ok (.if_icmp .ge 37, 3) := by decide +kernel
theorem dCL_44 : decode jdk_52_method_21_code 44 = .ok (.iload 4, 2) := by decide +kernel
theorem dCL_46 : decode jdk_52_method_21_code 46 = .ok (.ireturn, 1) := by decide +kernel
theorem dCL_10 : decode jdk_52_method_21_code 10 = .ok (.aload_n 0, 1) := by decide +kernel
theorem dCL_11 : decode jdk_52_method_21_code 11 = .ok (.iload_n 1, 1) := by decide +kernel
theorem dCL_12 : decode jdk_52_method_21_code 12 = .ok (.caload, 1) := by decide +kernel
theorem dCL_13 : decode jdk_52_method_21_code 13 = .ok (.istore 6, 2) := by decide +kernel
theorem dCL_15 : decode jdk_52_method_21_code 15 = .ok (.iload 6, 2) := by decide +kernel
theorem dCL_17 : decode jdk_52_method_21_code 17 = .ok (.sipush 255, 3) := by decide +kernel
theorem dCL_20 : decode jdk_52_method_21_code 20 = .ok (.if_icmp .le 6, 3) := by decide +kernel
theorem dCL_26 : decode jdk_52_method_21_code 26 = .ok (.aload_n 2, 1) := by decide +kernel
theorem dCL_27 : decode jdk_52_method_21_code 27 = .ok (.iload_n 3, 1) := by decide +kernel
theorem dCL_28 : decode jdk_52_method_21_code 28 = .ok (.iload 6, 2) := by decide +kernel
theorem dCL_30 : decode jdk_52_method_21_code 30 = .ok (.i2b, 1) := by decide +kernel
theorem dCL_31 : decode jdk_52_method_21_code 31 = .ok (.bastore, 1) := by decide +kernel
theorem dCL_32 : decode jdk_52_method_21_code 32 = .ok (.iinc 1 1, 3) := by decide +kernel
theorem dCL_35 : decode jdk_52_method_21_code 35 = .ok (.iinc 3 1, 3) := by decide +kernel
theorem dCL_38 : decode jdk_52_method_21_code 38 = .ok (.iinc 5 1, 3) := by decide +kernel
theorem dCL_41 : decode jdk_52_method_21_code 41 = .ok (.goto (-38), 3) := by decide +kernel
theorem dCL_23 : decode jdk_52_method_21_code 23 = .ok (.iload 5, 2) := by decide +kernel
theorem dCL_25 : decode jdk_52_method_21_code 25 = .ok (.ireturn, 1) := by decide +kernel
theorem dCL_0 : decode jdk_52_method_21_code 0 = .ok (.iconst 0, 1) := by decide +kernel
theorem dCL_1 : decode jdk_52_method_21_code 1 = .ok (.istore 5, 2) := by decide +kernel
theorem dCM_0 : decode jdk_52_method_16_code 0 = .ok (.iload_n 2, 1) := by decide +kernel
theorem dCM_1 : decode jdk_52_method_16_code 1 = .ok (.newarray .byte, 2) := by decide +kernel
theorem dCM_3 : decode jdk_52_method_16_code 3 = .ok (.astore_n 3, 1) := by decide +kernel
theorem dCM_4 : decode jdk_52_method_16_code 4 = .ok (.aload_n 0, 1) := by decide +kernel
theorem dCM_5 : decode jdk_52_method_16_code 5 = .ok (.iload_n 1, 1) := by decide +kernel
theorem dCM_6 : decode jdk_52_method_16_code 6 = .ok (.aload_n 3, 1) := by decide +kernel
theorem dCM_7 : decode jdk_52_method_16_code 7 = .ok (.iconst 0, 1) := by decide +kernel
theorem dCM_8 : decode jdk_52_method_16_code 8 = .ok (.iload_n 2, 1) := by decide +kernel
theorem dCM_9 : decode jdk_52_method_16_code 9 = .ok (.invokestatic 115, 3) := by decide +kernel
theorem dCM_12 : decode jdk_52_method_16_code 12 = .ok (.istore 4, 2) := by decide +kernel
theorem dCM_14 : decode jdk_52_method_16_code 14 = .ok (.iload 4, 2) := by decide +kernel
theorem dCM_16 : decode jdk_52_method_16_code 16 = .ok (.iload_n 2, 1) := by decide +kernel
theorem dCM_17 : decode jdk_52_method_16_code 17 = .ok (.if_icmp .eq 40, 3) := by decide +kernel
theorem dCM_57 : decode jdk_52_method_16_code 57 = .ok (.aload_n 3, 1) := by decide +kernel
theorem dCM_58 : decode jdk_52_method_16_code 58 = .ok (.areturn, 1) := by decide +kernel
theorem dCF_0 : decode jdk_52_method_15_code 0 = .ok (.iload_n 1, 1) := by decide +kernel
theorem dCF_1 : decode jdk_52_method_15_code 1 = .ok (.aload_n 0, 1) := by decide +kernel
theorem dCF_2 : decode jdk_52_method_15_code 2 = .ok (.arraylength, 1) := by decide +kernel
theorem dCF_3 : decode jdk_52_method_15_code 3 = .ok (.isub, 1) := by decide +kernel
theorem dCF_4 : decode jdk_52_method_15_code 4 = .ok (.bipush 31, 2) := by decide +kernel
theorem dCF_6 : decode jdk_52_method_15_code 6 = .ok (.iushr, 1) := by decide +kernel
theorem dCF_7 : decode jdk_52_method_15_code 7 = .ok (.i2b, 1) := by decide +kernel
theorem dCF_8 : decode jdk_52_method_15_code 8 = .ok (.ireturn, 1) := by decide +kernel
theorem dI1_0 : decode jdk_42_method_149_code 0 = .ok (.aload_n 0, 1) := by decide +kernel
theorem dI1_1 : decode jdk_42_method_149_code 1 = .ok (.invokespecial 1, 3) := by decide +kernel
theorem dI1_4 : decode jdk_42_method_149_code 4 = .ok (.iload_n 3, 1) := by decide +kernel
theorem dI1_5 : decode jdk_42_method_149_code 5 = .ok (.ifCond .ne 22, 3) := by decide +kernel
theorem dI1_27 : decode jdk_42_method_149_code 27 = .ok (.getstatic 38, 3) := by decide +kernel
theorem dI1_30 : decode jdk_42_method_149_code 30 = .ok (.ifCond .eq 28, 3) := by decide +kernel
theorem dI1_33 : decode jdk_42_method_149_code 33 = .ok (.aload_n 1, 1) := by decide +kernel
theorem dI1_34 : decode jdk_42_method_149_code 34 = .ok (.iload_n 2, 1) := by decide +kernel
theorem dI1_35 : decode jdk_42_method_149_code 35 = .ok (.iload_n 3, 1) := by decide +kernel
theorem dI1_36 : decode jdk_42_method_149_code 36 = .ok (.invokestatic 177, 3) := by decide +kernel
theorem dI1_39 : decode jdk_42_method_149_code 39 = .ok (.astore 5, 2) := by decide +kernel
theorem dI1_41 : decode jdk_42_method_149_code 41 = .ok (.aload_n 0, 1) := by decide +kernel
theorem dI1_42 : decode jdk_42_method_149_code 42 = .ok (.aload 5, 2) := by decide +kernel
theorem dI1_44 : decode jdk_42_method_149_code 44 = .ok (.iload_n 3, 1) := by decide +kernel
theorem dI1_45 : decode jdk_42_method_149_code 45 = .ok (.invokestatic 47, 3) := by decide +kernel
theorem dI1_48 : decode jdk_42_method_149_code 48 = .ok (.putfield 15, 3) := by decide +kernel
theorem dI1_51 : decode jdk_42_method_149_code 51 = .ok (.aload_n 0, 1) := by decide +kernel
theorem dI1_52 : decode jdk_42_method_149_code 52 = .ok (.aload 5, 2) := by decide +kernel
theorem dI1_54 : decode jdk_42_method_149_code 54 = .ok (.putfield 9, 3) := by decide +kernel
theorem dI1_57 : decode jdk_42_method_149_code 57 = .ok (.return_, 1) := by decide +kernel
theorem dI0_0 : decode jdk_42_method_3_code 0 = .ok (.aload_n 0, 1) := by decide +kernel
theorem dI0_1 : decode jdk_42_method_3_code 1 = .ok (.aload_n 1, 1) := by decide +kernel
theorem dI0_2 : decode jdk_42_method_3_code 2 = .ok (.iconst 0, 1) := by decide +kernel
theorem dI0_3 : decode jdk_42_method_3_code 3 = .ok (.aload_n 1, 1) := by decide +kernel
theorem dI0_4 : decode jdk_42_method_3_code 4 = .ok (.arraylength, 1) := by decide +kernel
theorem dI0_5 : decode jdk_42_method_3_code 5 = .ok (.aconst_null, 1) := by decide +kernel
theorem dI0_6 : decode jdk_42_method_3_code 6 = .ok (.invokespecial 27, 3) := by decide +kernel
theorem dI0_9 : decode jdk_42_method_3_code 9 = .ok (.return_, 1) := by decide +kernel
theorem dI1_8 : decode jdk_42_method_149_code 8 = .ok (.aload_n 0, 1) := by decide +kernel
theorem dI1_9 : decode jdk_42_method_149_code 9 = .ok (.ldc 7, 2) := by decide +kernel
theorem dI1_11 : decode jdk_42_method_149_code 11 = .ok (.getfield 9, 3) := by decide +kernel
theorem dI1_14 : decode jdk_42_method_149_code 14 = .ok (.putfield 9, 3) := by decide +kernel
theorem dI1_17 : decode jdk_42_method_149_code 17 = .ok (.aload_n 0, 1) := by decide +kernel
theorem dI1_18 : decode jdk_42_method_149_code 18 = .ok (.ldc 7, 2) := by decide +kernel
theorem dI1_20 : decode jdk_42_method_149_code 20 = .ok (.getfield 15, 3) := by decide +kernel
theorem dI1_23 : decode jdk_42_method_149_code 23 = .ok (.putfield 15, 3) := by decide +kernel
theorem dI1_26 : decode jdk_42_method_149_code 26 = .ok (.return_, 1) := by decide +kernel
theorem dCO_0 : decode jdk_42_method_152_code 0 = .ok (.getstatic 38, 3) := by decide +kernel
theorem dCO_3 : decode jdk_42_method_152_code 3 = .ok (.ifCond .eq 10, 3) := by decide +kernel
theorem dCO_6 : decode jdk_42_method_152_code 6 = .ok (.aload_n 0, 1) := by decide +kernel
theorem dCO_7 : decode jdk_42_method_152_code 7 = .ok (.getfield 15, 3) := by decide +kernel
theorem dCO_10 : decode jdk_42_method_152_code 10 = .ok (.goto 4, 3) := by decide +kernel
theorem dCO_14 : decode jdk_42_method_152_code 14 = .ok (.ireturn, 1) := by decide +kernel
theorem dLN_0 : decode jdk_42_method_54_code 0 = .ok (.aload_n 0, 1) := by decide +kernel
theorem dLN_1 : decode jdk_42_method_54_code 1 = .ok (.getfield 9, 3) := by decide +kernel
theorem dLN_4 : decode jdk_42_method_54_code 4 = .ok (.arraylength, 1) := by decide +kernel
theorem dLN_5 : decode jdk_42_method_54_code 5 = .ok (.aload_n 0, 1) := by decide +kernel
theorem dLN_6 : decode jdk_42_method_54_code 6 = .ok (.invokevirtual 335, 3) := by decide +kernel
theorem dLN_9 : decode jdk_42_method_54_code 9 = .ok (.ishr, 1) := by decide +kernel
theorem dLN_10 : decode jdk_42_method_54_code 10 = .ok (.ireturn, 1) := by decide +kernel
theorem dIL_0 : decode jdk_42_method_154_code 0 = .ok (.getstatic 38, 3) := by decide +kernel
theorem dIL_3 : decode jdk_42_method_154_code 3 = .ok (.ifCond .eq 14, 3) := by decide +kernel
theorem dIL_6 : decode jdk_42_method_154_code 6 = .ok (.aload_n 0, 1) := by decide +kernel
theorem dIL_7 : decode jdk_42_method_154_code 7 = .ok (.getfield 15, 3) := by decide +kernel
theorem dIL_10 : decode jdk_42_method_154_code 10 = .ok (.ifCond .ne 7, 3) := by decide +kernel
theorem dIL_17 : decode jdk_42_method_154_code 17 = .ok (.iconst 0, 1) := by decide +kernel
theorem dIL_18 : decode jdk_42_method_154_code 18 = .ok (.ireturn, 1) := by decide +kernel
theorem dIL_13 : decode jdk_42_method_154_code 13 = .ok (.iconst 1, 1) := by decide +kernel
theorem dIL_14 : decode jdk_42_method_154_code 14 = .ok (.goto 4, 3) := by decide +kernel
theorem dMN_0 : decode jdk_29_method_69_code 0 = .ok (.iload_n 0, 1) := by decide +kernel
theorem dMN_1 : decode jdk_29_method_69_code 1 = .ok (.iload_n 1, 1) := by decide +kernel
theorem dMN_2 : decode jdk_29_method_69_code 2 = .ok (.if_icmp .gt 7, 3) := by decide +kernel
theorem dMN_9 : decode jdk_29_method_69_code 9 = .ok (.iload_n 1, 1) := by decide +kernel
theorem dMN_10 : decode jdk_29_method_69_code 10 = .ok (.ireturn, 1) := by decide +kernel
theorem dMN_5 : decode jdk_29_method_69_code 5 = .ok (.iload_n 0, 1) := by decide +kernel
theorem dMN_6 : decode jdk_29_method_69_code 6 = .ok (.goto 4, 3) := by decide +kernel
theorem dMX_0 : decode jdk_29_method_65_code 0 = .ok (.iload_n 0, 1) := by decide +kernel
theorem dMX_1 : decode jdk_29_method_65_code 1 = .ok (.iload_n 1, 1) := by decide +kernel
theorem dMX_2 : decode jdk_29_method_65_code 2 = .ok (.if_icmp .lt 7, 3) := by decide +kernel
theorem dMX_9 : decode jdk_29_method_65_code 9 = .ok (.iload_n 1, 1) := by decide +kernel
theorem dMX_10 : decode jdk_29_method_65_code 10 = .ok (.ireturn, 1) := by decide +kernel
theorem dMX_5 : decode jdk_29_method_65_code 5 = .ok (.iload_n 0, 1) := by decide +kernel
theorem dMX_6 : decode jdk_29_method_65_code 6 = .ok (.goto 4, 3) := by decide +kernel
theorem dNL_0 : decode jdk_52_method_3_code 0 = .ok (.iload_n 0, 1) := by decide +kernel
theorem dNL_1 : decode jdk_52_method_3_code 1 = .ok (.ifCond .ge 11, 3) := by decide +kernel
theorem dNL_12 : decode jdk_52_method_3_code 12 = .ok (.iload_n 0, 1) := by decide +kernel
theorem dNL_13 : decode jdk_52_method_3_code 13 = .ok (.ldc 20, 2) := by decide +kernel
theorem dNL_15 : decode jdk_52_method_3_code 15 = .ok (.if_icmp .lt 40, 3) := by decide +kernel
theorem dNL_55 : decode jdk_52_method_3_code 55 = .ok (.iload_n 0, 1) := by decide +kernel
theorem dNL_56 : decode jdk_52_method_3_code 56 = .ok (.iconst 1, 1) := by decide +kernel
theorem dNL_57 : decode jdk_52_method_3_code 57 = .ok (.ishl, 1) := by decide +kernel
theorem dNL_58 : decode jdk_52_method_3_code 58 = .ok (.ireturn, 1) := by decide +kernel
theorem dNF_0 : decode jdk_52_method_2_code 0 = .ok (.iload_n 0, 1) := by decide +kernel
theorem dNF_1 : decode jdk_52_method_2_code 1 = .ok (.invokestatic 11, 3) := by decide +kernel
theorem dNF_4 : decode jdk_52_method_2_code 4 = .ok (.newarray .byte, 2) := by decide +kernel
theorem dNF_6 : decode jdk_52_method_2_code 6 = .ok (.areturn, 1) := by decide +kernel
theorem dPC_0 : decode jdk_52_method_4_code 0 = .ok (.getstatic 44, 3) := by decide +kernel
theorem dPC_3 : decode jdk_52_method_4_code 3 = .ok (.ifCond .ne 25, 3) := by decide +kernel
theorem dPC_28 : decode jdk_52_method_4_code 28 = .ok (.iload_n 1, 1) := by decide +kernel
theorem dPC_29 : decode jdk_52_method_4_code 29 = .ok (.iconst 1, 1) := by decide +kernel
theorem dPC_30 : decode jdk_52_method_4_code 30 = .ok (.ishl, 1) := by decide +kernel
theorem dPC_31 : decode jdk_52_method_4_code 31 = .ok (.istore_n 1, 1) := by decide +kernel
theorem dPC_32 : decode jdk_52_method_4_code 32 = .ok (.aload_n 0, 1) := by decide +kernel
theorem dPC_33 : decode jdk_52_method_4_code 33 = .ok (.iload_n 1, 1) := by decide +kernel
theorem dPC_34 : decode jdk_52_method_4_code 34 = .ok (.iinc 1 1, 3) := by decide +kernel
theorem dPC_37 : decode jdk_52_method_4_code 37 = .ok (.iload_n 2, 1) := by decide +kernel
theorem dPC_38 : decode jdk_52_method_4_code 38 = .ok (.getstatic 59, 3) := by decide +kernel
theorem dPC_41 : decode jdk_52_method_4_code 41 = .ok (.ishr, 1) := by decide +kernel
theorem dPC_42 : decode jdk_52_method_4_code 42 = .ok (.i2b, 1) := by decide +kernel
theorem dPC_43 : decode jdk_52_method_4_code 43 = .ok (.bastore, 1) := by decide +kernel
theorem dPC_44 : decode jdk_52_method_4_code 44 = .ok (.aload_n 0, 1) := by decide +kernel
theorem dPC_45 : decode jdk_52_method_4_code 45 = .ok (.iload_n 1, 1) := by decide +kernel
theorem dPC_46 : decode jdk_52_method_4_code 46 = .ok (.iload_n 2, 1) := by decide +kernel
theorem dPC_47 : decode jdk_52_method_4_code 47 = .ok (.getstatic 63, 3) := by decide +kernel
theorem dPC_50 : decode jdk_52_method_4_code 50 = .ok (.ishr, 1) := by decide +kernel
theorem dPC_51 : decode jdk_52_method_4_code 51 = .ok (.i2b, 1) := by decide +kernel
theorem dPC_52 : decode jdk_52_method_4_code 52 = .ok (.bastore, 1) := by decide +kernel
theorem dPC_53 : decode jdk_52_method_4_code 53 = .ok (.return_, 1) := by decide +kernel
theorem dGC_0 : decode jdk_52_method_5_code 0 = .ok (.getstatic 44, 3) := by decide +kernel
theorem dGC_3 : decode jdk_52_method_5_code 3 = .ok (.ifCond .ne 25, 3) := by decide +kernel
theorem dGC_28 : decode jdk_52_method_5_code 28 = .ok (.iload_n 1, 1) := by decide +kernel
theorem dGC_29 : decode jdk_52_method_5_code 29 = .ok (.iconst 1, 1) := by decide +kernel
theorem dGC_30 : decode jdk_52_method_5_code 30 = .ok (.ishl, 1) := by decide +kernel
theorem dGC_31 : decode jdk_52_method_5_code 31 = .ok (.istore_n 1, 1) := by decide +kernel
theorem dGC_32 : decode jdk_52_method_5_code 32 = .ok (.aload_n 0, 1) := by decide +kernel
theorem dGC_33 : decode jdk_52_method_5_code 33 = .ok (.iload_n 1, 1) := by decide +kernel
theorem dGC_34 : decode jdk_52_method_5_code 34 = .ok (.iinc 1 1, 3) := by decide +kernel
theorem dGC_37 : decode jdk_52_method_5_code 37 = .ok (.baload, 1) := by decide +kernel
theorem dGC_38 : decode jdk_52_method_5_code 38 = .ok (.sipush 255, 3) := by decide +kernel
theorem dGC_41 : decode jdk_52_method_5_code 41 = .ok (.iand, 1) := by decide +kernel
theorem dGC_42 : decode jdk_52_method_5_code 42 = .ok (.getstatic 59, 3) := by decide +kernel
theorem dGC_45 : decode jdk_52_method_5_code 45 = .ok (.ishl, 1) := by decide +kernel
theorem dGC_46 : decode jdk_52_method_5_code 46 = .ok (.aload_n 0, 1) := by decide +kernel
theorem dGC_47 : decode jdk_52_method_5_code 47 = .ok (.iload_n 1, 1) := by decide +kernel
theorem dGC_48 : decode jdk_52_method_5_code 48 = .ok (.baload, 1) := by decide +kernel
theorem dGC_49 : decode jdk_52_method_5_code 49 = .ok (.sipush 255, 3) := by decide +kernel
theorem dGC_52 : decode jdk_52_method_5_code 52 = .ok (.iand, 1) := by decide +kernel
theorem dGC_53 : decode jdk_52_method_5_code 53 = .ok (.getstatic 63, 3) := by decide +kernel
theorem dGC_56 : decode jdk_52_method_5_code 56 = .ok (.ishl, 1) := by decide +kernel
theorem dGC_57 : decode jdk_52_method_5_code 57 = .ok (.ior, 1) := by decide +kernel
theorem dGC_58 : decode jdk_52_method_5_code 58 = .ok (.i2c, 1) := by decide +kernel
theorem dGC_59 : decode jdk_52_method_5_code 59 = .ok (.ireturn, 1) := by decide +kernel
theorem dTB_0 : decode jdk_52_method_14_code 0 = .ok (.iload_n 2, 1) := by decide +kernel
theorem dTB_1 : decode jdk_52_method_14_code 1 = .ok (.invokestatic 107, 3) := by decide +kernel
theorem dTB_4 : decode jdk_52_method_14_code 4 = .ok (.astore_n 3, 1) := by decide +kernel
theorem dTB_5 : decode jdk_52_method_14_code 5 = .ok (.iconst 0, 1) := by decide +kernel
theorem dTB_6 : decode jdk_52_method_14_code 6 = .ok (.istore 4, 2) := by decide +kernel
theorem dTB_8 : decode jdk_52_method_14_code 8 = .ok (.iload 4, 2) := by decide +kernel
theorem dTB_10 : decode jdk_52_method_14_code 10 = .ok (.iload_n 2, 1) := by decide +kernel
theorem dTB_11 : decode jdk_52_method_14_code 11 = .ok (.if_icmp .ge 21, 3) := by decide +kernel
theorem dTB_32 : decode jdk_52_method_14_code 32 = .ok (.aload_n 3, 1) := by decide +kernel
theorem dTB_33 : decode jdk_52_method_14_code 33 = .ok (.areturn, 1) := by decide +kernel
theorem dTB_14 : decode jdk_52_method_14_code 14 = .ok (.aload_n 3, 1) := by decide +kernel
theorem dTB_15 : decode jdk_52_method_14_code 15 = .ok (.iload 4, 2) := by decide +kernel
theorem dTB_17 : decode jdk_52_method_14_code 17 = .ok (.aload_n 0, 1) := by decide +kernel
theorem dTB_18 : decode jdk_52_method_14_code 18 = .ok (.iload_n 1, 1) := by decide +kernel
theorem dTB_19 : decode jdk_52_method_14_code 19 = .ok (.caload, 1) := by decide +kernel
theorem dTB_20 : decode jdk_52_method_14_code 20 = .ok (.invokestatic 111, 3) := by decide +kernel
theorem dTB_23 : decode jdk_52_method_14_code 23 = .ok (.iinc 1 1, 3) := by decide +kernel
theorem dTB_26 : decode jdk_52_method_14_code 26 = .ok (.iinc 4 1, 3) := by decide +kernel
theorem dTB_29 : decode jdk_52_method_14_code 29 = .ok (.goto (-21), 3) := by decide +kernel
theorem dCM_20 : decode jdk_52_method_16_code 20 = .ok (.aload_n 0, 1) := by decide +kernel
theorem dCM_21 : decode jdk_52_method_16_code 21 = .ok (.iload_n 1, 1) := by decide +kernel
theorem dCM_22 : decode jdk_52_method_16_code 22 = .ok (.iload_n 2, 1) := by decide +kernel
theorem dCM_23 : decode jdk_52_method_16_code 23 = .ok (.invokestatic 119, 3) := by decide +kernel
theorem dCM_26 : decode jdk_52_method_16_code 26 = .ok (.astore 5, 2) := by decide +kernel
theorem dCM_28 : decode jdk_52_method_16_code 28 = .ok (.aload 5, 2) := by decide +kernel
theorem dCM_30 : decode jdk_52_method_16_code 30 = .ok (.iload 4, 2) := by decide +kernel
theorem dCM_32 : decode jdk_52_method_16_code 32 = .ok (.invokestatic 71, 3) := by decide +kernel
theorem dCM_35 : decode jdk_52_method_16_code 35 = .ok (.sipush 255, 3) := by decide +kernel
theorem dCM_38 : decode jdk_52_method_16_code 38 = .ok (.if_icmp .gt 16, 3) := by decide +kernel
theorem dCM_54 : decode jdk_52_method_16_code 54 = .ok (.aload 5, 2) := by decide +kernel
theorem dCM_56 : decode jdk_52_method_16_code 56 = .ok (.areturn, 1) := by decide +kernel
theorem dCK_0 : decode jdk_65_method_131_code 0 = .ok (.iload_n 1, 1) := by decide +kernel
theorem dCK_1 : decode jdk_65_method_131_code 1 = .ok (.iload_n 0, 1) := by decide +kernel
theorem dCK_2 : decode jdk_65_method_131_code 2 = .ok (.if_icmp .ge 35, 3) := by decide +kernel
theorem dCK_37 : decode jdk_65_method_131_code 37 = .ok (.return_, 1) := by decide +kernel
theorem dCX_0 : decode jdk_65_method_133_code 0 = .ok (.iload_n 1, 1) := by decide +kernel
theorem dCX_1 : decode jdk_65_method_133_code 1 = .ok (.iload_n 2, 1) := by decide +kernel
theorem dCX_2 : decode jdk_65_method_133_code 2 = .ok (.invokestatic 343, 3) := by decide +kernel
theorem dCX_5 : decode jdk_65_method_133_code 5 = .ok (.iload_n 2, 1) := by decide +kernel
theorem dCX_6 : decode jdk_65_method_133_code 6 = .ok (.iload_n 1, 1) := by decide +kernel
theorem dCX_7 : decode jdk_65_method_133_code 7 = .ok (.isub, 1) := by decide +kernel
theorem dCX_8 : decode jdk_65_method_133_code 8 = .ok (.istore_n 3, 1) := by decide +kernel
theorem dCX_9 : decode jdk_65_method_133_code 9 = .ok (.iload_n 3, 1) := by decide +kernel
theorem dCX_10 : decode jdk_65_method_133_code 10 = .ok (.newarray .byte, 2) := by decide +kernel
theorem dCX_12 : decode jdk_65_method_133_code 12 = .ok (.astore 4, 2) := by decide +kernel
theorem dCX_14 : decode jdk_65_method_133_code 14 = .ok (.aload_n 0, 1) := by decide +kernel
theorem dCX_15 : decode jdk_65_method_133_code 15 = .ok (.iload_n 1, 1) := by decide +kernel
theorem dCX_16 : decode jdk_65_method_133_code 16 = .ok (.aload 4, 2) := by decide +kernel
theorem dCX_18 : decode jdk_65_method_133_code 18 = .ok (.iconst 0, 1) := by decide +kernel
theorem dCX_19 : decode jdk_65_method_133_code 19 = .ok (.aload_n 0, 1) := by decide +kernel
theorem dCX_20 : decode jdk_65_method_133_code 20 = .ok (.arraylength, 1) := by decide +kernel
theorem dCX_21 : decode jdk_65_method_133_code 21 = .ok (.iload_n 1, 1) := by decide +kernel
theorem dCX_22 : decode jdk_65_method_133_code 22 = .ok (.isub, 1) := by decide +kernel
theorem dCX_23 : decode jdk_65_method_133_code 23 = .ok (.iload_n 3, 1) := by decide +kernel
theorem dCX_24 : decode jdk_65_method_133_code 24 = .ok (.invokestatic 304, 3) := by decide +kernel
theorem dCX_27 : decode jdk_65_method_133_code 27 = .ok (.invokestatic 150, 3) := by decide +kernel
theorem dCX_30 : decode jdk_65_method_133_code 30 = .ok (.aload 4, 2) := by decide +kernel
theorem dCX_32 : decode jdk_65_method_133_code 32 = .ok (.areturn, 1) := by decide +kernel
theorem dCR_10 : decode jdk_65_method_132_code 10 = .ok (.aload_n 0, 1) := by decide +kernel
theorem dCR_11 : decode jdk_65_method_132_code 11 = .ok (.iload_n 1, 1) := by decide +kernel
theorem dCR_12 : decode jdk_65_method_132_code 12 = .ok (.iload_n 2, 1) := by decide +kernel
theorem dCR_13 : decode jdk_65_method_132_code 13 = .ok (.invokestatic 339, 3) := by decide +kernel
theorem dCR_16 : decode jdk_65_method_132_code 16 = .ok (.areturn, 1) := by decide +kernel
theorem dCR_0 : decode jdk_65_method_132_code 0 = .ok (.iload_n 1, 1) := by decide +kernel
theorem dCR_1 : decode jdk_65_method_132_code 1 = .ok (.ifCond .ne 9, 3) := by decide +kernel
theorem dCR_4 : decode jdk_65_method_132_code 4 = .ok (.iload_n 2, 1) := by decide +kernel
theorem dCR_5 : decode jdk_65_method_132_code 5 = .ok (.aload_n 0, 1) := by decide +kernel
theorem dCR_6 : decode jdk_65_method_132_code 6 = .ok (.arraylength, 1) := by decide +kernel
theorem dCR_7 : decode jdk_65_method_132_code 7 = .ok (.if_icmp .eq 10, 3) := by decide +kernel
theorem dAI_0 : decode jdk_68_method_2_code 0 = .ok (.aload_n 0, 1) := by decide +kernel
theorem dAI_1 : decode jdk_68_method_2_code 1 = .ok (.invokespecial 3, 3) := by decide +kernel
theorem dAI_4 : decode jdk_68_method_2_code 4 = .ok (.getstatic 18, 3) := by decide +kernel
theorem dAI_7 : decode jdk_68_method_2_code 7 = .ok (.ifCond .eq 18, 3) := by decide +kernel
theorem dAI_10 : decode jdk_68_method_2_code 10 = .ok (.aload_n 0, 1) := by decide +kernel
theorem dAI_11 : decode jdk_68_method_2_code 11 = .ok (.iload_n 1, 1) := by decide +kernel
theorem dAI_12 : decode jdk_68_method_2_code 12 = .ok (.newarray .byte, 2) := by decide +kernel
theorem dAI_14 : decode jdk_68_method_2_code 14 = .ok (.putfield 15, 3) := by decide +kernel
theorem dAI_17 : decode jdk_68_method_2_code 17 = .ok (.aload_n 0, 1) := by decide +kernel
theorem dAI_18 : decode jdk_68_method_2_code 18 = .ok (.iconst 0, 1) := by decide +kernel
theorem dAI_19 : decode jdk_68_method_2_code 19 = .ok (.putfield 22, 3) := by decide +kernel
theorem dAI_22 : decode jdk_68_method_2_code 22 = .ok (.goto 16, 3) := by decide +kernel
theorem dAI_38 : decode jdk_68_method_2_code 38 = .ok (.return_, 1) := by decide +kernel
theorem dBL_0 : decode jdk_68_method_68_code 0 = .ok (.getstatic 18, 3) := by decide +kernel
theorem dBL_3 : decode jdk_68_method_68_code 3 = .ok (.ifCond .eq 14, 3) := by decide +kernel
theorem dBL_6 : decode jdk_68_method_68_code 6 = .ok (.aload_n 0, 1) := by decide +kernel
theorem dBL_7 : decode jdk_68_method_68_code 7 = .ok (.getfield 22, 3) := by decide +kernel
theorem dBL_10 : decode jdk_68_method_68_code 10 = .ok (.ifCond .ne 7, 3) := by decide +kernel
theorem dBL_17 : decode jdk_68_method_68_code 17 = .ok (.iconst 0, 1) := by decide +kernel
theorem dBL_18 : decode jdk_68_method_68_code 18 = .ok (.ireturn, 1) := by decide +kernel
theorem dBL_13 : decode jdk_68_method_68_code 13 = .ok (.iconst 1, 1) := by decide +kernel
theorem dBL_14 : decode jdk_68_method_68_code 14 = .ok (.goto 4, 3) := by decide +kernel
theorem dEN_0 : decode jdk_68_method_9_code 0 = .ok (.aload_n 0, 1) := by decide +kernel
theorem dEN_1 : decode jdk_68_method_9_code 1 = .ok (.getfield 15, 3) := by decide +kernel
theorem dEN_4 : decode jdk_68_method_9_code 4 = .ok (.arraylength, 1) := by decide +kernel
theorem dEN_5 : decode jdk_68_method_9_code 5 = .ok (.aload_n 0, 1) := by decide +kernel
theorem dEN_6 : decode jdk_68_method_9_code 6 = .ok (.getfield 22, 3) := by decide +kernel
theorem dEN_9 : decode jdk_68_method_9_code 9 = .ok (.ishr, 1) := by decide +kernel
theorem dEN_10 : decode jdk_68_method_9_code 10 = .ok (.istore_n 2, 1) := by decide +kernel
theorem dEN_11 : decode jdk_68_method_9_code 11 = .ok (.iload_n 1, 1) := by decide +kernel
theorem dEN_12 : decode jdk_68_method_9_code 12 = .ok (.iload_n 2, 1) := by decide +kernel
theorem dEN_13 : decode jdk_68_method_9_code 13 = .ok (.isub, 1) := by decide +kernel
theorem dEN_14 : decode jdk_68_method_9_code 14 = .ok (.ifCond .le 24, 3) := by decide +kernel
theorem dEN_38 : decode jdk_68_method_9_code 38 = .ok (.return_, 1) := by decide +kernel
theorem dFS_0 : decode jdk_41_method_13_code 0 = .ok (.iload_n 2, 1) := by decide +kernel
theorem dFS_1 : decode jdk_41_method_13_code 1 = .ok (.iload_n 0, 1) := by decide +kernel
theorem dFS_2 : decode jdk_41_method_13_code 2 = .ok (.ior, 1) := by decide +kernel
theorem dFS_3 : decode jdk_41_method_13_code 3 = .ok (.iload_n 1, 1) := by decide +kernel
theorem dFS_4 : decode jdk_41_method_13_code 4 = .ok (.ior, 1) := by decide +kernel
theorem dFS_5 : decode jdk_41_method_13_code 5 = .ok (.ifCond .lt 10, 3) := by decide +kernel
theorem dFS_8 : decode jdk_41_method_13_code 8 = .ok (.iload_n 1, 1) := by decide +kernel
theorem dFS_9 : decode jdk_41_method_13_code 9 = .ok (.iload_n 2, 1) := by decide +kernel
theorem dFS_10 : decode jdk_41_method_13_code 10 = .ok (.iload_n 0, 1) := by decide +kernel
theorem dFS_11 : decode jdk_41_method_13_code 11 = .ok (.isub, 1) := by decide +kernel
theorem dFS_12 : decode jdk_41_method_13_code 12 = .ok (.if_icmp .le 11, 3) := by decide +kernel
theorem dFS_23 : decode jdk_41_method_13_code 23 = .ok (.iload_n 0, 1) := by decide +kernel
theorem dFS_24 : decode jdk_41_method_13_code 24 = .ok (.ireturn, 1) := by decide +kernel
theorem dCQ_0 : decode jdk_42_method_157_code 0 = .ok (.iload_n 0, 1) := by decide +kernel
theorem dCQ_1 : decode jdk_42_method_157_code 1 = .ok (.iload_n 1, 1) := by decide +kernel
theorem dCQ_2 : decode jdk_42_method_157_code 2 = .ok (.iload_n 2, 1) := by decide +kernel
theorem dCQ_3 : decode jdk_42_method_157_code 3 = .ok (.getstatic 1053, 3) := by decide +kernel
theorem dCQ_6 : decode jdk_42_method_157_code 6 = .ok (.invokestatic 1065, 3) := by decide +kernel
theorem dCQ_9 : decode jdk_42_method_157_code 9 = .ok (.ireturn, 1) := by decide +kernel
theorem dUL_0 : decode jdk_52_method_6_code 0 = .ok (.aload_n 0, 1) := by decide +kernel
theorem dUL_1 : decode jdk_52_method_6_code 1 = .ok (.arraylength, 1) := by decide +kernel
theorem dUL_2 : decode jdk_52_method_6_code 2 = .ok (.iconst 1, 1) := by decide +kernel
theorem dUL_3 : decode jdk_52_method_6_code 3 = .ok (.ishr, 1) := by decide +kernel
theorem dUL_4 : decode jdk_52_method_6_code 4 = .ok (.ireturn, 1) := by decide +kernel
theorem dCU_0 : decode jdk_52_method_94_code 0 = .ok (.iload_n 0, 1) := by decide +kernel
theorem dCU_1 : decode jdk_52_method_94_code 1 = .ok (.iload_n 1, 1) := by decide +kernel
theorem dCU_2 : decode jdk_52_method_94_code 2 = .ok (.aload_n 2, 1) := by decide +kernel
theorem dCU_3 : decode jdk_52_method_94_code 3 = .ok (.invokestatic 48, 3) := by decide +kernel
theorem dCU_6 : decode jdk_52_method_94_code 6 = .ok (.invokestatic 419, 3) := by decide +kernel
theorem dCU_9 : decode jdk_52_method_94_code 9 = .ok (.pop, 1) := by decide +kernel
theorem dCU_10 : decode jdk_52_method_94_code 10 = .ok (.return_, 1) := by decide +kernel
theorem dUI_10 : decode jdk_52_method_86_code 10 = .ok (.iload 5, 2) := by decide +kernel
theorem dUI_12 : decode jdk_52_method_86_code 12 = .ok (.iload 4, 2) := by decide +kernel
theorem dUI_14 : decode jdk_52_method_86_code 14 = .ok (.if_icmp .ge 27, 3) := by decide +kernel
theorem dUI_41 : decode jdk_52_method_86_code 41 = .ok (.return_, 1) := by decide +kernel
theorem dUI_17 : decode jdk_52_method_86_code 17 = .ok (.aload_n 2, 1) := by decide +kernel
theorem dUI_18 : decode jdk_52_method_86_code 18 = .ok (.iload_n 3, 1) := by decide +kernel
theorem dUI_19 : decode jdk_52_method_86_code 19 = .ok (.iinc 3 1, 3) := by decide +kernel
theorem dUI_22 : decode jdk_52_method_86_code 22 = .ok (.aload_n 0, 1) := by decide +kernel
theorem dUI_23 : decode jdk_52_method_86_code 23 = .ok (.iload_n 1, 1) := by decide +kernel
theorem dUI_24 : decode jdk_52_method_86_code 24 = .ok (.iinc 1 1, 3) := by decide +kernel
theorem dUI_27 : decode jdk_52_method_86_code 27 = .ok (.baload, 1) := by decide +kernel
theorem dUI_28 : decode jdk_52_method_86_code 28 = .ok (.sipush 255, 3) := by decide +kernel
theorem dUI_31 : decode jdk_52_method_86_code 31 = .ok (.iand, 1) := by decide +kernel
theorem dUI_32 : decode jdk_52_method_86_code 32 = .ok (.invokestatic 111, 3) := by decide +kernel
theorem dUI_35 : decode jdk_52_method_86_code 35 = .ok (.iinc 5 1, 3) := by decide +kernel
theorem dUI_38 : decode jdk_52_method_86_code 38 = .ok (.goto (-28), 3) := by decide +kernel
theorem dUI_0 : decode jdk_52_method_86_code 0 = .ok (.iload_n 3, 1) := by decide +kernel
theorem dUI_1 : decode jdk_52_method_86_code 1 = .ok (.iload 4, 2) := by decide +kernel
theorem dUI_3 : decode jdk_52_method_86_code 3 = .ok (.aload_n 2, 1) := by decide +kernel
theorem dUI_4 : decode jdk_52_method_86_code 4 = .ok (.invokestatic 173, 3) := by decide +kernel
theorem dUI_7 : decode jdk_52_method_86_code 7 = .ok (.iconst 0, 1) := by decide +kernel
theorem dUI_8 : decode jdk_52_method_86_code 8 = .ok (.istore 5, 2) := by decide +kernel
theorem dLI_0 : decode jdk_43_method_50_code 0 = .ok (.aload_n 0, 1) := by decide +kernel
theorem dLI_1 : decode jdk_43_method_50_code 1 = .ok (.iload_n 1, 1) := by decide +kernel
theorem dLI_2 : decode jdk_43_method_50_code 2 = .ok (.aload_n 2, 1) := by decide +kernel
theorem dLI_3 : decode jdk_43_method_50_code 3 = .ok (.iload_n 3, 1) := by decide +kernel
theorem dLI_4 : decode jdk_43_method_50_code 4 = .ok (.iload 4, 2) := by decide +kernel
theorem dLI_6 : decode jdk_43_method_50_code 6 = .ok (.invokestatic 240, 3) := by decide +kernel
theorem dLI_9 : decode jdk_43_method_50_code 9 = .ok (.return_, 1) := by decide +kernel
theorem dAF_0 : decode jdk_68_method_11_code 0 = .ok (.aload_n 0, 1) := by decide +kernel
theorem dAF_1 : decode jdk_68_method_11_code 1 = .ok (.invokevirtual 83, 3) := by decide +kernel
theorem dAF_4 : decode jdk_68_method_11_code 4 = .ok (.ifCond .ne 4, 3) := by decide +kernel
theorem dAF_8 : decode jdk_68_method_11_code 8 = .ok (.aload_n 0, 1) := by decide +kernel
theorem dAF_9 : decode jdk_68_method_11_code 9 = .ok (.getfield 15, 3) := by decide +kernel
theorem dAF_12 : decode jdk_68_method_11_code 12 = .ok (.arraylength, 1) := by decide +kernel
theorem dAF_13 : decode jdk_68_method_11_code 13 = .ok (.invokestatic 26, 3) := by decide +kernel
theorem dAF_16 : decode jdk_68_method_11_code 16 = .ok (.astore_n 1, 1) := by decide +kernel
theorem dAF_17 : decode jdk_68_method_11_code 17 = .ok (.aload_n 0, 1) := by decide +kernel
theorem dAF_18 : decode jdk_68_method_11_code 18 = .ok (.getfield 15, 3) := by decide +kernel
theorem dAF_21 : decode jdk_68_method_11_code 21 = .ok (.iconst 0, 1) := by decide +kernel
theorem dAF_22 : decode jdk_68_method_11_code 22 = .ok (.aload_n 1, 1) := by decide +kernel
theorem dAF_23 : decode jdk_68_method_11_code 23 = .ok (.iconst 0, 1) := by decide +kernel
theorem dAF_24 : decode jdk_68_method_11_code 24 = .ok (.aload_n 0, 1) := by decide +kernel
theorem dAF_25 : decode jdk_68_method_11_code 25 = .ok (.getfield 79, 3) := by decide +kernel
theorem dAF_28 : decode jdk_68_method_11_code 28 = .ok (.invokestatic 125, 3) := by decide +kernel
theorem dAF_31 : decode jdk_68_method_11_code 31 = .ok (.aload_n 0, 1) := by decide +kernel
theorem dAF_32 : decode jdk_68_method_11_code 32 = .ok (.aload_n 1, 1) := by decide +kernel
theorem dAF_33 : decode jdk_68_method_11_code 33 = .ok (.putfield 15, 3) := by decide +kernel
theorem dAF_36 : decode jdk_68_method_11_code 36 = .ok (.aload_n 0, 1) := by decide +kernel
theorem dAF_37 : decode jdk_68_method_11_code 37 = .ok (.iconst 1, 1) := by decide +kernel
theorem dAF_38 : decode jdk_68_method_11_code 38 = .ok (.putfield 22, 3) := by decide +kernel
theorem dAF_41 : decode jdk_68_method_11_code 41 = .ok (.return_, 1) := by decide +kernel
theorem dAF_7 : decode jdk_68_method_11_code 7 = .ok (.return_, 1) := by decide +kernel
theorem dIN_0 : decode jdk_68_method_71_code 0 = .ok (.getstatic 18, 3) := by decide +kernel
theorem dIN_3 : decode jdk_68_method_71_code 3 = .ok (.ifCond .eq 18, 3) := by decide +kernel
theorem dIN_6 : decode jdk_68_method_71_code 6 = .ok (.aload_n 0, 1) := by decide +kernel
theorem dIN_7 : decode jdk_68_method_71_code 7 = .ok (.getfield 22, 3) := by decide +kernel
theorem dIN_10 : decode jdk_68_method_71_code 10 = .ok (.aload_n 1, 1) := by decide +kernel
theorem dIN_11 : decode jdk_68_method_71_code 11 = .ok (.invokevirtual 40, 3) := by decide +kernel
theorem dIN_14 : decode jdk_68_method_71_code 14 = .ok (.if_icmp .eq 7, 3) := by decide +kernel
theorem dIN_21 : decode jdk_68_method_71_code 21 = .ok (.return_, 1) := by decide +kernel
theorem dIN_17 : decode jdk_68_method_71_code 17 = .ok (.aload_n 0, 1) := by decide +kernel
theorem dIN_18 : decode jdk_68_method_71_code 18 = .ok (.invokevirtual 195, 3) := by decide +kernel
theorem dGB_0 : decode jdk_42_method_147_code 0 = .ok (.aload_n 0, 1) := by decide +kernel
theorem dGB_1 : decode jdk_42_method_147_code 1 = .ok (.invokevirtual 335, 3) := by decide +kernel
theorem dGB_4 : decode jdk_42_method_147_code 4 = .ok (.iload_n 3, 1) := by decide +kernel
theorem dGB_5 : decode jdk_42_method_147_code 5 = .ok (.if_icmp .ne 23, 3) := by decide +kernel
theorem dGB_8 : decode jdk_42_method_147_code 8 = .ok (.aload_n 0, 1) := by decide +kernel
theorem dGB_9 : decode jdk_42_method_147_code 9 = .ok (.getfield 9, 3) := by decide +kernel
theorem dGB_12 : decode jdk_42_method_147_code 12 = .ok (.iconst 0, 1) := by decide +kernel
theorem dGB_13 : decode jdk_42_method_147_code 13 = .ok (.aload_n 1, 1) := by decide +kernel
theorem dGB_14 : decode jdk_42_method_147_code 14 = .ok (.iload_n 2, 1) := by decide +kernel
theorem dGB_15 : decode jdk_42_method_147_code 15 = .ok (.iload_n 3, 1) := by decide +kernel
theorem dGB_16 : decode jdk_42_method_147_code 16 = .ok (.ishl, 1) := by decide +kernel
theorem dGB_17 : decode jdk_42_method_147_code 17 = .ok (.aload_n 0, 1) := by decide +kernel
theorem dGB_18 : decode jdk_42_method_147_code 18 = .ok (.getfield 9, 3) := by decide +kernel
theorem dGB_21 : decode jdk_42_method_147_code 21 = .ok (.arraylength, 1) := by decide +kernel
theorem dGB_22 : decode jdk_42_method_147_code 22 = .ok (.invokestatic 212, 3) := by decide +kernel
theorem dGB_25 : decode jdk_42_method_147_code 25 = .ok (.goto 18, 3) := by decide +kernel
theorem dGB_43 : decode jdk_42_method_147_code 43 = .ok (.return_, 1) := by decide +kernel
theorem dGB_28 : decode jdk_42_method_147_code 28 = .ok (.aload_n 0, 1) := by decide +kernel
theorem dGB_29 : decode jdk_42_method_147_code 29 = .ok (.getfield 9, 3) := by decide +kernel
theorem dGB_32 : decode jdk_42_method_147_code 32 = .ok (.iconst 0, 1) := by decide +kernel
theorem dGB_33 : decode jdk_42_method_147_code 33 = .ok (.aload_n 1, 1) := by decide +kernel
theorem dGB_34 : decode jdk_42_method_147_code 34 = .ok (.iload_n 2, 1) := by decide +kernel
theorem dGB_35 : decode jdk_42_method_147_code 35 = .ok (.aload_n 0, 1) := by decide +kernel
theorem dGB_36 : decode jdk_42_method_147_code 36 = .ok (.getfield 9, 3) := by decide +kernel
theorem dGB_39 : decode jdk_42_method_147_code 39 = .ok (.arraylength, 1) := by decide +kernel
theorem dGB_40 : decode jdk_42_method_147_code 40 = .ok (.invokestatic 106, 3) := by decide +kernel
theorem dPS_0 : decode jdk_68_method_73_code 0 = .ok (.aload_n 0, 1) := by decide +kernel
theorem dPS_1 : decode jdk_68_method_73_code 1 = .ok (.aload_n 2, 1) := by decide +kernel
theorem dPS_2 : decode jdk_68_method_73_code 2 = .ok (.invokevirtual 397, 3) := by decide +kernel
theorem dPS_5 : decode jdk_68_method_73_code 5 = .ok (.aload_n 2, 1) := by decide +kernel
theorem dPS_6 : decode jdk_68_method_73_code 6 = .ok (.aload_n 0, 1) := by decide +kernel
theorem dPS_7 : decode jdk_68_method_73_code 7 = .ok (.getfield 15, 3) := by decide +kernel
theorem dPS_10 : decode jdk_68_method_73_code 10 = .ok (.iload_n 1, 1) := by decide +kernel
theorem dPS_11 : decode jdk_68_method_73_code 11 = .ok (.aload_n 0, 1) := by decide +kernel
theorem dPS_12 : decode jdk_68_method_73_code 12 = .ok (.getfield 22, 3) := by decide +kernel
theorem dPS_15 : decode jdk_68_method_73_code 15 = .ok (.invokevirtual 399, 3) := by decide +kernel
theorem dPS_18 : decode jdk_68_method_73_code 18 = .ok (.return_, 1) := by decide +kernel
theorem dAA_0 : decode jdk_68_method_22_code 0 = .ok (.aload_n 1, 1) := by decide +kernel
theorem dAA_1 : decode jdk_68_method_22_code 1 = .ok (.ifnonnull 8, 3) := by decide +kernel
theorem dAA_9 : decode jdk_68_method_22_code 9 = .ok (.aload_n 1, 1) := by decide +kernel
theorem dAA_10 : decode jdk_68_method_22_code 10 = .ok (.invokevirtual 32, 3) := by decide +kernel
theorem dAA_13 : decode jdk_68_method_22_code 13 = .ok (.istore_n 2, 1) := by decide +kernel
theorem dAA_14 : decode jdk_68_method_22_code 14 = .ok (.aload_n 0, 1) := by decide +kernel
theorem dAA_15 : decode jdk_68_method_22_code 15 = .ok (.aload_n 0, 1) := by decide +kernel
theorem dAA_16 : decode jdk_68_method_22_code 16 = .ok (.getfield 79, 3) := by decide +kernel
theorem dAA_19 : decode jdk_68_method_22_code 19 = .ok (.iload_n 2, 1) := by decide +kernel
theorem dAA_20 : decode jdk_68_method_22_code 20 = .ok (.iadd, 1) := by decide +kernel
theorem dAA_21 : decode jdk_68_method_22_code 21 = .ok (.invokevirtual 100, 3) := by decide +kernel
theorem dAA_24 : decode jdk_68_method_22_code 24 = .ok (.aload_n 0, 1) := by decide +kernel
theorem dAA_25 : decode jdk_68_method_22_code 25 = .ok (.aload_n 0, 1) := by decide +kernel
theorem dAA_26 : decode jdk_68_method_22_code 26 = .ok (.getfield 79, 3) := by decide +kernel
theorem dAA_29 : decode jdk_68_method_22_code 29 = .ok (.aload_n 1, 1) := by decide +kernel
theorem dAA_30 : decode jdk_68_method_22_code 30 = .ok (.invokevirtual 208, 3) := by decide +kernel
theorem dAA_33 : decode jdk_68_method_22_code 33 = .ok (.aload_n 0, 1) := by decide +kernel
theorem dAA_34 : decode jdk_68_method_22_code 34 = .ok (.dup, 1) := by decide +kernel
theorem dAA_35 : decode jdk_68_method_22_code 35 = .ok (.getfield 79, 3) := by decide +kernel
theorem dAA_38 : decode jdk_68_method_22_code 38 = .ok (.iload_n 2, 1) := by decide +kernel
theorem dAA_39 : decode jdk_68_method_22_code 39 = .ok (.iadd, 1) := by decide +kernel
theorem dAA_40 : decode jdk_68_method_22_code 40 = .ok (.putfield 79, 3) := by decide +kernel
theorem dAA_43 : decode jdk_68_method_22_code 43 = .ok (.aload_n 0, 1) := by decide +kernel
theorem dAA_44 : decode jdk_68_method_22_code 44 = .ok (.areturn, 1) := by decide +kernel
theorem dAB_0 : decode jdk_67_method_7_code 0 = .ok (.aload_n 0, 1) := by decide +kernel
theorem dAB_1 : decode jdk_67_method_7_code 1 = .ok (.aload_n 1, 1) := by decide +kernel
theorem dAB_2 : decode jdk_67_method_7_code 2 = .ok (.invokespecial 29, 3) := by decide +kernel
theorem dAB_5 : decode jdk_67_method_7_code 5 = .ok (.pop, 1) := by decide +kernel
theorem dAB_6 : decode jdk_67_method_7_code 6 = .ok (.aload_n 0, 1) := by decide +kernel
theorem dAB_7 : decode jdk_67_method_7_code 7 = .ok (.areturn, 1) := by decide +kernel
theorem dGV_0 : decode jdk_68_method_64_code 0 = .ok (.aload_n 0, 1) := by decide +kernel
theorem dGV_1 : decode jdk_68_method_64_code 1 = .ok (.getfield 15, 3) := by decide +kernel
theorem dGV_4 : decode jdk_68_method_64_code 4 = .ok (.areturn, 1) := by decide +kernel
theorem dAL_0 : decode jdk_68_method_6_code 0 = .ok (.aload_n 0, 1) := by decide +kernel
theorem dAL_1 : decode jdk_68_method_6_code 1 = .ok (.getfield 79, 3) := by decide +kernel
theorem dAL_4 : decode jdk_68_method_6_code 4 = .ok (.ireturn, 1) := by decide +kernel
theorem dBN_0 : decode jdk_67_method_93_code 0 = .ok (.aload_n 0, 1) := by decide +kernel
theorem dBN_1 : decode jdk_67_method_93_code 1 = .ok (.invokespecial 343, 3) := by decide +kernel
theorem dBN_4 : decode jdk_67_method_93_code 4 = .ok (.ireturn, 1) := by decide +kernel
theorem dI3_0 : decode jdk_42_method_150_code 0 = .ok (.aload_n 0, 1) := by decide +kernel
theorem dI3_1 : decode jdk_42_method_150_code 1 = .ok (.invokespecial 1, 3) := by decide +kernel
theorem dI3_4 : decode jdk_42_method_150_code 4 = .ok (.aload_n 1, 1) := by decide +kernel
theorem dI3_5 : decode jdk_42_method_150_code 5 = .ok (.invokevirtual 552, 3) := by decide +kernel
theorem dI3_8 : decode jdk_42_method_150_code 8 = .ok (.astore_n 3, 1) := by decide +kernel
theorem dI3_9 : decode jdk_42_method_150_code 9 = .ok (.aload_n 1, 1) := by decide +kernel
theorem dI3_10 : decode jdk_42_method_150_code 10 = .ok (.invokevirtual 549, 3) := by decide +kernel
theorem dI3_13 : decode jdk_42_method_150_code 13 = .ok (.istore 4, 2) := by decide +kernel
theorem dI3_15 : decode jdk_42_method_150_code 15 = .ok (.aload_n 1, 1) := by decide +kernel
theorem dI3_16 : decode jdk_42_method_150_code 16 = .ok (.invokevirtual 1047, 3) := by decide +kernel
theorem dI3_19 : decode jdk_42_method_150_code 19 = .ok (.ifCond .eq 22, 3) := by decide +kernel
theorem dI3_22 : decode jdk_42_method_150_code 22 = .ok (.aload_n 0, 1) := by decide +kernel
theorem dI3_23 : decode jdk_42_method_150_code 23 = .ok (.iconst 0, 1) := by decide +kernel
theorem dI3_24 : decode jdk_42_method_150_code 24 = .ok (.putfield 15, 3) := by decide +kernel
theorem dI3_27 : decode jdk_42_method_150_code 27 = .ok (.aload_n 0, 1) := by decide +kernel
theorem dI3_28 : decode jdk_42_method_150_code 28 = .ok (.aload_n 3, 1) := by decide +kernel
theorem dI3_29 : decode jdk_42_method_150_code 29 = .ok (.iconst 0, 1) := by decide +kernel
theorem dI3_30 : decode jdk_42_method_150_code 30 = .ok (.iload 4, 2) := by decide +kernel
theorem dI3_32 : decode jdk_42_method_150_code 32 = .ok (.invokestatic 54, 3) := by decide +kernel
theorem dI3_35 : decode jdk_42_method_150_code 35 = .ok (.putfield 9, 3) := by decide +kernel
theorem dI3_38 : decode jdk_42_method_150_code 38 = .ok (.goto 59, 3) := by decide +kernel
theorem dI3_97 : decode jdk_42_method_150_code 97 = .ok (.return_, 1) := by decide +kernel
theorem dI3_41 : decode jdk_42_method_150_code 41 = .ok (.getstatic 38, 3) := by decide +kernel
theorem dI3_44 : decode jdk_42_method_150_code 44 = .ok (.ifCond .eq 35, 3) := by decide +kernel
theorem dI3_47 : decode jdk_42_method_150_code 47 = .ok (.aload_n 1, 1) := by decide +kernel
theorem dI3_48 : decode jdk_42_method_150_code 48 = .ok (.getfield 1048, 3) := by decide +kernel
theorem dI3_51 : decode jdk_42_method_150_code 51 = .ok (.ifCond .eq 28, 3) := by decide +kernel
theorem dI3_79 : decode jdk_42_method_150_code 79 = .ok (.aload_n 0, 1) := by decide +kernel
theorem dI3_80 : decode jdk_42_method_150_code 80 = .ok (.iconst 1, 1) := by decide +kernel
theorem dI3_81 : decode jdk_42_method_150_code 81 = .ok (.putfield 15, 3) := by decide +kernel
theorem dI3_84 : decode jdk_42_method_150_code 84 = .ok (.aload_n 0, 1) := by decide +kernel
theorem dI3_85 : decode jdk_42_method_150_code 85 = .ok (.aload_n 3, 1) := by decide +kernel
theorem dI3_86 : decode jdk_42_method_150_code 86 = .ok (.iconst 0, 1) := by decide +kernel
theorem dI3_87 : decode jdk_42_method_150_code 87 = .ok (.iload 4, 2) := by decide +kernel
theorem dI3_89 : decode jdk_42_method_150_code 89 = .ok (.iconst 1, 1) := by decide +kernel
theorem dI3_90 : decode jdk_42_method_150_code 90 = .ok (.ishl, 1) := by decide +kernel
theorem dI3_91 : decode jdk_42_method_150_code 91 = .ok (.invokestatic 54, 3) := by decide +kernel
theorem dI3_94 : decode jdk_42_method_150_code 94 = .ok (.putfield 9, 3) := by decide +kernel
theorem dI2_0 : decode jdk_42_method_53_code 0 = .ok (.aload_n 0, 1) := by decide +kernel
theorem dI2_1 : decode jdk_42_method_53_code 1 = .ok (.aload_n 1, 1) := by decide +kernel
theorem dI2_2 : decode jdk_42_method_53_code 2 = .ok (.aconst_null, 1) := by decide +kernel
theorem dI2_3 : decode jdk_42_method_53_code 3 = .ok (.invokespecial 489, 3) := by decide +kernel
theorem dI2_6 : decode jdk_42_method_53_code 6 = .ok (.return_, 1) := by decide +kernel
theorem dTS_0 : decode jdk_67_method_42_code 0 = .ok (.new 18, 3) := by decide +kernel
theorem dTS_3 : decode jdk_67_method_42_code 3 = .ok (.dup, 1) := by decide +kernel
theorem dTS_4 : decode jdk_67_method_42_code 4 = .ok (.aload_n 0, 1) := by decide +kernel
theorem dTS_5 : decode jdk_67_method_42_code 5 = .ok (.invokespecial 137, 3) := by decide +kernel
theorem dTS_8 : decode jdk_67_method_42_code 8 = .ok (.areturn, 1) := by decide +kernel
theorem dCR_17 : decode jdk_65_method_132_code 17 = .ok (.aload_n 0, 1) := by decide +kernel
theorem dCR_18 : decode jdk_65_method_132_code 18 = .ok (.invokevirtual 310, 3) := by decide +kernel
theorem dCR_21 : decode jdk_65_method_132_code 21 = .ok (.checkcast 311, 3) := by decide +kernel
theorem dCR_24 : decode jdk_65_method_132_code 24 = .ok (.areturn, 1) := by decide +kernel
theorem dNN_0 : decode jdk_48_method_27_code 0 = .ok (.iload_n 0, 1) := by decide +kernel
theorem dNN_1 : decode jdk_48_method_27_code 1 = .ok (.iload_n 1, 1) := by decide +kernel
theorem dNN_2 : decode jdk_48_method_27_code 2 = .ok (.iload_n 2, 1) := by decide +kernel
theorem dNN_3 : decode jdk_48_method_27_code 3 = .ok (.invokestatic 194, 3) := by decide +kernel
theorem dNN_6 : decode jdk_48_method_27_code 6 = .ok (.iadd, 1) := by decide +kernel
theorem dNN_7 : decode jdk_48_method_27_code 7 = .ok (.istore_n 3, 1) := by decide +kernel
theorem dNN_8 : decode jdk_48_method_27_code 8 = .ok (.iconst 0, 1) := by decide +kernel
theorem dNN_9 : decode jdk_48_method_27_code 9 = .ok (.iload_n 3, 1) := by decide +kernel
theorem dNN_10 : decode jdk_48_method_27_code 10 = .ok (.if_icmp .ge 11, 3) := by decide +kernel
theorem dNN_13 : decode jdk_48_method_27_code 13 = .ok (.iload_n 3, 1) := by decide +kernel
theorem dNN_14 : decode jdk_48_method_27_code 14 = .ok (.ldc 200, 2) := by decide +kernel
theorem dNN_16 : decode jdk_48_method_27_code 16 = .ok (.if_icmp .gt 5, 3) := by decide +kernel
theorem dNN_19 : decode jdk_48_method_27_code 19 = .ok (.iload_n 3, 1) := by decide +kernel
theorem dNN_20 : decode jdk_48_method_27_code 20 = .ok (.ireturn, 1) := by decide +kernel
theorem dNC_0 : decode jdk_68_method_10_code 0 = .ok (.aload_n 0, 1) := by decide +kernel
theorem dNC_1 : decode jdk_68_method_10_code 1 = .ok (.getfield 15, 3) := by decide +kernel
theorem dNC_4 : decode jdk_68_method_10_code 4 = .ok (.arraylength, 1) := by decide +kernel
theorem dNC_5 : decode jdk_68_method_10_code 5 = .ok (.istore_n 2, 1) := by decide +kernel
theorem dNC_6 : decode jdk_68_method_10_code 6 = .ok (.iload_n 1, 1) := by decide +kernel
theorem dNC_7 : decode jdk_68_method_10_code 7 = .ok (.aload_n 0, 1) := by decide +kernel
theorem dNC_8 : decode jdk_68_method_10_code 8 = .ok (.getfield 22, 3) := by decide +kernel
theorem dNC_11 : decode jdk_68_method_10_code 11 = .ok (.ishl, 1) := by decide +kernel
theorem dNC_12 : decode jdk_68_method_10_code 12 = .ok (.istore_n 3, 1) := by decide +kernel
theorem dNC_13 : decode jdk_68_method_10_code 13 = .ok (.iload_n 3, 1) := by decide +kernel
theorem dNC_14 : decode jdk_68_method_10_code 14 = .ok (.iload_n 2, 1) := by decide +kernel
theorem dNC_15 : decode jdk_68_method_10_code 15 = .ok (.isub, 1) := by decide +kernel
theorem dNC_16 : decode jdk_68_method_10_code 16 = .ok (.istore 4, 2) := by decide +kernel
theorem dNC_18 : decode jdk_68_method_10_code 18 = .ok (.iload_n 2, 1) := by decide +kernel
theorem dNC_19 : decode jdk_68_method_10_code 19 = .ok (.iload 4, 2) := by decide +kernel
theorem dNC_21 : decode jdk_68_method_10_code 21 = .ok (.iload_n 2, 1) := by decide +kernel
theorem dNC_22 : decode jdk_68_method_10_code 22 = .ok (.iconst 2, 1) := by decide +kernel
theorem dNC_23 : decode jdk_68_method_10_code 23 = .ok (.aload_n 0, 1) := by decide +kernel
theorem dNC_24 : decode jdk_68_method_10_code 24 = .ok (.getfield 22, 3) := by decide +kernel
theorem dNC_27 : decode jdk_68_method_10_code 27 = .ok (.ishl, 1) := by decide +kernel
theorem dNC_28 : decode jdk_68_method_10_code 28 = .ok (.iadd, 1) := by decide +kernel
theorem dNC_29 : decode jdk_68_method_10_code 29 = .ok (.invokestatic 114, 3) := by decide +kernel
theorem dNC_32 : decode jdk_68_method_10_code 32 = .ok (.istore 5, 2) := by decide +kernel
theorem dNC_34 : decode jdk_68_method_10_code 34 = .ok (.iload 5, 2) := by decide +kernel
theorem dNC_36 : decode jdk_68_method_10_code 36 = .ok (.ldc 39, 2) := by decide +kernel
theorem dNC_38 : decode jdk_68_method_10_code 38 = .ok (.if_icmp .ne 13, 3) := by decide +kernel
theorem dNC_51 : decode jdk_68_method_10_code 51 = .ok (.iload 5, 2) := by decide +kernel
theorem dNC_53 : decode jdk_68_method_10_code 53 = .ok (.aload_n 0, 1) := by decide +kernel
theorem dNC_54 : decode jdk_68_method_10_code 54 = .ok (.getfield 22, 3) := by decide +kernel
theorem dNC_57 : decode jdk_68_method_10_code 57 = .ok (.ishr, 1) := by decide +kernel
theorem dNC_58 : decode jdk_68_method_10_code 58 = .ok (.ireturn, 1) := by decide +kernel
theorem dCP_0 : decode jdk_65_method_121_code 0 = .ok (.iload_n 1, 1) := by decide +kernel
theorem dCP_1 : decode jdk_65_method_121_code 1 = .ok (.aload_n 0, 1) := by decide +kernel
theorem dCP_2 : decode jdk_65_method_121_code 2 = .ok (.arraylength, 1) := by decide +kernel
theorem dCP_3 : decode jdk_65_method_121_code 3 = .ok (.if_icmp .ne 11, 3) := by decide +kernel
theorem dCP_14 : decode jdk_65_method_121_code 14 = .ok (.iload_n 1, 1) := by decide +kernel
theorem dCP_15 : decode jdk_65_method_121_code 15 = .ok (.newarray .byte, 2) := by decide +kernel
theorem dCP_17 : decode jdk_65_method_121_code 17 = .ok (.astore_n 2, 1) := by decide +kernel
theorem dCP_18 : decode jdk_65_method_121_code 18 = .ok (.aload_n 0, 1) := by decide +kernel
theorem dCP_19 : decode jdk_65_method_121_code 19 = .ok (.iconst 0, 1) := by decide +kernel
theorem dCP_20 : decode jdk_65_method_121_code 20 = .ok (.aload_n 2, 1) := by decide +kernel
theorem dCP_21 : decode jdk_65_method_121_code 21 = .ok (.iconst 0, 1) := by decide +kernel
theorem dCP_22 : decode jdk_65_method_121_code 22 = .ok (.aload_n 0, 1) := by decide +kernel
theorem dCP_23 : decode jdk_65_method_121_code 23 = .ok (.arraylength, 1) := by decide +kernel
theorem dCP_24 : decode jdk_65_method_121_code 24 = .ok (.iload_n 1, 1) := by decide +kernel
theorem dCP_25 : decode jdk_65_method_121_code 25 = .ok (.invokestatic 304, 3) := by decide +kernel
theorem dCP_28 : decode jdk_65_method_121_code 28 = .ok (.invokestatic 150, 3) := by decide +kernel
theorem dCP_31 : decode jdk_65_method_121_code 31 = .ok (.aload_n 2, 1) := by decide +kernel
theorem dCP_32 : decode jdk_65_method_121_code 32 = .ok (.areturn, 1) := by decide +kernel
theorem dEN_17 : decode jdk_68_method_9_code 17 = .ok (.aload_n 0, 1) := by decide +kernel
theorem dEN_18 : decode jdk_68_method_9_code 18 = .ok (.aload_n 0, 1) := by decide +kernel
theorem dEN_19 : decode jdk_68_method_9_code 19 = .ok (.getfield 15, 3) := by decide +kernel
theorem dEN_22 : decode jdk_68_method_9_code 22 = .ok (.aload_n 0, 1) := by decide +kernel
theorem dEN_23 : decode jdk_68_method_9_code 23 = .ok (.iload_n 1, 1) := by decide +kernel
theorem dEN_24 : decode jdk_68_method_9_code 24 = .ok (.invokevirtual 104, 3) := by decide +kernel
theorem dEN_27 : decode jdk_68_method_9_code 27 = .ok (.aload_n 0, 1) := by decide +kernel
theorem dEN_28 : decode jdk_68_method_9_code 28 = .ok (.getfield 22, 3) := by decide +kernel
theorem dEN_31 : decode jdk_68_method_9_code 31 = .ok (.ishl, 1) := by decide +kernel
theorem dEN_32 : decode jdk_68_method_9_code 32 = .ok (.invokestatic 108, 3) := by decide +kernel
theorem dEN_35 : decode jdk_68_method_9_code 35 = .ok (.putfield 15, 3) := by decide +kernel
theorem dPI_0 : decode jdk_41_method_11_code 0 = .ok (.iload_n 0, 1) := by decide +kernel
theorem dPI_1 : decode jdk_41_method_11_code 1 = .ok (.ifCond .lt 8, 3) := by decide +kernel
theorem dPI_4 : decode jdk_41_method_11_code 4 = .ok (.iload_n 0, 1) := by decide +kernel
theorem dPI_5 : decode jdk_41_method_11_code 5 = .ok (.iload_n 1, 1) := by decide +kernel
theorem dPI_6 : decode jdk_41_method_11_code 6 = .ok (.if_icmp .lt 10, 3) := by decide +kernel
theorem dPI_16 : decode jdk_41_method_11_code 16 = .ok (.iload_n 0, 1) := by decide +kernel
theorem dPI_17 : decode jdk_41_method_11_code 17 = .ok (.ireturn, 1) := by decide +kernel
theorem dCI_0 : decode jdk_42_method_155_code 0 = .ok (.iload_n 0, 1) := by decide +kernel
theorem dCI_1 : decode jdk_42_method_155_code 1 = .ok (.iload_n 1, 1) := by decide +kernel
theorem dCI_2 : decode jdk_42_method_155_code 2 = .ok (.getstatic 1053, 3) := by decide +kernel
theorem dCI_5 : decode jdk_42_method_155_code 5 = .ok (.invokestatic 1059, 3) := by decide +kernel
theorem dCI_8 : decode jdk_42_method_155_code 8 = .ok (.pop, 1) := by decide +kernel
theorem dCI_9 : decode jdk_42_method_155_code 9 = .ok (.return_, 1) := by decide +kernel
theorem dLA_0 : decode jdk_43_method_2_code 0 = .ok (.iload_n 1, 1) := by decide +kernel
theorem dLA_1 : decode jdk_43_method_2_code 1 = .ok (.aload_n 0, 1) := by decide +kernel
theorem dLA_2 : decode jdk_43_method_2_code 2 = .ok (.arraylength, 1) := by decide +kernel
theorem dLA_3 : decode jdk_43_method_2_code 3 = .ok (.invokestatic 9, 3) := by decide +kernel
theorem dLA_6 : decode jdk_43_method_2_code 6 = .ok (.aload_n 0, 1) := by decide +kernel
theorem dLA_7 : decode jdk_43_method_2_code 7 = .ok (.iload_n 1, 1) := by decide +kernel
theorem dLA_8 : decode jdk_43_method_2_code 8 = .ok (.baload, 1) := by decide +kernel
theorem dLA_9 : decode jdk_43_method_2_code 9 = .ok (.sipush 255, 3) := by decide +kernel
theorem dLA_12 : decode jdk_43_method_2_code 12 = .ok (.iand, 1) := by decide +kernel
theorem dLA_13 : decode jdk_43_method_2_code 13 = .ok (.i2c, 1) := by decide +kernel
theorem dLA_14 : decode jdk_43_method_2_code 14 = .ok (.ireturn, 1) := by decide +kernel
theorem dCA_0 : decode jdk_42_method_56_code 0 = .ok (.aload_n 0, 1) := by decide +kernel
theorem dCA_1 : decode jdk_42_method_56_code 1 = .ok (.invokevirtual 492, 3) := by decide +kernel
theorem dCA_4 : decode jdk_42_method_56_code 4 = .ok (.ifCond .eq 12, 3) := by decide +kernel
theorem dCA_7 : decode jdk_42_method_56_code 7 = .ok (.aload_n 0, 1) := by decide +kernel
theorem dCA_8 : decode jdk_42_method_56_code 8 = .ok (.getfield 9, 3) := by decide +kernel
theorem dCA_11 : decode jdk_42_method_56_code 11 = .ok (.iload_n 1, 1) := by decide +kernel
theorem dCA_12 : decode jdk_42_method_56_code 12 = .ok (.invokestatic 495, 3) := by decide +kernel
theorem dCA_15 : decode jdk_42_method_56_code 15 = .ok (.ireturn, 1) := by decide +kernel
theorem dUK_0 : decode jdk_52_method_91_code 0 = .ok (.iload_n 0, 1) := by decide +kernel
theorem dUK_1 : decode jdk_52_method_91_code 1 = .ok (.aload_n 1, 1) := by decide +kernel
theorem dUK_2 : decode jdk_52_method_91_code 2 = .ok (.invokestatic 48, 3) := by decide +kernel
theorem dUK_5 : decode jdk_52_method_91_code 5 = .ok (.invokestatic 414, 3) := by decide +kernel
theorem dUK_8 : decode jdk_52_method_91_code 8 = .ok (.return_, 1) := by decide +kernel
theorem dUA_0 : decode jdk_52_method_83_code 0 = .ok (.iload_n 1, 1) := by decide +kernel
theorem dUA_1 : decode jdk_52_method_83_code 1 = .ok (.aload_n 0, 1) := by decide +kernel
theorem dUA_2 : decode jdk_52_method_83_code 2 = .ok (.invokestatic 67, 3) := by decide +kernel
theorem dUA_5 : decode jdk_52_method_83_code 5 = .ok (.aload_n 0, 1) := by decide +kernel
theorem dUA_6 : decode jdk_52_method_83_code 6 = .ok (.iload_n 1, 1) := by decide +kernel
theorem dUA_7 : decode jdk_52_method_83_code 7 = .ok (.invokestatic 71, 3) := by decide +kernel
theorem dUA_10 : decode jdk_52_method_83_code 10 = .ok (.ireturn, 1) := by decide +kernel
theorem dCA_16 : decode jdk_42_method_56_code 16 = .ok (.aload_n 0, 1) := by decide +kernel
theorem dCA_17 : decode jdk_42_method_56_code 17 = .ok (.getfield 9, 3) := by decide +kernel
theorem dCA_20 : decode jdk_42_method_56_code 20 = .ok (.iload_n 1, 1) := by decide +kernel
theorem dCA_21 : decode jdk_42_method_56_code 21 = .ok (.invokestatic 498, 3) := by decide +kernel
theorem dCA_24 : decode jdk_42_method_56_code 24 = .ok (.ireturn, 1) := by decide +kernel
theorem dCE_0 : decode jdk_43_method_3_code 0 = .ok (.iload_n 0, 1) := by decide +kernel
theorem dCE_1 : decode jdk_43_method_3_code 1 = .ok (.sipush 255, 3) := by decide +kernel
theorem dCE_4 : decode jdk_43_method_3_code 4 = .ok (.if_icmp .gt 7, 3) := by decide +kernel
theorem dCE_11 : decode jdk_43_method_3_code 11 = .ok (.iconst 0, 1) := by decide +kernel
theorem dCE_12 : decode jdk_43_method_3_code 12 = .ok (.ireturn, 1) := by decide +kernel
theorem dCE_7 : decode jdk_43_method_3_code 7 = .ok (.iconst 1, 1) := by decide +kernel
theorem dCE_8 : decode jdk_43_method_3_code 8 = .ok (.goto 4, 3) := by decide +kernel
theorem dTL_0 : decode jdk_43_method_46_code 0 = .ok (.iconst 1, 1) := by decide +kernel
theorem dTL_1 : decode jdk_43_method_46_code 1 = .ok (.newarray .byte, 2) := by decide +kernel
theorem dTL_3 : decode jdk_43_method_46_code 3 = .ok (.dup, 1) := by decide +kernel
theorem dTL_4 : decode jdk_43_method_46_code 4 = .ok (.iconst 0, 1) := by decide +kernel
theorem dTL_5 : decode jdk_43_method_46_code 5 = .ok (.iload_n 0, 1) := by decide +kernel
theorem dTL_6 : decode jdk_43_method_46_code 6 = .ok (.i2b, 1) := by decide +kernel
theorem dTL_7 : decode jdk_43_method_46_code 7 = .ok (.bastore, 1) := by decide +kernel
theorem dTL_8 : decode jdk_43_method_46_code 8 = .ok (.areturn, 1) := by decide +kernel
theorem dT2_0 : decode jdk_52_method_24_code 0 = .ok (.iconst 2, 1) := by decide +kernel
theorem dT2_1 : decode jdk_52_method_24_code 1 = .ok (.newarray .byte, 2) := by decide +kernel
theorem dT2_3 : decode jdk_52_method_24_code 3 = .ok (.astore_n 1, 1) := by decide +kernel
theorem dT2_4 : decode jdk_52_method_24_code 4 = .ok (.aload_n 1, 1) := by decide +kernel
theorem dT2_5 : decode jdk_52_method_24_code 5 = .ok (.iconst 0, 1) := by decide +kernel
theorem dT2_6 : decode jdk_52_method_24_code 6 = .ok (.iload_n 0, 1) := by decide +kernel
theorem dT2_7 : decode jdk_52_method_24_code 7 = .ok (.invokestatic 111, 3) := by decide +kernel
theorem dT2_10 : decode jdk_52_method_24_code 10 = .ok (.aload_n 1, 1) := by decide +kernel
theorem dT2_11 : decode jdk_52_method_24_code 11 = .ok (.areturn, 1) := by decide +kernel
theorem dIB_0 : decode jdk_42_method_151_code 0 = .ok (.aload_n 0, 1) := by decide +kernel
theorem dIB_1 : decode jdk_42_method_151_code 1 = .ok (.invokespecial 1, 3) := by decide +kernel
theorem dIB_4 : decode jdk_42_method_151_code 4 = .ok (.aload_n 0, 1) := by decide +kernel
theorem dIB_5 : decode jdk_42_method_151_code 5 = .ok (.aload_n 1, 1) := by decide +kernel
theorem dIB_6 : decode jdk_42_method_151_code 6 = .ok (.putfield 9, 3) := by decide +kernel
theorem dIB_9 : decode jdk_42_method_151_code 9 = .ok (.aload_n 0, 1) := by decide +kernel
theorem dIB_10 : decode jdk_42_method_151_code 10 = .ok (.iload_n 2, 1) := by decide +kernel
theorem dIB_11 : decode jdk_42_method_151_code 11 = .ok (.putfield 15, 3) := by decide +kernel
theorem dIB_14 : decode jdk_42_method_151_code 14 = .ok (.return_, 1) := by decide +kernel
theorem dVO_0 : decode jdk_42_method_139_code 0 = .ok (.getstatic 38, 3) := by decide +kernel
theorem dVO_3 : decode jdk_42_method_139_code 3 = .ok (.ifCond .eq 23, 3) := by decide +kernel
theorem dVO_6 : decode jdk_42_method_139_code 6 = .ok (.iload_n 0, 1) := by decide +kernel
theorem dVO_7 : decode jdk_42_method_139_code 7 = .ok (.invokestatic 1015, 3) := by decide +kernel
theorem dVO_10 : decode jdk_42_method_139_code 10 = .ok (.ifCond .eq 16, 3) := by decide +kernel
theorem dVO_13 : decode jdk_42_method_139_code 13 = .ok (.new 10, 3) := by decide +kernel
theorem dVO_16 : decode jdk_42_method_139_code 16 = .ok (.dup, 1) := by decide +kernel
theorem dVO_17 : decode jdk_42_method_139_code 17 = .ok (.iload_n 0, 1) := by decide +kernel
theorem dVO_18 : decode jdk_42_method_139_code 18 = .ok (.invokestatic 1018, 3) := by decide +kernel
theorem dVO_21 : decode jdk_42_method_139_code 21 = .ok (.iconst 0, 1) := by decide +kernel
theorem dVO_22 : decode jdk_42_method_139_code 22 = .ok (.invokespecial 209, 3) := by decide +kernel
theorem dVO_25 : decode jdk_42_method_139_code 25 = .ok (.areturn, 1) := by decide +kernel
theorem dVO_26 : decode jdk_42_method_139_code 26 = .ok (.new 10, 3) := by decide +kernel
theorem dVO_29 : decode jdk_42_method_139_code 29 = .ok (.dup, 1) := by decide +kernel
theorem dVO_30 : decode jdk_42_method_139_code 30 = .ok (.iload_n 0, 1) := by decide +kernel
theorem dVO_31 : decode jdk_42_method_139_code 31 = .ok (.invokestatic 1021, 3) := by decide +kernel
theorem dVO_34 : decode jdk_42_method_139_code 34 = .ok (.iconst 1, 1) := by decide +kernel
theorem dVO_35 : decode jdk_42_method_139_code 35 = .ok (.invokespecial 209, 3) := by decide +kernel
theorem dVO_38 : decode jdk_42_method_139_code 38 = .ok (.areturn, 1) := by decide +kernel
theorem dSX_0 : decode method_3_code 0 = .ok (.aload_n 0, 1) := by decide +kernel
theorem dSX_1 : decode method_3_code 1 = .ok (.iload_n 1, 1) := by decide +kernel
theorem dSX_2 : decode method_3_code 2 = .ok (.invokevirtual 30, 3) := by decide +kernel
theorem dSX_5 : decode method_3_code 5 = .ok (.bipush 58, 2) := by decide +kernel
theorem dSX_7 : decode method_3_code 7 = .ok (.if_icmp .ne 197, 3) := by decide +kernel
theorem dSX_10 : decode method_3_code 10 = .ok (.aload_n 0, 1) := by decide +kernel
theorem dSX_11 : decode method_3_code 11 = .ok (.iload_n 1, 1) := by decide +kernel
theorem dSX_12 : decode method_3_code 12 = .ok (.iconst 1, 1) := by decide +kernel
theorem dSX_13 : decode method_3_code 13 = .ok (.iadd, 1) := by decide +kernel
theorem dSX_14 : decode method_3_code 14 = .ok (.invokevirtual 30, 3) := by decide +kernel
theorem dSX_17 : decode method_3_code 17 = .ok (.bipush 32, 2) := by decide +kernel
theorem dSX_19 : decode method_3_code 19 = .ok (.if_icmp .ne 185, 3) := by decide +kernel
theorem dSX_22 : decode method_3_code 22 = .ok (.aload_n 0, 1) := by decide +kernel
theorem dSX_23 : decode method_3_code 23 = .ok (.iload_n 1, 1) := by decide +kernel
theorem dSX_24 : decode method_3_code 24 = .ok (.iconst 2, 1) := by decide +kernel
theorem dSX_25 : decode method_3_code 25 = .ok (.iadd, 1) := by decide +kernel
theorem dSX_26 : decode method_3_code 26 = .ok (.invokevirtual 30, 3) := by decide +kernel
theorem dSX_29 : decode method_3_code 29 = .ok (.bipush 110, 2) := by decide +kernel
theorem dSX_31 : decode method_3_code 31 = .ok (.if_icmp .ne 173, 3) := by decide +kernel
theorem dSX_34 : decode method_3_code 34 = .ok (.aload_n 0, 1) := by decide +kernel
theorem dSX_35 : decode method_3_code 35 = .ok (.iload_n 1, 1) := by decide +kernel
theorem dSX_36 : decode method_3_code 36 = .ok (.iconst 3, 1) := by decide +kernel
theorem dSX_37 : decode method_3_code 37 = .ok (.iadd, 1) := by decide +kernel
theorem dSX_38 : decode method_3_code 38 = .ok (.invokevirtual 30, 3) := by decide +kernel
theorem dSX_41 : decode method_3_code 41 = .ok (.bipush 111, 2) := by decide +kernel
theorem dSX_43 : decode method_3_code 43 = .ok (.if_icmp .ne 161, 3) := by decide +kernel
theorem dSX_46 : decode method_3_code 46 = .ok (.aload_n 0, 1) := by decide +kernel
theorem dSX_47 : decode method_3_code 47 = .ok (.iload_n 1, 1) := by decide +kernel
theorem dSX_48 : decode method_3_code 48 = .ok (.iconst 4, 1) := by decide +kernel
theorem dSX_49 : decode method_3_code 49 = .ok (.iadd, 1) := by decide +kernel
theorem dSX_50 : decode method_3_code 50 = .ok (.invokevirtual 30, 3) := by decide +kernel
theorem dSX_53 : decode method_3_code 53 = .ok (.bipush 116, 2) := by decide +kernel
theorem dSX_55 : decode method_3_code 55 = .ok (.if_icmp .ne 149, 3) := by decide +kernel
theorem dSX_58 : decode method_3_code 58 = .ok (.aload_n 0, 1) := by decide +kernel
theorem dSX_59 : decode method_3_code 59 = .ok (.iload_n 1, 1) := by decide +kernel
theorem dSX_60 : decode method_3_code 60 = .ok (.iconst 5, 1) := by decide +kernel
theorem dSX_61 : decode method_3_code 61 = .ok (.iadd, 1) := by decide +kernel
theorem dSX_62 : decode method_3_code 62 = .ok (.invokevirtual 30, 3) := by decide +kernel
theorem dSX_65 : decode method_3_code 65 = .ok (.bipush 32, 2) := by decide +kernel
theorem dSX_67 : decode method_3_code 67 = .ok (.if_icmp .ne 137, 3) := by decide +kernel
theorem dSX_70 : decode method_3_code 70 = .ok (.aload_n 0, 1) := by decide +kernel
theorem dSX_71 : decode method_3_code 71 = .ok (.iload_n 1, 1) := by decide +kernel
theorem dSX_72 : decode method_3_code 72 = .ok (.bipush 6, 2) := by decide +kernel
theorem dSX_74 : decode method_3_code 74 = .ok (.iadd, 1) := by decide +kernel
theorem dSX_75 : decode method_3_code 75 = .ok (.invokevirtual 30, 3) := by decide +kernel
theorem dSX_78 : decode method_3_code 78 = .ok (.bipush 85, 2) := by decide +kernel
theorem dSX_80 : decode method_3_code 80 = .ok (.if_icmp .ne 124, 3) := by decide +kernel
theorem dSX_83 : decode method_3_code 83 = .ok (.aload_n 0, 1) := by decide +kernel
theorem dSX_84 : decode method_3_code 84 = .ok (.iload_n 1, 1) := by decide +kernel
theorem dSX_85 : decode method_3_code 85 = .ok (.bipush 7, 2) := by decide +kernel
theorem dSX_87 : decode method_3_code 87 = .ok (.iadd, 1) := by decide +kernel
theorem dSX_88 : decode method_3_code 88 = .ok (.invokevirtual 30, 3) := by decide +kernel
theorem dSX_91 : decode method_3_code 91 = .ok (.bipush 84, 2) := by decide +kernel
theorem dSX_93 : decode method_3_code 93 = .ok (.if_icmp .ne 111, 3) := by decide +kernel
theorem dSX_96 : decode method_3_code 96 = .ok (.aload_n 0, 1) := by decide +kernel
theorem dSX_97 : decode method_3_code 97 = .ok (.iload_n 1, 1) := by decide +kernel
theorem dSX_98 : decode method_3_code 98 = .ok (.bipush 8, 2) := by decide +kernel
theorem dSX_100 : decode method_3_code 100 = .ok (.iadd, 1) := by decide +kernel
theorem dSX_101 : decode method_3_code 101 = .ok (.invokevirtual 30, 3) := by decide +kernel
theorem dSX_104 : decode method_3_code 104 = .ok (.bipush 70, 2) := by decide +kernel
theorem dSX_106 : decode method_3_code 106 = .ok (.if_icmp .ne 98, 3) := by decide +kernel
theorem dSX_109 : decode method_3_code 109 = .ok (.aload_n 0, 1) := by decide +kernel
theorem dSX_110 : decode method_3_code 110 = .ok (.iload_n 1, 1) := by decide +kernel
theorem dSX_111 : decode method_3_code 111 = .ok (.bipush 9, 2) := by decide +kernel
theorem dSX_113 : decode method_3_code 113 = .ok (.iadd, 1) := by decide +kernel
theorem dSX_114 : decode method_3_code 114 = .ok (.invokevirtual 30, 3) := by decide +kernel
theorem dSX_117 : decode method_3_code 117 = .ok (.bipush 45, 2) := by decide +kernel
theorem dSX_119 : decode method_3_code 119 = .ok (.if_icmp .ne 85, 3) := by decide +kernel
theorem dSX_122 : decode method_3_code 122 = .ok (.aload_n 0, 1) := by decide +kernel
theorem dSX_123 : decode method_3_code 123 = .ok (.iload_n 1, 1) := by decide +kernel
theorem dSX_124 : decode method_3_code 124 = .ok (.bipush 10, 2) := by decide +kernel
theorem dSX_126 : decode method_3_code 126 = .ok (.iadd, 1) := by decide +kernel
theorem dSX_127 : decode method_3_code 127 = .ok (.invokevirtual 30, 3) := by decide +kernel
theorem dSX_130 : decode method_3_code 130 = .ok (.bipush 56, 2) := by decide +kernel
theorem dSX_132 : decode method_3_code 132 = .ok (.if_icmp .ne 72, 3) := by decide +kernel
theorem dSX_135 : decode method_3_code 135 = .ok (.aload_n 0, 1) := by decide +kernel
theorem dSX_136 : decode method_3_code 136 = .ok (.iload_n 1, 1) := by decide +kernel
theorem dSX_137 : decode method_3_code 137 = .ok (.bipush 11, 2) := by decide +kernel
theorem dSX_139 : decode method_3_code 139 = .ok (.iadd, 1) := by decide +kernel
theorem dSX_140 : decode method_3_code 140 = .ok (.invokevirtual 30, 3) := by decide +kernel
theorem dSX_143 : decode method_3_code 143 = .ok (.bipush 32, 2) := by decide +kernel
theorem dSX_145 : decode method_3_code 145 = .ok (.if_icmp .ne 59, 3) := by decide +kernel
theorem dSX_148 : decode method_3_code 148 = .ok (.aload_n 0, 1) := by decide +kernel
theorem dSX_149 : decode method_3_code 149 = .ok (.iload_n 1, 1) := by decide +kernel
theorem dSX_150 : decode method_3_code 150 = .ok (.bipush 12, 2) := by decide +kernel
theorem dSX_152 : decode method_3_code 152 = .ok (.iadd, 1) := by decide +kernel
theorem dSX_153 : decode method_3_code 153 = .ok (.invokevirtual 30, 3) := by decide +kernel
theorem dSX_156 : decode method_3_code 156 = .ok (.bipush 116, 2) := by decide +kernel
theorem dSX_158 : decode method_3_code 158 = .ok (.if_icmp .ne 46, 3) := by decide +kernel
theorem dSX_161 : decode method_3_code 161 = .ok (.aload_n 0, 1) := by decide +kernel
theorem dSX_162 : decode method_3_code 162 = .ok (.iload_n 1, 1) := by decide +kernel
theorem dSX_163 : decode method_3_code 163 = .ok (.bipush 13, 2) := by decide +kernel
theorem dSX_165 : decode method_3_code 165 = .ok (.iadd, 1) := by decide +kernel
theorem dSX_166 : decode method_3_code 166 = .ok (.invokevirtual 30, 3) := by decide +kernel
theorem dSX_169 : decode method_3_code 169 = .ok (.bipush 101, 2) := by decide +kernel
theorem dSX_171 : decode method_3_code 171 = .ok (.if_icmp .ne 33, 3) := by decide +kernel
theorem dSX_174 : decode method_3_code 174 = .ok (.aload_n 0, 1) := by decide +kernel
theorem dSX_175 : decode method_3_code 175 = .ok (.iload_n 1, 1) := by decide +kernel
theorem dSX_176 : decode method_3_code 176 = .ok (.bipush 14, 2) := by decide +kernel
theorem dSX_178 : decode method_3_code 178 = .ok (.iadd, 1) := by decide +kernel
theorem dSX_179 : decode method_3_code 179 = .ok (.invokevirtual 30, 3) := by decide +kernel
theorem dSX_182 : decode method_3_code 182 = .ok (.bipush 120, 2) := by decide +kernel
theorem dSX_184 : decode method_3_code 184 = .ok (.if_icmp .ne 20, 3) := by decide +kernel
theorem dSX_187 : decode method_3_code 187 = .ok (.aload_n 0, 1) := by decide +kernel
theorem dSX_188 : decode method_3_code 188 = .ok (.iload_n 1, 1) := by decide +kernel
theorem dSX_189 : decode method_3_code 189 = .ok (.bipush 15, 2) := by decide +kernel
theorem dSX_191 : decode method_3_code 191 = .ok (.iadd, 1) := by decide +kernel
theorem dSX_192 : decode method_3_code 192 = .ok (.invokevirtual 30, 3) := by decide +kernel
theorem dSX_195 : decode method_3_code 195 = .ok (.bipush 116, 2) := by decide +kernel
theorem dSX_197 : decode method_3_code 197 = .ok (.if_icmp .ne 7, 3) := by decide +kernel
theorem dSX_200 : decode method_3_code 200 = .ok (.iconst 1, 1) := by decide +kernel
theorem dSX_201 : decode method_3_code 201 = .ok (.goto 4, 3) := by decide +kernel
theorem dSX_205 : decode method_3_code 205 = .ok (.ireturn, 1) := by decide +kernel
theorem dTI_0 : decode jdk_78_method_2_code 0 = .ok (.aload_n 0, 1) := by decide +kernel
theorem dTI_1 : decode jdk_78_method_2_code 1 = .ok (.invokespecial 1, 3) := by decide +kernel
theorem dTI_4 : decode jdk_78_method_2_code 4 = .ok (.aload_n 0, 1) := by decide +kernel
theorem dTI_5 : decode jdk_78_method_2_code 5 = .ok (.aload_n 0, 1) := by decide +kernel
theorem dTI_6 : decode jdk_78_method_2_code 6 = .ok (.putfield 7, 3) := by decide +kernel
theorem dTI_9 : decode jdk_78_method_2_code 9 = .ok (.aload_n 0, 1) := by decide +kernel
theorem dTI_10 : decode jdk_78_method_2_code 10 = .ok (.getstatic 13, 3) := by decide +kernel
theorem dTI_13 : decode jdk_78_method_2_code 13 = .ok (.putfield 17, 3) := by decide +kernel
theorem dTI_16 : decode jdk_78_method_2_code 16 = .ok (.aload_n 0, 1) := by decide +kernel
theorem dTI_17 : decode jdk_78_method_2_code 17 = .ok (.getstatic 20, 3) := by decide +kernel
theorem dTI_20 : decode jdk_78_method_2_code 20 = .ok (.putfield 24, 3) := by decide +kernel
theorem dTI_23 : decode jdk_78_method_2_code 23 = .ok (.aload_n 0, 1) := by decide +kernel
theorem dTI_24 : decode jdk_78_method_2_code 24 = .ok (.invokevirtual 27, 3) := by decide +kernel
theorem dTI_27 : decode jdk_78_method_2_code 27 = .ok (.pop, 1) := by decide +kernel
theorem dTI_28 : decode jdk_78_method_2_code 28 = .ok (.aload_n 0, 1) := by decide +kernel
theorem dTI_29 : decode jdk_78_method_2_code 29 = .ok (.aload_n 1, 1) := by decide +kernel
theorem dTI_30 : decode jdk_78_method_2_code 30 = .ok (.putfield 31, 3) := by decide +kernel
theorem dTI_33 : decode jdk_78_method_2_code 33 = .ok (.return_, 1) := by decide +kernel
theorem dEI_0 : decode jdk_59_method_2_code 0 = .ok (.aload_n 0, 1) := by decide +kernel
theorem dEI_1 : decode jdk_59_method_2_code 1 = .ok (.aload_n 1, 1) := by decide +kernel
theorem dEI_2 : decode jdk_59_method_2_code 2 = .ok (.invokespecial 7, 3) := by decide +kernel
theorem dEI_5 : decode jdk_59_method_2_code 5 = .ok (.return_, 1) := by decide +kernel
theorem dXI_0 : decode prog_13_method_1_code 0 = .ok (.aload_n 0, 1) := by decide +kernel
theorem dXI_1 : decode prog_13_method_1_code 1 = .ok (.aload_n 1, 1) := by decide +kernel
theorem dXI_2 : decode prog_13_method_1_code 2 = .ok (.invokespecial 1, 3) := by decide +kernel
theorem dXI_5 : decode prog_13_method_1_code 5 = .ok (.return_, 1) := by decide +kernel
theorem dSZ_0 : decode jdk_67_method_1_code 0 = .ok (.aload_n 0, 1) := by decide +kernel
theorem dSZ_1 : decode jdk_67_method_1_code 1 = .ok (.bipush 16, 2) := by decide +kernel
theorem dSZ_3 : decode jdk_67_method_1_code 3 = .ok (.invokespecial 1, 3) := by decide +kernel
theorem dSZ_6 : decode jdk_67_method_1_code 6 = .ok (.return_, 1) := by decide +kernel
theorem dGM_0 : decode jdk_78_method_6_code 0 = .ok (.aload_n 0, 1) := by decide +kernel
theorem dGM_1 : decode jdk_78_method_6_code 1 = .ok (.getfield 31, 3) := by decide +kernel
theorem dGM_4 : decode jdk_78_method_6_code 4 = .ok (.areturn, 1) := by decide +kernel
theorem dNU_0 : decode prog_13_method_2_code 0 = .ok (.new 7, 3) := by decide +kernel
theorem dNU_3 : decode prog_13_method_2_code 3 = .ok (.dup, 1) := by decide +kernel
theorem dNU_4 : decode prog_13_method_2_code 4 = .ok (.new 9, 3) := by decide +kernel
theorem dNU_7 : decode prog_13_method_2_code 7 = .ok (.dup, 1) := by decide +kernel
theorem dNU_8 : decode prog_13_method_2_code 8 = .ok (.invokespecial 11, 3) := by decide +kernel
theorem dNU_11 : decode prog_13_method_2_code 11 = .ok (.aload_n 0, 1) := by decide +kernel
theorem dNU_12 : decode prog_13_method_2_code 12 = .ok (.invokevirtual 14, 3) := by decide +kernel
theorem dNU_15 : decode prog_13_method_2_code 15 = .ok (.ldc 18, 2) := by decide +kernel
theorem dNU_17 : decode prog_13_method_2_code 17 = .ok (.invokevirtual 14, 3) := by decide +kernel
theorem dNU_20 : decode prog_13_method_2_code 20 = .ok (.ldc 20, 2) := by decide +kernel
theorem dNU_22 : decode prog_13_method_2_code 22 = .ok (.invokevirtual 14, 3) := by decide +kernel
theorem dNU_25 : decode prog_13_method_2_code 25 = .ok (.invokevirtual 22, 3) := by decide +kernel
theorem dNU_28 : decode prog_13_method_2_code 28 = .ok (.invokespecial 26, 3) := by decide +kernel
theorem dNU_31 : decode prog_13_method_2_code 31 = .ok (.areturn, 1) := by decide +kernel
theorem tw0 {Z : State} {a0 : Array Value} (hw : ∀ d ∈ tables_1, d.before a0 Z = true) : (Jvm.Cond.classLink "com/example/congruent/congruent/io/UnreadableInputExceptionNotUtf8PinLaw" (7 : Nat) "java/lang/String").before a0 Z = true := hw _ (List.mem_of_getElem? (i := 0) rfl)
theorem tw1 {Z : State} {a0 : Array Value} (hw : ∀ d ∈ tables_1, d.before a0 Z = true) : (Jvm.Cond.instantiable "java/lang/String" (4 : Nat)).before a0 Z = true := hw _ (List.mem_of_getElem? (i := 1) rfl)
theorem tw2 {Z : State} {a0 : Array Value} (hw : ∀ d ∈ tables_1, d.before a0 Z = true) : (Jvm.Cond.initialized "java/lang/String").before a0 Z = true := hw _ (List.mem_of_getElem? (i := 2) rfl)
theorem tw3 {Z : State} {a0 : Array Value} (hw : ∀ d ∈ tables_1, d.before a0 Z = true) : (Jvm.Cond.arrayClass Jvm.ClassFile.FieldType.char).before a0 Z = true := hw _ (List.mem_of_getElem? (i := 3) rfl)
theorem tw4 {Z : State} {a0 : Array Value} (hw : ∀ d ∈ tables_1, d.before a0 Z = true) : (Jvm.Cond.methodLink "com/example/congruent/congruent/io/UnreadableInputExceptionNotUtf8PinLaw" (9 : Nat) ({ cls := "java/lang/String", name := "<init>", desc := "([C)V" } : Jvm.MethodName)).before a0 Z = true := hw _ (List.mem_of_getElem? (i := 4) rfl)
theorem tw5 {Z : State} {a0 : Array Value} (hw : ∀ d ∈ tables_1, d.before a0 Z = true) : (Jvm.Cond.instanceMethod ({ cls := "java/lang/String", name := "<init>", desc := "([C)V" } : Jvm.MethodName)).before a0 Z = true := hw _ (List.mem_of_getElem? (i := 5) rfl)
theorem tw6 {Z : State} {a0 : Array Value} (hw : ∀ d ∈ tables_1, d.before a0 Z = true) : (Jvm.Cond.code ({ cls := "java/lang/String", name := "<init>", desc := "([C)V" } : Jvm.MethodName) jdk_42_method_3_code (2 : Nat) (Option.none : Option Jvm.ClassFile.FieldType)).before a0 Z = true := hw _ (List.mem_of_getElem? (i := 6) rfl)
theorem tw7 {Z : State} {a0 : Array Value} (hw : ∀ d ∈ tables_1, d.before a0 Z = true) : (Jvm.Cond.methodLink "java/lang/String" (27 : Nat) ({ cls := "java/lang/String", name := "<init>", desc := "([CIILjava/lang/Void;)V" } : Jvm.MethodName)).before a0 Z = true := hw _ (List.mem_of_getElem? (i := 7) rfl)
theorem tw8 {Z : State} {a0 : Array Value} (hw : ∀ d ∈ tables_1, d.before a0 Z = true) : (Jvm.Cond.instanceMethod ({ cls := "java/lang/String", name := "<init>", desc := "([CIILjava/lang/Void;)V" } : Jvm.MethodName)).before a0 Z = true := hw _ (List.mem_of_getElem? (i := 8) rfl)
theorem tw10 {Z : State} {a0 : Array Value} (hw : ∀ d ∈ tables_1, d.before a0 Z = true) : (Jvm.Cond.code ({ cls := "java/lang/String", name := "<init>", desc := "([CIILjava/lang/Void;)V" } : Jvm.MethodName) jdk_42_method_149_code (6 : Nat) (Option.none : Option Jvm.ClassFile.FieldType)).before a0 Z = true := hw _ (List.mem_of_getElem? (i := 10) rfl)
theorem tw11 {Z : State} {a0 : Array Value} (hw : ∀ d ∈ tables_1, d.before a0 Z = true) : (Jvm.Cond.methodLink "java/lang/String" (1 : Nat) ({ cls := "java/lang/Object", name := "<init>", desc := "()V" } : Jvm.MethodName)).before a0 Z = true := hw _ (List.mem_of_getElem? (i := 11) rfl)
theorem tw12 {Z : State} {a0 : Array Value} (hw : ∀ d ∈ tables_1, d.before a0 Z = true) : (Jvm.Cond.instanceMethod ({ cls := "java/lang/Object", name := "<init>", desc := "()V" } : Jvm.MethodName)).before a0 Z = true := hw _ (List.mem_of_getElem? (i := 12) rfl)
theorem tw13 {Z : State} {a0 : Array Value} (hw : ∀ d ∈ tables_1, d.before a0 Z = true) : (Jvm.Cond.code ({ cls := "java/lang/Object", name := "<init>", desc := "()V" } : Jvm.MethodName) object_method_1_code (1 : Nat) (Option.none : Option Jvm.ClassFile.FieldType)).before a0 Z = true := hw _ (List.mem_of_getElem? (i := 13) rfl)
theorem tw14 {Z : State} {a0 : Array Value} (hw : ∀ d ∈ tables_1, d.before a0 Z = true) : (Jvm.Cond.stringLink "java/lang/String" (7 : Nat) "").before a0 Z = true := hw _ (List.mem_of_getElem? (i := 14) rfl)
theorem tw15 {Z : State} {a0 : Array Value} (hw : ∀ d ∈ tables_1, d.before a0 Z = true) : (Jvm.Cond.arrayClass Jvm.ClassFile.FieldType.byte).before a0 Z = true := hw _ (List.mem_of_getElem? (i := 15) rfl)
theorem tw16 {Z : State} {a0 : Array Value} (hw : ∀ d ∈ tables_1, d.before a0 Z = true) : (Jvm.Cond.laysFinal "java/lang/String" "java/lang/String" "value" "[B").before a0 Z = true := hw _ (List.mem_of_getElem? (i := 16) rfl)
theorem tw17 {Z : State} {a0 : Array Value} (hw : ∀ d ∈ tables_1, d.before a0 Z = true) : (Jvm.Cond.laysFinal "java/lang/String" "java/lang/String" "coder" "B").before a0 Z = true := hw _ (List.mem_of_getElem? (i := 17) rfl)
theorem tw20 {Z : State} {a0 : Array Value} (hw : ∀ d ∈ tables_1, d.before a0 Z = true) : (Jvm.Cond.fieldLink "java/lang/String" (9 : Nat) "java/lang/String" "value" "[B").before a0 Z = true := hw _ (List.mem_of_getElem? (i := 20) rfl)
theorem tw21 {Z : State} {a0 : Array Value} (hw : ∀ d ∈ tables_1, d.before a0 Z = true) : (Jvm.Cond.fieldLink "java/lang/String" (15 : Nat) "java/lang/String" "coder" "B").before a0 Z = true := hw _ (List.mem_of_getElem? (i := 21) rfl)
theorem tw22 {Z : State} {a0 : Array Value} (hw : ∀ d ∈ tables_1, d.before a0 Z = true) : (Jvm.Cond.methodLink "com/example/congruent/congruent/io/UnreadableInputExceptionNotUtf8PinLaw" (16 : Nat) ({ cls := "com/example/congruent/congruent/io/UnreadableInputException", name := "notUtf8", desc := "(Ljava/lang/String;)Lcom/example/congruent/congruent/io/UnreadableInputException;" } : Jvm.MethodName)).before a0 Z = true := hw _ (List.mem_of_getElem? (i := 22) rfl)
theorem tw23 {Z : State} {a0 : Array Value} (hw : ∀ d ∈ tables_1, d.before a0 Z = true) : (Jvm.Cond.static ({ cls := "com/example/congruent/congruent/io/UnreadableInputException", name := "notUtf8", desc := "(Ljava/lang/String;)Lcom/example/congruent/congruent/io/UnreadableInputException;" } : Jvm.MethodName)).before a0 Z = true := hw _ (List.mem_of_getElem? (i := 23) rfl)
theorem tw24 {Z : State} {a0 : Array Value} (hw : ∀ d ∈ tables_1, d.before a0 Z = true) : (Jvm.Cond.initialized "com/example/congruent/congruent/io/UnreadableInputException").before a0 Z = true := hw _ (List.mem_of_getElem? (i := 24) rfl)
theorem tw25 {Z : State} {a0 : Array Value} (hw : ∀ d ∈ tables_1, d.before a0 Z = true) : (Jvm.Cond.code ({ cls := "com/example/congruent/congruent/io/UnreadableInputException", name := "notUtf8", desc := "(Ljava/lang/String;)Lcom/example/congruent/congruent/io/UnreadableInputException;" } : Jvm.MethodName) prog_13_method_2_code (1 : Nat) (Option.some (Jvm.ClassFile.FieldType.object "com/example/congruent/congruent/io/UnreadableInputException"))).before a0 Z = true := hw _ (List.mem_of_getElem? (i := 25) rfl)
theorem tw26 {Z : State} {a0 : Array Value} (hw : ∀ d ∈ tables_1, d.before a0 Z = true) : (Jvm.Cond.classLink "com/example/congruent/congruent/io/UnreadableInputException" (7 : Nat) "com/example/congruent/congruent/io/UnreadableInputException").before a0 Z = true := hw _ (List.mem_of_getElem? (i := 26) rfl)
theorem tw27 {Z : State} {a0 : Array Value} (hw : ∀ d ∈ tables_1, d.before a0 Z = true) : (Jvm.Cond.instantiable "com/example/congruent/congruent/io/UnreadableInputException" (6 : Nat)).before a0 Z = true := hw _ (List.mem_of_getElem? (i := 27) rfl)
theorem tw28 {Z : State} {a0 : Array Value} (hw : ∀ d ∈ tables_1, d.before a0 Z = true) : (Jvm.Cond.classLink "com/example/congruent/congruent/io/UnreadableInputException" (9 : Nat) "java/lang/StringBuilder").before a0 Z = true := hw _ (List.mem_of_getElem? (i := 28) rfl)
theorem tw29 {Z : State} {a0 : Array Value} (hw : ∀ d ∈ tables_1, d.before a0 Z = true) : (Jvm.Cond.instantiable "java/lang/StringBuilder" (4 : Nat)).before a0 Z = true := hw _ (List.mem_of_getElem? (i := 29) rfl)
theorem tw30 {Z : State} {a0 : Array Value} (hw : ∀ d ∈ tables_1, d.before a0 Z = true) : (Jvm.Cond.initialized "java/lang/StringBuilder").before a0 Z = true := hw _ (List.mem_of_getElem? (i := 30) rfl)
theorem tw31 {Z : State} {a0 : Array Value} (hw : ∀ d ∈ tables_1, d.before a0 Z = true) : (Jvm.Cond.methodLink "com/example/congruent/congruent/io/UnreadableInputException" (11 : Nat) ({ cls := "java/lang/StringBuilder", name := "<init>", desc := "()V" } : Jvm.MethodName)).before a0 Z = true := hw _ (List.mem_of_getElem? (i := 31) rfl)
theorem tw32 {Z : State} {a0 : Array Value} (hw : ∀ d ∈ tables_1, d.before a0 Z = true) : (Jvm.Cond.instanceMethod ({ cls := "java/lang/StringBuilder", name := "<init>", desc := "()V" } : Jvm.MethodName)).before a0 Z = true := hw _ (List.mem_of_getElem? (i := 32) rfl)
theorem tw33 {Z : State} {a0 : Array Value} (hw : ∀ d ∈ tables_1, d.before a0 Z = true) : (Jvm.Cond.code ({ cls := "java/lang/StringBuilder", name := "<init>", desc := "()V" } : Jvm.MethodName) jdk_67_method_1_code (1 : Nat) (Option.none : Option Jvm.ClassFile.FieldType)).before a0 Z = true := hw _ (List.mem_of_getElem? (i := 33) rfl)
theorem tw34 {Z : State} {a0 : Array Value} (hw : ∀ d ∈ tables_1, d.before a0 Z = true) : (Jvm.Cond.methodLink "java/lang/StringBuilder" (1 : Nat) ({ cls := "java/lang/AbstractStringBuilder", name := "<init>", desc := "(I)V" } : Jvm.MethodName)).before a0 Z = true := hw _ (List.mem_of_getElem? (i := 34) rfl)
theorem tw35 {Z : State} {a0 : Array Value} (hw : ∀ d ∈ tables_1, d.before a0 Z = true) : (Jvm.Cond.instanceMethod ({ cls := "java/lang/AbstractStringBuilder", name := "<init>", desc := "(I)V" } : Jvm.MethodName)).before a0 Z = true := hw _ (List.mem_of_getElem? (i := 35) rfl)
theorem tw38 {Z : State} {a0 : Array Value} (hw : ∀ d ∈ tables_1, d.before a0 Z = true) : (Jvm.Cond.initialized "java/lang/AbstractStringBuilder").before a0 Z = true := hw _ (List.mem_of_getElem? (i := 38) rfl)
theorem tw39 {Z : State} {a0 : Array Value} (hw : ∀ d ∈ tables_1, d.before a0 Z = true) : (Jvm.Cond.code ({ cls := "java/lang/AbstractStringBuilder", name := "<init>", desc := "(I)V" } : Jvm.MethodName) jdk_68_method_2_code (2 : Nat) (Option.none : Option Jvm.ClassFile.FieldType)).before a0 Z = true := hw _ (List.mem_of_getElem? (i := 39) rfl)
theorem tw40 {Z : State} {a0 : Array Value} (hw : ∀ d ∈ tables_1, d.before a0 Z = true) : (Jvm.Cond.methodLink "java/lang/AbstractStringBuilder" (3 : Nat) ({ cls := "java/lang/Object", name := "<init>", desc := "()V" } : Jvm.MethodName)).before a0 Z = true := hw _ (List.mem_of_getElem? (i := 40) rfl)
theorem tw41 {Z : State} {a0 : Array Value} (hw : ∀ d ∈ tables_1, d.before a0 Z = true) : (Jvm.Cond.fieldLink "java/lang/AbstractStringBuilder" (18 : Nat) "java/lang/String" "COMPACT_STRINGS" "Z").before a0 Z = true := hw _ (List.mem_of_getElem? (i := 41) rfl)
theorem tw42 {Z : State} {a0 : Array Value} (hw : ∀ d ∈ tables_1, d.before a0 Z = true) : (Jvm.Cond.fieldLink "java/lang/AbstractStringBuilder" (15 : Nat) "java/lang/AbstractStringBuilder" "value" "[B").before a0 Z = true := hw _ (List.mem_of_getElem? (i := 42) rfl)
theorem tw43 {Z : State} {a0 : Array Value} (hw : ∀ d ∈ tables_1, d.before a0 Z = true) : (Jvm.Cond.lays "java/lang/StringBuilder" "java/lang/AbstractStringBuilder" "value" "[B").before a0 Z = true := hw _ (List.mem_of_getElem? (i := 43) rfl)
theorem tw44 {Z : State} {a0 : Array Value} (hw : ∀ d ∈ tables_1, d.before a0 Z = true) : (Jvm.Cond.fieldLink "java/lang/AbstractStringBuilder" (22 : Nat) "java/lang/AbstractStringBuilder" "coder" "B").before a0 Z = true := hw _ (List.mem_of_getElem? (i := 44) rfl)
theorem tw45 {Z : State} {a0 : Array Value} (hw : ∀ d ∈ tables_1, d.before a0 Z = true) : (Jvm.Cond.lays "java/lang/StringBuilder" "java/lang/AbstractStringBuilder" "coder" "B").before a0 Z = true := hw _ (List.mem_of_getElem? (i := 45) rfl)
theorem tw46 {Z : State} {a0 : Array Value} (hw : ∀ d ∈ tables_1, d.before a0 Z = true) : (Jvm.Cond.methodLink "com/example/congruent/congruent/io/UnreadableInputException" (14 : Nat) ({ cls := "java/lang/StringBuilder", name := "append", desc := "(Ljava/lang/String;)Ljava/lang/StringBuilder;" } : Jvm.MethodName)).before a0 Z = true := hw _ (List.mem_of_getElem? (i := 46) rfl)
theorem tw47 {Z : State} {a0 : Array Value} (hw : ∀ d ∈ tables_1, d.before a0 Z = true) : (Jvm.Cond.declares ({ cls := "java/lang/StringBuilder", name := "append", desc := "(Ljava/lang/String;)Ljava/lang/StringBuilder;" } : Jvm.MethodName)).before a0 Z = true := hw _ (List.mem_of_getElem? (i := 47) rfl)
theorem tw48 {Z : State} {a0 : Array Value} (hw : ∀ d ∈ tables_1, d.before a0 Z = true) : (Jvm.Cond.instanceMethod ({ cls := "java/lang/StringBuilder", name := "append", desc := "(Ljava/lang/String;)Ljava/lang/StringBuilder;" } : Jvm.MethodName)).before a0 Z = true := hw _ (List.mem_of_getElem? (i := 48) rfl)
theorem tw49 {Z : State} {a0 : Array Value} (hw : ∀ d ∈ tables_1, d.before a0 Z = true) : (Jvm.Cond.selects "java/lang/StringBuilder" ({ cls := "java/lang/StringBuilder", name := "append", desc := "(Ljava/lang/String;)Ljava/lang/StringBuilder;" } : Jvm.MethodName) ({ cls := "java/lang/StringBuilder", name := "append", desc := "(Ljava/lang/String;)Ljava/lang/StringBuilder;" } : Jvm.MethodName)).before a0 Z = true := hw _ (List.mem_of_getElem? (i := 49) rfl)
theorem tw50 {Z : State} {a0 : Array Value} (hw : ∀ d ∈ tables_1, d.before a0 Z = true) : (Jvm.Cond.code ({ cls := "java/lang/StringBuilder", name := "append", desc := "(Ljava/lang/String;)Ljava/lang/StringBuilder;" } : Jvm.MethodName) jdk_67_method_7_code (2 : Nat) (Option.some (Jvm.ClassFile.FieldType.object "java/lang/StringBuilder"))).before a0 Z = true := hw _ (List.mem_of_getElem? (i := 50) rfl)
theorem tw51 {Z : State} {a0 : Array Value} (hw : ∀ d ∈ tables_1, d.before a0 Z = true) : (Jvm.Cond.methodLink "java/lang/StringBuilder" (29 : Nat) ({ cls := "java/lang/AbstractStringBuilder", name := "append", desc := "(Ljava/lang/String;)Ljava/lang/AbstractStringBuilder;" } : Jvm.MethodName)).before a0 Z = true := hw _ (List.mem_of_getElem? (i := 51) rfl)
theorem tw52 {Z : State} {a0 : Array Value} (hw : ∀ d ∈ tables_1, d.before a0 Z = true) : (Jvm.Cond.instanceMethod ({ cls := "java/lang/AbstractStringBuilder", name := "append", desc := "(Ljava/lang/String;)Ljava/lang/AbstractStringBuilder;" } : Jvm.MethodName)).before a0 Z = true := hw _ (List.mem_of_getElem? (i := 52) rfl)
theorem tw53 {Z : State} {a0 : Array Value} (hw : ∀ d ∈ tables_1, d.before a0 Z = true) : (Jvm.Cond.superclass "java/lang/StringBuilder" "java/lang/AbstractStringBuilder").before a0 Z = true := hw _ (List.mem_of_getElem? (i := 53) rfl)
theorem tw55 {Z : State} {a0 : Array Value} (hw : ∀ d ∈ tables_1, d.before a0 Z = true) : (Jvm.Cond.code ({ cls := "java/lang/AbstractStringBuilder", name := "append", desc := "(Ljava/lang/String;)Ljava/lang/AbstractStringBuilder;" } : Jvm.MethodName) jdk_68_method_22_code (3 : Nat) (Option.some (Jvm.ClassFile.FieldType.object "java/lang/AbstractStringBuilder"))).before a0 Z = true := hw _ (List.mem_of_getElem? (i := 55) rfl)
theorem tw56 {Z : State} {a0 : Array Value} (hw : ∀ d ∈ tables_1, d.before a0 Z = true) : (Jvm.Cond.methodLink "java/lang/AbstractStringBuilder" (32 : Nat) ({ cls := "java/lang/String", name := "length", desc := "()I" } : Jvm.MethodName)).before a0 Z = true := hw _ (List.mem_of_getElem? (i := 56) rfl)
theorem tw57 {Z : State} {a0 : Array Value} (hw : ∀ d ∈ tables_1, d.before a0 Z = true) : (Jvm.Cond.declares ({ cls := "java/lang/String", name := "length", desc := "()I" } : Jvm.MethodName)).before a0 Z = true := hw _ (List.mem_of_getElem? (i := 57) rfl)
theorem tw58 {Z : State} {a0 : Array Value} (hw : ∀ d ∈ tables_1, d.before a0 Z = true) : (Jvm.Cond.instanceMethod ({ cls := "java/lang/String", name := "length", desc := "()I" } : Jvm.MethodName)).before a0 Z = true := hw _ (List.mem_of_getElem? (i := 58) rfl)
theorem tw59 {Z : State} {a0 : Array Value} (hw : ∀ d ∈ tables_1, d.before a0 Z = true) : (Jvm.Cond.selects "java/lang/String" ({ cls := "java/lang/String", name := "length", desc := "()I" } : Jvm.MethodName) ({ cls := "java/lang/String", name := "length", desc := "()I" } : Jvm.MethodName)).before a0 Z = true := hw _ (List.mem_of_getElem? (i := 59) rfl)
theorem tw60 {Z : State} {a0 : Array Value} (hw : ∀ d ∈ tables_1, d.before a0 Z = true) : (Jvm.Cond.code ({ cls := "java/lang/String", name := "length", desc := "()I" } : Jvm.MethodName) jdk_42_method_54_code (1 : Nat) (Option.some Jvm.ClassFile.FieldType.int)).before a0 Z = true := hw _ (List.mem_of_getElem? (i := 60) rfl)
theorem tw61 {Z : State} {a0 : Array Value} (hw : ∀ d ∈ tables_1, d.before a0 Z = true) : (Jvm.Cond.methodLink "java/lang/String" (335 : Nat) ({ cls := "java/lang/String", name := "coder", desc := "()B" } : Jvm.MethodName)).before a0 Z = true := hw _ (List.mem_of_getElem? (i := 61) rfl)
theorem tw62 {Z : State} {a0 : Array Value} (hw : ∀ d ∈ tables_1, d.before a0 Z = true) : (Jvm.Cond.declares ({ cls := "java/lang/String", name := "coder", desc := "()B" } : Jvm.MethodName)).before a0 Z = true := hw _ (List.mem_of_getElem? (i := 62) rfl)
theorem tw63 {Z : State} {a0 : Array Value} (hw : ∀ d ∈ tables_1, d.before a0 Z = true) : (Jvm.Cond.instanceMethod ({ cls := "java/lang/String", name := "coder", desc := "()B" } : Jvm.MethodName)).before a0 Z = true := hw _ (List.mem_of_getElem? (i := 63) rfl)
theorem tw64 {Z : State} {a0 : Array Value} (hw : ∀ d ∈ tables_1, d.before a0 Z = true) : (Jvm.Cond.selects "java/lang/String" ({ cls := "java/lang/String", name := "coder", desc := "()B" } : Jvm.MethodName) ({ cls := "java/lang/String", name := "coder", desc := "()B" } : Jvm.MethodName)).before a0 Z = true := hw _ (List.mem_of_getElem? (i := 64) rfl)
theorem tw65 {Z : State} {a0 : Array Value} (hw : ∀ d ∈ tables_1, d.before a0 Z = true) : (Jvm.Cond.code ({ cls := "java/lang/String", name := "coder", desc := "()B" } : Jvm.MethodName) jdk_42_method_152_code (1 : Nat) (Option.some Jvm.ClassFile.FieldType.byte)).before a0 Z = true := hw _ (List.mem_of_getElem? (i := 65) rfl)
theorem tw66 {Z : State} {a0 : Array Value} (hw : ∀ d ∈ tables_1, d.before a0 Z = true) : (Jvm.Cond.fieldLink "java/lang/String" (38 : Nat) "java/lang/String" "COMPACT_STRINGS" "Z").before a0 Z = true := hw _ (List.mem_of_getElem? (i := 66) rfl)
theorem tw67 {Z : State} {a0 : Array Value} (hw : ∀ d ∈ tables_1, d.before a0 Z = true) : (Jvm.Cond.fieldLink "java/lang/AbstractStringBuilder" (79 : Nat) "java/lang/AbstractStringBuilder" "count" "I").before a0 Z = true := hw _ (List.mem_of_getElem? (i := 67) rfl)
theorem tw68 {Z : State} {a0 : Array Value} (hw : ∀ d ∈ tables_1, d.before a0 Z = true) : (Jvm.Cond.lays "java/lang/StringBuilder" "java/lang/AbstractStringBuilder" "count" "I").before a0 Z = true := hw _ (List.mem_of_getElem? (i := 68) rfl)
theorem tw69 {Z : State} {a0 : Array Value} (hw : ∀ d ∈ tables_1, d.before a0 Z = true) : (Jvm.Cond.methodLink "java/lang/AbstractStringBuilder" (100 : Nat) ({ cls := "java/lang/AbstractStringBuilder", name := "ensureCapacityInternal", desc := "(I)V" } : Jvm.MethodName)).before a0 Z = true := hw _ (List.mem_of_getElem? (i := 69) rfl)
theorem tw70 {Z : State} {a0 : Array Value} (hw : ∀ d ∈ tables_1, d.before a0 Z = true) : (Jvm.Cond.instanceMethod ({ cls := "java/lang/AbstractStringBuilder", name := "ensureCapacityInternal", desc := "(I)V" } : Jvm.MethodName)).before a0 Z = true := hw _ (List.mem_of_getElem? (i := 70) rfl)
theorem tw72 {Z : State} {a0 : Array Value} (hw : ∀ d ∈ tables_1, d.before a0 Z = true) : (Jvm.Cond.selects "java/lang/StringBuilder" ({ cls := "java/lang/AbstractStringBuilder", name := "ensureCapacityInternal", desc := "(I)V" } : Jvm.MethodName) ({ cls := "java/lang/AbstractStringBuilder", name := "ensureCapacityInternal", desc := "(I)V" } : Jvm.MethodName)).before a0 Z = true := hw _ (List.mem_of_getElem? (i := 72) rfl)
theorem tw73 {Z : State} {a0 : Array Value} (hw : ∀ d ∈ tables_1, d.before a0 Z = true) : (Jvm.Cond.code ({ cls := "java/lang/AbstractStringBuilder", name := "ensureCapacityInternal", desc := "(I)V" } : Jvm.MethodName) jdk_68_method_9_code (3 : Nat) (Option.none : Option Jvm.ClassFile.FieldType)).before a0 Z = true := hw _ (List.mem_of_getElem? (i := 73) rfl)
theorem tw74 {Z : State} {a0 : Array Value} (hw : ∀ d ∈ tables_1, d.before a0 Z = true) : (Jvm.Cond.methodLink "java/lang/AbstractStringBuilder" (208 : Nat) ({ cls := "java/lang/AbstractStringBuilder", name := "putStringAt", desc := "(ILjava/lang/String;)V" } : Jvm.MethodName)).before a0 Z = true := hw _ (List.mem_of_getElem? (i := 74) rfl)
theorem tw75 {Z : State} {a0 : Array Value} (hw : ∀ d ∈ tables_1, d.before a0 Z = true) : (Jvm.Cond.instanceMethod ({ cls := "java/lang/AbstractStringBuilder", name := "putStringAt", desc := "(ILjava/lang/String;)V" } : Jvm.MethodName)).before a0 Z = true := hw _ (List.mem_of_getElem? (i := 75) rfl)
theorem tw77 {Z : State} {a0 : Array Value} (hw : ∀ d ∈ tables_1, d.before a0 Z = true) : (Jvm.Cond.selects "java/lang/StringBuilder" ({ cls := "java/lang/AbstractStringBuilder", name := "putStringAt", desc := "(ILjava/lang/String;)V" } : Jvm.MethodName) ({ cls := "java/lang/AbstractStringBuilder", name := "putStringAt", desc := "(ILjava/lang/String;)V" } : Jvm.MethodName)).before a0 Z = true := hw _ (List.mem_of_getElem? (i := 77) rfl)
theorem tw78 {Z : State} {a0 : Array Value} (hw : ∀ d ∈ tables_1, d.before a0 Z = true) : (Jvm.Cond.code ({ cls := "java/lang/AbstractStringBuilder", name := "putStringAt", desc := "(ILjava/lang/String;)V" } : Jvm.MethodName) jdk_68_method_73_code (3 : Nat) (Option.none : Option Jvm.ClassFile.FieldType)).before a0 Z = true := hw _ (List.mem_of_getElem? (i := 78) rfl)
theorem tw79 {Z : State} {a0 : Array Value} (hw : ∀ d ∈ tables_1, d.before a0 Z = true) : (Jvm.Cond.methodLink "java/lang/AbstractStringBuilder" (397 : Nat) ({ cls := "java/lang/AbstractStringBuilder", name := "inflateIfNeededFor", desc := "(Ljava/lang/String;)V" } : Jvm.MethodName)).before a0 Z = true := hw _ (List.mem_of_getElem? (i := 79) rfl)
theorem tw80 {Z : State} {a0 : Array Value} (hw : ∀ d ∈ tables_1, d.before a0 Z = true) : (Jvm.Cond.instanceMethod ({ cls := "java/lang/AbstractStringBuilder", name := "inflateIfNeededFor", desc := "(Ljava/lang/String;)V" } : Jvm.MethodName)).before a0 Z = true := hw _ (List.mem_of_getElem? (i := 80) rfl)
theorem tw82 {Z : State} {a0 : Array Value} (hw : ∀ d ∈ tables_1, d.before a0 Z = true) : (Jvm.Cond.selects "java/lang/StringBuilder" ({ cls := "java/lang/AbstractStringBuilder", name := "inflateIfNeededFor", desc := "(Ljava/lang/String;)V" } : Jvm.MethodName) ({ cls := "java/lang/AbstractStringBuilder", name := "inflateIfNeededFor", desc := "(Ljava/lang/String;)V" } : Jvm.MethodName)).before a0 Z = true := hw _ (List.mem_of_getElem? (i := 82) rfl)
theorem tw83 {Z : State} {a0 : Array Value} (hw : ∀ d ∈ tables_1, d.before a0 Z = true) : (Jvm.Cond.code ({ cls := "java/lang/AbstractStringBuilder", name := "inflateIfNeededFor", desc := "(Ljava/lang/String;)V" } : Jvm.MethodName) jdk_68_method_71_code (2 : Nat) (Option.none : Option Jvm.ClassFile.FieldType)).before a0 Z = true := hw _ (List.mem_of_getElem? (i := 83) rfl)
theorem tw84 {Z : State} {a0 : Array Value} (hw : ∀ d ∈ tables_1, d.before a0 Z = true) : (Jvm.Cond.methodLink "java/lang/AbstractStringBuilder" (40 : Nat) ({ cls := "java/lang/String", name := "coder", desc := "()B" } : Jvm.MethodName)).before a0 Z = true := hw _ (List.mem_of_getElem? (i := 84) rfl)
theorem tw85 {Z : State} {a0 : Array Value} (hw : ∀ d ∈ tables_1, d.before a0 Z = true) : (Jvm.Cond.methodLink "java/lang/AbstractStringBuilder" (399 : Nat) ({ cls := "java/lang/String", name := "getBytes", desc := "([BIB)V" } : Jvm.MethodName)).before a0 Z = true := hw _ (List.mem_of_getElem? (i := 85) rfl)
theorem tw86 {Z : State} {a0 : Array Value} (hw : ∀ d ∈ tables_1, d.before a0 Z = true) : (Jvm.Cond.declares ({ cls := "java/lang/String", name := "getBytes", desc := "([BIB)V" } : Jvm.MethodName)).before a0 Z = true := hw _ (List.mem_of_getElem? (i := 86) rfl)
theorem tw87 {Z : State} {a0 : Array Value} (hw : ∀ d ∈ tables_1, d.before a0 Z = true) : (Jvm.Cond.instanceMethod ({ cls := "java/lang/String", name := "getBytes", desc := "([BIB)V" } : Jvm.MethodName)).before a0 Z = true := hw _ (List.mem_of_getElem? (i := 87) rfl)
theorem tw88 {Z : State} {a0 : Array Value} (hw : ∀ d ∈ tables_1, d.before a0 Z = true) : (Jvm.Cond.selects "java/lang/String" ({ cls := "java/lang/String", name := "getBytes", desc := "([BIB)V" } : Jvm.MethodName) ({ cls := "java/lang/String", name := "getBytes", desc := "([BIB)V" } : Jvm.MethodName)).before a0 Z = true := hw _ (List.mem_of_getElem? (i := 88) rfl)
theorem tw89 {Z : State} {a0 : Array Value} (hw : ∀ d ∈ tables_1, d.before a0 Z = true) : (Jvm.Cond.code ({ cls := "java/lang/String", name := "getBytes", desc := "([BIB)V" } : Jvm.MethodName) jdk_42_method_147_code (4 : Nat) (Option.none : Option Jvm.ClassFile.FieldType)).before a0 Z = true := hw _ (List.mem_of_getElem? (i := 89) rfl)
theorem tw90 {Z : State} {a0 : Array Value} (hw : ∀ d ∈ tables_1, d.before a0 Z = true) : (Jvm.Cond.methodLink "java/lang/String" (212 : Nat) ({ cls := "java/lang/System", name := "arraycopy", desc := "(Ljava/lang/Object;ILjava/lang/Object;II)V" } : Jvm.MethodName)).before a0 Z = true := hw _ (List.mem_of_getElem? (i := 90) rfl)
theorem tw91 {Z : State} {a0 : Array Value} (hw : ∀ d ∈ tables_1, d.before a0 Z = true) : (Jvm.Cond.static ({ cls := "java/lang/System", name := "arraycopy", desc := "(Ljava/lang/Object;ILjava/lang/Object;II)V" } : Jvm.MethodName)).before a0 Z = true := hw _ (List.mem_of_getElem? (i := 91) rfl)
theorem tw92 {Z : State} {a0 : Array Value} (hw : ∀ d ∈ tables_1, d.before a0 Z = true) : (Jvm.Cond.initialized "java/lang/System").before a0 Z = true := hw _ (List.mem_of_getElem? (i := 92) rfl)
theorem tw93 {Z : State} {a0 : Array Value} (hw : ∀ d ∈ tables_1, d.before a0 Z = true) : (Jvm.Cond.native ({ cls := "java/lang/System", name := "arraycopy", desc := "(Ljava/lang/Object;ILjava/lang/Object;II)V" } : Jvm.MethodName)).before a0 Z = true := hw _ (List.mem_of_getElem? (i := 93) rfl)
theorem tw94 {Z : State} {a0 : Array Value} (hw : ∀ d ∈ tables_1, d.before a0 Z = true) : (Jvm.Cond.stringLink "com/example/congruent/congruent/io/UnreadableInputException" (18 : Nat) ": ").before a0 Z = true := hw _ (List.mem_of_getElem? (i := 94) rfl)
theorem tw95 {Z : State} {a0 : Array Value} (hw : ∀ d ∈ tables_1, d.before a0 Z = true) : (Jvm.Cond.stringLink "com/example/congruent/congruent/io/UnreadableInputException" (20 : Nat) "not UTF-8 text").before a0 Z = true := hw _ (List.mem_of_getElem? (i := 95) rfl)
theorem tw96 {Z : State} {a0 : Array Value} (hw : ∀ d ∈ tables_1, d.before a0 Z = true) : (Jvm.Cond.methodLink "com/example/congruent/congruent/io/UnreadableInputException" (22 : Nat) ({ cls := "java/lang/StringBuilder", name := "toString", desc := "()Ljava/lang/String;" } : Jvm.MethodName)).before a0 Z = true := hw _ (List.mem_of_getElem? (i := 96) rfl)
theorem tw97 {Z : State} {a0 : Array Value} (hw : ∀ d ∈ tables_1, d.before a0 Z = true) : (Jvm.Cond.declares ({ cls := "java/lang/StringBuilder", name := "toString", desc := "()Ljava/lang/String;" } : Jvm.MethodName)).before a0 Z = true := hw _ (List.mem_of_getElem? (i := 97) rfl)
theorem tw98 {Z : State} {a0 : Array Value} (hw : ∀ d ∈ tables_1, d.before a0 Z = true) : (Jvm.Cond.instanceMethod ({ cls := "java/lang/StringBuilder", name := "toString", desc := "()Ljava/lang/String;" } : Jvm.MethodName)).before a0 Z = true := hw _ (List.mem_of_getElem? (i := 98) rfl)
theorem tw99 {Z : State} {a0 : Array Value} (hw : ∀ d ∈ tables_1, d.before a0 Z = true) : (Jvm.Cond.selects "java/lang/StringBuilder" ({ cls := "java/lang/StringBuilder", name := "toString", desc := "()Ljava/lang/String;" } : Jvm.MethodName) ({ cls := "java/lang/StringBuilder", name := "toString", desc := "()Ljava/lang/String;" } : Jvm.MethodName)).before a0 Z = true := hw _ (List.mem_of_getElem? (i := 99) rfl)
theorem tw100 {Z : State} {a0 : Array Value} (hw : ∀ d ∈ tables_1, d.before a0 Z = true) : (Jvm.Cond.code ({ cls := "java/lang/StringBuilder", name := "toString", desc := "()Ljava/lang/String;" } : Jvm.MethodName) jdk_67_method_42_code (1 : Nat) (Option.some (Jvm.ClassFile.FieldType.object "java/lang/String"))).before a0 Z = true := hw _ (List.mem_of_getElem? (i := 100) rfl)
theorem tw101 {Z : State} {a0 : Array Value} (hw : ∀ d ∈ tables_1, d.before a0 Z = true) : (Jvm.Cond.classLink "java/lang/StringBuilder" (18 : Nat) "java/lang/String").before a0 Z = true := hw _ (List.mem_of_getElem? (i := 101) rfl)
theorem tw102 {Z : State} {a0 : Array Value} (hw : ∀ d ∈ tables_1, d.before a0 Z = true) : (Jvm.Cond.methodLink "java/lang/StringBuilder" (137 : Nat) ({ cls := "java/lang/String", name := "<init>", desc := "(Ljava/lang/StringBuilder;)V" } : Jvm.MethodName)).before a0 Z = true := hw _ (List.mem_of_getElem? (i := 102) rfl)
theorem tw103 {Z : State} {a0 : Array Value} (hw : ∀ d ∈ tables_1, d.before a0 Z = true) : (Jvm.Cond.instanceMethod ({ cls := "java/lang/String", name := "<init>", desc := "(Ljava/lang/StringBuilder;)V" } : Jvm.MethodName)).before a0 Z = true := hw _ (List.mem_of_getElem? (i := 103) rfl)
theorem tw104 {Z : State} {a0 : Array Value} (hw : ∀ d ∈ tables_1, d.before a0 Z = true) : (Jvm.Cond.code ({ cls := "java/lang/String", name := "<init>", desc := "(Ljava/lang/StringBuilder;)V" } : Jvm.MethodName) jdk_42_method_53_code (2 : Nat) (Option.none : Option Jvm.ClassFile.FieldType)).before a0 Z = true := hw _ (List.mem_of_getElem? (i := 104) rfl)
theorem tw105 {Z : State} {a0 : Array Value} (hw : ∀ d ∈ tables_1, d.before a0 Z = true) : (Jvm.Cond.methodLink "java/lang/String" (489 : Nat) ({ cls := "java/lang/String", name := "<init>", desc := "(Ljava/lang/AbstractStringBuilder;Ljava/lang/Void;)V" } : Jvm.MethodName)).before a0 Z = true := hw _ (List.mem_of_getElem? (i := 105) rfl)
theorem tw106 {Z : State} {a0 : Array Value} (hw : ∀ d ∈ tables_1, d.before a0 Z = true) : (Jvm.Cond.instanceMethod ({ cls := "java/lang/String", name := "<init>", desc := "(Ljava/lang/AbstractStringBuilder;Ljava/lang/Void;)V" } : Jvm.MethodName)).before a0 Z = true := hw _ (List.mem_of_getElem? (i := 106) rfl)
theorem tw107 {Z : State} {a0 : Array Value} (hw : ∀ d ∈ tables_1, d.before a0 Z = true) : (Jvm.Cond.code ({ cls := "java/lang/String", name := "<init>", desc := "(Ljava/lang/AbstractStringBuilder;Ljava/lang/Void;)V" } : Jvm.MethodName) jdk_42_method_150_code (5 : Nat) (Option.none : Option Jvm.ClassFile.FieldType)).before a0 Z = true := hw _ (List.mem_of_getElem? (i := 107) rfl)
theorem tw108 {Z : State} {a0 : Array Value} (hw : ∀ d ∈ tables_1, d.before a0 Z = true) : (Jvm.Cond.methodLink "java/lang/String" (552 : Nat) ({ cls := "java/lang/AbstractStringBuilder", name := "getValue", desc := "()[B" } : Jvm.MethodName)).before a0 Z = true := hw _ (List.mem_of_getElem? (i := 108) rfl)
theorem tw109 {Z : State} {a0 : Array Value} (hw : ∀ d ∈ tables_1, d.before a0 Z = true) : (Jvm.Cond.declares ({ cls := "java/lang/AbstractStringBuilder", name := "getValue", desc := "()[B" } : Jvm.MethodName)).before a0 Z = true := hw _ (List.mem_of_getElem? (i := 109) rfl)
theorem tw110 {Z : State} {a0 : Array Value} (hw : ∀ d ∈ tables_1, d.before a0 Z = true) : (Jvm.Cond.instanceMethod ({ cls := "java/lang/AbstractStringBuilder", name := "getValue", desc := "()[B" } : Jvm.MethodName)).before a0 Z = true := hw _ (List.mem_of_getElem? (i := 110) rfl)
theorem tw111 {Z : State} {a0 : Array Value} (hw : ∀ d ∈ tables_1, d.before a0 Z = true) : (Jvm.Cond.selects "java/lang/StringBuilder" ({ cls := "java/lang/AbstractStringBuilder", name := "getValue", desc := "()[B" } : Jvm.MethodName) ({ cls := "java/lang/AbstractStringBuilder", name := "getValue", desc := "()[B" } : Jvm.MethodName)).before a0 Z = true := hw _ (List.mem_of_getElem? (i := 111) rfl)
theorem tw112 {Z : State} {a0 : Array Value} (hw : ∀ d ∈ tables_1, d.before a0 Z = true) : (Jvm.Cond.code ({ cls := "java/lang/AbstractStringBuilder", name := "getValue", desc := "()[B" } : Jvm.MethodName) jdk_68_method_64_code (1 : Nat) (Option.some (Jvm.ClassFile.FieldType.array Jvm.ClassFile.FieldType.byte))).before a0 Z = true := hw _ (List.mem_of_getElem? (i := 112) rfl)
theorem tw113 {Z : State} {a0 : Array Value} (hw : ∀ d ∈ tables_1, d.before a0 Z = true) : (Jvm.Cond.methodLink "java/lang/String" (549 : Nat) ({ cls := "java/lang/AbstractStringBuilder", name := "length", desc := "()I" } : Jvm.MethodName)).before a0 Z = true := hw _ (List.mem_of_getElem? (i := 113) rfl)
theorem tw114 {Z : State} {a0 : Array Value} (hw : ∀ d ∈ tables_1, d.before a0 Z = true) : (Jvm.Cond.declares ({ cls := "java/lang/AbstractStringBuilder", name := "length", desc := "()I" } : Jvm.MethodName)).before a0 Z = true := hw _ (List.mem_of_getElem? (i := 114) rfl)
theorem tw115 {Z : State} {a0 : Array Value} (hw : ∀ d ∈ tables_1, d.before a0 Z = true) : (Jvm.Cond.instanceMethod ({ cls := "java/lang/AbstractStringBuilder", name := "length", desc := "()I" } : Jvm.MethodName)).before a0 Z = true := hw _ (List.mem_of_getElem? (i := 115) rfl)
theorem tw116 {Z : State} {a0 : Array Value} (hw : ∀ d ∈ tables_1, d.before a0 Z = true) : (Jvm.Cond.selects "java/lang/StringBuilder" ({ cls := "java/lang/AbstractStringBuilder", name := "length", desc := "()I" } : Jvm.MethodName) ({ cls := "java/lang/StringBuilder", name := "length", desc := "()I" } : Jvm.MethodName)).before a0 Z = true := hw _ (List.mem_of_getElem? (i := 116) rfl)
theorem tw117 {Z : State} {a0 : Array Value} (hw : ∀ d ∈ tables_1, d.before a0 Z = true) : (Jvm.Cond.instanceMethod ({ cls := "java/lang/StringBuilder", name := "length", desc := "()I" } : Jvm.MethodName)).before a0 Z = true := hw _ (List.mem_of_getElem? (i := 117) rfl)
theorem tw118 {Z : State} {a0 : Array Value} (hw : ∀ d ∈ tables_1, d.before a0 Z = true) : (Jvm.Cond.code ({ cls := "java/lang/StringBuilder", name := "length", desc := "()I" } : Jvm.MethodName) jdk_67_method_93_code (1 : Nat) (Option.some Jvm.ClassFile.FieldType.int)).before a0 Z = true := hw _ (List.mem_of_getElem? (i := 118) rfl)
theorem tw119 {Z : State} {a0 : Array Value} (hw : ∀ d ∈ tables_1, d.before a0 Z = true) : (Jvm.Cond.methodLink "java/lang/StringBuilder" (343 : Nat) ({ cls := "java/lang/AbstractStringBuilder", name := "length", desc := "()I" } : Jvm.MethodName)).before a0 Z = true := hw _ (List.mem_of_getElem? (i := 119) rfl)
theorem tw120 {Z : State} {a0 : Array Value} (hw : ∀ d ∈ tables_1, d.before a0 Z = true) : (Jvm.Cond.code ({ cls := "java/lang/AbstractStringBuilder", name := "length", desc := "()I" } : Jvm.MethodName) jdk_68_method_6_code (1 : Nat) (Option.some Jvm.ClassFile.FieldType.int)).before a0 Z = true := hw _ (List.mem_of_getElem? (i := 120) rfl)
theorem tw121 {Z : State} {a0 : Array Value} (hw : ∀ d ∈ tables_1, d.before a0 Z = true) : (Jvm.Cond.methodLink "java/lang/String" (1047 : Nat) ({ cls := "java/lang/AbstractStringBuilder", name := "isLatin1", desc := "()Z" } : Jvm.MethodName)).before a0 Z = true := hw _ (List.mem_of_getElem? (i := 121) rfl)
theorem tw122 {Z : State} {a0 : Array Value} (hw : ∀ d ∈ tables_1, d.before a0 Z = true) : (Jvm.Cond.declares ({ cls := "java/lang/AbstractStringBuilder", name := "isLatin1", desc := "()Z" } : Jvm.MethodName)).before a0 Z = true := hw _ (List.mem_of_getElem? (i := 122) rfl)
theorem tw123 {Z : State} {a0 : Array Value} (hw : ∀ d ∈ tables_1, d.before a0 Z = true) : (Jvm.Cond.instanceMethod ({ cls := "java/lang/AbstractStringBuilder", name := "isLatin1", desc := "()Z" } : Jvm.MethodName)).before a0 Z = true := hw _ (List.mem_of_getElem? (i := 123) rfl)
theorem tw124 {Z : State} {a0 : Array Value} (hw : ∀ d ∈ tables_1, d.before a0 Z = true) : (Jvm.Cond.selects "java/lang/StringBuilder" ({ cls := "java/lang/AbstractStringBuilder", name := "isLatin1", desc := "()Z" } : Jvm.MethodName) ({ cls := "java/lang/AbstractStringBuilder", name := "isLatin1", desc := "()Z" } : Jvm.MethodName)).before a0 Z = true := hw _ (List.mem_of_getElem? (i := 124) rfl)
theorem tw125 {Z : State} {a0 : Array Value} (hw : ∀ d ∈ tables_1, d.before a0 Z = true) : (Jvm.Cond.code ({ cls := "java/lang/AbstractStringBuilder", name := "isLatin1", desc := "()Z" } : Jvm.MethodName) jdk_68_method_68_code (1 : Nat) (Option.some Jvm.ClassFile.FieldType.boolean)).before a0 Z = true := hw _ (List.mem_of_getElem? (i := 125) rfl)
theorem tw126 {Z : State} {a0 : Array Value} (hw : ∀ d ∈ tables_1, d.before a0 Z = true) : (Jvm.Cond.methodLink "java/lang/String" (54 : Nat) ({ cls := "java/util/Arrays", name := "copyOfRange", desc := "([BII)[B" } : Jvm.MethodName)).before a0 Z = true := hw _ (List.mem_of_getElem? (i := 126) rfl)
theorem tw127 {Z : State} {a0 : Array Value} (hw : ∀ d ∈ tables_1, d.before a0 Z = true) : (Jvm.Cond.static ({ cls := "java/util/Arrays", name := "copyOfRange", desc := "([BII)[B" } : Jvm.MethodName)).before a0 Z = true := hw _ (List.mem_of_getElem? (i := 127) rfl)
theorem tw128 {Z : State} {a0 : Array Value} (hw : ∀ d ∈ tables_1, d.before a0 Z = true) : (Jvm.Cond.initialized "java/util/Arrays").before a0 Z = true := hw _ (List.mem_of_getElem? (i := 128) rfl)
theorem tw129 {Z : State} {a0 : Array Value} (hw : ∀ d ∈ tables_1, d.before a0 Z = true) : (Jvm.Cond.code ({ cls := "java/util/Arrays", name := "copyOfRange", desc := "([BII)[B" } : Jvm.MethodName) jdk_65_method_132_code (3 : Nat) (Option.some (Jvm.ClassFile.FieldType.array Jvm.ClassFile.FieldType.byte))).before a0 Z = true := hw _ (List.mem_of_getElem? (i := 129) rfl)
theorem tw130 {Z : State} {a0 : Array Value} (hw : ∀ d ∈ tables_1, d.before a0 Z = true) : (Jvm.Cond.methodLink "java/util/Arrays" (310 : Nat) ({ cls := "[B", name := "clone", desc := "()Ljava/lang/Object;" } : Jvm.MethodName)).before a0 Z = true := hw _ (List.mem_of_getElem? (i := 130) rfl)
theorem tw131 {Z : State} {a0 : Array Value} (hw : ∀ d ∈ tables_1, d.before a0 Z = true) : (Jvm.Cond.sameMethod "[B" "java/lang/Object" "clone" "()Ljava/lang/Object;").before a0 Z = true := hw _ (List.mem_of_getElem? (i := 131) rfl)
theorem tw133 {Z : State} {a0 : Array Value} (hw : ∀ d ∈ tables_1, d.before a0 Z = true) : (Jvm.Cond.instanceMethod ({ cls := "java/lang/Object", name := "clone", desc := "()Ljava/lang/Object;" } : Jvm.MethodName)).before a0 Z = true := hw _ (List.mem_of_getElem? (i := 133) rfl)
theorem tw134 {Z : State} {a0 : Array Value} (hw : ∀ d ∈ tables_1, d.before a0 Z = true) : (Jvm.Cond.selects "[B" ({ cls := "[B", name := "clone", desc := "()Ljava/lang/Object;" } : Jvm.MethodName) ({ cls := "java/lang/Object", name := "clone", desc := "()Ljava/lang/Object;" } : Jvm.MethodName)).before a0 Z = true := hw _ (List.mem_of_getElem? (i := 134) rfl)
theorem tw135 {Z : State} {a0 : Array Value} (hw : ∀ d ∈ tables_1, d.before a0 Z = true) : (Jvm.Cond.native ({ cls := "java/lang/Object", name := "clone", desc := "()Ljava/lang/Object;" } : Jvm.MethodName)).before a0 Z = true := hw _ (List.mem_of_getElem? (i := 135) rfl)
theorem tw136 {Z : State} {a0 : Array Value} (hw : ∀ d ∈ tables_1, d.before a0 Z = true) : (Jvm.Cond.castable "[B" "java/lang/Cloneable").before a0 Z = true := hw _ (List.mem_of_getElem? (i := 136) rfl)
theorem tw137 {Z : State} {a0 : Array Value} (hw : ∀ d ∈ tables_1, d.before a0 Z = true) : (Jvm.Cond.classLink "java/util/Arrays" (311 : Nat) "[B").before a0 Z = true := hw _ (List.mem_of_getElem? (i := 137) rfl)
theorem tw139 {Z : State} {a0 : Array Value} (hw : ∀ d ∈ tables_1, d.before a0 Z = true) : (Jvm.Cond.methodLink "com/example/congruent/congruent/io/UnreadableInputException" (26 : Nat) ({ cls := "com/example/congruent/congruent/io/UnreadableInputException", name := "<init>", desc := "(Ljava/lang/String;)V" } : Jvm.MethodName)).before a0 Z = true := hw _ (List.mem_of_getElem? (i := 139) rfl)
theorem tw140 {Z : State} {a0 : Array Value} (hw : ∀ d ∈ tables_1, d.before a0 Z = true) : (Jvm.Cond.instanceMethod ({ cls := "com/example/congruent/congruent/io/UnreadableInputException", name := "<init>", desc := "(Ljava/lang/String;)V" } : Jvm.MethodName)).before a0 Z = true := hw _ (List.mem_of_getElem? (i := 140) rfl)
theorem tw141 {Z : State} {a0 : Array Value} (hw : ∀ d ∈ tables_1, d.before a0 Z = true) : (Jvm.Cond.code ({ cls := "com/example/congruent/congruent/io/UnreadableInputException", name := "<init>", desc := "(Ljava/lang/String;)V" } : Jvm.MethodName) prog_13_method_1_code (2 : Nat) (Option.none : Option Jvm.ClassFile.FieldType)).before a0 Z = true := hw _ (List.mem_of_getElem? (i := 141) rfl)
theorem tw142 {Z : State} {a0 : Array Value} (hw : ∀ d ∈ tables_1, d.before a0 Z = true) : (Jvm.Cond.methodLink "com/example/congruent/congruent/io/UnreadableInputException" (1 : Nat) ({ cls := "java/lang/Exception", name := "<init>", desc := "(Ljava/lang/String;)V" } : Jvm.MethodName)).before a0 Z = true := hw _ (List.mem_of_getElem? (i := 142) rfl)
theorem tw143 {Z : State} {a0 : Array Value} (hw : ∀ d ∈ tables_1, d.before a0 Z = true) : (Jvm.Cond.instanceMethod ({ cls := "java/lang/Exception", name := "<init>", desc := "(Ljava/lang/String;)V" } : Jvm.MethodName)).before a0 Z = true := hw _ (List.mem_of_getElem? (i := 143) rfl)
theorem tw145 {Z : State} {a0 : Array Value} (hw : ∀ d ∈ tables_1, d.before a0 Z = true) : (Jvm.Cond.initialized "java/lang/Exception").before a0 Z = true := hw _ (List.mem_of_getElem? (i := 145) rfl)
theorem tw146 {Z : State} {a0 : Array Value} (hw : ∀ d ∈ tables_1, d.before a0 Z = true) : (Jvm.Cond.code ({ cls := "java/lang/Exception", name := "<init>", desc := "(Ljava/lang/String;)V" } : Jvm.MethodName) jdk_59_method_2_code (2 : Nat) (Option.none : Option Jvm.ClassFile.FieldType)).before a0 Z = true := hw _ (List.mem_of_getElem? (i := 146) rfl)
theorem tw147 {Z : State} {a0 : Array Value} (hw : ∀ d ∈ tables_1, d.before a0 Z = true) : (Jvm.Cond.methodLink "java/lang/Exception" (7 : Nat) ({ cls := "java/lang/Throwable", name := "<init>", desc := "(Ljava/lang/String;)V" } : Jvm.MethodName)).before a0 Z = true := hw _ (List.mem_of_getElem? (i := 147) rfl)
theorem tw148 {Z : State} {a0 : Array Value} (hw : ∀ d ∈ tables_1, d.before a0 Z = true) : (Jvm.Cond.instanceMethod ({ cls := "java/lang/Throwable", name := "<init>", desc := "(Ljava/lang/String;)V" } : Jvm.MethodName)).before a0 Z = true := hw _ (List.mem_of_getElem? (i := 148) rfl)
theorem tw151 {Z : State} {a0 : Array Value} (hw : ∀ d ∈ tables_1, d.before a0 Z = true) : (Jvm.Cond.initialized "java/lang/Throwable").before a0 Z = true := hw _ (List.mem_of_getElem? (i := 151) rfl)
theorem tw152 {Z : State} {a0 : Array Value} (hw : ∀ d ∈ tables_1, d.before a0 Z = true) : (Jvm.Cond.code ({ cls := "java/lang/Throwable", name := "<init>", desc := "(Ljava/lang/String;)V" } : Jvm.MethodName) jdk_78_method_2_code (2 : Nat) (Option.none : Option Jvm.ClassFile.FieldType)).before a0 Z = true := hw _ (List.mem_of_getElem? (i := 152) rfl)
theorem tw153 {Z : State} {a0 : Array Value} (hw : ∀ d ∈ tables_1, d.before a0 Z = true) : (Jvm.Cond.methodLink "java/lang/Throwable" (1 : Nat) ({ cls := "java/lang/Object", name := "<init>", desc := "()V" } : Jvm.MethodName)).before a0 Z = true := hw _ (List.mem_of_getElem? (i := 153) rfl)
theorem tw154 {Z : State} {a0 : Array Value} (hw : ∀ d ∈ tables_1, d.before a0 Z = true) : (Jvm.Cond.fieldLink "java/lang/Throwable" (7 : Nat) "java/lang/Throwable" "cause" "Ljava/lang/Throwable;").before a0 Z = true := hw _ (List.mem_of_getElem? (i := 154) rfl)
theorem tw155 {Z : State} {a0 : Array Value} (hw : ∀ d ∈ tables_1, d.before a0 Z = true) : (Jvm.Cond.lays "com/example/congruent/congruent/io/UnreadableInputException" "java/lang/Throwable" "cause" "Ljava/lang/Throwable;").before a0 Z = true := hw _ (List.mem_of_getElem? (i := 155) rfl)
theorem tw156 {Z : State} {a0 : Array Value} (hw : ∀ d ∈ tables_1, d.before a0 Z = true) : (Jvm.Cond.fieldLink "java/lang/Throwable" (13 : Nat) "java/lang/Throwable" "UNASSIGNED_STACK" "[Ljava/lang/StackTraceElement;").before a0 Z = true := hw _ (List.mem_of_getElem? (i := 156) rfl)
theorem tw157 {Z : State} {a0 : Array Value} (hw : ∀ d ∈ tables_1, d.before a0 Z = true) : (Jvm.Cond.fieldLink "java/lang/Throwable" (17 : Nat) "java/lang/Throwable" "stackTrace" "[Ljava/lang/StackTraceElement;").before a0 Z = true := hw _ (List.mem_of_getElem? (i := 157) rfl)
theorem tw158 {Z : State} {a0 : Array Value} (hw : ∀ d ∈ tables_1, d.before a0 Z = true) : (Jvm.Cond.lays "com/example/congruent/congruent/io/UnreadableInputException" "java/lang/Throwable" "stackTrace" "[Ljava/lang/StackTraceElement;").before a0 Z = true := hw _ (List.mem_of_getElem? (i := 158) rfl)
theorem tw159 {Z : State} {a0 : Array Value} (hw : ∀ d ∈ tables_1, d.before a0 Z = true) : (Jvm.Cond.fieldLink "java/lang/Throwable" (20 : Nat) "java/lang/Throwable" "SUPPRESSED_SENTINEL" "Ljava/util/List;").before a0 Z = true := hw _ (List.mem_of_getElem? (i := 159) rfl)
theorem tw160 {Z : State} {a0 : Array Value} (hw : ∀ d ∈ tables_1, d.before a0 Z = true) : (Jvm.Cond.fieldLink "java/lang/Throwable" (24 : Nat) "java/lang/Throwable" "suppressedExceptions" "Ljava/util/List;").before a0 Z = true := hw _ (List.mem_of_getElem? (i := 160) rfl)
theorem tw161 {Z : State} {a0 : Array Value} (hw : ∀ d ∈ tables_1, d.before a0 Z = true) : (Jvm.Cond.lays "com/example/congruent/congruent/io/UnreadableInputException" "java/lang/Throwable" "suppressedExceptions" "Ljava/util/List;").before a0 Z = true := hw _ (List.mem_of_getElem? (i := 161) rfl)
theorem tw185 {Z : State} {a0 : Array Value} (hw : ∀ d ∈ tables_1, d.before a0 Z = true) : (Jvm.Cond.lays "com/example/congruent/congruent/io/UnreadableInputException" "java/lang/Throwable" "detailMessage" "Ljava/lang/String;").before a0 Z = true := hw _ (List.mem_of_getElem? (i := 185) rfl)
theorem tw186 {Z : State} {a0 : Array Value} (hw : ∀ d ∈ tables_1, d.before a0 Z = true) : (Jvm.Cond.lays "com/example/congruent/congruent/io/UnreadableInputException" "java/lang/Throwable" "backtrace" "Ljava/lang/Object;").before a0 Z = true := hw _ (List.mem_of_getElem? (i := 186) rfl)
theorem tw189 {Z : State} {a0 : Array Value} (hw : ∀ d ∈ tables_1, d.before a0 Z = true) : (Jvm.Cond.fieldLink "java/lang/Throwable" (31 : Nat) "java/lang/Throwable" "detailMessage" "Ljava/lang/String;").before a0 Z = true := hw _ (List.mem_of_getElem? (i := 189) rfl)
theorem tw190 {Z : State} {a0 : Array Value} (hw : ∀ d ∈ tables_1, d.before a0 Z = true) : (Jvm.Cond.methodLink "com/example/congruent/congruent/io/UnreadableInputExceptionNotUtf8PinLaw" (22 : Nat) ({ cls := "com/example/congruent/congruent/io/UnreadableInputException", name := "getMessage", desc := "()Ljava/lang/String;" } : Jvm.MethodName)).before a0 Z = true := hw _ (List.mem_of_getElem? (i := 190) rfl)
theorem tw191 {Z : State} {a0 : Array Value} (hw : ∀ d ∈ tables_1, d.before a0 Z = true) : (Jvm.Cond.sameMethod "com/example/congruent/congruent/io/UnreadableInputException" "java/lang/Throwable" "getMessage" "()Ljava/lang/String;").before a0 Z = true := hw _ (List.mem_of_getElem? (i := 191) rfl)
theorem tw192 {Z : State} {a0 : Array Value} (hw : ∀ d ∈ tables_1, d.before a0 Z = true) : (Jvm.Cond.declares ({ cls := "java/lang/Throwable", name := "getMessage", desc := "()Ljava/lang/String;" } : Jvm.MethodName)).before a0 Z = true := hw _ (List.mem_of_getElem? (i := 192) rfl)
theorem tw193 {Z : State} {a0 : Array Value} (hw : ∀ d ∈ tables_1, d.before a0 Z = true) : (Jvm.Cond.instanceMethod ({ cls := "java/lang/Throwable", name := "getMessage", desc := "()Ljava/lang/String;" } : Jvm.MethodName)).before a0 Z = true := hw _ (List.mem_of_getElem? (i := 193) rfl)
theorem tw194 {Z : State} {a0 : Array Value} (hw : ∀ d ∈ tables_1, d.before a0 Z = true) : (Jvm.Cond.selects "com/example/congruent/congruent/io/UnreadableInputException" ({ cls := "com/example/congruent/congruent/io/UnreadableInputException", name := "getMessage", desc := "()Ljava/lang/String;" } : Jvm.MethodName) ({ cls := "java/lang/Throwable", name := "getMessage", desc := "()Ljava/lang/String;" } : Jvm.MethodName)).before a0 Z = true := hw _ (List.mem_of_getElem? (i := 194) rfl)
theorem tw195 {Z : State} {a0 : Array Value} (hw : ∀ d ∈ tables_1, d.before a0 Z = true) : (Jvm.Cond.code ({ cls := "java/lang/Throwable", name := "getMessage", desc := "()Ljava/lang/String;" } : Jvm.MethodName) jdk_78_method_6_code (1 : Nat) (Option.some (Jvm.ClassFile.FieldType.object "java/lang/String"))).before a0 Z = true := hw _ (List.mem_of_getElem? (i := 195) rfl)
theorem tw196 {Z : State} {a0 : Array Value} (hw : ∀ d ∈ tables_1, d.before a0 Z = true) : (Jvm.Cond.methodLink "com/example/congruent/congruent/io/UnreadableInputExceptionNotUtf8PinLaw" (26 : Nat) ({ cls := "java/lang/String", name := "length", desc := "()I" } : Jvm.MethodName)).before a0 Z = true := hw _ (List.mem_of_getElem? (i := 196) rfl)
theorem tw197 {Z : State} {a0 : Array Value} (hw : ∀ d ∈ tables_1, d.before a0 Z = true) : (Jvm.Cond.methodLink "com/example/congruent/congruent/io/UnreadableInputExceptionNotUtf8PinLaw" (34 : Nat) ({ cls := "com/example/congruent/congruent/io/UnreadableInputExceptionNotUtf8PinLaw", name := "suffixAt", desc := "(Ljava/lang/String;I)Z" } : Jvm.MethodName)).before a0 Z = true := hw _ (List.mem_of_getElem? (i := 197) rfl)
theorem tw198 {Z : State} {a0 : Array Value} (hw : ∀ d ∈ tables_1, d.before a0 Z = true) : (Jvm.Cond.static ({ cls := "com/example/congruent/congruent/io/UnreadableInputExceptionNotUtf8PinLaw", name := "suffixAt", desc := "(Ljava/lang/String;I)Z" } : Jvm.MethodName)).before a0 Z = true := hw _ (List.mem_of_getElem? (i := 198) rfl)
theorem tw199 {Z : State} {a0 : Array Value} (hw : ∀ d ∈ tables_1, d.before a0 Z = true) : (Jvm.Cond.initialized "com/example/congruent/congruent/io/UnreadableInputExceptionNotUtf8PinLaw").before a0 Z = true := hw _ (List.mem_of_getElem? (i := 199) rfl)
theorem tw200 {Z : State} {a0 : Array Value} (hw : ∀ d ∈ tables_1, d.before a0 Z = true) : (Jvm.Cond.code ({ cls := "com/example/congruent/congruent/io/UnreadableInputExceptionNotUtf8PinLaw", name := "suffixAt", desc := "(Ljava/lang/String;I)Z" } : Jvm.MethodName) method_3_code (2 : Nat) (Option.some Jvm.ClassFile.FieldType.boolean)).before a0 Z = true := hw _ (List.mem_of_getElem? (i := 200) rfl)
theorem tw201 {Z : State} {a0 : Array Value} (hw : ∀ d ∈ tables_1, d.before a0 Z = true) : (Jvm.Cond.methodLink "com/example/congruent/congruent/io/UnreadableInputExceptionNotUtf8PinLaw" (30 : Nat) ({ cls := "java/lang/String", name := "charAt", desc := "(I)C" } : Jvm.MethodName)).before a0 Z = true := hw _ (List.mem_of_getElem? (i := 201) rfl)
theorem tw202 {Z : State} {a0 : Array Value} (hw : ∀ d ∈ tables_1, d.before a0 Z = true) : (Jvm.Cond.declares ({ cls := "java/lang/String", name := "charAt", desc := "(I)C" } : Jvm.MethodName)).before a0 Z = true := hw _ (List.mem_of_getElem? (i := 202) rfl)
theorem tw203 {Z : State} {a0 : Array Value} (hw : ∀ d ∈ tables_1, d.before a0 Z = true) : (Jvm.Cond.instanceMethod ({ cls := "java/lang/String", name := "charAt", desc := "(I)C" } : Jvm.MethodName)).before a0 Z = true := hw _ (List.mem_of_getElem? (i := 203) rfl)
theorem tw204 {Z : State} {a0 : Array Value} (hw : ∀ d ∈ tables_1, d.before a0 Z = true) : (Jvm.Cond.selects "java/lang/String" ({ cls := "java/lang/String", name := "charAt", desc := "(I)C" } : Jvm.MethodName) ({ cls := "java/lang/String", name := "charAt", desc := "(I)C" } : Jvm.MethodName)).before a0 Z = true := hw _ (List.mem_of_getElem? (i := 204) rfl)
theorem tw205 {Z : State} {a0 : Array Value} (hw : ∀ d ∈ tables_1, d.before a0 Z = true) : (Jvm.Cond.code ({ cls := "java/lang/String", name := "charAt", desc := "(I)C" } : Jvm.MethodName) jdk_42_method_56_code (2 : Nat) (Option.some Jvm.ClassFile.FieldType.char)).before a0 Z = true := hw _ (List.mem_of_getElem? (i := 205) rfl)
theorem tw206 {Z : State} {a0 : Array Value} (hw : ∀ d ∈ tables_1, d.before a0 Z = true) : (Jvm.Cond.methodLink "java/lang/String" (492 : Nat) ({ cls := "java/lang/String", name := "isLatin1", desc := "()Z" } : Jvm.MethodName)).before a0 Z = true := hw _ (List.mem_of_getElem? (i := 206) rfl)
theorem tw207 {Z : State} {a0 : Array Value} (hw : ∀ d ∈ tables_1, d.before a0 Z = true) : (Jvm.Cond.declares ({ cls := "java/lang/String", name := "isLatin1", desc := "()Z" } : Jvm.MethodName)).before a0 Z = true := hw _ (List.mem_of_getElem? (i := 207) rfl)
theorem tw208 {Z : State} {a0 : Array Value} (hw : ∀ d ∈ tables_1, d.before a0 Z = true) : (Jvm.Cond.instanceMethod ({ cls := "java/lang/String", name := "isLatin1", desc := "()Z" } : Jvm.MethodName)).before a0 Z = true := hw _ (List.mem_of_getElem? (i := 208) rfl)
theorem tw209 {Z : State} {a0 : Array Value} (hw : ∀ d ∈ tables_1, d.before a0 Z = true) : (Jvm.Cond.selects "java/lang/String" ({ cls := "java/lang/String", name := "isLatin1", desc := "()Z" } : Jvm.MethodName) ({ cls := "java/lang/String", name := "isLatin1", desc := "()Z" } : Jvm.MethodName)).before a0 Z = true := hw _ (List.mem_of_getElem? (i := 209) rfl)
theorem tw210 {Z : State} {a0 : Array Value} (hw : ∀ d ∈ tables_1, d.before a0 Z = true) : (Jvm.Cond.code ({ cls := "java/lang/String", name := "isLatin1", desc := "()Z" } : Jvm.MethodName) jdk_42_method_154_code (1 : Nat) (Option.some Jvm.ClassFile.FieldType.boolean)).before a0 Z = true := hw _ (List.mem_of_getElem? (i := 210) rfl)
theorem tw211 {Z : State} {a0 : Array Value} (hw : ∀ d ∈ tables_1, d.before a0 Z = true) : (Jvm.Cond.methodLink "java/lang/String" (495 : Nat) ({ cls := "java/lang/StringLatin1", name := "charAt", desc := "([BI)C" } : Jvm.MethodName)).before a0 Z = true := hw _ (List.mem_of_getElem? (i := 211) rfl)
theorem tw212 {Z : State} {a0 : Array Value} (hw : ∀ d ∈ tables_1, d.before a0 Z = true) : (Jvm.Cond.static ({ cls := "java/lang/StringLatin1", name := "charAt", desc := "([BI)C" } : Jvm.MethodName)).before a0 Z = true := hw _ (List.mem_of_getElem? (i := 212) rfl)
theorem tw213 {Z : State} {a0 : Array Value} (hw : ∀ d ∈ tables_1, d.before a0 Z = true) : (Jvm.Cond.initialized "java/lang/StringLatin1").before a0 Z = true := hw _ (List.mem_of_getElem? (i := 213) rfl)
theorem tw214 {Z : State} {a0 : Array Value} (hw : ∀ d ∈ tables_1, d.before a0 Z = true) : (Jvm.Cond.code ({ cls := "java/lang/StringLatin1", name := "charAt", desc := "([BI)C" } : Jvm.MethodName) jdk_43_method_2_code (2 : Nat) (Option.some Jvm.ClassFile.FieldType.char)).before a0 Z = true := hw _ (List.mem_of_getElem? (i := 214) rfl)
theorem tw215 {Z : State} {a0 : Array Value} (hw : ∀ d ∈ tables_1, d.before a0 Z = true) : (Jvm.Cond.methodLink "java/lang/StringLatin1" (9 : Nat) ({ cls := "java/lang/String", name := "checkIndex", desc := "(II)V" } : Jvm.MethodName)).before a0 Z = true := hw _ (List.mem_of_getElem? (i := 215) rfl)
theorem tw216 {Z : State} {a0 : Array Value} (hw : ∀ d ∈ tables_1, d.before a0 Z = true) : (Jvm.Cond.static ({ cls := "java/lang/String", name := "checkIndex", desc := "(II)V" } : Jvm.MethodName)).before a0 Z = true := hw _ (List.mem_of_getElem? (i := 216) rfl)
theorem tw217 {Z : State} {a0 : Array Value} (hw : ∀ d ∈ tables_1, d.before a0 Z = true) : (Jvm.Cond.code ({ cls := "java/lang/String", name := "checkIndex", desc := "(II)V" } : Jvm.MethodName) jdk_42_method_155_code (2 : Nat) (Option.none : Option Jvm.ClassFile.FieldType)).before a0 Z = true := hw _ (List.mem_of_getElem? (i := 217) rfl)
theorem tw218 {Z : State} {a0 : Array Value} (hw : ∀ d ∈ tables_1, d.before a0 Z = true) : (Jvm.Cond.fieldLink "java/lang/String" (1053 : Nat) "jdk/internal/util/Preconditions" "SIOOBE_FORMATTER" "Ljava/util/function/BiFunction;").before a0 Z = true := hw _ (List.mem_of_getElem? (i := 218) rfl)
theorem tw219 {Z : State} {a0 : Array Value} (hw : ∀ d ∈ tables_1, d.before a0 Z = true) : (Jvm.Cond.initialized "jdk/internal/util/Preconditions").before a0 Z = true := hw _ (List.mem_of_getElem? (i := 219) rfl)
theorem tw220 {Z : State} {a0 : Array Value} (hw : ∀ d ∈ tables_1, d.before a0 Z = true) : (Jvm.Cond.methodLink "java/lang/String" (1059 : Nat) ({ cls := "jdk/internal/util/Preconditions", name := "checkIndex", desc := "(IILjava/util/function/BiFunction;)I" } : Jvm.MethodName)).before a0 Z = true := hw _ (List.mem_of_getElem? (i := 220) rfl)
theorem tw221 {Z : State} {a0 : Array Value} (hw : ∀ d ∈ tables_1, d.before a0 Z = true) : (Jvm.Cond.static ({ cls := "jdk/internal/util/Preconditions", name := "checkIndex", desc := "(IILjava/util/function/BiFunction;)I" } : Jvm.MethodName)).before a0 Z = true := hw _ (List.mem_of_getElem? (i := 221) rfl)
theorem tw222 {Z : State} {a0 : Array Value} (hw : ∀ d ∈ tables_1, d.before a0 Z = true) : (Jvm.Cond.code ({ cls := "jdk/internal/util/Preconditions", name := "checkIndex", desc := "(IILjava/util/function/BiFunction;)I" } : Jvm.MethodName) jdk_41_method_11_code (3 : Nat) (Option.some Jvm.ClassFile.FieldType.int)).before a0 Z = true := hw _ (List.mem_of_getElem? (i := 222) rfl)
theorem tw223 {Z : State} {a0 : Array Value} (hw : ∀ d ∈ tables_1, d.before a0 Z = true) : (Jvm.Cond.methodLink "java/lang/String" (177 : Nat) ({ cls := "java/lang/StringUTF16", name := "compress", desc := "([CII)[B" } : Jvm.MethodName)).before a0 Z = true := hw _ (List.mem_of_getElem? (i := 223) rfl)
theorem tw224 {Z : State} {a0 : Array Value} (hw : ∀ d ∈ tables_1, d.before a0 Z = true) : (Jvm.Cond.static ({ cls := "java/lang/StringUTF16", name := "compress", desc := "([CII)[B" } : Jvm.MethodName)).before a0 Z = true := hw _ (List.mem_of_getElem? (i := 224) rfl)
theorem tw225 {Z : State} {a0 : Array Value} (hw : ∀ d ∈ tables_1, d.before a0 Z = true) : (Jvm.Cond.initialized "java/lang/StringUTF16").before a0 Z = true := hw _ (List.mem_of_getElem? (i := 225) rfl)
theorem tw226 {Z : State} {a0 : Array Value} (hw : ∀ d ∈ tables_1, d.before a0 Z = true) : (Jvm.Cond.code ({ cls := "java/lang/StringUTF16", name := "compress", desc := "([CII)[B" } : Jvm.MethodName) jdk_52_method_16_code (6 : Nat) (Option.some (Jvm.ClassFile.FieldType.array Jvm.ClassFile.FieldType.byte))).before a0 Z = true := hw _ (List.mem_of_getElem? (i := 226) rfl)
theorem tw227 {Z : State} {a0 : Array Value} (hw : ∀ d ∈ tables_1, d.before a0 Z = true) : (Jvm.Cond.methodLink "java/lang/StringUTF16" (115 : Nat) ({ cls := "java/lang/StringUTF16", name := "compress", desc := "([CI[BII)I" } : Jvm.MethodName)).before a0 Z = true := hw _ (List.mem_of_getElem? (i := 227) rfl)
theorem tw228 {Z : State} {a0 : Array Value} (hw : ∀ d ∈ tables_1, d.before a0 Z = true) : (Jvm.Cond.static ({ cls := "java/lang/StringUTF16", name := "compress", desc := "([CI[BII)I" } : Jvm.MethodName)).before a0 Z = true := hw _ (List.mem_of_getElem? (i := 228) rfl)
theorem tw229 {Z : State} {a0 : Array Value} (hw : ∀ d ∈ tables_1, d.before a0 Z = true) : (Jvm.Cond.code ({ cls := "java/lang/StringUTF16", name := "compress", desc := "([CI[BII)I" } : Jvm.MethodName) jdk_52_method_21_code (7 : Nat) (Option.some Jvm.ClassFile.FieldType.int)).before a0 Z = true := hw _ (List.mem_of_getElem? (i := 229) rfl)
theorem tw230 {Z : State} {a0 : Array Value} (hw : ∀ d ∈ tables_1, d.before a0 Z = true) : (Jvm.Cond.methodLink "java/lang/String" (47 : Nat) ({ cls := "java/lang/StringUTF16", name := "coderFromArrayLen", desc := "([BI)B" } : Jvm.MethodName)).before a0 Z = true := hw _ (List.mem_of_getElem? (i := 230) rfl)
theorem tw231 {Z : State} {a0 : Array Value} (hw : ∀ d ∈ tables_1, d.before a0 Z = true) : (Jvm.Cond.static ({ cls := "java/lang/StringUTF16", name := "coderFromArrayLen", desc := "([BI)B" } : Jvm.MethodName)).before a0 Z = true := hw _ (List.mem_of_getElem? (i := 231) rfl)
theorem tw232 {Z : State} {a0 : Array Value} (hw : ∀ d ∈ tables_1, d.before a0 Z = true) : (Jvm.Cond.code ({ cls := "java/lang/StringUTF16", name := "coderFromArrayLen", desc := "([BI)B" } : Jvm.MethodName) jdk_52_method_15_code (2 : Nat) (Option.some Jvm.ClassFile.FieldType.byte)).before a0 Z = true := hw _ (List.mem_of_getElem? (i := 232) rfl)
theorem tw233 {Z : State} {a0 : Array Value} (hw : ∀ d ∈ tables_1, d.before a0 Z = true) : (Jvm.Cond.methodLink "java/lang/AbstractStringBuilder" (104 : Nat) ({ cls := "java/lang/AbstractStringBuilder", name := "newCapacity", desc := "(I)I" } : Jvm.MethodName)).before a0 Z = true := hw _ (List.mem_of_getElem? (i := 233) rfl)
theorem tw234 {Z : State} {a0 : Array Value} (hw : ∀ d ∈ tables_1, d.before a0 Z = true) : (Jvm.Cond.instanceMethod ({ cls := "java/lang/AbstractStringBuilder", name := "newCapacity", desc := "(I)I" } : Jvm.MethodName)).before a0 Z = true := hw _ (List.mem_of_getElem? (i := 234) rfl)
theorem tw236 {Z : State} {a0 : Array Value} (hw : ∀ d ∈ tables_1, d.before a0 Z = true) : (Jvm.Cond.selects "java/lang/StringBuilder" ({ cls := "java/lang/AbstractStringBuilder", name := "newCapacity", desc := "(I)I" } : Jvm.MethodName) ({ cls := "java/lang/AbstractStringBuilder", name := "newCapacity", desc := "(I)I" } : Jvm.MethodName)).before a0 Z = true := hw _ (List.mem_of_getElem? (i := 236) rfl)
theorem tw237 {Z : State} {a0 : Array Value} (hw : ∀ d ∈ tables_1, d.before a0 Z = true) : (Jvm.Cond.code ({ cls := "java/lang/AbstractStringBuilder", name := "newCapacity", desc := "(I)I" } : Jvm.MethodName) jdk_68_method_10_code (6 : Nat) (Option.some Jvm.ClassFile.FieldType.int)).before a0 Z = true := hw _ (List.mem_of_getElem? (i := 237) rfl)
theorem tw238 {Z : State} {a0 : Array Value} (hw : ∀ d ∈ tables_1, d.before a0 Z = true) : (Jvm.Cond.methodLink "java/lang/AbstractStringBuilder" (114 : Nat) ({ cls := "jdk/internal/util/ArraysSupport", name := "newLength", desc := "(III)I" } : Jvm.MethodName)).before a0 Z = true := hw _ (List.mem_of_getElem? (i := 238) rfl)
theorem tw239 {Z : State} {a0 : Array Value} (hw : ∀ d ∈ tables_1, d.before a0 Z = true) : (Jvm.Cond.static ({ cls := "jdk/internal/util/ArraysSupport", name := "newLength", desc := "(III)I" } : Jvm.MethodName)).before a0 Z = true := hw _ (List.mem_of_getElem? (i := 239) rfl)
theorem tw240 {Z : State} {a0 : Array Value} (hw : ∀ d ∈ tables_1, d.before a0 Z = true) : (Jvm.Cond.initialized "jdk/internal/util/ArraysSupport").before a0 Z = true := hw _ (List.mem_of_getElem? (i := 240) rfl)
theorem tw241 {Z : State} {a0 : Array Value} (hw : ∀ d ∈ tables_1, d.before a0 Z = true) : (Jvm.Cond.code ({ cls := "jdk/internal/util/ArraysSupport", name := "newLength", desc := "(III)I" } : Jvm.MethodName) jdk_48_method_27_code (4 : Nat) (Option.some Jvm.ClassFile.FieldType.int)).before a0 Z = true := hw _ (List.mem_of_getElem? (i := 241) rfl)
theorem tw242 {Z : State} {a0 : Array Value} (hw : ∀ d ∈ tables_1, d.before a0 Z = true) : (Jvm.Cond.methodLink "jdk/internal/util/ArraysSupport" (194 : Nat) ({ cls := "java/lang/Math", name := "max", desc := "(II)I" } : Jvm.MethodName)).before a0 Z = true := hw _ (List.mem_of_getElem? (i := 242) rfl)
theorem tw243 {Z : State} {a0 : Array Value} (hw : ∀ d ∈ tables_1, d.before a0 Z = true) : (Jvm.Cond.static ({ cls := "java/lang/Math", name := "max", desc := "(II)I" } : Jvm.MethodName)).before a0 Z = true := hw _ (List.mem_of_getElem? (i := 243) rfl)
theorem tw244 {Z : State} {a0 : Array Value} (hw : ∀ d ∈ tables_1, d.before a0 Z = true) : (Jvm.Cond.initialized "java/lang/Math").before a0 Z = true := hw _ (List.mem_of_getElem? (i := 244) rfl)
theorem tw245 {Z : State} {a0 : Array Value} (hw : ∀ d ∈ tables_1, d.before a0 Z = true) : (Jvm.Cond.code ({ cls := "java/lang/Math", name := "max", desc := "(II)I" } : Jvm.MethodName) jdk_29_method_65_code (2 : Nat) (Option.some Jvm.ClassFile.FieldType.int)).before a0 Z = true := hw _ (List.mem_of_getElem? (i := 245) rfl)
theorem tw246 {Z : State} {a0 : Array Value} (hw : ∀ d ∈ tables_1, d.before a0 Z = true) : (Jvm.Cond.constant "jdk/internal/util/ArraysSupport" (200 : Nat) (2147483639 : Int32)).before a0 Z = true := hw _ (List.mem_of_getElem? (i := 246) rfl)
theorem tw247 {Z : State} {a0 : Array Value} (hw : ∀ d ∈ tables_1, d.before a0 Z = true) : (Jvm.Cond.constant "java/lang/AbstractStringBuilder" (39 : Nat) (2147483647 : Int32)).before a0 Z = true := hw _ (List.mem_of_getElem? (i := 247) rfl)
theorem tw248 {Z : State} {a0 : Array Value} (hw : ∀ d ∈ tables_1, d.before a0 Z = true) : (Jvm.Cond.methodLink "java/lang/AbstractStringBuilder" (108 : Nat) ({ cls := "java/util/Arrays", name := "copyOf", desc := "([BI)[B" } : Jvm.MethodName)).before a0 Z = true := hw _ (List.mem_of_getElem? (i := 248) rfl)
theorem tw249 {Z : State} {a0 : Array Value} (hw : ∀ d ∈ tables_1, d.before a0 Z = true) : (Jvm.Cond.static ({ cls := "java/util/Arrays", name := "copyOf", desc := "([BI)[B" } : Jvm.MethodName)).before a0 Z = true := hw _ (List.mem_of_getElem? (i := 249) rfl)
theorem tw250 {Z : State} {a0 : Array Value} (hw : ∀ d ∈ tables_1, d.before a0 Z = true) : (Jvm.Cond.code ({ cls := "java/util/Arrays", name := "copyOf", desc := "([BI)[B" } : Jvm.MethodName) jdk_65_method_121_code (3 : Nat) (Option.some (Jvm.ClassFile.FieldType.array Jvm.ClassFile.FieldType.byte))).before a0 Z = true := hw _ (List.mem_of_getElem? (i := 250) rfl)
theorem tw251 {Z : State} {a0 : Array Value} (hw : ∀ d ∈ tables_1, d.before a0 Z = true) : (Jvm.Cond.methodLink "java/util/Arrays" (304 : Nat) ({ cls := "java/lang/Math", name := "min", desc := "(II)I" } : Jvm.MethodName)).before a0 Z = true := hw _ (List.mem_of_getElem? (i := 251) rfl)
theorem tw252 {Z : State} {a0 : Array Value} (hw : ∀ d ∈ tables_1, d.before a0 Z = true) : (Jvm.Cond.static ({ cls := "java/lang/Math", name := "min", desc := "(II)I" } : Jvm.MethodName)).before a0 Z = true := hw _ (List.mem_of_getElem? (i := 252) rfl)
theorem tw253 {Z : State} {a0 : Array Value} (hw : ∀ d ∈ tables_1, d.before a0 Z = true) : (Jvm.Cond.code ({ cls := "java/lang/Math", name := "min", desc := "(II)I" } : Jvm.MethodName) jdk_29_method_69_code (2 : Nat) (Option.some Jvm.ClassFile.FieldType.int)).before a0 Z = true := hw _ (List.mem_of_getElem? (i := 253) rfl)
theorem tw254 {Z : State} {a0 : Array Value} (hw : ∀ d ∈ tables_1, d.before a0 Z = true) : (Jvm.Cond.methodLink "java/util/Arrays" (150 : Nat) ({ cls := "java/lang/System", name := "arraycopy", desc := "(Ljava/lang/Object;ILjava/lang/Object;II)V" } : Jvm.MethodName)).before a0 Z = true := hw _ (List.mem_of_getElem? (i := 254) rfl)
theorem tw255 {Z : State} {a0 : Array Value} (hw : ∀ d ∈ tables_1, d.before a0 Z = true) : (Jvm.Cond.methodLink "java/util/Arrays" (339 : Nat) ({ cls := "java/util/Arrays", name := "copyOfRangeByte", desc := "([BII)[B" } : Jvm.MethodName)).before a0 Z = true := hw _ (List.mem_of_getElem? (i := 255) rfl)
theorem tw256 {Z : State} {a0 : Array Value} (hw : ∀ d ∈ tables_1, d.before a0 Z = true) : (Jvm.Cond.static ({ cls := "java/util/Arrays", name := "copyOfRangeByte", desc := "([BII)[B" } : Jvm.MethodName)).before a0 Z = true := hw _ (List.mem_of_getElem? (i := 256) rfl)
theorem tw257 {Z : State} {a0 : Array Value} (hw : ∀ d ∈ tables_1, d.before a0 Z = true) : (Jvm.Cond.code ({ cls := "java/util/Arrays", name := "copyOfRangeByte", desc := "([BII)[B" } : Jvm.MethodName) jdk_65_method_133_code (5 : Nat) (Option.some (Jvm.ClassFile.FieldType.array Jvm.ClassFile.FieldType.byte))).before a0 Z = true := hw _ (List.mem_of_getElem? (i := 257) rfl)
theorem tw258 {Z : State} {a0 : Array Value} (hw : ∀ d ∈ tables_1, d.before a0 Z = true) : (Jvm.Cond.methodLink "java/util/Arrays" (343 : Nat) ({ cls := "java/util/Arrays", name := "checkLength", desc := "(II)V" } : Jvm.MethodName)).before a0 Z = true := hw _ (List.mem_of_getElem? (i := 258) rfl)
theorem tw259 {Z : State} {a0 : Array Value} (hw : ∀ d ∈ tables_1, d.before a0 Z = true) : (Jvm.Cond.static ({ cls := "java/util/Arrays", name := "checkLength", desc := "(II)V" } : Jvm.MethodName)).before a0 Z = true := hw _ (List.mem_of_getElem? (i := 259) rfl)
theorem tw260 {Z : State} {a0 : Array Value} (hw : ∀ d ∈ tables_1, d.before a0 Z = true) : (Jvm.Cond.code ({ cls := "java/util/Arrays", name := "checkLength", desc := "(II)V" } : Jvm.MethodName) jdk_65_method_131_code (2 : Nat) (Option.none : Option Jvm.ClassFile.FieldType)).before a0 Z = true := hw _ (List.mem_of_getElem? (i := 260) rfl)
theorem tw261 {Z : State} {a0 : Array Value} (hw : ∀ d ∈ tables_1, d.before a0 Z = true) : (Jvm.Cond.methodLink "java/lang/StringUTF16" (119 : Nat) ({ cls := "java/lang/StringUTF16", name := "toBytes", desc := "([CII)[B" } : Jvm.MethodName)).before a0 Z = true := hw _ (List.mem_of_getElem? (i := 261) rfl)
theorem tw262 {Z : State} {a0 : Array Value} (hw : ∀ d ∈ tables_1, d.before a0 Z = true) : (Jvm.Cond.static ({ cls := "java/lang/StringUTF16", name := "toBytes", desc := "([CII)[B" } : Jvm.MethodName)).before a0 Z = true := hw _ (List.mem_of_getElem? (i := 262) rfl)
theorem tw263 {Z : State} {a0 : Array Value} (hw : ∀ d ∈ tables_1, d.before a0 Z = true) : (Jvm.Cond.code ({ cls := "java/lang/StringUTF16", name := "toBytes", desc := "([CII)[B" } : Jvm.MethodName) jdk_52_method_14_code (5 : Nat) (Option.some (Jvm.ClassFile.FieldType.array Jvm.ClassFile.FieldType.byte))).before a0 Z = true := hw _ (List.mem_of_getElem? (i := 263) rfl)
theorem tw264 {Z : State} {a0 : Array Value} (hw : ∀ d ∈ tables_1, d.before a0 Z = true) : (Jvm.Cond.methodLink "java/lang/StringUTF16" (107 : Nat) ({ cls := "java/lang/StringUTF16", name := "newBytesFor", desc := "(I)[B" } : Jvm.MethodName)).before a0 Z = true := hw _ (List.mem_of_getElem? (i := 264) rfl)
theorem tw265 {Z : State} {a0 : Array Value} (hw : ∀ d ∈ tables_1, d.before a0 Z = true) : (Jvm.Cond.static ({ cls := "java/lang/StringUTF16", name := "newBytesFor", desc := "(I)[B" } : Jvm.MethodName)).before a0 Z = true := hw _ (List.mem_of_getElem? (i := 265) rfl)
theorem tw266 {Z : State} {a0 : Array Value} (hw : ∀ d ∈ tables_1, d.before a0 Z = true) : (Jvm.Cond.code ({ cls := "java/lang/StringUTF16", name := "newBytesFor", desc := "(I)[B" } : Jvm.MethodName) jdk_52_method_2_code (1 : Nat) (Option.some (Jvm.ClassFile.FieldType.array Jvm.ClassFile.FieldType.byte))).before a0 Z = true := hw _ (List.mem_of_getElem? (i := 266) rfl)
theorem tw267 {Z : State} {a0 : Array Value} (hw : ∀ d ∈ tables_1, d.before a0 Z = true) : (Jvm.Cond.methodLink "java/lang/StringUTF16" (11 : Nat) ({ cls := "java/lang/StringUTF16", name := "newBytesLength", desc := "(I)I" } : Jvm.MethodName)).before a0 Z = true := hw _ (List.mem_of_getElem? (i := 267) rfl)
theorem tw268 {Z : State} {a0 : Array Value} (hw : ∀ d ∈ tables_1, d.before a0 Z = true) : (Jvm.Cond.static ({ cls := "java/lang/StringUTF16", name := "newBytesLength", desc := "(I)I" } : Jvm.MethodName)).before a0 Z = true := hw _ (List.mem_of_getElem? (i := 268) rfl)
theorem tw269 {Z : State} {a0 : Array Value} (hw : ∀ d ∈ tables_1, d.before a0 Z = true) : (Jvm.Cond.code ({ cls := "java/lang/StringUTF16", name := "newBytesLength", desc := "(I)I" } : Jvm.MethodName) jdk_52_method_3_code (1 : Nat) (Option.some Jvm.ClassFile.FieldType.int)).before a0 Z = true := hw _ (List.mem_of_getElem? (i := 269) rfl)
theorem tw270 {Z : State} {a0 : Array Value} (hw : ∀ d ∈ tables_1, d.before a0 Z = true) : (Jvm.Cond.constant "java/lang/StringUTF16" (20 : Nat) (1073741823 : Int32)).before a0 Z = true := hw _ (List.mem_of_getElem? (i := 270) rfl)
theorem tw271 {Z : State} {a0 : Array Value} (hw : ∀ d ∈ tables_1, d.before a0 Z = true) : (Jvm.Cond.methodLink "java/lang/StringUTF16" (111 : Nat) ({ cls := "java/lang/StringUTF16", name := "putChar", desc := "([BII)V" } : Jvm.MethodName)).before a0 Z = true := hw _ (List.mem_of_getElem? (i := 271) rfl)
theorem tw272 {Z : State} {a0 : Array Value} (hw : ∀ d ∈ tables_1, d.before a0 Z = true) : (Jvm.Cond.static ({ cls := "java/lang/StringUTF16", name := "putChar", desc := "([BII)V" } : Jvm.MethodName)).before a0 Z = true := hw _ (List.mem_of_getElem? (i := 272) rfl)
theorem tw273 {Z : State} {a0 : Array Value} (hw : ∀ d ∈ tables_1, d.before a0 Z = true) : (Jvm.Cond.code ({ cls := "java/lang/StringUTF16", name := "putChar", desc := "([BII)V" } : Jvm.MethodName) jdk_52_method_4_code (3 : Nat) (Option.none : Option Jvm.ClassFile.FieldType)).before a0 Z = true := hw _ (List.mem_of_getElem? (i := 273) rfl)
theorem tw274 {Z : State} {a0 : Array Value} (hw : ∀ d ∈ tables_1, d.before a0 Z = true) : (Jvm.Cond.fieldLink "java/lang/StringUTF16" (44 : Nat) "java/lang/StringUTF16" "$assertionsDisabled" "Z").before a0 Z = true := hw _ (List.mem_of_getElem? (i := 274) rfl)
theorem tw275 {Z : State} {a0 : Array Value} (hw : ∀ d ∈ tables_1, d.before a0 Z = true) : (Jvm.Cond.fieldLink "java/lang/StringUTF16" (59 : Nat) "java/lang/StringUTF16" "HI_BYTE_SHIFT" "I").before a0 Z = true := hw _ (List.mem_of_getElem? (i := 275) rfl)
theorem tw276 {Z : State} {a0 : Array Value} (hw : ∀ d ∈ tables_1, d.before a0 Z = true) : (Jvm.Cond.fieldLink "java/lang/StringUTF16" (63 : Nat) "java/lang/StringUTF16" "LO_BYTE_SHIFT" "I").before a0 Z = true := hw _ (List.mem_of_getElem? (i := 276) rfl)
theorem tw277 {Z : State} {a0 : Array Value} (hw : ∀ d ∈ tables_1, d.before a0 Z = true) : (Jvm.Cond.methodLink "java/lang/StringUTF16" (71 : Nat) ({ cls := "java/lang/StringUTF16", name := "getChar", desc := "([BI)C" } : Jvm.MethodName)).before a0 Z = true := hw _ (List.mem_of_getElem? (i := 277) rfl)
theorem tw278 {Z : State} {a0 : Array Value} (hw : ∀ d ∈ tables_1, d.before a0 Z = true) : (Jvm.Cond.static ({ cls := "java/lang/StringUTF16", name := "getChar", desc := "([BI)C" } : Jvm.MethodName)).before a0 Z = true := hw _ (List.mem_of_getElem? (i := 278) rfl)
theorem tw279 {Z : State} {a0 : Array Value} (hw : ∀ d ∈ tables_1, d.before a0 Z = true) : (Jvm.Cond.code ({ cls := "java/lang/StringUTF16", name := "getChar", desc := "([BI)C" } : Jvm.MethodName) jdk_52_method_5_code (2 : Nat) (Option.some Jvm.ClassFile.FieldType.char)).before a0 Z = true := hw _ (List.mem_of_getElem? (i := 279) rfl)
theorem tw280 {Z : State} {a0 : Array Value} (hw : ∀ d ∈ tables_1, d.before a0 Z = true) : (Jvm.Cond.methodLink "java/lang/AbstractStringBuilder" (195 : Nat) ({ cls := "java/lang/AbstractStringBuilder", name := "inflate", desc := "()V" } : Jvm.MethodName)).before a0 Z = true := hw _ (List.mem_of_getElem? (i := 280) rfl)
theorem tw281 {Z : State} {a0 : Array Value} (hw : ∀ d ∈ tables_1, d.before a0 Z = true) : (Jvm.Cond.instanceMethod ({ cls := "java/lang/AbstractStringBuilder", name := "inflate", desc := "()V" } : Jvm.MethodName)).before a0 Z = true := hw _ (List.mem_of_getElem? (i := 281) rfl)
theorem tw283 {Z : State} {a0 : Array Value} (hw : ∀ d ∈ tables_1, d.before a0 Z = true) : (Jvm.Cond.selects "java/lang/StringBuilder" ({ cls := "java/lang/AbstractStringBuilder", name := "inflate", desc := "()V" } : Jvm.MethodName) ({ cls := "java/lang/AbstractStringBuilder", name := "inflate", desc := "()V" } : Jvm.MethodName)).before a0 Z = true := hw _ (List.mem_of_getElem? (i := 283) rfl)
theorem tw284 {Z : State} {a0 : Array Value} (hw : ∀ d ∈ tables_1, d.before a0 Z = true) : (Jvm.Cond.code ({ cls := "java/lang/AbstractStringBuilder", name := "inflate", desc := "()V" } : Jvm.MethodName) jdk_68_method_11_code (2 : Nat) (Option.none : Option Jvm.ClassFile.FieldType)).before a0 Z = true := hw _ (List.mem_of_getElem? (i := 284) rfl)
theorem tw285 {Z : State} {a0 : Array Value} (hw : ∀ d ∈ tables_1, d.before a0 Z = true) : (Jvm.Cond.methodLink "java/lang/AbstractStringBuilder" (83 : Nat) ({ cls := "java/lang/AbstractStringBuilder", name := "isLatin1", desc := "()Z" } : Jvm.MethodName)).before a0 Z = true := hw _ (List.mem_of_getElem? (i := 285) rfl)
theorem tw286 {Z : State} {a0 : Array Value} (hw : ∀ d ∈ tables_1, d.before a0 Z = true) : (Jvm.Cond.methodLink "java/lang/AbstractStringBuilder" (26 : Nat) ({ cls := "java/lang/StringUTF16", name := "newBytesFor", desc := "(I)[B" } : Jvm.MethodName)).before a0 Z = true := hw _ (List.mem_of_getElem? (i := 286) rfl)
theorem tw287 {Z : State} {a0 : Array Value} (hw : ∀ d ∈ tables_1, d.before a0 Z = true) : (Jvm.Cond.methodLink "java/lang/AbstractStringBuilder" (125 : Nat) ({ cls := "java/lang/StringLatin1", name := "inflate", desc := "([BI[BII)V" } : Jvm.MethodName)).before a0 Z = true := hw _ (List.mem_of_getElem? (i := 287) rfl)
theorem tw288 {Z : State} {a0 : Array Value} (hw : ∀ d ∈ tables_1, d.before a0 Z = true) : (Jvm.Cond.static ({ cls := "java/lang/StringLatin1", name := "inflate", desc := "([BI[BII)V" } : Jvm.MethodName)).before a0 Z = true := hw _ (List.mem_of_getElem? (i := 288) rfl)
theorem tw289 {Z : State} {a0 : Array Value} (hw : ∀ d ∈ tables_1, d.before a0 Z = true) : (Jvm.Cond.code ({ cls := "java/lang/StringLatin1", name := "inflate", desc := "([BI[BII)V" } : Jvm.MethodName) jdk_43_method_50_code (5 : Nat) (Option.none : Option Jvm.ClassFile.FieldType)).before a0 Z = true := hw _ (List.mem_of_getElem? (i := 289) rfl)
theorem tw290 {Z : State} {a0 : Array Value} (hw : ∀ d ∈ tables_1, d.before a0 Z = true) : (Jvm.Cond.methodLink "java/lang/StringLatin1" (240 : Nat) ({ cls := "java/lang/StringUTF16", name := "inflate", desc := "([BI[BII)V" } : Jvm.MethodName)).before a0 Z = true := hw _ (List.mem_of_getElem? (i := 290) rfl)
theorem tw291 {Z : State} {a0 : Array Value} (hw : ∀ d ∈ tables_1, d.before a0 Z = true) : (Jvm.Cond.static ({ cls := "java/lang/StringUTF16", name := "inflate", desc := "([BI[BII)V" } : Jvm.MethodName)).before a0 Z = true := hw _ (List.mem_of_getElem? (i := 291) rfl)
theorem tw292 {Z : State} {a0 : Array Value} (hw : ∀ d ∈ tables_1, d.before a0 Z = true) : (Jvm.Cond.code ({ cls := "java/lang/StringUTF16", name := "inflate", desc := "([BI[BII)V" } : Jvm.MethodName) jdk_52_method_86_code (6 : Nat) (Option.none : Option Jvm.ClassFile.FieldType)).before a0 Z = true := hw _ (List.mem_of_getElem? (i := 292) rfl)
theorem tw293 {Z : State} {a0 : Array Value} (hw : ∀ d ∈ tables_1, d.before a0 Z = true) : (Jvm.Cond.methodLink "java/lang/StringUTF16" (173 : Nat) ({ cls := "java/lang/StringUTF16", name := "checkBoundsOffCount", desc := "(II[B)V" } : Jvm.MethodName)).before a0 Z = true := hw _ (List.mem_of_getElem? (i := 293) rfl)
theorem tw294 {Z : State} {a0 : Array Value} (hw : ∀ d ∈ tables_1, d.before a0 Z = true) : (Jvm.Cond.static ({ cls := "java/lang/StringUTF16", name := "checkBoundsOffCount", desc := "(II[B)V" } : Jvm.MethodName)).before a0 Z = true := hw _ (List.mem_of_getElem? (i := 294) rfl)
theorem tw295 {Z : State} {a0 : Array Value} (hw : ∀ d ∈ tables_1, d.before a0 Z = true) : (Jvm.Cond.code ({ cls := "java/lang/StringUTF16", name := "checkBoundsOffCount", desc := "(II[B)V" } : Jvm.MethodName) jdk_52_method_94_code (3 : Nat) (Option.none : Option Jvm.ClassFile.FieldType)).before a0 Z = true := hw _ (List.mem_of_getElem? (i := 295) rfl)
theorem tw296 {Z : State} {a0 : Array Value} (hw : ∀ d ∈ tables_1, d.before a0 Z = true) : (Jvm.Cond.methodLink "java/lang/StringUTF16" (48 : Nat) ({ cls := "java/lang/StringUTF16", name := "length", desc := "([B)I" } : Jvm.MethodName)).before a0 Z = true := hw _ (List.mem_of_getElem? (i := 296) rfl)
theorem tw297 {Z : State} {a0 : Array Value} (hw : ∀ d ∈ tables_1, d.before a0 Z = true) : (Jvm.Cond.static ({ cls := "java/lang/StringUTF16", name := "length", desc := "([B)I" } : Jvm.MethodName)).before a0 Z = true := hw _ (List.mem_of_getElem? (i := 297) rfl)
theorem tw298 {Z : State} {a0 : Array Value} (hw : ∀ d ∈ tables_1, d.before a0 Z = true) : (Jvm.Cond.code ({ cls := "java/lang/StringUTF16", name := "length", desc := "([B)I" } : Jvm.MethodName) jdk_52_method_6_code (1 : Nat) (Option.some Jvm.ClassFile.FieldType.int)).before a0 Z = true := hw _ (List.mem_of_getElem? (i := 298) rfl)
theorem tw299 {Z : State} {a0 : Array Value} (hw : ∀ d ∈ tables_1, d.before a0 Z = true) : (Jvm.Cond.methodLink "java/lang/StringUTF16" (419 : Nat) ({ cls := "java/lang/String", name := "checkBoundsOffCount", desc := "(III)I" } : Jvm.MethodName)).before a0 Z = true := hw _ (List.mem_of_getElem? (i := 299) rfl)
theorem tw300 {Z : State} {a0 : Array Value} (hw : ∀ d ∈ tables_1, d.before a0 Z = true) : (Jvm.Cond.static ({ cls := "java/lang/String", name := "checkBoundsOffCount", desc := "(III)I" } : Jvm.MethodName)).before a0 Z = true := hw _ (List.mem_of_getElem? (i := 300) rfl)
theorem tw301 {Z : State} {a0 : Array Value} (hw : ∀ d ∈ tables_1, d.before a0 Z = true) : (Jvm.Cond.code ({ cls := "java/lang/String", name := "checkBoundsOffCount", desc := "(III)I" } : Jvm.MethodName) jdk_42_method_157_code (3 : Nat) (Option.some Jvm.ClassFile.FieldType.int)).before a0 Z = true := hw _ (List.mem_of_getElem? (i := 301) rfl)
theorem tw302 {Z : State} {a0 : Array Value} (hw : ∀ d ∈ tables_1, d.before a0 Z = true) : (Jvm.Cond.methodLink "java/lang/String" (1065 : Nat) ({ cls := "jdk/internal/util/Preconditions", name := "checkFromIndexSize", desc := "(IIILjava/util/function/BiFunction;)I" } : Jvm.MethodName)).before a0 Z = true := hw _ (List.mem_of_getElem? (i := 302) rfl)
theorem tw303 {Z : State} {a0 : Array Value} (hw : ∀ d ∈ tables_1, d.before a0 Z = true) : (Jvm.Cond.static ({ cls := "jdk/internal/util/Preconditions", name := "checkFromIndexSize", desc := "(IIILjava/util/function/BiFunction;)I" } : Jvm.MethodName)).before a0 Z = true := hw _ (List.mem_of_getElem? (i := 303) rfl)
theorem tw304 {Z : State} {a0 : Array Value} (hw : ∀ d ∈ tables_1, d.before a0 Z = true) : (Jvm.Cond.code ({ cls := "jdk/internal/util/Preconditions", name := "checkFromIndexSize", desc := "(IIILjava/util/function/BiFunction;)I" } : Jvm.MethodName) jdk_41_method_13_code (4 : Nat) (Option.some Jvm.ClassFile.FieldType.int)).before a0 Z = true := hw _ (List.mem_of_getElem? (i := 304) rfl)
theorem tw305 {Z : State} {a0 : Array Value} (hw : ∀ d ∈ tables_1, d.before a0 Z = true) : (Jvm.Cond.methodLink "java/lang/String" (106 : Nat) ({ cls := "java/lang/StringLatin1", name := "inflate", desc := "([BI[BII)V" } : Jvm.MethodName)).before a0 Z = true := hw _ (List.mem_of_getElem? (i := 305) rfl)
theorem tw306 {Z : State} {a0 : Array Value} (hw : ∀ d ∈ tables_1, d.before a0 Z = true) : (Jvm.Cond.fieldLink "java/lang/String" (1048 : Nat) "java/lang/AbstractStringBuilder" "maybeLatin1" "Z").before a0 Z = true := hw _ (List.mem_of_getElem? (i := 306) rfl)
theorem tw307 {Z : State} {a0 : Array Value} (hw : ∀ d ∈ tables_1, d.before a0 Z = true) : (Jvm.Cond.lays "java/lang/StringBuilder" "java/lang/AbstractStringBuilder" "maybeLatin1" "Z").before a0 Z = true := hw _ (List.mem_of_getElem? (i := 307) rfl)
theorem tw308 {Z : State} {a0 : Array Value} (hw : ∀ d ∈ tables_1, d.before a0 Z = true) : (Jvm.Cond.methodLink "java/lang/String" (498 : Nat) ({ cls := "java/lang/StringUTF16", name := "charAt", desc := "([BI)C" } : Jvm.MethodName)).before a0 Z = true := hw _ (List.mem_of_getElem? (i := 308) rfl)
theorem tw309 {Z : State} {a0 : Array Value} (hw : ∀ d ∈ tables_1, d.before a0 Z = true) : (Jvm.Cond.static ({ cls := "java/lang/StringUTF16", name := "charAt", desc := "([BI)C" } : Jvm.MethodName)).before a0 Z = true := hw _ (List.mem_of_getElem? (i := 309) rfl)
theorem tw310 {Z : State} {a0 : Array Value} (hw : ∀ d ∈ tables_1, d.before a0 Z = true) : (Jvm.Cond.code ({ cls := "java/lang/StringUTF16", name := "charAt", desc := "([BI)C" } : Jvm.MethodName) jdk_52_method_83_code (2 : Nat) (Option.some Jvm.ClassFile.FieldType.char)).before a0 Z = true := hw _ (List.mem_of_getElem? (i := 310) rfl)
theorem tw311 {Z : State} {a0 : Array Value} (hw : ∀ d ∈ tables_1, d.before a0 Z = true) : (Jvm.Cond.methodLink "java/lang/StringUTF16" (67 : Nat) ({ cls := "java/lang/StringUTF16", name := "checkIndex", desc := "(I[B)V" } : Jvm.MethodName)).before a0 Z = true := hw _ (List.mem_of_getElem? (i := 311) rfl)
theorem tw312 {Z : State} {a0 : Array Value} (hw : ∀ d ∈ tables_1, d.before a0 Z = true) : (Jvm.Cond.static ({ cls := "java/lang/StringUTF16", name := "checkIndex", desc := "(I[B)V" } : Jvm.MethodName)).before a0 Z = true := hw _ (List.mem_of_getElem? (i := 312) rfl)
theorem tw313 {Z : State} {a0 : Array Value} (hw : ∀ d ∈ tables_1, d.before a0 Z = true) : (Jvm.Cond.code ({ cls := "java/lang/StringUTF16", name := "checkIndex", desc := "(I[B)V" } : Jvm.MethodName) jdk_52_method_91_code (2 : Nat) (Option.none : Option Jvm.ClassFile.FieldType)).before a0 Z = true := hw _ (List.mem_of_getElem? (i := 313) rfl)
theorem tw314 {Z : State} {a0 : Array Value} (hw : ∀ d ∈ tables_1, d.before a0 Z = true) : (Jvm.Cond.methodLink "java/lang/StringUTF16" (414 : Nat) ({ cls := "java/lang/String", name := "checkIndex", desc := "(II)V" } : Jvm.MethodName)).before a0 Z = true := hw _ (List.mem_of_getElem? (i := 314) rfl)
theorem tw315 {Z : State} {a0 : Array Value} (hw : ∀ d ∈ tables_1, d.before a0 Z = true) : (Jvm.Cond.methodLink "com/example/congruent/congruent/io/UnreadableInputExceptionNotUtf8PinLaw" (12 : Nat) ({ cls := "java/lang/String", name := "valueOf", desc := "(C)Ljava/lang/String;" } : Jvm.MethodName)).before a0 Z = true := hw _ (List.mem_of_getElem? (i := 315) rfl)
theorem tw316 {Z : State} {a0 : Array Value} (hw : ∀ d ∈ tables_1, d.before a0 Z = true) : (Jvm.Cond.static ({ cls := "java/lang/String", name := "valueOf", desc := "(C)Ljava/lang/String;" } : Jvm.MethodName)).before a0 Z = true := hw _ (List.mem_of_getElem? (i := 316) rfl)
theorem tw317 {Z : State} {a0 : Array Value} (hw : ∀ d ∈ tables_1, d.before a0 Z = true) : (Jvm.Cond.code ({ cls := "java/lang/String", name := "valueOf", desc := "(C)Ljava/lang/String;" } : Jvm.MethodName) jdk_42_method_139_code (1 : Nat) (Option.some (Jvm.ClassFile.FieldType.object "java/lang/String"))).before a0 Z = true := hw _ (List.mem_of_getElem? (i := 317) rfl)
theorem tw318 {Z : State} {a0 : Array Value} (hw : ∀ d ∈ tables_1, d.before a0 Z = true) : (Jvm.Cond.methodLink "java/lang/String" (1015 : Nat) ({ cls := "java/lang/StringLatin1", name := "canEncode", desc := "(C)Z" } : Jvm.MethodName)).before a0 Z = true := hw _ (List.mem_of_getElem? (i := 318) rfl)
theorem tw319 {Z : State} {a0 : Array Value} (hw : ∀ d ∈ tables_1, d.before a0 Z = true) : (Jvm.Cond.static ({ cls := "java/lang/StringLatin1", name := "canEncode", desc := "(C)Z" } : Jvm.MethodName)).before a0 Z = true := hw _ (List.mem_of_getElem? (i := 319) rfl)
theorem tw320 {Z : State} {a0 : Array Value} (hw : ∀ d ∈ tables_1, d.before a0 Z = true) : (Jvm.Cond.code ({ cls := "java/lang/StringLatin1", name := "canEncode", desc := "(C)Z" } : Jvm.MethodName) jdk_43_method_3_code (1 : Nat) (Option.some Jvm.ClassFile.FieldType.boolean)).before a0 Z = true := hw _ (List.mem_of_getElem? (i := 320) rfl)
theorem tw321 {Z : State} {a0 : Array Value} (hw : ∀ d ∈ tables_1, d.before a0 Z = true) : (Jvm.Cond.classLink "java/lang/String" (10 : Nat) "java/lang/String").before a0 Z = true := hw _ (List.mem_of_getElem? (i := 321) rfl)
theorem tw322 {Z : State} {a0 : Array Value} (hw : ∀ d ∈ tables_1, d.before a0 Z = true) : (Jvm.Cond.methodLink "java/lang/String" (1018 : Nat) ({ cls := "java/lang/StringLatin1", name := "toBytes", desc := "(C)[B" } : Jvm.MethodName)).before a0 Z = true := hw _ (List.mem_of_getElem? (i := 322) rfl)
theorem tw323 {Z : State} {a0 : Array Value} (hw : ∀ d ∈ tables_1, d.before a0 Z = true) : (Jvm.Cond.static ({ cls := "java/lang/StringLatin1", name := "toBytes", desc := "(C)[B" } : Jvm.MethodName)).before a0 Z = true := hw _ (List.mem_of_getElem? (i := 323) rfl)
theorem tw324 {Z : State} {a0 : Array Value} (hw : ∀ d ∈ tables_1, d.before a0 Z = true) : (Jvm.Cond.code ({ cls := "java/lang/StringLatin1", name := "toBytes", desc := "(C)[B" } : Jvm.MethodName) jdk_43_method_46_code (1 : Nat) (Option.some (Jvm.ClassFile.FieldType.array Jvm.ClassFile.FieldType.byte))).before a0 Z = true := hw _ (List.mem_of_getElem? (i := 324) rfl)
theorem tw325 {Z : State} {a0 : Array Value} (hw : ∀ d ∈ tables_1, d.before a0 Z = true) : (Jvm.Cond.methodLink "java/lang/String" (209 : Nat) ({ cls := "java/lang/String", name := "<init>", desc := "([BB)V" } : Jvm.MethodName)).before a0 Z = true := hw _ (List.mem_of_getElem? (i := 325) rfl)
theorem tw326 {Z : State} {a0 : Array Value} (hw : ∀ d ∈ tables_1, d.before a0 Z = true) : (Jvm.Cond.instanceMethod ({ cls := "java/lang/String", name := "<init>", desc := "([BB)V" } : Jvm.MethodName)).before a0 Z = true := hw _ (List.mem_of_getElem? (i := 326) rfl)
theorem tw327 {Z : State} {a0 : Array Value} (hw : ∀ d ∈ tables_1, d.before a0 Z = true) : (Jvm.Cond.code ({ cls := "java/lang/String", name := "<init>", desc := "([BB)V" } : Jvm.MethodName) jdk_42_method_151_code (3 : Nat) (Option.none : Option Jvm.ClassFile.FieldType)).before a0 Z = true := hw _ (List.mem_of_getElem? (i := 327) rfl)
theorem tw328 {Z : State} {a0 : Array Value} (hw : ∀ d ∈ tables_1, d.before a0 Z = true) : (Jvm.Cond.methodLink "java/lang/String" (1021 : Nat) ({ cls := "java/lang/StringUTF16", name := "toBytes", desc := "(C)[B" } : Jvm.MethodName)).before a0 Z = true := hw _ (List.mem_of_getElem? (i := 328) rfl)
theorem tw329 {Z : State} {a0 : Array Value} (hw : ∀ d ∈ tables_1, d.before a0 Z = true) : (Jvm.Cond.static ({ cls := "java/lang/StringUTF16", name := "toBytes", desc := "(C)[B" } : Jvm.MethodName)).before a0 Z = true := hw _ (List.mem_of_getElem? (i := 329) rfl)
theorem tw330 {Z : State} {a0 : Array Value} (hw : ∀ d ∈ tables_1, d.before a0 Z = true) : (Jvm.Cond.code ({ cls := "java/lang/StringUTF16", name := "toBytes", desc := "(C)[B" } : Jvm.MethodName) jdk_52_method_24_code (2 : Nat) (Option.some (Jvm.ClassFile.FieldType.array Jvm.ClassFile.FieldType.byte))).before a0 Z = true := hw _ (List.mem_of_getElem? (i := 330) rfl)
open Jvm.Ow (ArI WP Con)
abbrev EL1 : List (String × Nat) := consts_1
abbrev bb : Bool := false
abbrev UX : String := "com/example/congruent/congruent/io/UnreadableInputException"
def Glob (Z : State) (a0 : Array Value) : Prop := (∀ d ∈ tables_1, d.before a0 Z = true) ∧ (∃ cv : Int32, ¬ cv = 0 ∧ Sta Z Z.heap "java/lang/String" "COMPACT_STRINGS" "Z" (.int cv)) ∧
  (Sta Z Z.heap "java/lang/StringUTF16" "$assertionsDisabled" "Z" (.int 1) ∧ Sta Z Z.heap "java/lang/StringUTF16" "HI_BYTE_SHIFT" "I" (.int 0) ∧ Sta Z Z.heap "java/lang/StringUTF16" "LO_BYTE_SHIFT" "I" (.int 8)) ∧
  (∃ w : Value, Sta Z Z.heap "jdk/internal/util/Preconditions" "SIOOBE_FORMATTER" "Ljava/util/function/BiFunction;" w ∧ w.isRef = true) ∧ (∃ u : Nat, Sta Z Z.heap "java/lang/Throwable" "UNASSIGNED_STACK" "[Ljava/lang/StackTraceElement;" (.ref u)) ∧ (∃ w : Value, Sta Z Z.heap "java/lang/Throwable" "SUPPRESSED_SENTINEL" "Ljava/util/List;" w ∧ w.isRef = true)
theorem ewG {Z : State} {a0 : Array Value} (G : Glob Z a0) : EW Z a0 EL1 := EW.cons (tw94 G.1) (by decide) (EW.cons (tw95 G.1) (by decide) (EW.cons (tw14 G.1) (by decide) EW.nil))
theorem saG {Z : State} {a0 : Array Value} (G : Glob Z a0) : bb = false → ∀ a ∈ Bundle.stringAtoms, a.before a0 Z = true := fun _ a ha => G.1 a ((by decide +kernel : ∀ a ∈ Bundle.stringAtoms, a ∈ tables_1) a ha)
theorem bbG : bb = true → EL1 = [] := fun q => nomatch q
theorem sioG {Z : State} {a0 : Array Value} (G : Glob Z a0) : ∃ w : Value, Sta Z Z.heap "jdk/internal/util/Preconditions" "SIOOBE_FORMATTER" "Ljava/util/function/BiFunction;" w ∧ w.isRef = true := G.2.2.2.1
section StrL
variable {l : Launch} {Z : State} {a0 : Array Value}
abbrev rm0 : Room := { frames := 0, cells := 0, slots := 0, locals := 0 }
set_option maxHeartbeats 4000000 in
theorem con_CL (G : Glob Z a0) (x y : Nat) (xs : List Int32) (h : Heap) (W : List Nat) (X : ArI Z h x .char xs) (Y : ArI Z h y .byte (List.replicate xs.length 0)) (hy : y ∈ W) (hxy : x ≠ y) :
    Ow.Con l Z EL1 bb (⟨"java/lang/StringUTF16", "compress", "([CI[BII)I"⟩ : MethodName) jdk_52_method_21_code 7 (Option.some Jvm.ClassFile.FieldType.int) [] rm0 #[.ref x, .int 0, .ref y, .int 0, .int (Int32.ofNat xs.length)] h W
      (fun v h' W' => v = some (.int (Int32.ofNat (Ow.lead xs))) ∧ Keep h h' [y] ∧ (Ow.lead xs = xs.length → ArI Z h' y .byte (xs.map (nar .byte)))) := by
  refine Ow.Con.intro (a0 := a0) pn_0 (ewG G) (saG G) bbG [.val (.ref x), .val (.int 0), .val (.ref y), .val (.int 0), .val (.int (Int32.ofNat xs.length)), .unset, .unset] (by first | exact Ow.locals_all (by simp [Value.category]) rfl | rfl | (simp [argsToLocals, Value.category]; done)) ?_
  intro p e s m below meth c C hO
  have hN : xs.length < 2 ^ 31 := X.2
  have loop : ∀ (r i : Nat) (h1 : Heap) (o6 : Slot), i + r = xs.length → (∀ j, j < i → (xs.getD j 0).toInt < 256) → Keep h h1 [y] → ArI Z h1 y .byte ((xs.take i).map (nar .byte) ++ List.replicate r 0) → Ow.okS (some o6) = true →
      Ow.WP p l e rm0 s m #[.ref x, .int 0, .ref y, .int 0, .int (Int32.ofNat xs.length)] below meth c Z EL1 bb (fun v h' W' => v = some (.int (Int32.ofNat (Ow.lead xs))) ∧ Keep h h' [y] ∧ (Ow.lead xs = xs.length → ArI Z h' y .byte (xs.map (nar .byte))))
        3 [.val (.ref x), .val (.int (Int32.ofNat i)), .val (.ref y), .val (.int (Int32.ofNat i)), .val (.int (Int32.ofNat xs.length)), .val (.int (Int32.ofNat i)), o6] [] h1 W 0 0 := by
    intro r
    induction r with
    | zero =>
      intro i h1 o6 hi hq K V ho6
      obtain rfl : i = xs.length := by omega
      refine Ow.iload C dCL_3 (pc' := 5) rfl rfl ?_
      refine Ow.iload C dCL_5 (pc' := 7) rfl rfl ?_
      refine Ow.icmpY C 44 dCL_7 (XT.ii_ge_t (by rw [Ow.lt32]; omega)) (by decide) (by decide) ?_
      refine Ow.iload C dCL_44 (pc' := 46) rfl rfl ?_
      have hl : Ow.lead xs = xs.length := Ow.lead_all fun z hz => by
        obtain ⟨j, hj, rfl⟩ := List.mem_iff_getElem.mp hz
        have := hq j hj
        simpa [List.getD_eq_getElem?_getD, hj] using this
      refine Ow.retI C rfl dCL_46 (by first | decide | (dsimp only; omega) | (simp [Value.category]; done) | (simp [Value.category]; omega)) (by first | decide | (dsimp only; omega) | (simp [Value.category]; done) | (simp [Value.category]; omega)) [] (by first | (simp; done) | (intro x hx; simp [hx]; done)) ⟨by rw [hl], K, fun _ => by simpa using V⟩
    | succ r ih =>
      intro i h1 o6 hi hq K V ho6
      have hlt : i < xs.length := by omega
      have X1 := X.keep K (Ow.nin1 hxy)
      refine Ow.iload C dCL_3 (pc' := 5) rfl rfl ?_
      refine Ow.iload C dCL_5 (pc' := 7) rfl rfl ?_
      refine Ow.icmpN C dCL_7 (pc' := 10) rfl (XT.ii_ge_f (by rw [Ow.lt32, Ow.ofNat_toInt (by omega), Ow.ofNat_toInt hN]; omega)) ?_
      refine Ow.aloadN C dCL_10 (pc' := 11) rfl rfl rfl ?_
      refine Ow.iloadN C dCL_11 (pc' := 12) rfl rfl ?_
      refine Ow.caload C X1 (i := i) (Ow.ofNat_toInt (by omega)) hlt dCL_12 (pc' := 13) rfl ?_
      refine Ow.istore C dCL_13 (pc' := 15) rfl ho6 ?_
      dsimp only [List.set]
      refine Ow.iload C dCL_15 (pc' := 17) rfl rfl ?_
      refine Ow.sipush C (255 : Int32) dCL_17 (pc' := 20) rfl rfl ?_
      refine Ow.icmp C 26 23 dCL_20 (Ow.kLe _ _) (by decide) (by decide) rfl (fun hc => ?_) (fun hc => ?_)
      · have hc' : (xs.getD i 0).toInt < 256 := by rw [Ow.lt32] at hc; have : ((255 : Int32)).toInt = 255 := rfl; omega
        refine Ow.aloadN C dCL_26 (pc' := 27) rfl rfl rfl ?_
        refine Ow.iloadN C dCL_27 (pc' := 28) rfl rfl ?_
        refine Ow.iload C dCL_28 (pc' := 30) rfl rfl ?_
        refine Ow.i2b C dCL_30 (pc' := 31) rfl ?_
        refine Ow.bastore C V (i := i) (Ow.ofNat_toInt (by omega)) (by simp; omega) hy dCL_31 (pc' := 32) rfl (fun h2 K2 V2 => ?_)
        rw [show nar .byte (nar .byte (xs.getD i 0)) = nar .byte (xs.getD i 0) from Ow.i32_ext (by have h1 := Ow.nar_byte (nar .byte (xs.getD i 0)); have h2 := Ow.nar_byte (xs.getD i 0); omega)] at V2
        rw [Ow.take_step hlt] at V2
        refine Ow.iinc C (1 : Int32) dCL_32 (pc' := 35) rfl rfl rfl ?_
        dsimp only [List.set]
        refine Ow.iinc C (1 : Int32) dCL_35 (pc' := 38) rfl rfl rfl ?_
        dsimp only [List.set]
        refine Ow.iinc C (1 : Int32) dCL_38 (pc' := 41) rfl rfl rfl ?_
        dsimp only [List.set]
        refine Ow.goto C 3 dCL_41 (by decide) (by decide) ?_
        rw [← inc_ofNat]
        exact ih (i + 1) h2 _ (by omega) (fun j hj => by
          rcases Nat.lt_succ_iff_lt_or_eq.mp hj with q | rfl
          · exact hq j q
          · exact hc') (K.trans K2 (fun x hx => Or.inl hx)) V2 rfl
      · have hc' : ¬ (xs.getD i 0).toInt < 256 := by rw [Ow.lt32] at hc; have : ((255 : Int32)).toInt = 255 := rfl; omega
        refine Ow.iload C dCL_23 (pc' := 25) rfl rfl ?_
        have hl := Ow.lead_at hlt hq hc'
        refine Ow.retI C rfl dCL_25 (by first | decide | (dsimp only; omega) | (simp [Value.category]; done) | (simp [Value.category]; omega)) (by first | decide | (dsimp only; omega) | (simp [Value.category]; done) | (simp [Value.category]; omega)) [] (by first | (simp; done) | (intro x hx; simp [hx]; done)) ⟨by rw [hl], K, fun q => by omega⟩
  refine Ow.iconst C (0 : Int32) dCL_0 (pc' := 1) rfl rfl ?_
  refine Ow.istore C dCL_1 (pc' := 3) rfl rfl ?_
  dsimp only [List.set]
  exact loop xs.length 0 h .unset (by omega) (fun j hj => by omega) (Keep.refl _ _) (by simpa using Y) rfl
abbrev rmCM (B : Nat) : Room := { frames := 1, cells := 1, slots := B, locals := 18 }
set_option maxHeartbeats 4000000 in
theorem con_CM (G : Glob Z a0) (B : Nat) (x : Nat) (xs : List Int32) (h : Heap) (W : List Nat) (X : ArI Z h x .char xs) (hL : ∀ z ∈ xs, 0 ≤ z.toInt ∧ z.toInt < 256) (hB : xs.length ≤ B) (hB2 : B ≤ 4000) :
    Ow.Con l Z EL1 bb (⟨"java/lang/StringUTF16", "compress", "([CII)[B"⟩ : MethodName) jdk_52_method_16_code 6 (Option.some (Jvm.ClassFile.FieldType.array Jvm.ClassFile.FieldType.byte)) [] (rmCM B) #[.ref x, .int 0, .int (Int32.ofNat xs.length)] h W
      (fun v h' W' => ∃ y : Nat, v = some (.ref y) ∧ h.size ≤ y ∧ Keep h h' [] ∧ ArI Z h' y .byte (xs.map (nar .byte))) := by
  refine Ow.Con.intro (a0 := a0) pn_1 (ewG G) (saG G) bbG [.val (.ref x), .val (.int 0), .val (.int (Int32.ofNat xs.length)), .unset, .unset, .unset] (by first | exact Ow.locals_all (by simp [Value.category]) rfl | rfl | (simp [argsToLocals, Value.category]; done)) ?_
  intro p e s m below meth c C hO
  have hx : x < h.size := X.lt
  refine Ow.iloadN C dCM_0 (pc' := 1) rfl rfl ?_
  refine Ow.newarr C (ty := .byte) (cap := xs.length) rfl rfl (tw15 G.1) dCM_1 (pc' := 3) rfl rfl (by omega) (by dsimp only; omega) (by dsimp only; omega) (fun h1 a1 s1 z1 l1 E1 V1 => ?_)
  refine Ow.astoreN C dCM_3 (pc' := 4) rfl rfl rfl ?_
  dsimp only [List.set]
  refine Ow.aloadN C dCM_4 (pc' := 5) rfl rfl rfl ?_
  refine Ow.iloadN C dCM_5 (pc' := 6) rfl rfl ?_
  refine Ow.aloadN C dCM_6 (pc' := 7) rfl rfl rfl ?_
  refine Ow.iconst C (0 : Int32) dCM_7 (pc' := 8) rfl rfl ?_
  refine Ow.iloadN C dCM_8 (pc' := 9) rfl rfl ?_
  refine Ow.callS C (tw227 G.1) (tw228 G.1) (tw225 G.1) (tw229 G.1) (by decide) (con_CL G x a1 xs h1 (a1 :: W) (X.ext E1) V1 (by simp) (by omega)) (fun _ q => q) pd_0 rfl rfl rfl dCM_9 (pc' := 12) rfl (Wt := 0) (Nat.le_refl _) (by first | decide | (dsimp only; omega) | (simp [Value.category]; done) | (simp [Value.category]; omega)) (by first | decide | (dsimp only; omega) | (simp [Value.category]; done) | (simp [Value.category]; omega)) (by first | decide | (dsimp only; omega) | (simp [Value.category]; done) | (simp [Value.category]; omega)) (by first | decide | (dsimp only; omega) | (simp [Value.category]; done) | (simp [Value.category]; omega)) (fun v2 h2 W2 ⟨e2, K2, V2⟩ s2 => ?_)
  subst e2
  have hl : Ow.lead xs = xs.length := Ow.lead_all fun z hz => (hL z hz).2
  rw [hl]
  dsimp only [Option.toList, List.cons_append, List.nil_append]
  refine Ow.istore C dCM_12 (pc' := 14) rfl rfl ?_
  dsimp only [List.set]
  refine Ow.iload C dCM_14 (pc' := 16) rfl rfl ?_
  refine Ow.iloadN C dCM_16 (pc' := 17) rfl rfl ?_
  refine Ow.icmpY C 57 dCM_17 (XT.ii_eq_t rfl) (by decide) (by decide) ?_
  refine Ow.aloadN C dCM_57 (pc' := 58) rfl rfl rfl ?_
  refine Ow.retA C rfl rfl rfl dCM_58 (by first | decide | (dsimp only; omega) | (simp [Value.category]; done) | (simp [Value.category]; omega)) (by first | decide | (dsimp only; omega) | (simp [Value.category]; done) | (simp [Value.category]; omega)) [] (by first | (simp; done) | (intro x hx; simp [hx]; done)) ⟨a1, rfl, by omega, (Ow.Keep.z E1).trans K2 (fun z hz => Or.inr (by rw [List.mem_singleton.mp hz]; omega)), V2 hl⟩
theorem con_CF (G : Glob Z a0) (y : Nat) (ty : FieldType) (ys : List Int32) (N : Nat) (h : Heap) (W : List Nat) (Y : ArI Z h y ty ys) :
    Ow.Con l Z EL1 bb (⟨"java/lang/StringUTF16", "coderFromArrayLen", "([BI)B"⟩ : MethodName) jdk_52_method_15_code 2 (Option.some Jvm.ClassFile.FieldType.byte) [] rm0 #[.ref y, .int (Int32.ofNat N)] h W
      (fun v h' W' => v = some (.int (nar .byte (nar .byte (((Int32.ofNat N - Int32.ofNat ys.length).toUInt32 >>> ((31 : Int32) &&& 31).toUInt32).toInt32)))) ∧ h' = h) := by
  refine Ow.Con.intro (a0 := a0) pn_2 (ewG G) (saG G) bbG [.val (.ref y), .val (.int (Int32.ofNat N))] (by first | exact Ow.locals_all (by simp [Value.category]) rfl | rfl | (simp [argsToLocals, Value.category]; done)) ?_
  intro p e s m below meth c C hO
  refine Ow.iloadN C dCF_0 (pc' := 1) rfl rfl ?_
  refine Ow.aloadN C dCF_1 (pc' := 2) rfl rfl rfl ?_
  refine Ow.arrlen C Y dCF_2 (pc' := 3) rfl ?_
  refine Ow.isub C dCF_3 (pc' := 4) rfl ?_
  refine Ow.bipush C (31 : Int32) dCF_4 (pc' := 6) rfl rfl ?_
  refine Ow.iushr C dCF_6 (pc' := 7) rfl ?_
  refine Ow.i2b C dCF_7 (pc' := 8) rfl ?_
  refine Ow.retN C (t := .byte) rfl (by simp) dCF_8 (by first | decide | (dsimp only; omega) | (simp [Value.category]; done) | (simp [Value.category]; omega)) (by first | decide | (dsimp only; omega) | (simp [Value.category]; done) | (simp [Value.category]; omega)) [] (by first | (simp; done) | (intro x hx; simp [hx]; done)) ⟨rfl, rfl⟩
theorem cf_lat (N : Nat) : nar .byte (nar .byte (((Int32.ofNat N - Int32.ofNat N).toUInt32 >>> ((31 : Int32) &&& 31).toUInt32).toInt32)) = 0 := by
  rw [Int32.sub_self]; decide
abbrev rmI1 (B : Nat) : Room := { frames := 2, cells := 1, slots := B, locals := 35 }
set_option maxHeartbeats 4000000 in
theorem con_I1 (G : Glob Z a0) (B : Nat) (a x : Nat) (xs : List Int32) (h : Heap) (W : List Nat) (ov oc : Value) (A : Exa Z h a "java/lang/String") (Fv : Fld Z h a "java/lang/String" "value" "[B" ov) (Fc : Fld Z h a "java/lang/String" "coder" "B" oc) (ha : a ∈ W) (X : ArI Z h x .char xs) (h0 : 0 < xs.length) (hL : ∀ z ∈ xs, 0 ≤ z.toInt ∧ z.toInt < 256) (hB : xs.length ≤ B) (hB2 : B ≤ 4000) :
    Ow.Con l Z EL1 bb (⟨"java/lang/String", "<init>", "([CIILjava/lang/Void;)V"⟩ : MethodName) jdk_42_method_149_code 6 (Option.none : Option Jvm.ClassFile.FieldType) [] (rmI1 B) #[.ref a, .ref x, .int 0, .int (Int32.ofNat xs.length), .null] h W
      (fun v h' W' => v = none ∧ ∃ d : Nat, Ow.StrL Z h' a d xs ∧ Keep h h' [a] ∧ h.size ≤ d) := by
  obtain ⟨cv, hcv, hst⟩ := G.2.1
  refine Ow.Con.intro (a0 := a0) pn_3 (ewG G) (saG G) bbG [.val (.ref a), .val (.ref x), .val (.int 0), .val (.int (Int32.ofNat xs.length)), .val .null, .unset] (by first | exact Ow.locals_all (by simp [Value.category]) rfl | rfl | (simp [argsToLocals, Value.category]; done)) ?_
  intro p e s m below meth c C hO
  have hN : xs.length < 2 ^ 31 := X.2
  have haL : a < h.size := A.lt
  refine Ow.aloadN C dI1_0 (pc' := 1) rfl rfl rfl ?_
  refine Ow.initO C (tw11 G.1) (tw12 G.1) (tw13 G.1) dI1_1 (pc' := 4) rfl rfl (by first | decide | (dsimp only; omega) | (simp [Value.category]; done) | (simp [Value.category]; omega)) (by first | decide | (dsimp only; omega) | (simp [Value.category]; done) | (simp [Value.category]; omega)) ?_
  refine Ow.iloadN C dI1_4 (pc' := 5) rfl rfl ?_
  refine Ow.ifCY C 27 dI1_5 (XT.i0_ne_t (fun q => by have := Ow.ofNat_toInt hN; rw [q] at this; have e0 : ((0 : Int32)).toInt = 0 := rfl; omega)) (by decide) (by decide) ?_
  refine Ow.getS C (tw66 G.1) hst dI1_27 (pc' := 30) rfl ?_
  refine Ow.ifCN C dI1_30 (pc' := 33) rfl (XT.i0_eq_f hcv) ?_
  refine Ow.aloadN C dI1_33 (pc' := 34) rfl rfl rfl ?_
  refine Ow.iloadN C dI1_34 (pc' := 35) rfl rfl ?_
  refine Ow.iloadN C dI1_35 (pc' := 36) rfl rfl ?_
  refine Ow.callS C (tw223 G.1) (tw224 G.1) (tw225 G.1) (tw226 G.1) (by decide) (con_CM G B x xs h W X hL hB hB2) (fun _ q => q) pd_1 rfl rfl rfl dI1_36 (pc' := 39) rfl (Wt := 0) (Nat.le_refl _) (by first | decide | (dsimp only; omega) | (simp [Value.category]; done) | (simp [Value.category]; omega)) (by first | decide | (dsimp only; omega) | (simp [Value.category]; done) | (simp [Value.category]; omega)) (by first | decide | (dsimp only; omega) | (simp [Value.category]; done) | (simp [Value.category]; omega)) (by first | decide | (dsimp only; omega) | (simp [Value.category]; done) | (simp [Value.category]; omega)) (fun v2 h2 W2 ⟨d, e2, hd, K2, V2⟩ s2 => ?_)
  subst e2
  dsimp only [Option.toList, List.cons_append, List.nil_append]
  refine Ow.astore C dI1_39 (pc' := 41) rfl rfl rfl ?_
  dsimp only [List.set]
  refine Ow.aloadN C dI1_41 (pc' := 42) rfl rfl rfl ?_
  refine Ow.aload C dI1_42 (pc' := 44) rfl rfl rfl ?_
  refine Ow.iloadN C dI1_44 (pc' := 45) rfl rfl ?_
  refine Ow.callS C (tw230 G.1) (tw231 G.1) (tw225 G.1) (tw232 G.1) (by decide) (con_CF G d .byte (xs.map (nar .byte)) xs.length h2 W V2) (fun _ q => q) pd_2 rfl rfl rfl dI1_45 (pc' := 48) rfl (Wt := 1) (Nat.le_refl _) (by first | decide | (dsimp only; omega) | (simp [Value.category]; done) | (simp [Value.category]; omega)) (by first | decide | (dsimp only; omega) | (simp [Value.category]; done) | (simp [Value.category]; omega)) (by first | decide | (dsimp only; omega) | (simp [Value.category]; done) | (simp [Value.category]; omega)) (by first | decide | (dsimp only; omega) | (simp [Value.category]; done) | (simp [Value.category]; omega)) (fun v3 h3 W3 ⟨e3, e3'⟩ s3 => ?_)
  subst e3 e3'
  rw [List.length_map, cf_lat]
  dsimp only [Option.toList, List.cons_append, List.nil_append]
  have A2 := A.keep K2
  have Fc2 := Fc.keep K2 nin0
  have Fv2 := Fv.keep K2 nin0
  refine Ow.putF C (tw21 G.1) Fc2 A2 (Or.inr ⟨(tw17 G.1), rfl, rfl⟩) (tw1 G.1) (ty := .byte) (by decide) rfl rfl (by first | assumption | (simp; done) | (simp [*]; done)) dI1_48 (pc' := 51) rfl (fun h4 w4 K4 Fc4 => ?_)
  have Fv4 := Fv2.other w4 (Or.inr (slot_ne (Or.inr (tw16 G.1)) (Or.inr (tw17 G.1)) (by decide) (t := .array .byte) (t' := .byte) (by decide) (by decide)))
  have A4 := A2.keep K4
  have V4 := V2.keep K4 (Ow.nin1 (by omega))
  refine Ow.aloadN C dI1_51 (pc' := 52) rfl rfl rfl ?_
  refine Ow.aload C dI1_52 (pc' := 54) rfl rfl rfl ?_
  refine Ow.putF C (tw20 G.1) Fv4 A4 (Or.inr ⟨(tw16 G.1), rfl, rfl⟩) (tw1 G.1) (ty := (.array .byte)) (by decide) rfl rfl (by first | assumption | (simp; done) | (simp [*]; done)) dI1_54 (pc' := 57) rfl (fun h5 w5 K5 Fv5 => ?_)
  have Fc5 := Fc4.other w5 (Or.inr (slot_ne (Or.inr (tw17 G.1)) (Or.inr (tw16 G.1)) (by decide) (t := .byte) (t' := .array .byte) (by decide) (by decide)))
  have V5 := V4.keep K5 (Ow.nin1 (by omega))
  refine Ow.retV C rfl dI1_57 (by first | decide | (dsimp only; omega) | (simp [Value.category]; done) | (simp [Value.category]; omega)) (by first | decide | (dsimp only; omega) | (simp [Value.category]; done) | (simp [Value.category]; omega)) [] (by first | (simp; done) | (intro x hx; simp [hx]; done)) ⟨rfl, d, ⟨A4.keep K5, Fv5, Fc5, V5, hL⟩, (((Keep.refl h [a]).trans K2 (fun z hz => by cases hz)).trans K4 (fun z hz => Or.inl hz)).trans K5 (fun z hz => Or.inl hz), hd⟩
abbrev rmI0 (B : Nat) : Room := { frames := 3, cells := 1, slots := B, locals := 52 }
set_option maxHeartbeats 4000000 in
theorem con_I0 (G : Glob Z a0) (B : Nat) (a x : Nat) (xs : List Int32) (h : Heap) (W : List Nat) (ov oc : Value) (A : Exa Z h a "java/lang/String") (Fv : Fld Z h a "java/lang/String" "value" "[B" ov) (Fc : Fld Z h a "java/lang/String" "coder" "B" oc) (ha : a ∈ W) (X : ArI Z h x .char xs) (h0 : 0 < xs.length) (hL : ∀ z ∈ xs, 0 ≤ z.toInt ∧ z.toInt < 256) (hB : xs.length ≤ B) (hB2 : B ≤ 4000) :
    Ow.Con l Z EL1 bb (⟨"java/lang/String", "<init>", "([C)V"⟩ : MethodName) jdk_42_method_3_code 2 (Option.none : Option Jvm.ClassFile.FieldType) [] (rmI0 B) #[.ref a, .ref x] h W
      (fun v h' W' => v = none ∧ ∃ d : Nat, Ow.StrL Z h' a d xs ∧ Keep h h' [a] ∧ h.size ≤ d) := by
  refine Ow.Con.intro (a0 := a0) pn_4 (ewG G) (saG G) bbG [.val (.ref a), .val (.ref x)] (by first | exact Ow.locals_all (by simp [Value.category]) rfl | rfl | (simp [argsToLocals, Value.category]; done)) ?_
  intro p e s m below meth c C hO
  refine Ow.aloadN C dI0_0 (pc' := 1) rfl rfl rfl ?_
  refine Ow.aloadN C dI0_1 (pc' := 2) rfl rfl rfl ?_
  refine Ow.iconst C (0 : Int32) dI0_2 (pc' := 3) rfl rfl ?_
  refine Ow.aloadN C dI0_3 (pc' := 4) rfl rfl rfl ?_
  refine Ow.arrlen C X dI0_4 (pc' := 5) rfl ?_
  refine Ow.aconstNull C dI0_5 (pc' := 6) rfl ?_
  refine Ow.callI C rfl (tw7 G.1) (tw8 G.1) (tw2 G.1) (tw10 G.1) (by decide) (con_I1 G B a x xs h W ov oc A Fv Fc ha X h0 hL hB hB2) (fun _ q => q) pd_3 rfl rfl rfl dI0_6 (pc' := 9) rfl (Wt := 0) (Nat.le_refl _) (by first | decide | (dsimp only; omega) | (simp [Value.category]; done) | (simp [Value.category]; omega)) (by first | decide | (dsimp only; omega) | (simp [Value.category]; done) | (simp [Value.category]; omega)) (by first | decide | (dsimp only; omega) | (simp [Value.category]; done) | (simp [Value.category]; omega)) (by first | decide | (dsimp only; omega) | (simp [Value.category]; done) | (simp [Value.category]; omega)) (fun v2 h2 W2 ⟨e2, d, S2, K2, hd⟩ s2 => ?_)
  subst e2
  dsimp only [Option.toList, List.cons_append, List.nil_append]
  refine Ow.retV C rfl dI0_9 (by first | decide | (dsimp only; omega) | (simp [Value.category]; done) | (simp [Value.category]; omega)) (by first | decide | (dsimp only; omega) | (simp [Value.category]; done) | (simp [Value.category]; omega)) [] (by first | (simp; done) | (intro x hx; simp [hx]; done)) ⟨rfl, d, S2, K2, hd⟩
end StrL

section StrE0
variable {l : Launch} {Z : State} {a0 : Array Value}
abbrev rmI1e : Room := { frames := 1, cells := 4, slots := 8, locals := 12 }
set_option maxHeartbeats 4000000 in
theorem con_I1e (G : Glob Z a0) (a x : Nat) (h : Heap) (W : List Nat) (ov oc : Value) (A : Exa Z h a "java/lang/String") (Fv : Fld Z h a "java/lang/String" "value" "[B" ov) (Fc : Fld Z h a "java/lang/String" "coder" "B" oc) (ha : a ∈ W) :
    Ow.Con l Z EL1 bb (⟨"java/lang/String", "<init>", "([CIILjava/lang/Void;)V"⟩ : MethodName) jdk_42_method_149_code 6 (Option.none : Option Jvm.ClassFile.FieldType) [] rmI1e #[.ref a, .ref x, .int 0, .int 0, .null] h W
      (fun v h' W' => v = none ∧ ∃ d : Nat, Ow.StrL Z h' a d [] ∧ Keep h h' [a] ∧ True) := by
  refine Ow.Con.intro (a0 := a0) pn_3 (ewG G) (saG G) bbG [.val (.ref a), .val (.ref x), .val (.int 0), .val (.int 0), .val .null, .unset] (by first | exact Ow.locals_all (by simp [Value.category]) rfl | rfl | (simp [argsToLocals, Value.category]; done)) ?_
  intro p e s m below meth c C hO
  refine Ow.aloadN C dI1_0 (pc' := 1) rfl rfl rfl ?_
  refine Ow.initO C (tw11 G.1) (tw12 G.1) (tw13 G.1) dI1_1 (pc' := 4) rfl rfl (by first | decide | (dsimp only; omega) | (simp [Value.category]; done) | (simp [Value.category]; omega)) (by first | decide | (dsimp only; omega) | (simp [Value.category]; done) | (simp [Value.category]; omega)) ?_
  refine Ow.iloadN C dI1_4 (pc' := 5) rfl rfl ?_
  refine Ow.ifCN C dI1_5 (pc' := 8) rfl (XT.i0_ne_f rfl) ?_
  refine Ow.aloadN C dI1_8 (pc' := 9) rfl rfl rfl ?_
  refine Ow.ldcS C rfl (N := 0) (xs := []) (tw14 G.1) (by decide) (by decide) (by decide) dI1_9 (pc' := 11) rfl (by decide) (by decide) (by first | decide | (dsimp only; omega) | (simp [Value.category]; done) | (simp [Value.category]; omega)) (by first | decide | (dsimp only; omega) | (simp [Value.category]; done) | (simp [Value.category]; omega)) (fun h1 b1 d1 E1 B1 Bc1 Bv1 D1 n1 => ?_)
  have K1 := Ow.Keep.z E1
  refine Ow.getF C (tw20 G.1) Bv1 dI1_11 (pc' := 14) rfl ?_
  refine Ow.putF C (tw20 G.1) (Fv.ext E1) (A.ext E1) (Or.inr ⟨(tw16 G.1), rfl, rfl⟩) (tw1 G.1) (ty := (.array .byte)) (by decide) rfl rfl (by first | assumption | (simp; done) | (simp [*]; done)) dI1_14 (pc' := 17) rfl (fun h2 w2 K2 Fv2 => ?_)
  have Fc2 := (Fc.ext E1).other w2 (Or.inr (slot_ne (Or.inr (tw17 G.1)) (Or.inr (tw16 G.1)) (by decide) (t := .byte) (t' := .array .byte) (by decide) (by decide)))
  have A2 := (A.ext E1).keep K2
  have D2 := D1.keep K2 (Ow.nin1 (fun q => (n1 a ha).2 q.symm))
  refine Ow.aloadN C dI1_17 (pc' := 18) rfl rfl rfl ?_
  refine Ow.ldcS C rfl (N := 0) (xs := []) (tw14 G.1) (by decide) (by decide) (by decide) dI1_18 (pc' := 20) rfl (by decide) (by decide) (by first | decide | (dsimp only; omega) | (simp [Value.category]; done) | (simp [Value.category]; omega)) (by first | decide | (dsimp only; omega) | (simp [Value.category]; done) | (simp [Value.category]; omega)) (fun h3 b3 d3 E3 B3 Bc3 Bv3 D3 n3 => ?_)
  have K3 := Ow.Keep.z E3
  refine Ow.getF C (tw21 G.1) Bc3 dI1_20 (pc' := 23) rfl ?_
  refine Ow.putF C (tw21 G.1) (Fc2.ext E3) (A2.ext E3) (Or.inr ⟨(tw17 G.1), rfl, rfl⟩) (tw1 G.1) (ty := .byte) (by decide) rfl rfl (by first | assumption | (simp; done) | (simp [*]; done)) dI1_23 (pc' := 26) rfl (fun h4 w4 K4 Fc4 => ?_)
  have Fv4 := (Fv2.ext E3).other w4 (Or.inr (slot_ne (Or.inr (tw16 G.1)) (Or.inr (tw17 G.1)) (by decide) (t := .array .byte) (t' := .byte) (by decide) (by decide)))
  have D4 := (D2.ext E3).keep K4 (Ow.nin1 (fun q => (n1 a ha).2 q.symm))
  refine Ow.retV C rfl dI1_26 (by first | decide | (dsimp only; omega) | (simp [Value.category]; done) | (simp [Value.category]; omega)) (by first | decide | (dsimp only; omega) | (simp [Value.category]; done) | (simp [Value.category]; omega)) [] (by first | (simp; done) | (intro x hx; simp [hx]; done)) ⟨rfl, d1, ⟨(A2.ext E3).keep K4, Fv4, Fc4, D4, fun _ q => nomatch q⟩, (((Keep.refl h [a]).ext E1).trans K2 (fun _ q => Or.inl q)).ext E3 |>.trans K4 (fun _ q => Or.inl q), trivial⟩
abbrev rmI0e : Room := { frames := 2, cells := 4, slots := 8, locals := 29 }
set_option maxHeartbeats 4000000 in
theorem con_I0e (G : Glob Z a0) (a x : Nat) (h : Heap) (W : List Nat) (ov oc : Value) (A : Exa Z h a "java/lang/String") (Fv : Fld Z h a "java/lang/String" "value" "[B" ov) (Fc : Fld Z h a "java/lang/String" "coder" "B" oc) (ha : a ∈ W) (X : ArI Z h x .char []) :
    Ow.Con l Z EL1 bb (⟨"java/lang/String", "<init>", "([C)V"⟩ : MethodName) jdk_42_method_3_code 2 (Option.none : Option Jvm.ClassFile.FieldType) [] rmI0e #[.ref a, .ref x] h W
      (fun v h' W' => v = none ∧ ∃ d : Nat, Ow.StrL Z h' a d [] ∧ Keep h h' [a] ∧ True) := by
  refine Ow.Con.intro (a0 := a0) pn_4 (ewG G) (saG G) bbG [.val (.ref a), .val (.ref x)] (by first | exact Ow.locals_all (by simp [Value.category]) rfl | rfl | (simp [argsToLocals, Value.category]; done)) ?_
  intro p e s m below meth c C hO
  refine Ow.aloadN C dI0_0 (pc' := 1) rfl rfl rfl ?_
  refine Ow.aloadN C dI0_1 (pc' := 2) rfl rfl rfl ?_
  refine Ow.iconst C (0 : Int32) dI0_2 (pc' := 3) rfl rfl ?_
  refine Ow.aloadN C dI0_3 (pc' := 4) rfl rfl rfl ?_
  refine Ow.arrlen C X dI0_4 (pc' := 5) rfl ?_
  refine Ow.aconstNull C dI0_5 (pc' := 6) rfl ?_
  refine Ow.callI C rfl (tw7 G.1) (tw8 G.1) (tw2 G.1) (tw10 G.1) (by decide) (con_I1e G a x h W ov oc A Fv Fc ha) (fun _ q => q) pd_3 rfl rfl rfl dI0_6 (pc' := 9) rfl (Wt := 0) (Nat.le_refl _) (by first | decide | (dsimp only; omega) | (simp [Value.category]; done) | (simp [Value.category]; omega)) (by first | decide | (dsimp only; omega) | (simp [Value.category]; done) | (simp [Value.category]; omega)) (by first | decide | (dsimp only; omega) | (simp [Value.category]; done) | (simp [Value.category]; omega)) (by first | decide | (dsimp only; omega) | (simp [Value.category]; done) | (simp [Value.category]; omega)) (fun v2 h2 W2 ⟨e2, d, S2, K2, hd⟩ s2 => ?_)
  subst e2
  dsimp only [Option.toList, List.cons_append, List.nil_append]
  refine Ow.retV C rfl dI0_9 (by first | decide | (dsimp only; omega) | (simp [Value.category]; done) | (simp [Value.category]; omega)) (by first | decide | (dsimp only; omega) | (simp [Value.category]; done) | (simp [Value.category]; omega)) [] (by first | (simp; done) | (intro x hx; simp [hx]; done)) ⟨rfl, d, S2, K2, trivial⟩
end StrE0

section StrCO
variable {l : Launch} {Z : State} {a0 : Array Value}
theorem con_CO (G : Glob Z a0) (a : Nat) (cd : Int32) (h : Heap) (W : List Nat) (F : Fld Z h a "java/lang/String" "coder" "B" (.int cd)) :
    Ow.Con l Z EL1 bb (⟨"java/lang/String", "coder", "()B"⟩ : MethodName) jdk_42_method_152_code 1 (Option.some Jvm.ClassFile.FieldType.byte) [] rm0 #[.ref a] h W (fun v h' W' => v = some (.int (nar .byte cd)) ∧ h' = h) := by
  obtain ⟨cv, hcv, hst⟩ := G.2.1
  refine Ow.Con.intro (a0 := a0) pn_5 (ewG G) (saG G) bbG [.val (.ref a)] (by first | exact Ow.locals_all (by simp [Value.category]) rfl | rfl | (simp [argsToLocals, Value.category]; done)) ?_
  intro p e s m below meth c C hO
  refine Ow.getS C (tw66 G.1) hst dCO_0 (pc' := 3) rfl ?_
  refine Ow.ifCN C dCO_3 (pc' := 6) rfl (XT.i0_eq_f hcv) ?_
  refine Ow.aloadN C dCO_6 (pc' := 7) rfl rfl rfl ?_
  refine Ow.getF C (tw21 G.1) F dCO_7 (pc' := 10) rfl ?_
  refine Ow.goto C 14 dCO_10 (by decide) (by decide) ?_
  refine Ow.retN C (t := .byte) rfl (by simp) dCO_14 (by first | decide | (dsimp only; omega) | (simp [Value.category]; done) | (simp [Value.category]; omega)) (by first | decide | (dsimp only; omega) | (simp [Value.category]; done) | (simp [Value.category]; omega)) [] (by first | (simp; done) | (intro x hx; simp [hx]; done)) ⟨rfl, rfl⟩
theorem shr0 (x : Int32) : x >>> (nar .byte 0 &&& 31) = x := by
  apply Ow.i32_ext
  have := c_ishr x (nar .byte 0) 0 (by decide)
  rw [this]; simp
abbrev rmLN : Room := { frames := 1, cells := 0, slots := 0, locals := 13 }
theorem con_LN (G : Glob Z a0) (a d : Nat) (cs : List Int32) (h : Heap) (W : List Nat) (S : Ow.StrL Z h a d cs) :
    Ow.Con l Z EL1 bb (⟨"java/lang/String", "length", "()I"⟩ : MethodName) jdk_42_method_54_code 1 (Option.some Jvm.ClassFile.FieldType.int) [] rmLN #[.ref a] h W (fun v h' W' => v = some (.int (Int32.ofNat cs.length)) ∧ h' = h) := by
  refine Ow.Con.intro (a0 := a0) pn_6 (ewG G) (saG G) bbG [.val (.ref a)] (by first | exact Ow.locals_all (by simp [Value.category]) rfl | rfl | (simp [argsToLocals, Value.category]; done)) ?_
  intro p e s m below meth c C hO
  refine Ow.aloadN C dLN_0 (pc' := 1) rfl rfl rfl ?_
  refine Ow.getF C (tw20 G.1) S.2.1 dLN_1 (pc' := 4) rfl ?_
  refine Ow.arrlen C S.2.2.2.1 dLN_4 (pc' := 5) rfl ?_
  refine Ow.aloadN C dLN_5 (pc' := 6) rfl rfl rfl ?_
  refine Ow.callV C (y := (⟨"java/lang/String", "coder", "()B"⟩ : MethodName)) (z := (⟨"java/lang/String", "coder", "()B"⟩ : MethodName)) (tw61 G.1) (tw62 G.1) (tw64 G.1) (tw64 G.1) (tw63 G.1) (tw2 G.1) (tw65 G.1) (by decide) S.1 (con_CO G a 0 h W S.2.2.1) (fun _ q => q) pd_4 rfl rfl rfl dLN_6 (pc' := 9) rfl (Wt := 1) (Nat.le_refl _) (by first | decide | (dsimp only; omega) | (simp [Value.category]; done) | (simp [Value.category]; omega)) (by first | decide | (dsimp only; omega) | (simp [Value.category]; done) | (simp [Value.category]; omega)) (by first | decide | (dsimp only; omega) | (simp [Value.category]; done) | (simp [Value.category]; omega)) (by first | decide | (dsimp only; omega) | (simp [Value.category]; done) | (simp [Value.category]; omega)) (fun v1 h1 W1 ⟨e1, e1'⟩ s1 => ?_)
  subst e1 e1'
  dsimp only [Option.toList, List.cons_append, List.nil_append]
  refine Ow.ishr C dLN_9 (pc' := 10) rfl ?_
  rw [shr0]
  refine Ow.retI C rfl dLN_10 (by first | decide | (dsimp only; omega) | (simp [Value.category]; done) | (simp [Value.category]; omega)) (by first | decide | (dsimp only; omega) | (simp [Value.category]; done) | (simp [Value.category]; omega)) [] (by first | (simp; done) | (intro x hx; simp [hx]; done)) ⟨by rw [List.length_map], rfl⟩
end StrCO

section StrIL
variable {l : Launch} {Z : State} {a0 : Array Value}
theorem con_IL (G : Glob Z a0) (a : Nat) (cd : Int32) (h : Heap) (W : List Nat) (F : Fld Z h a "java/lang/String" "coder" "B" (.int cd)) :
    Ow.Con l Z EL1 bb (⟨"java/lang/String", "isLatin1", "()Z"⟩ : MethodName) jdk_42_method_154_code 1 (Option.some Jvm.ClassFile.FieldType.boolean) [] rm0 #[.ref a] h W (fun v h' W' => v = some (.int (if cd = 0 then 1 else 0)) ∧ h' = h) := by
  obtain ⟨cv, hcv, hst⟩ := G.2.1
  refine Ow.Con.intro (a0 := a0) pn_7 (ewG G) (saG G) bbG [.val (.ref a)] (by first | exact Ow.locals_all (by simp [Value.category]) rfl | rfl | (simp [argsToLocals, Value.category]; done)) ?_
  intro p e s m below meth c C hO
  refine Ow.getS C (tw66 G.1) hst dIL_0 (pc' := 3) rfl ?_
  refine Ow.ifCN C dIL_3 (pc' := 6) rfl (XT.i0_eq_f hcv) ?_
  refine Ow.aloadN C dIL_6 (pc' := 7) rfl rfl rfl ?_
  refine Ow.getF C (tw21 G.1) F dIL_7 (pc' := 10) rfl ?_
  refine Ow.ifC C 17 13 dIL_10 (Ow.hNe _) (by decide) (by decide) rfl (fun hc => ?_) (fun hc => ?_)
  · refine Ow.iconst C (0 : Int32) dIL_17 (pc' := 18) rfl rfl ?_
    refine Ow.retN C (t := .boolean) rfl (by simp) dIL_18 (by first | decide | (dsimp only; omega) | (simp [Value.category]; done) | (simp [Value.category]; omega)) (by first | decide | (dsimp only; omega) | (simp [Value.category]; done) | (simp [Value.category]; omega)) [] (by first | (simp; done) | (intro x hx; simp [hx]; done)) ⟨by rw [if_neg hc]; rfl, rfl⟩
  · refine Ow.iconst C (1 : Int32) dIL_13 (pc' := 14) rfl rfl ?_
    refine Ow.goto C 18 dIL_14 (by decide) (by decide) ?_
    refine Ow.retN C (t := .boolean) rfl (by simp) dIL_18 (by first | decide | (dsimp only; omega) | (simp [Value.category]; done) | (simp [Value.category]; omega)) (by first | decide | (dsimp only; omega) | (simp [Value.category]; done) | (simp [Value.category]; omega)) [] (by first | (simp; done) | (intro x hx; simp [hx]; done)) ⟨by rw [if_pos (Decidable.not_not.mp hc)]; rfl, rfl⟩
end StrIL

section MathMM
variable {l : Launch} {Z : State} {a0 : Array Value}
theorem con_MN (G : Glob Z a0) (x y : Int32) (h : Heap) (W : List Nat) : Ow.Con l Z EL1 bb (⟨"java/lang/Math", "min", "(II)I"⟩ : MethodName) jdk_29_method_69_code 2 (Option.some Jvm.ClassFile.FieldType.int) [] rm0 #[.int x, .int y] h W (fun v h' W' => v = some (.int (if y < x then y else x)) ∧ h' = h) := by
  refine Ow.Con.intro (a0 := a0) pn_8 (ewG G) (saG G) bbG [.val (.int x), .val (.int y)] (by first | exact Ow.locals_all (by simp [Value.category]) rfl | rfl | (simp [argsToLocals, Value.category]; done)) ?_
  intro p e s m below meth c C hO
  refine Ow.iloadN C dMN_0 (pc' := 1) rfl rfl ?_
  refine Ow.iloadN C dMN_1 (pc' := 2) rfl rfl ?_
  refine Ow.icmp C 9 5 dMN_2 (Ow.kGt _ _) (by decide) (by decide) rfl (fun hc => ?_) (fun hc => ?_)
  · refine Ow.iloadN C dMN_9 (pc' := 10) rfl rfl ?_
    refine Ow.retI C rfl dMN_10 (by first | decide | (dsimp only; omega) | (simp [Value.category]; done) | (simp [Value.category]; omega)) (by first | decide | (dsimp only; omega) | (simp [Value.category]; done) | (simp [Value.category]; omega)) [] (by first | (simp; done) | (intro x hx; simp [hx]; done)) ⟨by rw [if_pos hc], rfl⟩
  · refine Ow.iloadN C dMN_5 (pc' := 6) rfl rfl ?_
    refine Ow.goto C 10 dMN_6 (by decide) (by decide) ?_
    refine Ow.retI C rfl dMN_10 (by first | decide | (dsimp only; omega) | (simp [Value.category]; done) | (simp [Value.category]; omega)) (by first | decide | (dsimp only; omega) | (simp [Value.category]; done) | (simp [Value.category]; omega)) [] (by first | (simp; done) | (intro x hx; simp [hx]; done)) ⟨by rw [if_neg hc], rfl⟩
theorem con_MX (G : Glob Z a0) (x y : Int32) (h : Heap) (W : List Nat) : Ow.Con l Z EL1 bb (⟨"java/lang/Math", "max", "(II)I"⟩ : MethodName) jdk_29_method_65_code 2 (Option.some Jvm.ClassFile.FieldType.int) [] rm0 #[.int x, .int y] h W (fun v h' W' => v = some (.int (if x < y then y else x)) ∧ h' = h) := by
  refine Ow.Con.intro (a0 := a0) pn_9 (ewG G) (saG G) bbG [.val (.int x), .val (.int y)] (by first | exact Ow.locals_all (by simp [Value.category]) rfl | rfl | (simp [argsToLocals, Value.category]; done)) ?_
  intro p e s m below meth c C hO
  refine Ow.iloadN C dMX_0 (pc' := 1) rfl rfl ?_
  refine Ow.iloadN C dMX_1 (pc' := 2) rfl rfl ?_
  refine Ow.icmp C 9 5 dMX_2 (Ow.kLt _ _) (by decide) (by decide) rfl (fun hc => ?_) (fun hc => ?_)
  · refine Ow.iloadN C dMX_9 (pc' := 10) rfl rfl ?_
    refine Ow.retI C rfl dMX_10 (by first | decide | (dsimp only; omega) | (simp [Value.category]; done) | (simp [Value.category]; omega)) (by first | decide | (dsimp only; omega) | (simp [Value.category]; done) | (simp [Value.category]; omega)) [] (by first | (simp; done) | (intro x hx; simp [hx]; done)) ⟨by rw [if_pos hc], rfl⟩
  · refine Ow.iloadN C dMX_5 (pc' := 6) rfl rfl ?_
    refine Ow.goto C 10 dMX_6 (by decide) (by decide) ?_
    refine Ow.retI C rfl dMX_10 (by first | decide | (dsimp only; omega) | (simp [Value.category]; done) | (simp [Value.category]; omega)) (by first | decide | (dsimp only; omega) | (simp [Value.category]; done) | (simp [Value.category]; omega)) [] (by first | (simp; done) | (intro x hx; simp [hx]; done)) ⟨by rw [if_neg hc], rfl⟩
end MathMM

section StrU
variable {l : Launch} {Z : State} {a0 : Array Value}
theorem con_NL (G : Glob Z a0) (N : Nat) (hN : N < 2 ^ 29) (h : Heap) (W : List Nat) : Ow.Con l Z EL1 bb (⟨"java/lang/StringUTF16", "newBytesLength", "(I)I"⟩ : MethodName) jdk_52_method_3_code 1 (Option.some Jvm.ClassFile.FieldType.int) [] rm0 #[.int (Int32.ofNat N)] h W (fun v h' W' => v = some (.int (Int32.ofNat (2 * N))) ∧ h' = h) := by
  refine Ow.Con.intro (a0 := a0) pn_10 (ewG G) (saG G) bbG [.val (.int (Int32.ofNat N))] (by first | exact Ow.locals_all (by simp [Value.category]) rfl | rfl | (simp [argsToLocals, Value.category]; done)) ?_
  intro p e s m below meth c C hO
  refine Ow.iloadN C dNL_0 (pc' := 1) rfl rfl ?_
  refine Ow.ifCY C 12 dNL_1 (XT.i0_ge_t (by rw [Ow.lt32, Ow.ofNat_toInt (by omega)]; have e0 : ((0 : Int32)).toInt = 0 := rfl; omega)) (by decide) (by decide) ?_
  refine Ow.iloadN C dNL_12 (pc' := 13) rfl rfl ?_
  refine Ow.ldcI C (tw270 G.1) dNL_13 (pc' := 15) rfl ?_
  refine Ow.icmpY C 55 dNL_15 (XT.ii_lt_t (by rw [Ow.lt32, Ow.ofNat_toInt (by omega)]; have e0 : ((1073741823 : Int32)).toInt = 1073741823 := rfl; omega)) (by decide) (by decide) ?_
  refine Ow.iloadN C dNL_55 (pc' := 56) rfl rfl ?_
  refine Ow.iconst C (1 : Int32) dNL_56 (pc' := 57) rfl rfl ?_
  refine Ow.ishl C dNL_57 (pc' := 58) rfl ?_
  rw [Ow.shl_one (by omega)]
  refine Ow.retI C rfl dNL_58 (by first | decide | (dsimp only; omega) | (simp [Value.category]; done) | (simp [Value.category]; omega)) (by first | decide | (dsimp only; omega) | (simp [Value.category]; done) | (simp [Value.category]; omega)) [] (by first | (simp; done) | (intro x hx; simp [hx]; done)) ⟨rfl, rfl⟩
abbrev rmNF (B : Nat) : Room := { frames := 1, cells := 1, slots := B, locals := 12 }
theorem con_NF (G : Glob Z a0) (B N : Nat) (hB : 2 * N ≤ B) (hB2 : B ≤ 4000) (h : Heap) (W : List Nat) : Ow.Con l Z EL1 bb (⟨"java/lang/StringUTF16", "newBytesFor", "(I)[B"⟩ : MethodName) jdk_52_method_2_code 1 (Option.some (Jvm.ClassFile.FieldType.array Jvm.ClassFile.FieldType.byte)) [] (rmNF B) #[.int (Int32.ofNat N)] h W
    (fun v h' W' => ∃ y : Nat, v = some (.ref y) ∧ y = h.size ∧ Ext h h' ∧ ArI Z h' y .byte (List.replicate (2 * N) 0) ∧ W' = [y]) := by
  refine Ow.Con.intro (a0 := a0) pn_11 (ewG G) (saG G) bbG [.val (.int (Int32.ofNat N))] (by first | exact Ow.locals_all (by simp [Value.category]) rfl | rfl | (simp [argsToLocals, Value.category]; done)) ?_
  intro p e s m below meth c C hO
  refine Ow.iloadN C dNF_0 (pc' := 1) rfl rfl ?_
  refine Ow.callS C (tw267 G.1) (tw268 G.1) (tw225 G.1) (tw269 G.1) (by decide) (con_NL G N (by omega) h W) (fun _ q => q) pd_5 rfl rfl rfl dNF_1 (pc' := 4) rfl (Wt := 0) (Nat.le_refl _) (by first | decide | (dsimp only; omega) | (simp [Value.category]; done) | (simp [Value.category]; omega)) (by first | decide | (dsimp only; omega) | (simp [Value.category]; done) | (simp [Value.category]; omega)) (by first | decide | (dsimp only; omega) | (simp [Value.category]; done) | (simp [Value.category]; omega)) (by first | decide | (dsimp only; omega) | (simp [Value.category]; done) | (simp [Value.category]; omega)) (fun v1 h1 W1 ⟨e1, e1'⟩ s1 => ?_)
  subst e1 e1'
  dsimp only [Option.toList, List.cons_append, List.nil_append]
  refine Ow.newarr C (ty := .byte) (cap := (2*N)) rfl rfl (tw15 G.1) dNF_4 (pc' := 6) rfl rfl (by omega) (by dsimp only; omega) (by dsimp only; omega) (fun h2 a2 s2 z2 l2 E2 V2 => ?_)
  refine Ow.retA C rfl rfl rfl dNF_6 (by first | decide | (dsimp only; omega) | (simp [Value.category]; done) | (simp [Value.category]; omega)) (by first | decide | (dsimp only; omega) | (simp [Value.category]; done) | (simp [Value.category]; omega)) [a2] (by first | (simp; done) | (intro x hx; simp [hx]; done)) ⟨a2, rfl, s2, E2, V2, rfl⟩
theorem con_PC (G : Glob Z a0) (y : Nat) (ys : List Int32) (i : Nat) (ch : Int32) (h : Heap) (W : List Nat) (Y : ArI Z h y .byte ys) (hi : 2 * i + 1 < ys.length) (hy : y ∈ W) : Ow.Con l Z EL1 bb (⟨"java/lang/StringUTF16", "putChar", "([BII)V"⟩ : MethodName) jdk_52_method_4_code 3 (Option.none : Option Jvm.ClassFile.FieldType) [] rm0 #[.ref y, .int (Int32.ofNat i), .int ch] h W
    (fun v h' W' => v = none ∧ Keep h h' [y] ∧ ArI Z h' y .byte ((ys.set (2 * i) (nar .byte ch)).set (2 * i + 1) (nar .byte (Ow.hi8 ch)))) := by
  have hN := Y.2
  refine Ow.Con.intro (a0 := a0) pn_12 (ewG G) (saG G) bbG [.val (.ref y), .val (.int (Int32.ofNat i)), .val (.int ch)] (by first | exact Ow.locals_all (by simp [Value.category]) rfl | rfl | (simp [argsToLocals, Value.category]; done)) ?_
  intro p e s m below meth c C hO
  refine Ow.getS C (tw274 G.1) G.2.2.1.1 dPC_0 (pc' := 3) rfl ?_
  refine Ow.ifCY C 28 dPC_3 (XT.i0_ne_t (by decide)) (by decide) (by decide) ?_
  refine Ow.iloadN C dPC_28 (pc' := 29) rfl rfl ?_
  refine Ow.iconst C (1 : Int32) dPC_29 (pc' := 30) rfl rfl ?_
  refine Ow.ishl C dPC_30 (pc' := 31) rfl ?_
  rw [Ow.shl_one (by omega)]
  refine Ow.istoreN C dPC_31 (pc' := 32) rfl rfl ?_
  dsimp only [List.set]
  refine Ow.aloadN C dPC_32 (pc' := 33) rfl rfl rfl ?_
  refine Ow.iloadN C dPC_33 (pc' := 34) rfl rfl ?_
  refine Ow.iinc C (1 : Int32) dPC_34 (pc' := 37) rfl rfl rfl ?_
  dsimp only [List.set]
  refine Ow.iloadN C dPC_37 (pc' := 38) rfl rfl ?_
  refine Ow.getS C (tw275 G.1) G.2.2.1.2.1 dPC_38 (pc' := 41) rfl ?_
  refine Ow.ishr C dPC_41 (pc' := 42) rfl ?_
  refine Ow.i2b C dPC_42 (pc' := 43) rfl ?_
  rw [Ow.shr_zero]
  refine Ow.bastore C Y (i := 2 * i) (Ow.ofNat_toInt (by omega)) (by omega) hy dPC_43 (pc' := 44) rfl (fun h1 K1 Y1 => ?_)
  rw [Ow.nar_byte_nar] at Y1
  refine Ow.aloadN C dPC_44 (pc' := 45) rfl rfl rfl ?_
  refine Ow.iloadN C dPC_45 (pc' := 46) rfl rfl ?_
  refine Ow.iloadN C dPC_46 (pc' := 47) rfl rfl ?_
  refine Ow.getS C (tw276 G.1) G.2.2.1.2.2 dPC_47 (pc' := 50) rfl ?_
  refine Ow.ishr C dPC_50 (pc' := 51) rfl ?_
  refine Ow.i2b C dPC_51 (pc' := 52) rfl ?_
  refine Ow.bastore C Y1 (i := 2 * i + 1) (by rw [← inc_ofNat]; exact Ow.ofNat_toInt (by omega)) (by rw [List.length_set]; omega) hy dPC_52 (pc' := 53) rfl (fun h2 K2 Y2 => ?_)
  rw [Ow.nar_byte_nar] at Y2
  refine Ow.retV C rfl dPC_53 (by first | decide | (dsimp only; omega) | (simp [Value.category]; done) | (simp [Value.category]; omega)) (by first | decide | (dsimp only; omega) | (simp [Value.category]; done) | (simp [Value.category]; omega)) [] (by first | (simp; done) | (intro x hx; simp [hx]; done)) ⟨rfl, K1.trans K2 (fun _ q => Or.inl q), Y2⟩
theorem con_GC (G : Glob Z a0) (y : Nat) (cs : List Int32) (i : Nat) (h : Heap) (W : List Nat) (Y : ArI Z h y .byte (Ow.u16 cs)) (hi : i < cs.length) (hc : 0 ≤ (cs.getD i 0).toInt ∧ (cs.getD i 0).toInt < 65536) : Ow.Con l Z EL1 bb (⟨"java/lang/StringUTF16", "getChar", "([BI)C"⟩ : MethodName) jdk_52_method_5_code 2 (Option.some Jvm.ClassFile.FieldType.char) [] rm0 #[.ref y, .int (Int32.ofNat i)] h W
    (fun v h' W' => v = some (.int (cs.getD i 0)) ∧ h' = h) := by
  have hN := Y.2
  have hl := Ow.u16_len cs
  refine Ow.Con.intro (a0 := a0) pn_13 (ewG G) (saG G) bbG [.val (.ref y), .val (.int (Int32.ofNat i))] (by first | exact Ow.locals_all (by simp [Value.category]) rfl | rfl | (simp [argsToLocals, Value.category]; done)) ?_
  intro p e s m below meth c C hO
  refine Ow.getS C (tw274 G.1) G.2.2.1.1 dGC_0 (pc' := 3) rfl ?_
  refine Ow.ifCY C 28 dGC_3 (XT.i0_ne_t (by decide)) (by decide) (by decide) ?_
  refine Ow.iloadN C dGC_28 (pc' := 29) rfl rfl ?_
  refine Ow.iconst C (1 : Int32) dGC_29 (pc' := 30) rfl rfl ?_
  refine Ow.ishl C dGC_30 (pc' := 31) rfl ?_
  rw [Ow.shl_one (by omega)]
  refine Ow.istoreN C dGC_31 (pc' := 32) rfl rfl ?_
  dsimp only [List.set]
  refine Ow.aloadN C dGC_32 (pc' := 33) rfl rfl rfl ?_
  refine Ow.iloadN C dGC_33 (pc' := 34) rfl rfl ?_
  refine Ow.iinc C (1 : Int32) dGC_34 (pc' := 37) rfl rfl rfl ?_
  dsimp only [List.set]
  refine Ow.baload C Y (i := 2 * i) (Ow.ofNat_toInt (by omega)) (by omega) dGC_37 (pc' := 38) rfl ?_
  rw [Ow.u16_lo hi]
  refine Ow.sipush C (255 : Int32) dGC_38 (pc' := 41) rfl rfl ?_
  refine Ow.iand C dGC_41 (pc' := 42) rfl ?_
  refine Ow.getS C (tw275 G.1) G.2.2.1.2.1 dGC_42 (pc' := 45) rfl ?_
  refine Ow.ishl C dGC_45 (pc' := 46) rfl ?_
  refine Ow.aloadN C dGC_46 (pc' := 47) rfl rfl rfl ?_
  refine Ow.iloadN C dGC_47 (pc' := 48) rfl rfl ?_
  refine Ow.baload C Y (i := 2 * i + 1) (by rw [← inc_ofNat]; exact Ow.ofNat_toInt (by omega)) (by omega) dGC_48 (pc' := 49) rfl ?_
  rw [Ow.u16_hi hi]
  refine Ow.sipush C (255 : Int32) dGC_49 (pc' := 52) rfl rfl ?_
  refine Ow.iand C dGC_52 (pc' := 53) rfl ?_
  refine Ow.getS C (tw276 G.1) G.2.2.1.2.2 dGC_53 (pc' := 56) rfl ?_
  refine Ow.ishl C dGC_56 (pc' := 57) rfl ?_
  refine Ow.ior C dGC_57 (pc' := 58) rfl ?_
  refine Ow.i2c C dGC_58 (pc' := 59) rfl ?_
  rw [Ow.glue _ hc.1 hc.2]
  refine Ow.retN C (t := .char) rfl (by simp) dGC_59 (by first | decide | (dsimp only; omega) | (simp [Value.category]; done) | (simp [Value.category]; omega)) (by first | decide | (dsimp only; omega) | (simp [Value.category]; done) | (simp [Value.category]; omega)) [] (by first | (simp; done) | (intro x hx; simp [hx]; done)) ⟨by rw [Ow.nar_char_id hc.1 hc.2], rfl⟩
abbrev rmTB (B : Nat) : Room := { frames := 2, cells := 1, slots := B, locals := 24 }
set_option maxHeartbeats 4000000 in
theorem con_TB (G : Glob Z a0) (B : Nat) (x : Nat) (xs : List Int32) (h : Heap) (W : List Nat) (X : ArI Z h x .char xs) (hB : 2 * xs.length ≤ B) (hB2 : B ≤ 4000) : Ow.Con l Z EL1 bb (⟨"java/lang/StringUTF16", "toBytes", "([CII)[B"⟩ : MethodName) jdk_52_method_14_code 5 (Option.some (Jvm.ClassFile.FieldType.array Jvm.ClassFile.FieldType.byte)) [] (rmTB B) #[.ref x, .int 0, .int (Int32.ofNat xs.length)] h W
    (fun v h' W' => ∃ y : Nat, v = some (.ref y) ∧ h.size ≤ y ∧ Keep h h' [] ∧ ArI Z h' y .byte (Ow.u16 xs)) := by
  have hx : x < h.size := X.lt
  refine Ow.Con.intro (a0 := a0) pn_14 (ewG G) (saG G) bbG [.val (.ref x), .val (.int 0), .val (.int (Int32.ofNat xs.length)), .unset, .unset] (by first | exact Ow.locals_all (by simp [Value.category]) rfl | rfl | (simp [argsToLocals, Value.category]; done)) ?_
  intro p e s m below meth c C hO
  refine Ow.iloadN C dTB_0 (pc' := 1) rfl rfl ?_
  refine Ow.callSW C (tw264 G.1) (tw265 G.1) (tw225 G.1) (tw266 G.1) (by decide) (con_NF G B xs.length hB hB2 h W) (fun _ q => q) pd_6 rfl rfl rfl dTB_1 (pc' := 4) rfl (Wt := 0) (Nat.le_refl _) (by first | decide | (dsimp only; omega) | (simp [Value.category]; done) | (simp [Value.category]; omega)) (by first | decide | (dsimp only; omega) | (simp [Value.category]; done) | (simp [Value.category]; omega)) (by first | decide | (dsimp only; omega) | (simp [Value.category]; done) | (simp [Value.category]; omega)) (by first | decide | (dsimp only; omega) | (simp [Value.category]; done) | (simp [Value.category]; omega)) (fun v1 h1 W1 ⟨y, e1, ey, E1, Y1, eW⟩ s1 => ?_)
  subst e1 eW
  dsimp only [Option.toList, List.cons_append, List.nil_append]
  have hyl : y < h1.size := Y1.lt
  refine Ow.astoreN C dTB_4 (pc' := 5) rfl rfl rfl ?_
  dsimp only [List.set]
  refine Ow.iconst C (0 : Int32) dTB_5 (pc' := 6) rfl rfl ?_
  refine Ow.istore C dTB_6 (pc' := 8) rfl rfl ?_
  dsimp only [List.set]
  have loop : ∀ (r i : Nat) (h2 : Heap), i + r = xs.length → Keep h1 h2 [y] → ArI Z h2 y .byte (Ow.u16 (xs.take i) ++ List.replicate (2 * r) 0) →
      Ow.WP p l e (rmTB B) s m #[.ref x, .int 0, .int (Int32.ofNat xs.length)] below meth c Z EL1 bb (fun v h' W' => ∃ y : Nat, v = some (.ref y) ∧ h.size ≤ y ∧ Keep h h' [] ∧ ArI Z h' y .byte (Ow.u16 xs))
        8 [.val (.ref x), .val (.int (Int32.ofNat i)), .val (.int (Int32.ofNat xs.length)), .val (.ref y), .val (.int (Int32.ofNat i))] [] h2 (y :: W) 1 B := by
    intro r
    induction r with
    | zero =>
      intro i h2 hi K V
      obtain rfl : i = xs.length := by omega
      refine Ow.iload C dTB_8 (pc' := 10) rfl rfl ?_
      refine Ow.iloadN C dTB_10 (pc' := 11) rfl rfl ?_
      refine Ow.icmpY C 32 dTB_11 (XT.ii_ge_t (by rw [Ow.lt32]; omega)) (by decide) (by decide) ?_
      refine Ow.aloadN C dTB_32 (pc' := 33) rfl rfl rfl ?_
      refine Ow.retA C rfl rfl rfl dTB_33 (by first | decide | (dsimp only; omega) | (simp [Value.category]; done) | (simp [Value.category]; omega)) (by first | decide | (dsimp only; omega) | (simp [Value.category]; done) | (simp [Value.category]; omega)) [] (by first | (simp; done) | (intro x hx; simp [hx]; done)) ⟨y, rfl, by omega, (Ow.Keep.z E1).trans K (fun z hz => Or.inr (by rw [List.mem_singleton.mp hz]; omega)), by simpa using V⟩
    | succ r ih =>
      intro i h2 hi K V
      have hlt : i < xs.length := by omega
      have hN := X.2
      have X2 := (X.ext E1).keep K (Ow.nin1 (by omega))
      refine Ow.iload C dTB_8 (pc' := 10) rfl rfl ?_
      refine Ow.iloadN C dTB_10 (pc' := 11) rfl rfl ?_
      refine Ow.icmpN C dTB_11 (pc' := 14) rfl (XT.ii_ge_f (by rw [Ow.lt32, Ow.ofNat_toInt (by omega), Ow.ofNat_toInt hN]; omega)) ?_
      refine Ow.aloadN C dTB_14 (pc' := 15) rfl rfl rfl ?_
      refine Ow.iload C dTB_15 (pc' := 17) rfl rfl ?_
      refine Ow.aloadN C dTB_17 (pc' := 18) rfl rfl rfl ?_
      refine Ow.iloadN C dTB_18 (pc' := 19) rfl rfl ?_
      refine Ow.caload C X2 (i := i) (Ow.ofNat_toInt (by omega)) hlt dTB_19 (pc' := 20) rfl ?_
      refine Ow.callS C (tw271 G.1) (tw272 G.1) (tw225 G.1) (tw273 G.1) (by decide) (con_PC G y _ i (xs.getD i 0) h2 (y :: W) V (by rw [List.length_append, Ow.u16_len, List.length_take, List.length_replicate]; omega) (by simp)) (fun _ q => q) pd_7 rfl rfl rfl dTB_20 (pc' := 23) rfl (Wt := 0) (Nat.le_refl _) (by first | decide | (dsimp only; omega) | (simp [Value.category]; done) | (simp [Value.category]; omega)) (by first | decide | (dsimp only; omega) | (simp [Value.category]; done) | (simp [Value.category]; omega)) (by first | decide | (dsimp only; omega) | (simp [Value.category]; done) | (simp [Value.category]; omega)) (by first | decide | (dsimp only; omega) | (simp [Value.category]; done) | (simp [Value.category]; omega)) (fun v3 h3 W3 ⟨e3, K3, V3⟩ s3 => ?_)
      subst e3
      dsimp only [Option.toList, List.cons_append, List.nil_append]
      rw [Ow.u16_step hlt] at V3
      refine Ow.iinc C (1 : Int32) dTB_23 (pc' := 26) rfl rfl rfl ?_
      dsimp only [List.set]
      refine Ow.iinc C (1 : Int32) dTB_26 (pc' := 29) rfl rfl rfl ?_
      dsimp only [List.set]
      refine Ow.goto C 8 dTB_29 (by decide) (by decide) ?_
      rw [← inc_ofNat]
      exact ih (i + 1) h3 (by omega) (K.trans K3 (fun _ q => Or.inl q)) V3
  exact (loop xs.length 0 h1 (by omega) (Keep.refl _ _) (by simpa [Ow.u16] using Y1)).room (by simp) (by simp)
abbrev rmCMu (B : Nat) : Room := { frames := 3, cells := 2, slots := 3 * B, locals := 40 }
set_option maxHeartbeats 4000000 in
theorem con_CMu (G : Glob Z a0) (B : Nat) (x : Nat) (xs : List Int32) (h : Heap) (W : List Nat) (X : ArI Z h x .char xs) (hL : ∀ z ∈ xs, 0 ≤ z.toInt ∧ z.toInt < 65536) (hu : ∃ z ∈ xs, 256 ≤ z.toInt) (hB : xs.length ≤ B) (hB2 : B ≤ 2000) :
    Ow.Con l Z EL1 bb (⟨"java/lang/StringUTF16", "compress", "([CII)[B"⟩ : MethodName) jdk_52_method_16_code 6 (Option.some (Jvm.ClassFile.FieldType.array Jvm.ClassFile.FieldType.byte)) [] (rmCMu B) #[.ref x, .int 0, .int (Int32.ofNat xs.length)] h W
      (fun v h' W' => ∃ y : Nat, v = some (.ref y) ∧ h.size ≤ y ∧ Keep h h' [] ∧ ArI Z h' y .byte (Ow.u16 xs)) := by
  refine Ow.Con.intro (a0 := a0) pn_1 (ewG G) (saG G) bbG [.val (.ref x), .val (.int 0), .val (.int (Int32.ofNat xs.length)), .unset, .unset, .unset] (by first | exact Ow.locals_all (by simp [Value.category]) rfl | rfl | (simp [argsToLocals, Value.category]; done)) ?_
  intro p e s m below meth c C hO
  have hx : x < h.size := X.lt
  have hN := X.2
  obtain ⟨ll, lc⟩ := Ow.lead_lt hu
  refine Ow.iloadN C dCM_0 (pc' := 1) rfl rfl ?_
  refine Ow.newarr C (ty := .byte) (cap := xs.length) rfl rfl (tw15 G.1) dCM_1 (pc' := 3) rfl rfl (by omega) (by dsimp only; omega) (by dsimp only; omega) (fun h1 a1 s1 z1 l1 E1 V1 => ?_)
  refine Ow.astoreN C dCM_3 (pc' := 4) rfl rfl rfl ?_
  dsimp only [List.set]
  refine Ow.aloadN C dCM_4 (pc' := 5) rfl rfl rfl ?_
  refine Ow.iloadN C dCM_5 (pc' := 6) rfl rfl ?_
  refine Ow.aloadN C dCM_6 (pc' := 7) rfl rfl rfl ?_
  refine Ow.iconst C (0 : Int32) dCM_7 (pc' := 8) rfl rfl ?_
  refine Ow.iloadN C dCM_8 (pc' := 9) rfl rfl ?_
  refine Ow.callS C (tw227 G.1) (tw228 G.1) (tw225 G.1) (tw229 G.1) (by decide) (con_CL G x a1 xs h1 (a1 :: W) (X.ext E1) V1 (by simp) (by omega)) (fun _ q => q) pd_0 rfl rfl rfl dCM_9 (pc' := 12) rfl (Wt := 0) (Nat.le_refl _) (by first | decide | (dsimp only; omega) | (simp [Value.category]; done) | (simp [Value.category]; omega)) (by first | decide | (dsimp only; omega) | (simp [Value.category]; done) | (simp [Value.category]; omega)) (by first | decide | (dsimp only; omega) | (simp [Value.category]; done) | (simp [Value.category]; omega)) (by first | decide | (dsimp only; omega) | (simp [Value.category]; done) | (simp [Value.category]; omega)) (fun v2 h2 W2 ⟨e2, K2, V2⟩ s2 => ?_)
  subst e2
  dsimp only [Option.toList, List.cons_append, List.nil_append]
  refine Ow.istore C dCM_12 (pc' := 14) rfl rfl ?_
  dsimp only [List.set]
  refine Ow.iload C dCM_14 (pc' := 16) rfl rfl ?_
  refine Ow.iloadN C dCM_16 (pc' := 17) rfl rfl ?_
  refine Ow.icmpN C dCM_17 (pc' := 20) rfl (XT.ii_eq_f (fun q => by have := Ow.ofNat_inj (by omega) hN q; omega)) ?_
  refine Ow.aloadN C dCM_20 (pc' := 21) rfl rfl rfl ?_
  refine Ow.iloadN C dCM_21 (pc' := 22) rfl rfl ?_
  refine Ow.iloadN C dCM_22 (pc' := 23) rfl rfl ?_
  have X2 := (X.ext E1).keep K2 (Ow.nin1 (by omega))
  refine Ow.callS C (tw261 G.1) (tw262 G.1) (tw225 G.1) (tw263 G.1) (by decide) (con_TB G (2 * B) x xs h2 _ X2 (by omega) (by omega)) (fun _ q => q) pd_1 rfl rfl rfl dCM_23 (pc' := 26) rfl (Wt := 0) (Nat.le_refl _) (by first | decide | (dsimp only; omega) | (simp [Value.category]; done) | (simp [Value.category]; omega)) (by first | decide | (dsimp only; omega) | (simp [Value.category]; done) | (simp [Value.category]; omega)) (by first | decide | (dsimp only; omega) | (simp [Value.category]; done) | (simp [Value.category]; omega)) (by first | decide | (dsimp only; omega) | (simp [Value.category]; done) | (simp [Value.category]; omega)) (fun v3 h3 W3 ⟨y, e3, g3, K3, Y3⟩ s3 => ?_)
  subst e3
  dsimp only [Option.toList, List.cons_append, List.nil_append]
  refine Ow.astore C dCM_26 (pc' := 28) rfl rfl rfl ?_
  dsimp only [List.set]
  refine Ow.aload C dCM_28 (pc' := 30) rfl rfl rfl ?_
  refine Ow.iload C dCM_30 (pc' := 32) rfl rfl ?_
  have hmem : xs.getD (Ow.lead xs) 0 ∈ xs := by rw [List.getD_eq_getElem?_getD, List.getElem?_eq_getElem ll]; exact List.getElem_mem ll
  refine Ow.callS C (tw277 G.1) (tw278 G.1) (tw225 G.1) (tw279 G.1) (by decide) (con_GC G y xs (Ow.lead xs) h3 _ Y3 ll (hL _ hmem)) (fun _ q => q) pd_8 rfl rfl rfl dCM_32 (pc' := 35) rfl (Wt := 0) (Nat.le_refl _) (by first | decide | (dsimp only; omega) | (simp [Value.category]; done) | (simp [Value.category]; omega)) (by first | decide | (dsimp only; omega) | (simp [Value.category]; done) | (simp [Value.category]; omega)) (by first | decide | (dsimp only; omega) | (simp [Value.category]; done) | (simp [Value.category]; omega)) (by first | decide | (dsimp only; omega) | (simp [Value.category]; done) | (simp [Value.category]; omega)) (fun v4 h4 W4 ⟨e4, e4'⟩ s4 => ?_)
  subst e4 e4'
  dsimp only [Option.toList, List.cons_append, List.nil_append]
  refine Ow.sipush C (255 : Int32) dCM_35 (pc' := 38) rfl rfl ?_
  refine Ow.icmpY C 54 dCM_38 (XT.ii_gt_t (by rw [Ow.lt32]; have e0 : ((255 : Int32)).toInt = 255 := rfl; omega)) (by decide) (by decide) ?_
  refine Ow.aload C dCM_54 (pc' := 56) rfl rfl rfl ?_
  refine Ow.retA C rfl rfl rfl dCM_56 (by first | decide | (dsimp only; omega) | (simp [Value.category]; done) | (simp [Value.category]; omega)) (by first | decide | (dsimp only; omega) | (simp [Value.category]; done) | (simp [Value.category]; omega)) [] (by first | (simp; done) | (intro x hx; simp [hx]; done)) ⟨y, rfl, by have := K2.1; omega, ((Ow.Keep.z E1).trans K2 (fun z hz => Or.inr (by rw [List.mem_singleton.mp hz]; omega))).trans K3 (fun z hz => by cases hz), Y3⟩
theorem cf_utf {N : Nat} (h0 : 0 < N) (hN : 2 * N < 2 ^ 31) : nar .byte (nar .byte (((Int32.ofNat N - Int32.ofNat (2 * N)).toUInt32 >>> ((31 : Int32) &&& 31).toUInt32).toInt32)) = 1 := by
  have e : (Int32.ofNat N - Int32.ofNat (2 * N)).toInt = -(N : Int) := by
    have h1 := c_isub (Int32.ofNat N) (Int32.ofNat (2 * N))
    have h2 := rng32 (Int32.ofNat N - Int32.ofNat (2 * N))
    rw [Ow.ofNat_toInt (by omega), Ow.ofNat_toInt hN] at h1
    omega
  have h3 := c_iushr (Int32.ofNat N - Int32.ofNat (2 * N)) 31 31 (by decide) (by decide)
  rw [e] at h3
  have h4 : (((Int32.ofNat N - Int32.ofNat (2 * N)).toUInt32 >>> ((31 : Int32) &&& 31).toUInt32).toInt32) = 1 := by
    apply Ow.i32_ext
    rw [h3]
    have e1 : ((1 : Int32)).toInt = 1 := rfl
    have e2 : ((2 ^ 31 : Nat) : Int) = 2147483648 := rfl
    rw [e1, e2]; omega
  rw [h4]; rfl
abbrev rmI1u (B : Nat) : Room := { frames := 4, cells := 2, slots := 3 * B, locals := 57 }
set_option maxHeartbeats 4000000 in
theorem con_I1u (G : Glob Z a0) (B : Nat) (a x : Nat) (xs : List Int32) (h : Heap) (W : List Nat) (ov oc : Value) (A : Exa Z h a "java/lang/String") (Fv : Fld Z h a "java/lang/String" "value" "[B" ov) (Fc : Fld Z h a "java/lang/String" "coder" "B" oc) (ha : a ∈ W) (X : ArI Z h x .char xs) (hL : ∀ z ∈ xs, 0 ≤ z.toInt ∧ z.toInt < 65536) (hu : ∃ z ∈ xs, 256 ≤ z.toInt) (hB : xs.length ≤ B) (hB2 : B ≤ 2000) :
    Ow.Con l Z EL1 bb (⟨"java/lang/String", "<init>", "([CIILjava/lang/Void;)V"⟩ : MethodName) jdk_42_method_149_code 6 (Option.none : Option Jvm.ClassFile.FieldType) [] (rmI1u B) #[.ref a, .ref x, .int 0, .int (Int32.ofNat xs.length), .null] h W
      (fun v h' W' => v = none ∧ ∃ d : Nat, Ow.StrU Z h' a d xs ∧ Keep h h' [a] ∧ h.size ≤ d) := by
  obtain ⟨cv, hcv, hst⟩ := G.2.1
  refine Ow.Con.intro (a0 := a0) pn_3 (ewG G) (saG G) bbG [.val (.ref a), .val (.ref x), .val (.int 0), .val (.int (Int32.ofNat xs.length)), .val .null, .unset] (by first | exact Ow.locals_all (by simp [Value.category]) rfl | rfl | (simp [argsToLocals, Value.category]; done)) ?_
  intro p e s m below meth c C hO
  have hN : xs.length < 2 ^ 31 := X.2
  have h0 : 0 < xs.length := by have := (Ow.lead_lt hu).1; omega
  have haL : a < h.size := A.lt
  refine Ow.aloadN C dI1_0 (pc' := 1) rfl rfl rfl ?_
  refine Ow.initO C (tw11 G.1) (tw12 G.1) (tw13 G.1) dI1_1 (pc' := 4) rfl rfl (by first | decide | (dsimp only; omega) | (simp [Value.category]; done) | (simp [Value.category]; omega)) (by first | decide | (dsimp only; omega) | (simp [Value.category]; done) | (simp [Value.category]; omega)) ?_
  refine Ow.iloadN C dI1_4 (pc' := 5) rfl rfl ?_
  refine Ow.ifCY C 27 dI1_5 (XT.i0_ne_t (fun q => by have := Ow.ofNat_toInt hN; rw [q] at this; have e0 : ((0 : Int32)).toInt = 0 := rfl; omega)) (by decide) (by decide) ?_
  refine Ow.getS C (tw66 G.1) hst dI1_27 (pc' := 30) rfl ?_
  refine Ow.ifCN C dI1_30 (pc' := 33) rfl (XT.i0_eq_f hcv) ?_
  refine Ow.aloadN C dI1_33 (pc' := 34) rfl rfl rfl ?_
  refine Ow.iloadN C dI1_34 (pc' := 35) rfl rfl ?_
  refine Ow.iloadN C dI1_35 (pc' := 36) rfl rfl ?_
  refine Ow.callS C (tw223 G.1) (tw224 G.1) (tw225 G.1) (tw226 G.1) (by decide) (con_CMu G B x xs h W X hL hu hB hB2) (fun _ q => q) pd_1 rfl rfl rfl dI1_36 (pc' := 39) rfl (Wt := 0) (Nat.le_refl _) (by first | decide | (dsimp only; omega) | (simp [Value.category]; done) | (simp [Value.category]; omega)) (by first | decide | (dsimp only; omega) | (simp [Value.category]; done) | (simp [Value.category]; omega)) (by first | decide | (dsimp only; omega) | (simp [Value.category]; done) | (simp [Value.category]; omega)) (by first | decide | (dsimp only; omega) | (simp [Value.category]; done) | (simp [Value.category]; omega)) (fun v2 h2 W2 ⟨d, e2, hd, K2, V2⟩ s2 => ?_)
  subst e2
  dsimp only [Option.toList, List.cons_append, List.nil_append]
  refine Ow.astore C dI1_39 (pc' := 41) rfl rfl rfl ?_
  dsimp only [List.set]
  refine Ow.aloadN C dI1_41 (pc' := 42) rfl rfl rfl ?_
  refine Ow.aload C dI1_42 (pc' := 44) rfl rfl rfl ?_
  refine Ow.iloadN C dI1_44 (pc' := 45) rfl rfl ?_
  refine Ow.callS C (tw230 G.1) (tw231 G.1) (tw225 G.1) (tw232 G.1) (by decide) (con_CF G d .byte (Ow.u16 xs) xs.length h2 W V2) (fun _ q => q) pd_2 rfl rfl rfl dI1_45 (pc' := 48) rfl (Wt := 1) (Nat.le_refl _) (by first | decide | (dsimp only; omega) | (simp [Value.category]; done) | (simp [Value.category]; omega)) (by first | decide | (dsimp only; omega) | (simp [Value.category]; done) | (simp [Value.category]; omega)) (by first | decide | (dsimp only; omega) | (simp [Value.category]; done) | (simp [Value.category]; omega)) (by first | decide | (dsimp only; omega) | (simp [Value.category]; done) | (simp [Value.category]; omega)) (fun v3 h3 W3 ⟨e3, e3'⟩ s3 => ?_)
  subst e3 e3'
  rw [Ow.u16_len, cf_utf h0 (by omega)]
  dsimp only [Option.toList, List.cons_append, List.nil_append]
  have A2 := A.keep K2
  have Fc2 := Fc.keep K2 nin0
  have Fv2 := Fv.keep K2 nin0
  refine Ow.putF C (tw21 G.1) Fc2 A2 (Or.inr ⟨(tw17 G.1), rfl, rfl⟩) (tw1 G.1) (ty := .byte) (by decide) rfl rfl (by first | assumption | (simp; done) | (simp [*]; done)) dI1_48 (pc' := 51) rfl (fun h4 w4 K4 Fc4 => ?_)
  have Fv4 := Fv2.other w4 (Or.inr (slot_ne (Or.inr (tw16 G.1)) (Or.inr (tw17 G.1)) (by decide) (t := .array .byte) (t' := .byte) (by decide) (by decide)))
  have A4 := A2.keep K4
  have V4 := V2.keep K4 (Ow.nin1 (by omega))
  refine Ow.aloadN C dI1_51 (pc' := 52) rfl rfl rfl ?_
  refine Ow.aload C dI1_52 (pc' := 54) rfl rfl rfl ?_
  refine Ow.putF C (tw20 G.1) Fv4 A4 (Or.inr ⟨(tw16 G.1), rfl, rfl⟩) (tw1 G.1) (ty := (.array .byte)) (by decide) rfl rfl (by first | assumption | (simp; done) | (simp [*]; done)) dI1_54 (pc' := 57) rfl (fun h5 w5 K5 Fv5 => ?_)
  have Fc5 := Fc4.other w5 (Or.inr (slot_ne (Or.inr (tw17 G.1)) (Or.inr (tw16 G.1)) (by decide) (t := .byte) (t' := .array .byte) (by decide) (by decide)))
  have V5 := V4.keep K5 (Ow.nin1 (by omega))
  refine Ow.retV C rfl dI1_57 (by first | decide | (dsimp only; omega) | (simp [Value.category]; done) | (simp [Value.category]; omega)) (by first | decide | (dsimp only; omega) | (simp [Value.category]; done) | (simp [Value.category]; omega)) [] (by first | (simp; done) | (intro x hx; simp [hx]; done)) ⟨rfl, d, ⟨A4.keep K5, Fv5, Fc5, V5, hL, hu⟩, (((Keep.refl h [a]).trans K2 (fun z hz => by cases hz)).trans K4 (fun z hz => Or.inl hz)).trans K5 (fun z hz => Or.inl hz), hd⟩
abbrev rmI0u (B : Nat) : Room := { frames := 5, cells := 2, slots := 3 * B, locals := 74 }
set_option maxHeartbeats 4000000 in
theorem con_I0u (G : Glob Z a0) (B : Nat) (a x : Nat) (xs : List Int32) (h : Heap) (W : List Nat) (ov oc : Value) (A : Exa Z h a "java/lang/String") (Fv : Fld Z h a "java/lang/String" "value" "[B" ov) (Fc : Fld Z h a "java/lang/String" "coder" "B" oc) (ha : a ∈ W) (X : ArI Z h x .char xs) (hu : ∃ z ∈ xs, 256 ≤ z.toInt) (hL : ∀ z ∈ xs, 0 ≤ z.toInt ∧ z.toInt < 65536) (hB : xs.length ≤ B) (hB2 : B ≤ 2000) :
    Ow.Con l Z EL1 bb (⟨"java/lang/String", "<init>", "([C)V"⟩ : MethodName) jdk_42_method_3_code 2 (Option.none : Option Jvm.ClassFile.FieldType) [] (rmI0u B) #[.ref a, .ref x] h W
      (fun v h' W' => v = none ∧ ∃ d : Nat, Ow.StrU Z h' a d xs ∧ Keep h h' [a] ∧ h.size ≤ d) := by
  refine Ow.Con.intro (a0 := a0) pn_4 (ewG G) (saG G) bbG [.val (.ref a), .val (.ref x)] (by first | exact Ow.locals_all (by simp [Value.category]) rfl | rfl | (simp [argsToLocals, Value.category]; done)) ?_
  intro p e s m below meth c C hO
  refine Ow.aloadN C dI0_0 (pc' := 1) rfl rfl rfl ?_
  refine Ow.aloadN C dI0_1 (pc' := 2) rfl rfl rfl ?_
  refine Ow.iconst C (0 : Int32) dI0_2 (pc' := 3) rfl rfl ?_
  refine Ow.aloadN C dI0_3 (pc' := 4) rfl rfl rfl ?_
  refine Ow.arrlen C X dI0_4 (pc' := 5) rfl ?_
  refine Ow.aconstNull C dI0_5 (pc' := 6) rfl ?_
  refine Ow.callI C rfl (tw7 G.1) (tw8 G.1) (tw2 G.1) (tw10 G.1) (by decide) (con_I1u G B a x xs h W ov oc A Fv Fc ha X hL hu hB hB2) (fun _ q => q) pd_3 rfl rfl rfl dI0_6 (pc' := 9) rfl (Wt := 0) (Nat.le_refl _) (by first | decide | (dsimp only; omega) | (simp [Value.category]; done) | (simp [Value.category]; omega)) (by first | decide | (dsimp only; omega) | (simp [Value.category]; done) | (simp [Value.category]; omega)) (by first | decide | (dsimp only; omega) | (simp [Value.category]; done) | (simp [Value.category]; omega)) (by first | decide | (dsimp only; omega) | (simp [Value.category]; done) | (simp [Value.category]; omega)) (fun v2 h2 W2 ⟨e2, d, S2, K2, hd⟩ s2 => ?_)
  subst e2
  dsimp only [Option.toList, List.cons_append, List.nil_append]
  refine Ow.retV C rfl dI0_9 (by first | decide | (dsimp only; omega) | (simp [Value.category]; done) | (simp [Value.category]; omega)) (by first | decide | (dsimp only; omega) | (simp [Value.category]; done) | (simp [Value.category]; omega)) [] (by first | (simp; done) | (intro x hx; simp [hx]; done)) ⟨rfl, d, S2, K2, hd⟩
theorem con_I0g (G : Glob Z a0) (B : Nat) (a x : Nat) (xs : List Int32) (h : Heap) (W : List Nat) (ov oc : Value) (A : Exa Z h a "java/lang/String") (Fv : Fld Z h a "java/lang/String" "value" "[B" ov) (Fc : Fld Z h a "java/lang/String" "coder" "B" oc) (ha : a ∈ W) (X : ArI Z h x .char xs) (h0 : 0 < xs.length) (hL : ∀ z ∈ xs, 0 ≤ z.toInt ∧ z.toInt < 65536) (hB : xs.length ≤ B) (hB2 : B ≤ 2000) :
    Ow.Con l Z EL1 bb (⟨"java/lang/String", "<init>", "([C)V"⟩ : MethodName) jdk_42_method_3_code 2 (Option.none : Option Jvm.ClassFile.FieldType) [] (rmI0u B) #[.ref a, .ref x] h W
      (fun v h' W' => v = none ∧ ∃ d : Nat, Ow.Str Z h' a d xs ∧ Keep h h' [a] ∧ h.size ≤ d) := by
  rcases Ow.lat_dec xs with hl | hu
  · exact ((con_I0 G B a x xs h W ov oc A Fv Fc ha X h0 (fun z hz => ⟨(hL z hz).1, hl z hz⟩) hB (by omega)).mono (fun v h' W' ⟨e, d, S, K, hd⟩ => ⟨e, d, Or.inl S, K, hd⟩)).rm (by dsimp only; omega) (by dsimp only; omega) (by dsimp only; omega) (by dsimp only; omega)
  · exact (con_I0u G B a x xs h W ov oc A Fv Fc ha X hu hL hB hB2).mono (fun v h' W' ⟨e, d, S, K, hd⟩ => ⟨e, d, Or.inr S, K, hd⟩)
end StrU

section StrCR
variable {l : Launch} {Z : State} {a0 : Array Value}
theorem con_CK (G : Glob Z a0) (i j : Nat) (hij : i ≤ j) (hn : j < 2 ^ 31) (h : Heap) (W : List Nat) :
    Ow.Con l Z EL1 bb (⟨"java/util/Arrays", "checkLength", "(II)V"⟩ : MethodName) jdk_65_method_131_code 2 (Option.none : Option Jvm.ClassFile.FieldType) [] rm0 #[.int (Int32.ofNat i), .int (Int32.ofNat j)] h W (fun v h' W' => v = none ∧ h' = h) := by
  refine Ow.Con.intro (a0 := a0) pn_15 (ewG G) (saG G) bbG [.val (.int (Int32.ofNat i)), .val (.int (Int32.ofNat j))] (by first | exact Ow.locals_all (by simp [Value.category]) rfl | rfl | (simp [argsToLocals, Value.category]; done)) ?_
  intro p e s m below meth c C hO
  refine Ow.iloadN C dCK_0 (pc' := 1) rfl rfl ?_
  refine Ow.iloadN C dCK_1 (pc' := 2) rfl rfl ?_
  refine Ow.icmpY C 37 dCK_2 (XT.ii_ge_t (by rw [Ow.lt32, Ow.ofNat_toInt (by omega), Ow.ofNat_toInt (by omega)]; omega)) (by decide) (by decide) ?_
  refine Ow.retV C rfl dCK_37 (by first | decide | (dsimp only; omega) | (simp [Value.category]; done) | (simp [Value.category]; omega)) (by first | decide | (dsimp only; omega) | (simp [Value.category]; done) | (simp [Value.category]; omega)) [] (by first | (simp; done) | (intro x hx; simp [hx]; done)) ⟨rfl, rfl⟩
abbrev rmCX (B : Nat) : Room := { frames := 1, cells := 1, slots := B, locals := 18 }
set_option maxHeartbeats 4000000 in
theorem con_CX (G : Glob Z a0) (B d i j : Nat) (xs : List Int32) (hij : i ≤ j) (hjn : j ≤ xs.length) (hB : xs.length ≤ B) (hB2 : B ≤ 4000) (h : Heap) (W : List Nat) (D : ArI Z h d .byte xs) :
    Ow.Con l Z EL1 bb (⟨"java/util/Arrays", "copyOfRangeByte", "([BII)[B"⟩ : MethodName) jdk_65_method_133_code 5 (Option.some (Jvm.ClassFile.FieldType.array Jvm.ClassFile.FieldType.byte)) [] (rmCX B) #[.ref d, .int (Int32.ofNat i), .int (Int32.ofNat j)] h W (fun v h' W' => ∃ y : Nat, v = some (.ref y) ∧ ArI Z h' y .byte ((xs.drop i).take (j - i)) ∧ Keep h h' [] ∧ h.size ≤ y) := by
  refine Ow.Con.intro (a0 := a0) pn_16 (ewG G) (saG G) bbG [.val (.ref d), .val (.int (Int32.ofNat i)), .val (.int (Int32.ofNat j)), .unset, .unset] (by first | exact Ow.locals_all (by simp [Value.category]) rfl | rfl | (simp [argsToLocals, Value.category]; done)) ?_
  intro p e s m below meth c C hO
  have hN := D.2
  refine Ow.iloadN C dCX_0 (pc' := 1) rfl rfl ?_
  refine Ow.iloadN C dCX_1 (pc' := 2) rfl rfl ?_
  refine Ow.callS C (tw258 G.1) (tw259 G.1) (tw128 G.1) (tw260 G.1) (by decide) (con_CK G i j hij (by omega) h W) (fun _ q => q) pd_9 rfl rfl rfl dCX_2 (pc' := 5) rfl (Wt := 0) (Nat.le_refl _) (by first | decide | (dsimp only; omega) | (simp [Value.category]; done) | (simp [Value.category]; omega)) (by first | decide | (dsimp only; omega) | (simp [Value.category]; done) | (simp [Value.category]; omega)) (by first | decide | (dsimp only; omega) | (simp [Value.category]; done) | (simp [Value.category]; omega)) (by first | decide | (dsimp only; omega) | (simp [Value.category]; done) | (simp [Value.category]; omega)) (fun v1 h1 W1 ⟨e1, e1'⟩ s1 => ?_)
  subst e1 e1'
  dsimp only [Option.toList, List.cons_append, List.nil_append]
  refine Ow.iloadN C dCX_5 (pc' := 6) rfl rfl ?_
  refine Ow.iloadN C dCX_6 (pc' := 7) rfl rfl ?_
  refine Ow.isub C dCX_7 (pc' := 8) rfl ?_
  rw [Ow.sub_ofNat hij (by omega)]
  refine Ow.istoreN C dCX_8 (pc' := 9) rfl rfl ?_
  dsimp only [List.set]
  refine Ow.iloadN C dCX_9 (pc' := 10) rfl rfl ?_
  refine Ow.newarr C (ty := .byte) (cap := (j-i)) rfl rfl (tw15 G.1) dCX_10 (pc' := 12) rfl rfl (by omega) (by dsimp only; omega) (by dsimp only; omega) (fun h2 a2 s2 z2 l2 E2 V2 => ?_)
  have D2 := D.ext E2
  have nd : d ≠ a2 := by have := D.lt; omega
  refine Ow.astore C dCX_12 (pc' := 14) rfl rfl rfl ?_
  dsimp only [List.set]
  refine Ow.aloadN C dCX_14 (pc' := 15) rfl rfl rfl ?_
  refine Ow.iloadN C dCX_15 (pc' := 16) rfl rfl ?_
  refine Ow.aload C dCX_16 (pc' := 18) rfl rfl rfl ?_
  refine Ow.iconst C (0 : Int32) dCX_18 (pc' := 19) rfl rfl ?_
  refine Ow.aloadN C dCX_19 (pc' := 20) rfl rfl rfl ?_
  refine Ow.arrlen C D2 dCX_20 (pc' := 21) rfl ?_
  refine Ow.iloadN C dCX_21 (pc' := 22) rfl rfl ?_
  refine Ow.isub C dCX_22 (pc' := 23) rfl ?_
  rw [Ow.sub_ofNat (by omega) hN]
  refine Ow.iloadN C dCX_23 (pc' := 24) rfl rfl ?_
  refine Ow.callS C (tw251 G.1) (tw252 G.1) (tw244 G.1) (tw253 G.1) (by decide) (con_MN G (Int32.ofNat (xs.length - i)) (Int32.ofNat (j - i)) h2 _) (fun _ q => q) pd_10 rfl rfl rfl dCX_24 (pc' := 27) rfl (Wt := 4) (Nat.le_refl _) (by first | decide | (dsimp only; omega) | (simp [Value.category]; done) | (simp [Value.category]; omega)) (by first | decide | (dsimp only; omega) | (simp [Value.category]; done) | (simp [Value.category]; omega)) (by first | decide | (dsimp only; omega) | (simp [Value.category]; done) | (simp [Value.category]; omega)) (by first | decide | (dsimp only; omega) | (simp [Value.category]; done) | (simp [Value.category]; omega)) (fun v3 h3 W3 ⟨e3, e3'⟩ s3 => ?_)
  have e4 : (if Int32.ofNat (j - i) < Int32.ofNat (xs.length - i) then Int32.ofNat (j - i) else Int32.ofNat (xs.length - i)) = Int32.ofNat (j - i) := by
    by_cases q : j = xs.length
    · rw [q, ite_self]
    · rw [if_pos (by rw [Ow.lt32, Ow.ofNat_toInt (by omega), Ow.ofNat_toInt (by omega)]; omega)]
  rw [e4] at e3
  subst e3 e3'
  dsimp only [Option.toList, List.cons_append, List.nil_append]
  refine Ow.acopy C (tw254 G.1) (tw93 G.1) (tw91 G.1) (tw92 G.1) D2 V2 rfl (i := i) (j := 0) (q := j - i) (Ow.ofNat_toInt (by omega)) rfl (Ow.ofNat_toInt (by omega)) (by omega) (by simp) (by simp) dCX_27 (pc' := 30) rfl rfl (by dsimp only; omega) (Wt := 0) (Nat.le_refl _) (by dsimp only; decide) (fun h6 K6 V6 => ?_)
  refine Ow.aload C dCX_30 (pc' := 32) rfl rfl rfl ?_
  refine Ow.retA C rfl rfl rfl dCX_32 (by first | decide | (dsimp only; omega) | (simp [Value.category]; done) | (simp [Value.category]; omega)) (by first | decide | (dsimp only; omega) | (simp [Value.category]; done) | (simp [Value.category]; omega)) [] (by first | (simp; done) | (intro x hx; simp [hx]; done)) ⟨a2, rfl, by simpa using V6, (Ow.Keep.z E2).trans K6 (fun z hz => Or.inr (by rw [List.mem_singleton.mp hz]; omega)), by omega⟩
abbrev rmCR (B : Nat) : Room := { frames := 2, cells := 1, slots := B, locals := 34 }
set_option maxHeartbeats 4000000 in
theorem con_CR (G : Glob Z a0) (B d i j : Nat) (xs : List Int32) (hij : i ≤ j) (hjn : j ≤ xs.length) (hne : ¬ (i = 0 ∧ j = xs.length)) (hB : xs.length ≤ B) (hB2 : B ≤ 4000) (h : Heap) (W : List Nat) (D : ArI Z h d .byte xs) :
    Ow.Con l Z EL1 bb (⟨"java/util/Arrays", "copyOfRange", "([BII)[B"⟩ : MethodName) jdk_65_method_132_code 3 (Option.some (Jvm.ClassFile.FieldType.array Jvm.ClassFile.FieldType.byte)) [] (rmCR B) #[.ref d, .int (Int32.ofNat i), .int (Int32.ofNat j)] h W (fun v h' W' => ∃ y : Nat, v = some (.ref y) ∧ ArI Z h' y .byte ((xs.drop i).take (j - i)) ∧ Keep h h' [] ∧ h.size ≤ y) := by
  refine Ow.Con.intro (a0 := a0) pn_17 (ewG G) (saG G) bbG [.val (.ref d), .val (.int (Int32.ofNat i)), .val (.int (Int32.ofNat j))] (by first | exact Ow.locals_all (by simp [Value.category]) rfl | rfl | (simp [argsToLocals, Value.category]; done)) ?_
  intro p e s m below meth c C hO
  have hN := D.2
  have J10 : Ow.WP p l e (rmCR B) s m #[.ref d, .int (Int32.ofNat i), .int (Int32.ofNat j)] below meth c Z EL1 bb (fun v h' W' => ∃ y : Nat, v = some (.ref y) ∧ ArI Z h' y .byte ((xs.drop i).take (j - i)) ∧ Keep h h' [] ∧ h.size ≤ y) 10 [.val (.ref d), .val (.int (Int32.ofNat i)), .val (.int (Int32.ofNat j))] [] h W 0 0 := by
    refine Ow.aloadN C dCR_10 (pc' := 11) rfl rfl rfl ?_
    refine Ow.iloadN C dCR_11 (pc' := 12) rfl rfl ?_
    refine Ow.iloadN C dCR_12 (pc' := 13) rfl rfl ?_
    refine Ow.callS C (tw255 G.1) (tw256 G.1) (tw128 G.1) (tw257 G.1) (by decide) (con_CX G B d i j xs hij hjn hB hB2 h W D) (fun _ q => q) pd_11 rfl rfl rfl dCR_13 (pc' := 16) rfl (Wt := 0) (Nat.le_refl _) (by first | decide | (dsimp only; omega) | (simp [Value.category]; done) | (simp [Value.category]; omega)) (by first | decide | (dsimp only; omega) | (simp [Value.category]; done) | (simp [Value.category]; omega)) (by first | decide | (dsimp only; omega) | (simp [Value.category]; done) | (simp [Value.category]; omega)) (by first | decide | (dsimp only; omega) | (simp [Value.category]; done) | (simp [Value.category]; omega)) (fun v1 h1 W1 ⟨y, e1, Y, K1, g1⟩ s1 => ?_)
    subst e1
    dsimp only [Option.toList, List.cons_append, List.nil_append]
    refine Ow.retA C rfl rfl rfl dCR_16 (by first | decide | (dsimp only; omega) | (simp [Value.category]; done) | (simp [Value.category]; omega)) (by first | decide | (dsimp only; omega) | (simp [Value.category]; done) | (simp [Value.category]; omega)) [] (by first | (simp; done) | (intro x hx; simp [hx]; done)) ⟨y, rfl, Y, K1, g1⟩
  refine Ow.iloadN C dCR_0 (pc' := 1) rfl rfl ?_
  by_cases hi : i = 0
  · refine Ow.ifCN C dCR_1 (pc' := 4) rfl (XT.i0_ne_f (by rw [hi]; rfl)) ?_
    refine Ow.iloadN C dCR_4 (pc' := 5) rfl rfl ?_
    refine Ow.aloadN C dCR_5 (pc' := 6) rfl rfl rfl ?_
    refine Ow.arrlen C D dCR_6 (pc' := 7) rfl ?_
    refine Ow.icmpN C dCR_7 (pc' := 10) rfl (XT.ii_eq_f (fun q => hne ⟨hi, Ow.ofNat_inj (by omega) hN q⟩)) ?_
    exact J10
  · refine Ow.ifCY C 10 dCR_1 (XT.i0_ne_t (fun q => hi (Ow.ofNat_inj (j := 0) (by omega) (by omega) q))) (by decide) (by decide) ?_
    exact J10
end StrCR

section StrSB
variable {l : Launch} {Z : State} {a0 : Array Value}
theorem sbV (G : Glob Z a0) {h h' : Heap} {a n : Nat} {vv v2 : Value} {u : Int32} (S : Ow.SBo Z h a vv u n) (K : Keep h h' [a]) (w : Wr h h' a (Jvm.RoadKit.slotOf Z Ow.ASB "value" "[B") v2) (F : Fld Z h' a Ow.ASB "value" "[B" v2) : Ow.SBo Z h' a v2 u n :=
  ⟨S.1.keep K, F, S.cod.other w (Or.inr (slot_ne (Or.inl (tw45 G.1)) (Or.inl (tw43 G.1)) (by decide) (t := .byte) (t' := .array .byte) (by decide) (by decide))),
   S.cnt.other w (Or.inr (slot_ne (Or.inl (tw68 G.1)) (Or.inl (tw43 G.1)) (by decide) (t := .int) (t' := .array .byte) (by decide) (by decide))),
   S.may.other w (Or.inr (slot_ne (Or.inl (tw307 G.1)) (Or.inl (tw43 G.1)) (by decide) (t := .boolean) (t' := .array .byte) (by decide) (by decide)))⟩
theorem sbC (G : Glob Z a0) {h h' : Heap} {a n : Nat} {vv : Value} {u u2 : Int32} (S : Ow.SBo Z h a vv u n) (K : Keep h h' [a]) (w : Wr h h' a (Jvm.RoadKit.slotOf Z Ow.ASB "coder" "B") (.int u2)) (F : Fld Z h' a Ow.ASB "coder" "B" (.int u2)) : Ow.SBo Z h' a vv u2 n :=
  ⟨S.1.keep K, S.val.other w (Or.inr (slot_ne (Or.inl (tw43 G.1)) (Or.inl (tw45 G.1)) (by decide) (t := .array .byte) (t' := .byte) (by decide) (by decide))), F,
   S.cnt.other w (Or.inr (slot_ne (Or.inl (tw68 G.1)) (Or.inl (tw45 G.1)) (by decide) (t := .int) (t' := .byte) (by decide) (by decide))),
   S.may.other w (Or.inr (slot_ne (Or.inl (tw307 G.1)) (Or.inl (tw45 G.1)) (by decide) (t := .boolean) (t' := .byte) (by decide) (by decide)))⟩
theorem sbN (G : Glob Z a0) {h h' : Heap} {a n n2 : Nat} {vv : Value} {u : Int32} (S : Ow.SBo Z h a vv u n) (K : Keep h h' [a]) (w : Wr h h' a (Jvm.RoadKit.slotOf Z Ow.ASB "count" "I") (.int (Int32.ofNat n2))) (F : Fld Z h' a Ow.ASB "count" "I" (.int (Int32.ofNat n2))) : Ow.SBo Z h' a vv u n2 :=
  ⟨S.1.keep K, S.val.other w (Or.inr (slot_ne (Or.inl (tw43 G.1)) (Or.inl (tw68 G.1)) (by decide) (t := .array .byte) (t' := .int) (by decide) (by decide))),
   S.cod.other w (Or.inr (slot_ne (Or.inl (tw45 G.1)) (Or.inl (tw68 G.1)) (by decide) (t := .byte) (t' := .int) (by decide) (by decide))), F,
   S.may.other w (Or.inr (slot_ne (Or.inl (tw307 G.1)) (Or.inl (tw68 G.1)) (by decide) (t := .boolean) (t' := .int) (by decide) (by decide)))⟩
abbrev rmAI (B : Nat) : Room := { frames := 1, cells := 1, slots := B, locals := 13 }
set_option maxHeartbeats 4000000 in
theorem con_AI (G : Glob Z a0) (B cp : Nat) (a : Nat) (h : Heap) (W : List Nat) (S : Ow.SBo Z h a .null 0 0) (ha : a ∈ W) (hB : cp ≤ B) (hB2 : B ≤ 4000) :
    Ow.Con l Z EL1 bb (⟨"java/lang/AbstractStringBuilder", "<init>", "(I)V"⟩ : MethodName) jdk_68_method_2_code 2 (Option.none : Option Jvm.ClassFile.FieldType) [] (rmAI B) #[.ref a, .int (Int32.ofNat cp)] h W (fun v h' W' => v = none ∧ ∃ y : Nat, Ow.SB Z h' a y 0 [] cp ∧ Keep h h' [a] ∧ h.size ≤ y ∧ y ∈ W') := by
  obtain ⟨cv, hcv, hst⟩ := G.2.1
  refine Ow.Con.intro (a0 := a0) pn_18 (ewG G) (saG G) bbG [.val (.ref a), .val (.int (Int32.ofNat cp))] (by first | exact Ow.locals_all (by simp [Value.category]) rfl | rfl | (simp [argsToLocals, Value.category]; done)) ?_
  intro p e s m below meth c C hO
  have haL : a < h.size := S.lt
  refine Ow.aloadN C dAI_0 (pc' := 1) rfl rfl rfl ?_
  refine Ow.initO C (tw40 G.1) (tw12 G.1) (tw13 G.1) dAI_1 (pc' := 4) rfl rfl (by first | decide | (dsimp only; omega) | (simp [Value.category]; done) | (simp [Value.category]; omega)) (by first | decide | (dsimp only; omega) | (simp [Value.category]; done) | (simp [Value.category]; omega)) ?_
  refine Ow.getS C (tw41 G.1) hst dAI_4 (pc' := 7) rfl ?_
  refine Ow.ifCN C dAI_7 (pc' := 10) rfl (XT.i0_eq_f hcv) ?_
  refine Ow.aloadN C dAI_10 (pc' := 11) rfl rfl rfl ?_
  refine Ow.iloadN C dAI_11 (pc' := 12) rfl rfl ?_
  refine Ow.newarrE C (ty := .byte) (cap := cp) (ad := "[B") (by decide) rfl rfl (tw15 G.1) dAI_12 (pc' := 14) rfl rfl (by omega) (by dsimp only; omega) (by dsimp only; omega) (fun h1 a1 s1 z1 l1 E1 ⟨V1, X1⟩ => ?_)
  have O1 := S.ext E1
  have n1 : a ≠ a1 := by omega
  refine Ow.putF C (tw42 G.1) O1.val O1.exa (Or.inl (tw43 G.1)) (tw29 G.1) (ty := (.array .byte)) (by decide) rfl rfl (by first | assumption | (simp; done) | (simp [*]; done)) dAI_14 (pc' := 17) rfl (fun h2 w2 K2 F2 => ?_)
  have O2 := sbV G O1 K2 w2 F2
  refine Ow.aloadN C dAI_17 (pc' := 18) rfl rfl rfl ?_
  refine Ow.iconst C (0 : Int32) dAI_18 (pc' := 19) rfl rfl ?_
  refine Ow.putF C (tw44 G.1) O2.cod O2.exa (Or.inl (tw45 G.1)) (tw29 G.1) (ty := .byte) (by decide) rfl rfl (by first | assumption | (simp; done) | (simp [*]; done)) dAI_19 (pc' := 22) rfl (fun h3 w3 K3 F3 => ?_)
  have O3 := sbC G O2 K3 w3 F3
  refine Ow.goto C 38 dAI_22 (by decide) (by decide) ?_
  refine Ow.retV C rfl dAI_38 (by first | decide | (dsimp only; omega) | (simp [Value.category]; done) | (simp [Value.category]; omega)) (by first | decide | (dsimp only; omega) | (simp [Value.category]; done) | (simp [Value.category]; omega)) [a1] (by first | (simp; done) | (intro x hx; simp [hx]; done)) ⟨rfl, a1, ⟨O3, by simpa [Ow.enc] using (V1.keep K2 (Ow.nin1 (Ne.symm n1))).keep K3 (Ow.nin1 (Ne.symm n1)), (X1.keep K2).keep K3, n1, Ow.Sg.nil (Or.inl rfl)⟩, (((Keep.refl h [a]).ext E1).trans K2 (fun _ q => Or.inl q)).trans K3 (fun _ q => Or.inl q), by omega, by simp⟩
theorem con_BL (G : Glob Z a0) (a : Nat) (cd : Int32) (h : Heap) (W : List Nat) (F : Fld Z h a Ow.ASB "coder" "B" (.int cd)) :
    Ow.Con l Z EL1 bb (⟨"java/lang/AbstractStringBuilder", "isLatin1", "()Z"⟩ : MethodName) jdk_68_method_68_code 1 (Option.some Jvm.ClassFile.FieldType.boolean) [] rm0 #[.ref a] h W (fun v h' W' => v = some (.int (if cd = 0 then 1 else 0)) ∧ h' = h) := by
  obtain ⟨cv, hcv, hst⟩ := G.2.1
  refine Ow.Con.intro (a0 := a0) pn_19 (ewG G) (saG G) bbG [.val (.ref a)] (by first | exact Ow.locals_all (by simp [Value.category]) rfl | rfl | (simp [argsToLocals, Value.category]; done)) ?_
  intro p e s m below meth c C hO
  refine Ow.getS C (tw41 G.1) hst dBL_0 (pc' := 3) rfl ?_
  refine Ow.ifCN C dBL_3 (pc' := 6) rfl (XT.i0_eq_f hcv) ?_
  refine Ow.aloadN C dBL_6 (pc' := 7) rfl rfl rfl ?_
  refine Ow.getF C (tw44 G.1) F dBL_7 (pc' := 10) rfl ?_
  refine Ow.ifC C 17 13 dBL_10 (Ow.hNe _) (by decide) (by decide) rfl (fun hc => ?_) (fun hc => ?_)
  · refine Ow.iconst C (0 : Int32) dBL_17 (pc' := 18) rfl rfl ?_
    refine Ow.retN C (t := .boolean) rfl (by simp) dBL_18 (by first | decide | (dsimp only; omega) | (simp [Value.category]; done) | (simp [Value.category]; omega)) (by first | decide | (dsimp only; omega) | (simp [Value.category]; done) | (simp [Value.category]; omega)) [] (by first | (simp; done) | (intro x hx; simp [hx]; done)) ⟨by rw [if_neg hc]; rfl, rfl⟩
  · refine Ow.iconst C (1 : Int32) dBL_13 (pc' := 14) rfl rfl ?_
    refine Ow.goto C 18 dBL_14 (by decide) (by decide) ?_
    refine Ow.retN C (t := .boolean) rfl (by simp) dBL_18 (by first | decide | (dsimp only; omega) | (simp [Value.category]; done) | (simp [Value.category]; omega)) (by first | decide | (dsimp only; omega) | (simp [Value.category]; done) | (simp [Value.category]; omega)) [] (by first | (simp; done) | (intro x hx; simp [hx]; done)) ⟨by rw [if_pos (Decidable.not_not.mp hc)]; rfl, rfl⟩
/-- there is room enough -/
theorem con_EN0 (G : Glob Z a0) (a v u : Nat) (cs : List Int32) (r mn : Nat) (h : Heap) (W : List Nat) (S : Ow.SB Z h a v u cs r) (hm : mn ≤ cs.length + r) :
    Ow.Con l Z EL1 bb (⟨"java/lang/AbstractStringBuilder", "ensureCapacityInternal", "(I)V"⟩ : MethodName) jdk_68_method_9_code 3 (Option.none : Option Jvm.ClassFile.FieldType) [] rm0 #[.ref a, .int (Int32.ofNat mn)] h W (fun v h' W' => v = none ∧ h' = h ∧ W' = W) := by
  have hl := S.len
  have hc : cs.length + r < 2 ^ 31 := by rcases S.sg.u with e | e <;> subst e <;> omega
  refine Ow.Con.intro (a0 := a0) pn_20 (ewG G) (saG G) bbG [.val (.ref a), .val (.int (Int32.ofNat mn)), .unset] (by first | exact Ow.locals_all (by simp [Value.category]) rfl | rfl | (simp [argsToLocals, Value.category]; done)) ?_
  intro p e s m below meth c C hO
  refine Ow.aloadN C dEN_0 (pc' := 1) rfl rfl rfl ?_
  refine Ow.getF C (tw42 G.1) S.o.val dEN_1 (pc' := 4) rfl ?_
  refine Ow.arrlen C S.ar dEN_4 (pc' := 5) rfl ?_
  rw [S.alen]
  refine Ow.aloadN C dEN_5 (pc' := 6) rfl rfl rfl ?_
  refine Ow.getF C (tw44 G.1) S.o.cod dEN_6 (pc' := 9) rfl ?_
  refine Ow.ishr C dEN_9 (pc' := 10) rfl ?_
  rw [Ow.shrU S.sg.u hl]
  refine Ow.istoreN C dEN_10 (pc' := 11) rfl rfl ?_
  dsimp only [List.set]
  refine Ow.iloadN C dEN_11 (pc' := 12) rfl rfl ?_
  refine Ow.iloadN C dEN_12 (pc' := 13) rfl rfl ?_
  refine Ow.isub C dEN_13 (pc' := 14) rfl ?_
  refine Ow.ifCY C 38 dEN_14 (XT.i0_le_t (by rw [Ow.lt32, Ow.sub_toInt (by omega) hc, Ow.zero_toInt]; omega)) (by decide) (by decide) ?_
  refine Ow.retV C rfl dEN_38 (by first | decide | (dsimp only; omega) | (simp [Value.category]; done) | (simp [Value.category]; omega)) (by first | decide | (dsimp only; omega) | (simp [Value.category]; done) | (simp [Value.category]; omega)) W (by first | (simp; done) | (intro x hx; simp [hx]; done)) ⟨rfl, rfl, rfl⟩
theorem con_FS (G : Glob Z a0) (i q n : Nat) (hin : i + q ≤ n) (hn : n < 2 ^ 31) (w : Value) (hw : w.isRef = true) (h : Heap) (W : List Nat) :
    Ow.Con l Z EL1 bb (⟨"jdk/internal/util/Preconditions", "checkFromIndexSize", "(IIILjava/util/function/BiFunction;)I"⟩ : MethodName) jdk_41_method_13_code 4 (Option.some Jvm.ClassFile.FieldType.int) [] rm0 #[.int (Int32.ofNat i), .int (Int32.ofNat q), .int (Int32.ofNat n), w] h W (fun v h' W' => v = some (.int (Int32.ofNat i)) ∧ h' = h) := by
  refine Ow.Con.intro (a0 := a0) pn_21 (ewG G) (saG G) bbG [.val (.int (Int32.ofNat i)), .val (.int (Int32.ofNat q)), .val (.int (Int32.ofNat n)), .val w] (by first | exact Ow.locals_all (by simp [Ow.cat_ref, Ow.cat_int, Ow.cat_null, XT.cat1 hw]) rfl | rfl | (simp [argsToLocals, Value.category]; done) | simp [argsToLocals, Ow.cat_ref, Ow.cat_int, Ow.cat_null, XT.cat1 hw]) ?_
  intro p e s m below meth c C hO
  refine Ow.iloadN C dFS_0 (pc' := 1) rfl rfl ?_
  refine Ow.iloadN C dFS_1 (pc' := 2) rfl rfl ?_
  refine Ow.ior C dFS_2 (pc' := 3) rfl ?_
  refine Ow.iloadN C dFS_3 (pc' := 4) rfl rfl ?_
  refine Ow.ior C dFS_4 (pc' := 5) rfl ?_
  refine Ow.ifCN C dFS_5 (pc' := 8) rfl (XT.i0_lt_f (Ow.or_nn (Ow.or_nn (Ow.nn_ofNat hn) (Ow.nn_ofNat (by omega))) (Ow.nn_ofNat (by omega)))) ?_
  refine Ow.iloadN C dFS_8 (pc' := 9) rfl rfl ?_
  refine Ow.iloadN C dFS_9 (pc' := 10) rfl rfl ?_
  refine Ow.iloadN C dFS_10 (pc' := 11) rfl rfl ?_
  refine Ow.isub C dFS_11 (pc' := 12) rfl ?_
  rw [Ow.sub_ofNat (by omega) hn]
  refine Ow.icmpY C 23 dFS_12 (XT.ii_le_t (by rw [Ow.lt32, Ow.ofNat_toInt (by omega), Ow.ofNat_toInt (by omega)]; omega)) (by decide) (by decide) ?_
  refine Ow.iloadN C dFS_23 (pc' := 24) rfl rfl ?_
  refine Ow.retI C rfl dFS_24 (by first | decide | (dsimp only; omega) | (simp [Value.category]; done) | (simp [Value.category]; omega)) (by first | decide | (dsimp only; omega) | (simp [Value.category]; done) | (simp [Value.category]; omega)) [] (by first | (simp; done) | (intro x hx; simp [hx]; done)) ⟨rfl, rfl⟩
abbrev rmCQ : Room := { frames := 1, cells := 0, slots := 0, locals := 15 }
theorem con_CQ (G : Glob Z a0) (i q n : Nat) (hin : i + q ≤ n) (hn : n < 2 ^ 31) (h : Heap) (W : List Nat) :
    Ow.Con l Z EL1 bb (⟨"java/lang/String", "checkBoundsOffCount", "(III)I"⟩ : MethodName) jdk_42_method_157_code 3 (Option.some Jvm.ClassFile.FieldType.int) [] rmCQ #[.int (Int32.ofNat i), .int (Int32.ofNat q), .int (Int32.ofNat n)] h W (fun v h' W' => v = some (.int (Int32.ofNat i)) ∧ h' = h) := by
  obtain ⟨w, Sw, hw⟩ := sioG G
  refine Ow.Con.intro (a0 := a0) pn_22 (ewG G) (saG G) bbG [.val (.int (Int32.ofNat i)), .val (.int (Int32.ofNat q)), .val (.int (Int32.ofNat n))] (by first | exact Ow.locals_all (by simp [Value.category]) rfl | rfl | (simp [argsToLocals, Value.category]; done)) ?_
  intro p e s m below meth c C hO
  refine Ow.iloadN C dCQ_0 (pc' := 1) rfl rfl ?_
  refine Ow.iloadN C dCQ_1 (pc' := 2) rfl rfl ?_
  refine Ow.iloadN C dCQ_2 (pc' := 3) rfl rfl ?_
  refine Ow.getS C (tw218 G.1) Sw dCQ_3 (pc' := 6) rfl ?_
  refine Ow.callS C (tw302 G.1) (tw303 G.1) (tw219 G.1) (tw304 G.1) (by decide) (con_FS G i q n hin hn w hw h W) (fun _ q => q) pd_12 rfl rfl rfl dCQ_6 (pc' := 9) rfl (Wt := 0) (Nat.le_refl _) (by first | decide | (dsimp only; omega) | (simp [Value.category]; done) | (simp [Value.category]; omega)) (by first | decide | (dsimp only; omega) | (simp [Value.category]; done) | (simp [Value.category]; omega)) (by first | decide | (dsimp only; omega) | (simp [Value.category]; done) | (simp [Value.category]; omega)) (by first | decide | (dsimp only; omega) | (simp [Value.category]; done) | (simp [Value.category]; omega)) (fun v1 h1 W1 ⟨e1, e1'⟩ s1 => ?_)
  subst e1 e1'
  dsimp only [Option.toList, List.cons_append, List.nil_append]
  refine Ow.retI C rfl dCQ_9 (by first | decide | (dsimp only; omega) | (simp [Value.category]; done) | (simp [Value.category]; omega)) (by first | decide | (dsimp only; omega) | (simp [Value.category]; done) | (simp [Value.category]; omega)) [] (by first | (simp; done) | (intro x hx; simp [hx]; done)) ⟨rfl, rfl⟩
theorem con_UL (G : Glob Z a0) (y : Nat) (ys : List Int32) (n : Nat) (hn : ys.length = 2 * n) (h : Heap) (W : List Nat) (Y : ArI Z h y .byte ys) :
    Ow.Con l Z EL1 bb (⟨"java/lang/StringUTF16", "length", "([B)I"⟩ : MethodName) jdk_52_method_6_code 1 (Option.some Jvm.ClassFile.FieldType.int) [] rm0 #[.ref y] h W (fun v h' W' => v = some (.int (Int32.ofNat n)) ∧ h' = h) := by
  have hN := Y.2
  refine Ow.Con.intro (a0 := a0) pn_23 (ewG G) (saG G) bbG [.val (.ref y)] (by first | exact Ow.locals_all (by simp [Value.category]) rfl | rfl | (simp [argsToLocals, Value.category]; done)) ?_
  intro p e s m below meth c C hO
  refine Ow.aloadN C dUL_0 (pc' := 1) rfl rfl rfl ?_
  refine Ow.arrlen C Y dUL_1 (pc' := 2) rfl ?_
  refine Ow.iconst C (1 : Int32) dUL_2 (pc' := 3) rfl rfl ?_
  refine Ow.ishr C dUL_3 (pc' := 4) rfl ?_
  rw [hn, Ow.shr_one (by omega)]
  refine Ow.retI C rfl dUL_4 (by first | decide | (dsimp only; omega) | (simp [Value.category]; done) | (simp [Value.category]; omega)) (by first | decide | (dsimp only; omega) | (simp [Value.category]; done) | (simp [Value.category]; omega)) [] (by first | (simp; done) | (intro x hx; simp [hx]; done)) ⟨rfl, rfl⟩
abbrev rmCU : Room := { frames := 2, cells := 0, slots := 0, locals := 29 }
theorem con_CU (G : Glob Z a0) (i q y : Nat) (ys : List Int32) (n : Nat) (hn : ys.length = 2 * n) (hin : i + q ≤ n) (h : Heap) (W : List Nat) (Y : ArI Z h y .byte ys) :
    Ow.Con l Z EL1 bb (⟨"java/lang/StringUTF16", "checkBoundsOffCount", "(II[B)V"⟩ : MethodName) jdk_52_method_94_code 3 (Option.none : Option Jvm.ClassFile.FieldType) [] rmCU #[.int (Int32.ofNat i), .int (Int32.ofNat q), .ref y] h W (fun v h' W' => v = none ∧ h' = h) := by
  have hN := Y.2
  refine Ow.Con.intro (a0 := a0) pn_24 (ewG G) (saG G) bbG [.val (.int (Int32.ofNat i)), .val (.int (Int32.ofNat q)), .val (.ref y)] (by first | exact Ow.locals_all (by simp [Value.category]) rfl | rfl | (simp [argsToLocals, Value.category]; done)) ?_
  intro p e s m below meth c C hO
  refine Ow.iloadN C dCU_0 (pc' := 1) rfl rfl ?_
  refine Ow.iloadN C dCU_1 (pc' := 2) rfl rfl ?_
  refine Ow.aloadN C dCU_2 (pc' := 3) rfl rfl rfl ?_
  refine Ow.callS C (tw296 G.1) (tw297 G.1) (tw225 G.1) (tw298 G.1) (by decide) (con_UL G y ys n hn h W Y) (fun _ q => q) pd_13 rfl rfl rfl dCU_3 (pc' := 6) rfl (Wt := 2) (Nat.le_refl _) (by first | decide | (dsimp only; omega) | (simp [Value.category]; done) | (simp [Value.category]; omega)) (by first | decide | (dsimp only; omega) | (simp [Value.category]; done) | (simp [Value.category]; omega)) (by first | decide | (dsimp only; omega) | (simp [Value.category]; done) | (simp [Value.category]; omega)) (by first | decide | (dsimp only; omega) | (simp [Value.category]; done) | (simp [Value.category]; omega)) (fun v1 h1 W1 ⟨e1, e1'⟩ s1 => ?_)
  subst e1 e1'
  dsimp only [Option.toList, List.cons_append, List.nil_append]
  refine Ow.callS C (tw299 G.1) (tw300 G.1) (tw2 G.1) (tw301 G.1) (by decide) (con_CQ G i q n hin (by omega) h1 W) (fun _ q => q) pd_14 rfl rfl rfl dCU_6 (pc' := 9) rfl (Wt := 0) (Nat.le_refl _) (by first | decide | (dsimp only; omega) | (simp [Value.category]; done) | (simp [Value.category]; omega)) (by first | decide | (dsimp only; omega) | (simp [Value.category]; done) | (simp [Value.category]; omega)) (by first | decide | (dsimp only; omega) | (simp [Value.category]; done) | (simp [Value.category]; omega)) (by first | decide | (dsimp only; omega) | (simp [Value.category]; done) | (simp [Value.category]; omega)) (fun v2 h2 W2 ⟨e2, e2'⟩ s2 => ?_)
  subst e2 e2'
  dsimp only [Option.toList, List.cons_append, List.nil_append]
  refine Ow.pop C dCU_9 (pc' := 10) rfl rfl ?_
  refine Ow.retV C rfl dCU_10 (by first | decide | (dsimp only; omega) | (simp [Value.category]; done) | (simp [Value.category]; omega)) (by first | decide | (dsimp only; omega) | (simp [Value.category]; done) | (simp [Value.category]; omega)) [] (by first | (simp; done) | (intro x hx; simp [hx]; done)) ⟨rfl, rfl⟩
abbrev rmUI : Room := { frames := 3, cells := 0, slots := 0, locals := 43 }
set_option maxHeartbeats 4000000 in
theorem con_UI (G : Glob Z a0) (x y : Nat) (cs ds tl : List Int32) (r : Nat) (h : Heap) (W : List Nat) (X : ArI Z h x .byte (cs.map (nar .byte) ++ tl)) (Y : ArI Z h y .byte (Ow.u16 ds ++ List.replicate (2 * (cs.length + r)) 0)) (hL : ∀ z ∈ cs, 0 ≤ z.toInt ∧ z.toInt < 256) (hxy : x ≠ y) (hy : y ∈ W) :
    Ow.Con l Z EL1 bb (⟨"java/lang/StringUTF16", "inflate", "([BI[BII)V"⟩ : MethodName) jdk_52_method_86_code 6 (Option.none : Option Jvm.ClassFile.FieldType) [] rmUI #[.ref x, .int 0, .ref y, .int (Int32.ofNat ds.length), .int (Int32.ofNat cs.length)] h W
      (fun v h' W' => v = none ∧ Keep h h' [y] ∧ ArI Z h' y .byte (Ow.u16 (ds ++ cs) ++ List.replicate (2 * r) 0)) := by
  have hX := X.2
  have hY := Y.2
  rw [List.length_append, List.length_map] at hX
  rw [List.length_append, Ow.u16_len, List.length_replicate] at hY
  refine Ow.Con.intro (a0 := a0) pn_25 (ewG G) (saG G) bbG [.val (.ref x), .val (.int 0), .val (.ref y), .val (.int (Int32.ofNat ds.length)), .val (.int (Int32.ofNat cs.length)), .unset] (by first | exact Ow.locals_all (by simp [Value.category]) rfl | rfl | (simp [argsToLocals, Value.category]; done)) ?_
  intro p e s m below meth c C hO
  have loop : ∀ (t i : Nat) (h1 : Heap), i + t = cs.length → Keep h h1 [y] → ArI Z h1 y .byte (Ow.u16 (ds ++ cs.take i) ++ List.replicate (2 * (t + r)) 0) →
      Ow.WP p l e rmUI s m #[.ref x, .int 0, .ref y, .int (Int32.ofNat ds.length), .int (Int32.ofNat cs.length)] below meth c Z EL1 bb (fun v h' W' => v = none ∧ Keep h h' [y] ∧ ArI Z h' y .byte (Ow.u16 (ds ++ cs) ++ List.replicate (2 * r) 0))
        10 [.val (.ref x), .val (.int (Int32.ofNat i)), .val (.ref y), .val (.int (Int32.ofNat (ds.length + i))), .val (.int (Int32.ofNat cs.length)), .val (.int (Int32.ofNat i))] [] h1 W 0 0 := by
    intro t
    induction t with
    | zero =>
      intro i h1 hi K V
      obtain rfl : i = cs.length := by omega
      refine Ow.iload C dUI_10 (pc' := 12) rfl rfl ?_
      refine Ow.iload C dUI_12 (pc' := 14) rfl rfl ?_
      refine Ow.icmpY C 41 dUI_14 (XT.ii_ge_t (by rw [Ow.lt32]; omega)) (by decide) (by decide) ?_
      refine Ow.retV C rfl dUI_41 (by first | decide | (dsimp only; omega) | (simp [Value.category]; done) | (simp [Value.category]; omega)) (by first | decide | (dsimp only; omega) | (simp [Value.category]; done) | (simp [Value.category]; omega)) [] (by first | (simp; done) | (intro x hx; simp [hx]; done)) ⟨rfl, K, by simpa using V⟩
    | succ t ih =>
      intro i h1 hi K V
      have hlt : i < cs.length := by omega
      have hc := Ow.getD_rng hL hlt
      have X1 := X.keep K (Ow.nin1 hxy)
      refine Ow.iload C dUI_10 (pc' := 12) rfl rfl ?_
      refine Ow.iload C dUI_12 (pc' := 14) rfl rfl ?_
      refine Ow.icmpN C dUI_14 (pc' := 17) rfl (XT.ii_ge_f (by rw [Ow.lt32, Ow.ofNat_toInt (by omega), Ow.ofNat_toInt (by omega)]; omega)) ?_
      refine Ow.aloadN C dUI_17 (pc' := 18) rfl rfl rfl ?_
      refine Ow.iloadN C dUI_18 (pc' := 19) rfl rfl ?_
      refine Ow.iinc C (1 : Int32) dUI_19 (pc' := 22) rfl rfl rfl ?_
      dsimp only [List.set]
      refine Ow.aloadN C dUI_22 (pc' := 23) rfl rfl rfl ?_
      refine Ow.iloadN C dUI_23 (pc' := 24) rfl rfl ?_
      refine Ow.iinc C (1 : Int32) dUI_24 (pc' := 27) rfl rfl rfl ?_
      dsimp only [List.set]
      refine Ow.baload C X1 (i := i) (Ow.ofNat_toInt (by omega)) (by rw [List.length_append, List.length_map]; omega) dUI_27 (pc' := 28) rfl ?_
      rw [Ow.getD_left (by rw [List.length_map]; exact hlt), Ow.map_getD hlt]
      refine Ow.sipush C (255 : Int32) dUI_28 (pc' := 31) rfl rfl ?_
      refine Ow.iand C dUI_31 (pc' := 32) rfl ?_
      rw [Ow.byte_back hc.1 hc.2]
      refine Ow.callS C (tw271 G.1) (tw272 G.1) (tw225 G.1) (tw273 G.1) (by decide) (con_PC G y _ (ds.length + i) (cs.getD i 0) h1 W V (by rw [List.length_append, Ow.u16_len, List.length_append, List.length_take, List.length_replicate]; omega) hy) (fun _ q => q) pd_7 rfl rfl rfl dUI_32 (pc' := 35) rfl (Wt := 0) (Nat.le_refl _) (by first | decide | (dsimp only; omega) | (simp [Value.category]; done) | (simp [Value.category]; omega)) (by first | decide | (dsimp only; omega) | (simp [Value.category]; done) | (simp [Value.category]; omega)) (by first | decide | (dsimp only; omega) | (simp [Value.category]; done) | (simp [Value.category]; omega)) (by first | decide | (dsimp only; omega) | (simp [Value.category]; done) | (simp [Value.category]; omega)) (fun v3 h3 W3 ⟨e3, K3, V3⟩ s3 => ?_)
      subst e3
      dsimp only [Option.toList, List.cons_append, List.nil_append]
      rw [show t + 1 + r = (t + r) + 1 by omega, Ow.u16_set hlt] at V3
      refine Ow.iinc C (1 : Int32) dUI_35 (pc' := 38) rfl rfl rfl ?_
      dsimp only [List.set]
      refine Ow.goto C 10 dUI_38 (by decide) (by decide) ?_
      rw [← inc_ofNat, ← inc_ofNat, Nat.add_assoc]
      exact ih (i + 1) h3 (by omega) (K.trans K3 (fun _ q => Or.inl q)) V3
  refine Ow.iloadN C dUI_0 (pc' := 1) rfl rfl ?_
  refine Ow.iload C dUI_1 (pc' := 3) rfl rfl ?_
  refine Ow.aloadN C dUI_3 (pc' := 4) rfl rfl rfl ?_
  refine Ow.callS C (tw293 G.1) (tw294 G.1) (tw225 G.1) (tw295 G.1) (by decide) (con_CU G ds.length cs.length y _ (ds.length + (cs.length + r)) (by rw [List.length_append, Ow.u16_len, List.length_replicate]; omega) (by omega) h W Y) (fun _ q => q) pd_15 rfl rfl rfl dUI_4 (pc' := 7) rfl (Wt := 0) (Nat.le_refl _) (by first | decide | (dsimp only; omega) | (simp [Value.category]; done) | (simp [Value.category]; omega)) (by first | decide | (dsimp only; omega) | (simp [Value.category]; done) | (simp [Value.category]; omega)) (by first | decide | (dsimp only; omega) | (simp [Value.category]; done) | (simp [Value.category]; omega)) (by first | decide | (dsimp only; omega) | (simp [Value.category]; done) | (simp [Value.category]; omega)) (fun v1 h1 W1 ⟨e1, e1'⟩ s1 => ?_)
  subst e1 e1'
  dsimp only [Option.toList, List.cons_append, List.nil_append]
  refine Ow.iconst C (0 : Int32) dUI_7 (pc' := 8) rfl rfl ?_
  refine Ow.istore C dUI_8 (pc' := 10) rfl rfl ?_
  dsimp only [List.set]
  exact loop cs.length 0 h1 (by omega) (Keep.refl _ _) (by simpa using Y)
abbrev rmLI : Room := { frames := 4, cells := 0, slots := 0, locals := 60 }
theorem con_LI (G : Glob Z a0) (x y : Nat) (cs ds tl : List Int32) (r : Nat) (h : Heap) (W : List Nat) (X : ArI Z h x .byte (cs.map (nar .byte) ++ tl)) (Y : ArI Z h y .byte (Ow.u16 ds ++ List.replicate (2 * (cs.length + r)) 0)) (hL : ∀ z ∈ cs, 0 ≤ z.toInt ∧ z.toInt < 256) (hxy : x ≠ y) (hy : y ∈ W) :
    Ow.Con l Z EL1 bb (⟨"java/lang/StringLatin1", "inflate", "([BI[BII)V"⟩ : MethodName) jdk_43_method_50_code 5 (Option.none : Option Jvm.ClassFile.FieldType) [] rmLI #[.ref x, .int 0, .ref y, .int (Int32.ofNat ds.length), .int (Int32.ofNat cs.length)] h W
      (fun v h' W' => v = none ∧ Keep h h' [y] ∧ ArI Z h' y .byte (Ow.u16 (ds ++ cs) ++ List.replicate (2 * r) 0)) := by
  refine Ow.Con.intro (a0 := a0) pn_26 (ewG G) (saG G) bbG [.val (.ref x), .val (.int 0), .val (.ref y), .val (.int (Int32.ofNat ds.length)), .val (.int (Int32.ofNat cs.length))] (by first | exact Ow.locals_all (by simp [Value.category]) rfl | rfl | (simp [argsToLocals, Value.category]; done)) ?_
  intro p e s m below meth c C hO
  refine Ow.aloadN C dLI_0 (pc' := 1) rfl rfl rfl ?_
  refine Ow.iloadN C dLI_1 (pc' := 2) rfl rfl ?_
  refine Ow.aloadN C dLI_2 (pc' := 3) rfl rfl rfl ?_
  refine Ow.iloadN C dLI_3 (pc' := 4) rfl rfl ?_
  refine Ow.iload C dLI_4 (pc' := 6) rfl rfl ?_
  refine Ow.callS C (tw290 G.1) (tw291 G.1) (tw225 G.1) (tw292 G.1) (by decide) (con_UI G x y cs ds tl r h W X Y hL hxy hy) (fun _ q => q) pd_16 rfl rfl rfl dLI_6 (pc' := 9) rfl (Wt := 0) (Nat.le_refl _) (by first | decide | (dsimp only; omega) | (simp [Value.category]; done) | (simp [Value.category]; omega)) (by first | decide | (dsimp only; omega) | (simp [Value.category]; done) | (simp [Value.category]; omega)) (by first | decide | (dsimp only; omega) | (simp [Value.category]; done) | (simp [Value.category]; omega)) (by first | decide | (dsimp only; omega) | (simp [Value.category]; done) | (simp [Value.category]; omega)) (fun v1 h1 W1 ⟨e1, K1, V1⟩ s1 => ?_)
  subst e1
  dsimp only [Option.toList, List.cons_append, List.nil_append]
  refine Ow.retV C rfl dLI_9 (by first | decide | (dsimp only; omega) | (simp [Value.category]; done) | (simp [Value.category]; omega)) (by first | decide | (dsimp only; omega) | (simp [Value.category]; done) | (simp [Value.category]; omega)) [] (by first | (simp; done) | (intro x hx; simp [hx]; done)) ⟨rfl, K1, V1⟩
theorem con_NFe (G : Glob Z a0) (B N : Nat) (hB : 2 * N ≤ B) (hB2 : B ≤ 4000) (h : Heap) (W : List Nat) : Ow.Con l Z EL1 bb (⟨"java/lang/StringUTF16", "newBytesFor", "(I)[B"⟩ : MethodName) jdk_52_method_2_code 1 (Option.some (Jvm.ClassFile.FieldType.array Jvm.ClassFile.FieldType.byte)) [] (rmNF B) #[.int (Int32.ofNat N)] h W
    (fun v h' W' => ∃ y : Nat, v = some (.ref y) ∧ y = h.size ∧ Ext h h' ∧ ArI Z h' y .byte (List.replicate (2 * N) 0) ∧ Exa Z h' y "[B" ∧ W' = [y]) := by
  refine Ow.Con.intro (a0 := a0) pn_11 (ewG G) (saG G) bbG [.val (.int (Int32.ofNat N))] (by first | exact Ow.locals_all (by simp [Value.category]) rfl | rfl | (simp [argsToLocals, Value.category]; done)) ?_
  intro p e s m below meth c C hO
  refine Ow.iloadN C dNF_0 (pc' := 1) rfl rfl ?_
  refine Ow.callS C (tw267 G.1) (tw268 G.1) (tw225 G.1) (tw269 G.1) (by decide) (con_NL G N (by omega) h W) (fun _ q => q) pd_5 rfl rfl rfl dNF_1 (pc' := 4) rfl (Wt := 0) (Nat.le_refl _) (by first | decide | (dsimp only; omega) | (simp [Value.category]; done) | (simp [Value.category]; omega)) (by first | decide | (dsimp only; omega) | (simp [Value.category]; done) | (simp [Value.category]; omega)) (by first | decide | (dsimp only; omega) | (simp [Value.category]; done) | (simp [Value.category]; omega)) (by first | decide | (dsimp only; omega) | (simp [Value.category]; done) | (simp [Value.category]; omega)) (fun v1 h1 W1 ⟨e1, e1'⟩ s1 => ?_)
  subst e1 e1'
  dsimp only [Option.toList, List.cons_append, List.nil_append]
  refine Ow.newarrE C (ty := .byte) (cap := (2*N)) (ad := "[B") (by decide) rfl rfl (tw15 G.1) dNF_4 (pc' := 6) rfl rfl (by omega) (by dsimp only; omega) (by dsimp only; omega) (fun h2 a2 s2 z2 l2 E2 ⟨V2, X2⟩ => ?_)
  refine Ow.retA C rfl rfl rfl dNF_6 (by first | decide | (dsimp only; omega) | (simp [Value.category]; done) | (simp [Value.category]; omega)) (by first | decide | (dsimp only; omega) | (simp [Value.category]; done) | (simp [Value.category]; omega)) [a2] (by first | (simp; done) | (intro x hx; simp [hx]; done)) ⟨a2, rfl, s2, E2, V2, X2, rfl⟩
abbrev rmAF (B : Nat) : Room := { frames := 5, cells := 1, slots := B, locals := 76 }
set_option maxHeartbeats 4000000 in
theorem con_AF (G : Glob Z a0) (B a v : Nat) (cs : List Int32) (r : Nat) (h : Heap) (W : List Nat) (S : Ow.SB Z h a v 0 cs r) (ha : a ∈ W) (hB : 2 * (cs.length + r) ≤ B) (hB2 : B ≤ 4000) :
    Ow.Con l Z EL1 bb (⟨"java/lang/AbstractStringBuilder", "inflate", "()V"⟩ : MethodName) jdk_68_method_11_code 2 (Option.none : Option Jvm.ClassFile.FieldType) [] (rmAF B) #[.ref a] h W (fun w h' W' => w = none ∧ ∃ y : Nat, Ow.SB Z h' a y 1 cs r ∧ Keep h h' [a] ∧ h.size ≤ y ∧ y ∈ W') := by
  have haL := S.lt
  have hlen := S.alen
  rw [show (0 + 1) * (cs.length + r) = cs.length + r by omega] at hlen
  refine Ow.Con.intro (a0 := a0) pn_27 (ewG G) (saG G) bbG [.val (.ref a), .unset] (by first | exact Ow.locals_all (by simp [Value.category]) rfl | rfl | (simp [argsToLocals, Value.category]; done)) ?_
  intro p e s m below meth c C hO
  refine Ow.aloadN C dAF_0 (pc' := 1) rfl rfl rfl ?_
  refine Ow.callN C (y := (⟨"java/lang/AbstractStringBuilder", "isLatin1", "()Z"⟩ : MethodName)) (z := (⟨"java/lang/AbstractStringBuilder", "isLatin1", "()Z"⟩ : MethodName)) (tw285 G.1) (tw122 G.1) (tw124 G.1) rfl (tw124 G.1) (tw123 G.1) (tw38 G.1) (tw125 G.1) (by decide) S.o.exa (con_BL G a _ h W S.o.cod) (fun _ q => q) pd_17 rfl rfl rfl dAF_1 (pc' := 4) rfl (Wt := 0) (Nat.le_refl _) (by first | decide | (dsimp only; omega) | (simp [Value.category]; done) | (simp [Value.category]; omega)) (by first | decide | (dsimp only; omega) | (simp [Value.category]; done) | (simp [Value.category]; omega)) (by first | decide | (dsimp only; omega) | (simp [Value.category]; done) | (simp [Value.category]; omega)) (by first | decide | (dsimp only; omega) | (simp [Value.category]; done) | (simp [Value.category]; omega)) (fun v1 h1 W1 ⟨e1, e1'⟩ s1 => ?_)
  rw [show (if Int32.ofNat 0 = 0 then (1 : Int32) else 0) = 1 from rfl] at e1
  subst e1 e1'
  dsimp only [Option.toList, List.cons_append, List.nil_append]
  refine Ow.ifCY C 8 dAF_4 (XT.i0_ne_t (by decide)) (by decide) (by decide) ?_
  refine Ow.aloadN C dAF_8 (pc' := 9) rfl rfl rfl ?_
  refine Ow.getF C (tw42 G.1) S.o.val dAF_9 (pc' := 12) rfl ?_
  refine Ow.arrlen C S.ar dAF_12 (pc' := 13) rfl ?_
  rw [hlen]
  refine Ow.callSW C (tw286 G.1) (tw265 G.1) (tw225 G.1) (tw266 G.1) (by decide) (con_NFe G B (cs.length + r) hB hB2 h1 W) (fun _ q => q) pd_6 rfl rfl rfl dAF_13 (pc' := 16) rfl (Wt := 0) (Nat.le_refl _) (by first | decide | (dsimp only; omega) | (simp [Value.category]; done) | (simp [Value.category]; omega)) (by first | decide | (dsimp only; omega) | (simp [Value.category]; done) | (simp [Value.category]; omega)) (by first | decide | (dsimp only; omega) | (simp [Value.category]; done) | (simp [Value.category]; omega)) (by first | decide | (dsimp only; omega) | (simp [Value.category]; done) | (simp [Value.category]; omega)) (fun v2 h2 W2 ⟨y, e2, ey, E2, Y2, X2, eW⟩ s2 => ?_)
  subst e2 eW
  dsimp only [Option.toList, List.cons_append, List.nil_append]
  have S2 := S.ext E2
  have nv : v ≠ y := by omega
  have na : a ≠ y := by omega
  refine Ow.astoreN C dAF_16 (pc' := 17) rfl rfl rfl ?_
  dsimp only [List.set]
  refine Ow.aloadN C dAF_17 (pc' := 18) rfl rfl rfl ?_
  refine Ow.getF C (tw42 G.1) S2.o.val dAF_18 (pc' := 21) rfl ?_
  refine Ow.iconst C (0 : Int32) dAF_21 (pc' := 22) rfl rfl ?_
  refine Ow.aloadN C dAF_22 (pc' := 23) rfl rfl rfl ?_
  refine Ow.iconst C (0 : Int32) dAF_23 (pc' := 24) rfl rfl ?_
  refine Ow.aloadN C dAF_24 (pc' := 25) rfl rfl rfl ?_
  refine Ow.getF C (tw67 G.1) S2.o.cnt dAF_25 (pc' := 28) rfl ?_
  have A2 := S2.ar
  rw [Ow.enc0] at A2
  refine Ow.callS C (tw287 G.1) (tw288 G.1) (tw213 G.1) (tw289 G.1) (by decide) (con_LI G v y cs [] _ r h2 _ A2 (by simpa [Ow.u16] using Y2) (S.sg.l rfl) nv (by simp)) (fun _ q => q) pd_16 rfl rfl rfl dAF_28 (pc' := 31) rfl (Wt := 0) (Nat.le_refl _) (by first | decide | (dsimp only; omega) | (simp [Value.category]; done) | (simp [Value.category]; omega)) (by first | decide | (dsimp only; omega) | (simp [Value.category]; done) | (simp [Value.category]; omega)) (by first | decide | (dsimp only; omega) | (simp [Value.category]; done) | (simp [Value.category]; omega)) (by first | decide | (dsimp only; omega) | (simp [Value.category]; done) | (simp [Value.category]; omega)) (fun v3 h3 W3 ⟨e3, K3, Y3⟩ s3 => ?_)
  subst e3
  dsimp only [Option.toList, List.cons_append, List.nil_append]
  rw [List.nil_append] at Y3
  have O3 := S2.o.keep K3 (Ow.nin1 na)
  have X3 := X2.keep K3
  refine Ow.aloadN C dAF_31 (pc' := 32) rfl rfl rfl ?_
  refine Ow.aloadN C dAF_32 (pc' := 33) rfl rfl rfl ?_
  refine Ow.putF C (tw42 G.1) O3.val O3.exa (Or.inl (tw43 G.1)) (tw29 G.1) (ty := (.array .byte)) (by decide) rfl rfl (by first | assumption | (simp; done) | (simp [*]; done)) dAF_33 (pc' := 36) rfl (fun h4 w4 K4 F4 => ?_)
  have O4 := sbV G O3 K4 w4 F4
  refine Ow.aloadN C dAF_36 (pc' := 37) rfl rfl rfl ?_
  refine Ow.iconst C (1 : Int32) dAF_37 (pc' := 38) rfl rfl ?_
  refine Ow.putF C (tw44 G.1) O4.cod O4.exa (Or.inl (tw45 G.1)) (tw29 G.1) (ty := .byte) (by decide) rfl rfl (by first | assumption | (simp; done) | (simp [*]; done)) dAF_38 (pc' := 41) rfl (fun h5 w5 K5 F5 => ?_)
  have O5 := sbC G O4 K5 w5 F5
  have Y5 := (Y3.keep K4 (Ow.nin1 (Ne.symm na))).keep K5 (Ow.nin1 (Ne.symm na))
  refine Ow.retV C rfl dAF_41 (by first | decide | (dsimp only; omega) | (simp [Value.category]; done) | (simp [Value.category]; omega)) (by first | decide | (dsimp only; omega) | (simp [Value.category]; done) | (simp [Value.category]; omega)) [y] (by first | (simp; done) | (intro x hx; simp [hx]; done)) ⟨rfl, y, ⟨O5, Y5, (X3.keep K4).keep K5, na, S.sg.up⟩, ((((Keep.refl h1 [a]).ext E2).trans K3 (fun z hz => Or.inr (by rw [List.mem_singleton.mp hz]; omega))).trans K4 (fun _ q => Or.inl q)).trans K5 (fun _ q => Or.inl q), by omega, by simp⟩
/-- a builder that is UTF-16 already -/
theorem con_AFu (G : Glob Z a0) (B a v : Nat) (cs : List Int32) (r : Nat) (h : Heap) (W : List Nat) (S : Ow.SB Z h a v 1 cs r) :
    Ow.Con l Z EL1 bb (⟨"java/lang/AbstractStringBuilder", "inflate", "()V"⟩ : MethodName) jdk_68_method_11_code 2 (Option.none : Option Jvm.ClassFile.FieldType) [] (rmAF B) #[.ref a] h W (fun w h' W' => w = none ∧ h' = h ∧ W' = W) := by
  refine Ow.Con.intro (a0 := a0) pn_27 (ewG G) (saG G) bbG [.val (.ref a), .unset] (by first | exact Ow.locals_all (by simp [Value.category]) rfl | rfl | (simp [argsToLocals, Value.category]; done)) ?_
  intro p e s m below meth c C hO
  refine Ow.aloadN C dAF_0 (pc' := 1) rfl rfl rfl ?_
  refine Ow.callN C (y := (⟨"java/lang/AbstractStringBuilder", "isLatin1", "()Z"⟩ : MethodName)) (z := (⟨"java/lang/AbstractStringBuilder", "isLatin1", "()Z"⟩ : MethodName)) (tw285 G.1) (tw122 G.1) (tw124 G.1) rfl (tw124 G.1) (tw123 G.1) (tw38 G.1) (tw125 G.1) (by decide) S.o.exa (con_BL G a _ h W S.o.cod) (fun _ q => q) pd_17 rfl rfl rfl dAF_1 (pc' := 4) rfl (Wt := 0) (Nat.le_refl _) (by first | decide | (dsimp only; omega) | (simp [Value.category]; done) | (simp [Value.category]; omega)) (by first | decide | (dsimp only; omega) | (simp [Value.category]; done) | (simp [Value.category]; omega)) (by first | decide | (dsimp only; omega) | (simp [Value.category]; done) | (simp [Value.category]; omega)) (by first | decide | (dsimp only; omega) | (simp [Value.category]; done) | (simp [Value.category]; omega)) (fun v1 h1 W1 ⟨e1, e1'⟩ s1 => ?_)
  rw [if_neg (by decide)] at e1
  subst e1 e1'
  dsimp only [Option.toList, List.cons_append, List.nil_append]
  refine Ow.ifCN C dAF_4 (pc' := 7) rfl (XT.i0_ne_f (by decide)) ?_
  refine Ow.retV C rfl dAF_7 (by first | decide | (dsimp only; omega) | (simp [Value.category]; done) | (simp [Value.category]; omega)) (by first | decide | (dsimp only; omega) | (simp [Value.category]; done) | (simp [Value.category]; omega)) W (by first | (simp; done) | (intro x hx; simp [hx]; done)) ⟨rfl, rfl, rfl⟩
/-- the coder that holds both -/
def mx (u c : Nat) : Nat := if u = 0 then c else u
abbrev rmIN (B : Nat) : Room := { frames := 6, cells := 1, slots := B, locals := 89 }
set_option maxHeartbeats 4000000 in
theorem con_IN (G : Glob Z a0) (B a v u x d k : Nat) (cs ds : List Int32) (r : Nat) (h : Heap) (W : List Nat) (S : Ow.SB Z h a v u ds r) (T : Ow.StrK Z h x d k cs) (ha : a ∈ W) (hv : v ∈ W) (hB : 2 * (ds.length + r) ≤ B) (hB2 : B ≤ 4000) :
    Ow.Con l Z EL1 bb (⟨"java/lang/AbstractStringBuilder", "inflateIfNeededFor", "(Ljava/lang/String;)V"⟩ : MethodName) jdk_68_method_71_code 2 (Option.none : Option Jvm.ClassFile.FieldType) [] (rmIN B) #[.ref a, .ref x] h W (fun w h' W' => w = none ∧ ∃ y : Nat, Ow.SB Z h' a y (mx u k) ds r ∧ Keep h h' [a] ∧ (y = v ∨ h.size ≤ y) ∧ y ∈ W') := by
  obtain ⟨cv, hcv, hst⟩ := G.2.1
  refine Ow.Con.intro (a0 := a0) pn_28 (ewG G) (saG G) bbG [.val (.ref a), .val (.ref x)] (by first | exact Ow.locals_all (by simp [Value.category]) rfl | rfl | (simp [argsToLocals, Value.category]; done)) ?_
  intro p e s m below meth c C hO
  refine Ow.getS C (tw41 G.1) hst dIN_0 (pc' := 3) rfl ?_
  refine Ow.ifCN C dIN_3 (pc' := 6) rfl (XT.i0_eq_f hcv) ?_
  refine Ow.aloadN C dIN_6 (pc' := 7) rfl rfl rfl ?_
  refine Ow.getF C (tw44 G.1) S.o.cod dIN_7 (pc' := 10) rfl ?_
  refine Ow.aloadN C dIN_10 (pc' := 11) rfl rfl rfl ?_
  refine Ow.callV C (y := (⟨"java/lang/String", "coder", "()B"⟩ : MethodName)) (z := (⟨"java/lang/String", "coder", "()B"⟩ : MethodName)) (tw84 G.1) (tw62 G.1) (tw64 G.1) (tw64 G.1) (tw63 G.1) (tw2 G.1) (tw65 G.1) (by decide) T.exa (con_CO G x _ h W T.cod) (fun _ q => q) pd_4 rfl rfl rfl dIN_11 (pc' := 14) rfl (Wt := 1) (Nat.le_refl _) (by first | decide | (dsimp only; omega) | (simp [Value.category]; done) | (simp [Value.category]; omega)) (by first | decide | (dsimp only; omega) | (simp [Value.category]; done) | (simp [Value.category]; omega)) (by first | decide | (dsimp only; omega) | (simp [Value.category]; done) | (simp [Value.category]; omega)) (by first | decide | (dsimp only; omega) | (simp [Value.category]; done) | (simp [Value.category]; omega)) (fun v1 h1 W1 ⟨e1, e1'⟩ s1 => ?_)
  rw [Ow.narU T.sg.u] at e1
  subst e1 e1'
  dsimp only [Option.toList, List.cons_append, List.nil_append]
  by_cases huk : u = k
  · refine Ow.icmpY C 21 dIN_14 (XT.ii_eq_t (by rw [huk])) (by decide) (by decide) ?_
    refine Ow.retV C rfl dIN_21 (by first | decide | (dsimp only; omega) | (simp [Value.category]; done) | (simp [Value.category]; omega)) (by first | decide | (dsimp only; omega) | (simp [Value.category]; done) | (simp [Value.category]; omega)) W (by first | (simp; done) | (intro x hx; simp [hx]; done)) ⟨rfl, v, by rw [show mx u k = u by unfold mx; split <;> omega]; exact S, Keep.refl _ _, Or.inl rfl, hv⟩
  · refine Ow.icmpN C dIN_14 (pc' := 17) rfl (XT.ii_eq_f (fun q => huk (Ow.ofNat_inj (by rcases S.sg.u with e | e <;> omega) (by rcases T.sg.u with e | e <;> omega) q))) ?_
    refine Ow.aloadN C dIN_17 (pc' := 18) rfl rfl rfl ?_
    rcases S.sg.u with e | e
    · subst e
      have hk : k = 1 := by rcases T.sg.u with e | e <;> omega
      subst hk
      refine Ow.callNW C (y := (⟨"java/lang/AbstractStringBuilder", "inflate", "()V"⟩ : MethodName)) (z := (⟨"java/lang/AbstractStringBuilder", "inflate", "()V"⟩ : MethodName)) (tw280 G.1) (Ow.declares_of (tw281 G.1) (tw284 G.1)) (tw283 G.1) rfl (tw283 G.1) (tw281 G.1) (tw38 G.1) (tw284 G.1) (by decide) S.o.exa (con_AF G B a v ds r h1 W S ha hB hB2) (fun _ q => q) pd_18 rfl rfl rfl dIN_18 (pc' := 21) rfl (Wt := 0) (Nat.le_refl _) (by first | decide | (dsimp only; omega) | (simp [Value.category]; done) | (simp [Value.category]; omega)) (by first | decide | (dsimp only; omega) | (simp [Value.category]; done) | (simp [Value.category]; omega)) (by first | decide | (dsimp only; omega) | (simp [Value.category]; done) | (simp [Value.category]; omega)) (by first | decide | (dsimp only; omega) | (simp [Value.category]; done) | (simp [Value.category]; omega)) (fun v2 h2 W2 ⟨e2, y, S2, K2, g2, m2⟩ s2 => ?_)
      subst e2
      dsimp only [Option.toList, List.cons_append, List.nil_append]
      refine Ow.retV C rfl dIN_21 (by first | decide | (dsimp only; omega) | (simp [Value.category]; done) | (simp [Value.category]; omega)) (by first | decide | (dsimp only; omega) | (simp [Value.category]; done) | (simp [Value.category]; omega)) W2 (by first | (simp; done) | (intro x hx; simp [hx]; done)) ⟨rfl, y, S2, K2, Or.inr g2, m2⟩
    · subst e
      have hk : k = 0 := by rcases T.sg.u with e | e <;> omega
      subst hk
      refine Ow.callN C (y := (⟨"java/lang/AbstractStringBuilder", "inflate", "()V"⟩ : MethodName)) (z := (⟨"java/lang/AbstractStringBuilder", "inflate", "()V"⟩ : MethodName)) (tw280 G.1) (Ow.declares_of (tw281 G.1) (tw284 G.1)) (tw283 G.1) rfl (tw283 G.1) (tw281 G.1) (tw38 G.1) (tw284 G.1) (by decide) S.o.exa (con_AFu G B a v ds r h1 W S) (fun _ q => q) pd_18 rfl rfl rfl dIN_18 (pc' := 21) rfl (Wt := 0) (Nat.le_refl _) (by first | decide | (dsimp only; omega) | (simp [Value.category]; done) | (simp [Value.category]; omega)) (by first | decide | (dsimp only; omega) | (simp [Value.category]; done) | (simp [Value.category]; omega)) (by first | decide | (dsimp only; omega) | (simp [Value.category]; done) | (simp [Value.category]; omega)) (by first | decide | (dsimp only; omega) | (simp [Value.category]; done) | (simp [Value.category]; omega)) (fun v2 h2 W2 ⟨e2, e2', eW⟩ s2 => ?_)
      subst e2 e2' eW
      dsimp only [Option.toList, List.cons_append, List.nil_append]
      refine Ow.retV C rfl dIN_21 (by first | decide | (dsimp only; omega) | (simp [Value.category]; done) | (simp [Value.category]; omega)) (by first | decide | (dsimp only; omega) | (simp [Value.category]; done) | (simp [Value.category]; omega)) W2 (by first | (simp; done) | (intro x hx; simp [hx]; done)) ⟨rfl, v, S, Keep.refl _ _, Or.inl rfl, hv⟩
abbrev rmGB : Room := { frames := 5, cells := 0, slots := 0, locals := 76 }
set_option maxHeartbeats 4000000 in
theorem con_GB (G : Glob Z a0) (x d k v u : Nat) (cs ds : List Int32) (r : Nat) (h : Heap) (W : List Nat) (T : Ow.StrK Z h x d k cs) (Y : ArI Z h v .byte (Ow.enc u ds ++ List.replicate ((u + 1) * (cs.length + r)) 0)) (hu : u = 0 ∨ u = 1) (hku : k = u ∨ (k = 0 ∧ u = 1)) (hdv : d ≠ v) (hv : v ∈ W) :
    Ow.Con l Z EL1 bb (⟨"java/lang/String", "getBytes", "([BIB)V"⟩ : MethodName) jdk_42_method_147_code 4 (Option.none : Option Jvm.ClassFile.FieldType) [] rmGB #[.ref x, .ref v, .int (Int32.ofNat ds.length), .int (Int32.ofNat u)] h W
      (fun w h' W' => w = none ∧ Keep h h' [v] ∧ ArI Z h' v .byte (Ow.enc u (ds ++ cs) ++ List.replicate ((u + 1) * r) 0)) := by
  have hY := Y.2
  rw [List.length_append, Ow.enc_len hu, List.length_replicate] at hY
  refine Ow.Con.intro (a0 := a0) pn_29 (ewG G) (saG G) bbG [.val (.ref x), .val (.ref v), .val (.int (Int32.ofNat ds.length)), .val (.int (Int32.ofNat u))] (by first | exact Ow.locals_all (by simp [Value.category]) rfl | rfl | (simp [argsToLocals, Value.category]; done)) ?_
  intro p e s m below meth c C hO
  refine Ow.aloadN C dGB_0 (pc' := 1) rfl rfl rfl ?_
  refine Ow.callV C (y := (⟨"java/lang/String", "coder", "()B"⟩ : MethodName)) (z := (⟨"java/lang/String", "coder", "()B"⟩ : MethodName)) (tw61 G.1) (tw62 G.1) (tw64 G.1) (tw64 G.1) (tw63 G.1) (tw2 G.1) (tw65 G.1) (by decide) T.exa (con_CO G x _ h W T.cod) (fun _ q => q) pd_4 rfl rfl rfl dGB_1 (pc' := 4) rfl (Wt := 0) (Nat.le_refl _) (by first | decide | (dsimp only; omega) | (simp [Value.category]; done) | (simp [Value.category]; omega)) (by first | decide | (dsimp only; omega) | (simp [Value.category]; done) | (simp [Value.category]; omega)) (by first | decide | (dsimp only; omega) | (simp [Value.category]; done) | (simp [Value.category]; omega)) (by first | decide | (dsimp only; omega) | (simp [Value.category]; done) | (simp [Value.category]; omega)) (fun v1 h1 W1 ⟨e1, e1'⟩ s1 => ?_)
  rw [Ow.narU T.sg.u] at e1
  subst e1 e1'
  dsimp only [Option.toList, List.cons_append, List.nil_append]
  refine Ow.iloadN C dGB_4 (pc' := 5) rfl rfl ?_
  by_cases huk : k = u
  · subst huk
    refine Ow.icmpN C dGB_5 (pc' := 8) rfl (XT.ii_ne_f rfl) ?_
    refine Ow.aloadN C dGB_8 (pc' := 9) rfl rfl rfl ?_
    refine Ow.getF C (tw20 G.1) T.val dGB_9 (pc' := 12) rfl ?_
    refine Ow.iconst C (0 : Int32) dGB_12 (pc' := 13) rfl rfl ?_
    refine Ow.aloadN C dGB_13 (pc' := 14) rfl rfl rfl ?_
    refine Ow.iloadN C dGB_14 (pc' := 15) rfl rfl ?_
    refine Ow.iloadN C dGB_15 (pc' := 16) rfl rfl ?_
    refine Ow.ishl C dGB_16 (pc' := 17) rfl ?_
    have hl0 : (k + 1) * ds.length < 2 ^ 31 := by rcases hu with e | e <;> subst e <;> omega
    have hl1 : (k + 1) * cs.length < 2 ^ 31 := T.len
    rw [Ow.shlU hu hl0]
    refine Ow.aloadN C dGB_17 (pc' := 18) rfl rfl rfl ?_
    refine Ow.getF C (tw20 G.1) T.val dGB_18 (pc' := 21) rfl ?_
    refine Ow.arrlen C T.ar dGB_21 (pc' := 22) rfl ?_
    rw [Ow.enc_len hu]
    refine Ow.acopy C (tw90 G.1) (tw93 G.1) (tw91 G.1) (tw92 G.1) T.ar Y rfl (i := 0) (j := (k + 1) * ds.length) (q := (k + 1) * cs.length) rfl (Ow.ofNat_toInt hl0) (Ow.ofNat_toInt hl1) (by rw [Ow.enc_len hu]; omega) (by rw [List.length_append, Ow.enc_len hu, List.length_replicate, Nat.mul_add]; omega) hv dGB_22 (pc' := 25) rfl rfl (by dsimp only; omega) (Wt := 0) (Nat.le_refl _) (by dsimp only; decide) (fun h6 K6 V6 => ?_)
    refine Ow.goto C 43 dGB_25 (by decide) (by decide) ?_
    have e3 := Ow.lay_at (pre := Ow.enc k ds) (xs := Ow.enc k cs) (r := (k + 1) * r) (X := (List.drop 0 (Ow.enc k cs)).take ((k + 1) * cs.length)) (by rw [List.drop_zero, List.take_of_length_le (by rw [Ow.enc_len hu]; omega)])
    rw [Ow.enc_len hu, Ow.enc_len hu, ← Nat.mul_add (k + 1) cs.length r] at e3
    rw [e3, ← Ow.enc_app] at V6
    refine Ow.retV C rfl dGB_43 (by first | decide | (dsimp only; omega) | (simp [Value.category]; done) | (simp [Value.category]; omega)) (by first | decide | (dsimp only; omega) | (simp [Value.category]; done) | (simp [Value.category]; omega)) [] (by first | (simp; done) | (intro x hx; simp [hx]; done)) ⟨rfl, K6, V6⟩
  · obtain ⟨rfl, rfl⟩ : k = 0 ∧ u = 1 := by omega
    refine Ow.icmpY C 28 dGB_5 (XT.ii_ne_t (by decide)) (by decide) (by decide) ?_
    refine Ow.aloadN C dGB_28 (pc' := 29) rfl rfl rfl ?_
    refine Ow.getF C (tw20 G.1) T.val dGB_29 (pc' := 32) rfl ?_
    refine Ow.iconst C (0 : Int32) dGB_32 (pc' := 33) rfl rfl ?_
    refine Ow.aloadN C dGB_33 (pc' := 34) rfl rfl rfl ?_
    refine Ow.iloadN C dGB_34 (pc' := 35) rfl rfl ?_
    refine Ow.aloadN C dGB_35 (pc' := 36) rfl rfl rfl ?_
    refine Ow.getF C (tw20 G.1) T.val dGB_36 (pc' := 39) rfl ?_
    refine Ow.arrlen C T.ar dGB_39 (pc' := 40) rfl ?_
    rw [Ow.enc_len (Or.inl rfl), show (0 + 1) * cs.length = cs.length by omega]
    have A := T.ar
    rw [Ow.enc0] at A
    refine Ow.callS C (tw305 G.1) (tw288 G.1) (tw213 G.1) (tw289 G.1) (by decide) (con_LI G d v cs ds [] r h1 W (by simpa using A) Y (T.sg.l rfl) hdv hv) (fun _ q => q) pd_16 rfl rfl rfl dGB_40 (pc' := 43) rfl (Wt := 0) (Nat.le_refl _) (by first | decide | (dsimp only; omega) | (simp [Value.category]; done) | (simp [Value.category]; omega)) (by first | decide | (dsimp only; omega) | (simp [Value.category]; done) | (simp [Value.category]; omega)) (by first | decide | (dsimp only; omega) | (simp [Value.category]; done) | (simp [Value.category]; omega)) (by first | decide | (dsimp only; omega) | (simp [Value.category]; done) | (simp [Value.category]; omega)) (fun v2 h2 W2 ⟨e2, K2, V2⟩ s2 => ?_)
    subst e2
    dsimp only [Option.toList, List.cons_append, List.nil_append]
    refine Ow.retV C rfl dGB_43 (by first | decide | (dsimp only; omega) | (simp [Value.category]; done) | (simp [Value.category]; omega)) (by first | decide | (dsimp only; omega) | (simp [Value.category]; done) | (simp [Value.category]; omega)) [] (by first | (simp; done) | (intro x hx; simp [hx]; done)) ⟨rfl, K2, V2⟩
abbrev rmPS (B : Nat) : Room := { frames := 7, cells := 1, slots := B, locals := 102 }
set_option maxHeartbeats 4000000 in
theorem con_PS (G : Glob Z a0) (B a v u x d k : Nat) (cs ds : List Int32) (r : Nat) (h : Heap) (W : List Nat) (S : Ow.SB Z h a v u ds (cs.length + r)) (T : Ow.StrK Z h x d k cs) (ha : a ∈ W) (hv : v ∈ W) (hxa : x ≠ a) (hda : d ≠ a) (hdv : d ≠ v) (hB : 2 * (ds.length + (cs.length + r)) ≤ B) (hB2 : B ≤ 4000) :
    Ow.Con l Z EL1 bb (⟨"java/lang/AbstractStringBuilder", "putStringAt", "(ILjava/lang/String;)V"⟩ : MethodName) jdk_68_method_73_code 3 (Option.none : Option Jvm.ClassFile.FieldType) [] (rmPS B) #[.ref a, .int (Int32.ofNat ds.length), .ref x] h W (fun w h' W' => w = none ∧ ∃ y : Nat, Ow.SBo Z h' a (.ref y) (Int32.ofNat (mx u k)) ds.length ∧ ArI Z h' y .byte (Ow.enc (mx u k) (ds ++ cs) ++ List.replicate ((mx u k + 1) * r) 0) ∧ Exa Z h' y "[B" ∧ a ≠ y ∧ Ow.Sg (mx u k) (ds ++ cs) ∧ Keep h h' [a, v] ∧ (y = v ∨ h.size ≤ y) ∧ y ∈ W') := by
  refine Ow.Con.intro (a0 := a0) pn_30 (ewG G) (saG G) bbG [.val (.ref a), .val (.int (Int32.ofNat ds.length)), .val (.ref x)] (by first | exact Ow.locals_all (by simp [Value.category]) rfl | rfl | (simp [argsToLocals, Value.category]; done)) ?_
  intro p e s m below meth c C hO
  have hT := T.lt
  refine Ow.aloadN C dPS_0 (pc' := 1) rfl rfl rfl ?_
  refine Ow.aloadN C dPS_1 (pc' := 2) rfl rfl rfl ?_
  refine Ow.callNW C (y := (⟨"java/lang/AbstractStringBuilder", "inflateIfNeededFor", "(Ljava/lang/String;)V"⟩ : MethodName)) (z := (⟨"java/lang/AbstractStringBuilder", "inflateIfNeededFor", "(Ljava/lang/String;)V"⟩ : MethodName)) (tw79 G.1) (Ow.declares_of (tw80 G.1) (tw83 G.1)) (tw82 G.1) rfl (tw82 G.1) (tw80 G.1) (tw38 G.1) (tw83 G.1) (by decide) S.o.exa (con_IN G B a v u x d k cs ds (cs.length + r) h W S T ha hv hB hB2) (fun _ q => q) pd_19 rfl rfl rfl dPS_2 (pc' := 5) rfl (Wt := 0) (Nat.le_refl _) (by first | decide | (dsimp only; omega) | (simp [Value.category]; done) | (simp [Value.category]; omega)) (by first | decide | (dsimp only; omega) | (simp [Value.category]; done) | (simp [Value.category]; omega)) (by first | decide | (dsimp only; omega) | (simp [Value.category]; done) | (simp [Value.category]; omega)) (by first | decide | (dsimp only; omega) | (simp [Value.category]; done) | (simp [Value.category]; omega)) (fun v1 h1 W1 ⟨e1, y, S1, K1, g1, m1⟩ s1 => ?_)
  subst e1
  dsimp only [Option.toList, List.cons_append, List.nil_append]
  have T1 := T.keep K1 (Ow.nin1 hxa) (Ow.nin1 hda)
  have hdy : d ≠ y := by rcases g1 with rfl | g1 <;> omega
  have hsg : Ow.Sg (mx u k) cs := by
    have := T.sg
    unfold mx
    split
    · exact this
    · rcases S.sg.u with e | e
      · omega
      · rw [e]; exact this.up
  have hku : k = mx u k ∨ (k = 0 ∧ mx u k = 1) := by
    unfold mx
    rcases S.sg.u with e | e <;> rcases T.sg.u with e' | e' <;> simp [e, e']
  refine Ow.aloadN C dPS_5 (pc' := 6) rfl rfl rfl ?_
  refine Ow.aloadN C dPS_6 (pc' := 7) rfl rfl rfl ?_
  refine Ow.getF C (tw42 G.1) S1.o.val dPS_7 (pc' := 10) rfl ?_
  refine Ow.iloadN C dPS_10 (pc' := 11) rfl rfl ?_
  refine Ow.aloadN C dPS_11 (pc' := 12) rfl rfl rfl ?_
  refine Ow.getF C (tw44 G.1) S1.o.cod dPS_12 (pc' := 15) rfl ?_
  refine Ow.callV C (y := (⟨"java/lang/String", "getBytes", "([BIB)V"⟩ : MethodName)) (z := (⟨"java/lang/String", "getBytes", "([BIB)V"⟩ : MethodName)) (tw85 G.1) (tw86 G.1) (tw88 G.1) (tw88 G.1) (tw87 G.1) (tw2 G.1) (tw89 G.1) (by decide) T1.exa (con_GB G x d k y (mx u k) cs ds r h1 _ T1 S1.ar S1.sg.u hku hdy (by simp [m1])) (fun _ q => q) pd_20 rfl rfl rfl dPS_15 (pc' := 18) rfl (Wt := 0) (Nat.le_refl _) (by first | decide | (dsimp only; omega) | (simp [Value.category]; done) | (simp [Value.category]; omega)) (by first | decide | (dsimp only; omega) | (simp [Value.category]; done) | (simp [Value.category]; omega)) (by first | decide | (dsimp only; omega) | (simp [Value.category]; done) | (simp [Value.category]; omega)) (by first | decide | (dsimp only; omega) | (simp [Value.category]; done) | (simp [Value.category]; omega)) (fun v2 h2 W2 ⟨e2, K2, V2⟩ s2 => ?_)
  subst e2
  dsimp only [Option.toList, List.cons_append, List.nil_append]
  have K12 : Keep h h2 [a, v] := ((Keep.refl h [a, v]).trans K1 (fun z hz => Or.inl (by rw [List.mem_singleton.mp hz]; simp))).trans K2 (fun z hz => by
    rw [List.mem_singleton.mp hz]
    rcases g1 with g1 | g1
    · exact Or.inl (by rw [g1]; simp)
    · exact Or.inr g1)
  refine Ow.retV C rfl dPS_18 (by first | decide | (dsimp only; omega) | (simp [Value.category]; done) | (simp [Value.category]; omega)) (by first | decide | (dsimp only; omega) | (simp [Value.category]; done) | (simp [Value.category]; omega)) (W1 ++ W) (by first | (simp; done) | (intro x hx; simp [hx]; done)) ⟨rfl, y, S1.o.keep K2 (Ow.nin1 S1.ne), V2, S1.ex.keep K2, S1.ne, S1.sg.app hsg, K12, g1, by simp [m1]⟩
/-- what ensureCapacityInternal does for an append: room for cs and r more -/
abbrev EnOk (l : Launch) (Z : State) (rmE : Room) (a v u : Nat) (ds : List Int32) (q r : Nat) (h : Heap) (W : List Nat) : Prop :=
  Ow.Con l Z EL1 bb (⟨"java/lang/AbstractStringBuilder", "ensureCapacityInternal", "(I)V"⟩ : MethodName) jdk_68_method_9_code 3 (Option.none : Option Jvm.ClassFile.FieldType) [] rmE #[.ref a, .int (Int32.ofNat (ds.length + q))] h W (fun w h' W' => w = none ∧ ∃ y : Nat, Ow.SB Z h' a y u ds (q + r) ∧ Keep h h' [a] ∧ (y = v ∨ h.size ≤ y) ∧ y ∈ W')
theorem en0 (G : Glob Z a0) (a v u : Nat) (ds : List Int32) (q r : Nat) (h : Heap) (W : List Nat) (S : Ow.SB Z h a v u ds (q + r)) (hv : v ∈ W) : EnOk l Z rm0 a v u ds q r h W :=
  (con_EN0 G a v u ds (q + r) (ds.length + q) h W S (by omega)).mono fun w h' W' ⟨e, e', eW⟩ => by subst e e' eW; exact ⟨rfl, v, S, Keep.refl _ _, Or.inl rfl, hv⟩
theorem shrNar {u i : Nat} (hu : u = 0 ∨ u = 1) (hi : (u + 1) * i < 2 ^ 31) : Int32.ofNat ((u + 1) * i) >>> (nar .byte (Int32.ofNat u) &&& 31) = Int32.ofNat i := by rw [Ow.narU hu]; exact Ow.shrU hu hi
theorem con_LNk (G : Glob Z a0) (a d u : Nat) (cs : List Int32) (h : Heap) (W : List Nat) (S : Ow.StrK Z h a d u cs) :
    Ow.Con l Z EL1 bb (⟨"java/lang/String", "length", "()I"⟩ : MethodName) jdk_42_method_54_code 1 (Option.some Jvm.ClassFile.FieldType.int) [] rmLN #[.ref a] h W (fun v h' W' => v = some (.int (Int32.ofNat cs.length)) ∧ h' = h) := by
  refine Ow.Con.intro (a0 := a0) pn_6 (ewG G) (saG G) bbG [.val (.ref a)] (by first | exact Ow.locals_all (by simp [Value.category]) rfl | rfl | (simp [argsToLocals, Value.category]; done)) ?_
  intro p e s m below meth c C hO
  refine Ow.aloadN C dLN_0 (pc' := 1) rfl rfl rfl ?_
  refine Ow.getF C (tw20 G.1) S.val dLN_1 (pc' := 4) rfl ?_
  refine Ow.arrlen C S.ar dLN_4 (pc' := 5) rfl ?_
  rw [Ow.enc_len S.sg.u]
  refine Ow.aloadN C dLN_5 (pc' := 6) rfl rfl rfl ?_
  refine Ow.callV C (y := (⟨"java/lang/String", "coder", "()B"⟩ : MethodName)) (z := (⟨"java/lang/String", "coder", "()B"⟩ : MethodName)) (tw61 G.1) (tw62 G.1) (tw64 G.1) (tw64 G.1) (tw63 G.1) (tw2 G.1) (tw65 G.1) (by decide) S.exa (con_CO G a _ h W S.cod) (fun _ q => q) pd_4 rfl rfl rfl dLN_6 (pc' := 9) rfl (Wt := 1) (Nat.le_refl _) (by first | decide | (dsimp only; omega) | (simp [Value.category]; done) | (simp [Value.category]; omega)) (by first | decide | (dsimp only; omega) | (simp [Value.category]; done) | (simp [Value.category]; omega)) (by first | decide | (dsimp only; omega) | (simp [Value.category]; done) | (simp [Value.category]; omega)) (by first | decide | (dsimp only; omega) | (simp [Value.category]; done) | (simp [Value.category]; omega)) (fun v1 h1 W1 ⟨e1, e1'⟩ s1 => ?_)
  subst e1 e1'
  dsimp only [Option.toList, List.cons_append, List.nil_append]
  refine Ow.ishr C dLN_9 (pc' := 10) rfl ?_
  rw [shrNar S.sg.u S.len]
  refine Ow.retI C rfl dLN_10 (by first | decide | (dsimp only; omega) | (simp [Value.category]; done) | (simp [Value.category]; omega)) (by first | decide | (dsimp only; omega) | (simp [Value.category]; done) | (simp [Value.category]; omega)) [] (by first | (simp; done) | (intro x hx; simp [hx]; done)) ⟨rfl, rfl⟩
abbrev rmAA (rmE : Room) (B : Nat) : Room := { frames := 8, cells := rmE.cells + 1, slots := rmE.slots + B, locals := 116 }
set_option maxHeartbeats 4000000 in
theorem con_AA (G : Glob Z a0) (rmE : Room) (B a v u x d k : Nat) (cs ds : List Int32) (r : Nat) (h : Heap) (W : List Nat) (S : Ow.SBo Z h a (.ref v) (Int32.ofNat u) ds.length) (M : EnOk l Z rmE a v u ds cs.length r h W) (T : Ow.StrK Z h x d k cs) (ha : a ∈ W) (hxa : x ≠ a) (hda : d ≠ a) (hdv : d ≠ v) (hB : 2 * (ds.length + (cs.length + r)) ≤ B) (hB2 : B ≤ 4000) (hf : rmE.frames ≤ 6) (hlc : rmE.locals ≤ 80) :
    Ow.Con l Z EL1 bb (⟨"java/lang/AbstractStringBuilder", "append", "(Ljava/lang/String;)Ljava/lang/AbstractStringBuilder;"⟩ : MethodName) jdk_68_method_22_code 3 (Option.some (Jvm.ClassFile.FieldType.object "java/lang/AbstractStringBuilder")) [] (rmAA rmE B) #[.ref a, .ref x] h W (fun w h' W' => w = some (.ref a) ∧ ∃ y : Nat, Ow.SB Z h' a y (mx u k) (ds ++ cs) r ∧ Keep h h' [a, v] ∧ (y = v ∨ h.size ≤ y) ∧ y ∈ W') := by
  have hT := T.lt
  refine Ow.Con.intro (a0 := a0) pn_31 (ewG G) (saG G) bbG [.val (.ref a), .val (.ref x), .unset] (by first | exact Ow.locals_all (by simp [Value.category]) rfl | rfl | (simp [argsToLocals, Value.category]; done)) ?_
  intro p e s m below meth c C hO
  refine Ow.aloadN C dAA_0 (pc' := 1) rfl rfl rfl ?_
  refine Ow.ifnonnullY C 9 dAA_1 (by decide) (by decide) ?_
  refine Ow.aloadN C dAA_9 (pc' := 10) rfl rfl rfl ?_
  refine Ow.callV C (y := (⟨"java/lang/String", "length", "()I"⟩ : MethodName)) (z := (⟨"java/lang/String", "length", "()I"⟩ : MethodName)) (tw56 G.1) (tw57 G.1) (tw59 G.1) (tw59 G.1) (tw58 G.1) (tw2 G.1) (tw60 G.1) (by decide) T.exa (con_LNk G x d k cs h W T) (fun _ q => q) pd_21 rfl rfl rfl dAA_10 (pc' := 13) rfl (Wt := 0) (Nat.le_refl _) (by first | decide | (dsimp only; omega) | (simp [Value.category]; done) | (simp [Value.category]; omega)) (by first | decide | (dsimp only; omega) | (simp [Value.category]; done) | (simp [Value.category]; omega)) (by first | decide | (dsimp only; omega) | (simp [Value.category]; done) | (simp [Value.category]; omega)) (by first | decide | (dsimp only; omega) | (simp [Value.category]; done) | (simp [Value.category]; omega)) (fun v1 h1 W1 ⟨e1, e1'⟩ s1 => ?_)
  subst e1 e1'
  dsimp only [Option.toList, List.cons_append, List.nil_append]
  refine Ow.istoreN C dAA_13 (pc' := 14) rfl rfl ?_
  dsimp only [List.set]
  refine Ow.aloadN C dAA_14 (pc' := 15) rfl rfl rfl ?_
  refine Ow.aloadN C dAA_15 (pc' := 16) rfl rfl rfl ?_
  refine Ow.getF C (tw67 G.1) S.cnt dAA_16 (pc' := 19) rfl ?_
  refine Ow.iloadN C dAA_19 (pc' := 20) rfl rfl ?_
  refine Ow.iadd C dAA_20 (pc' := 21) rfl ?_
  rw [Ow.add_ofNat (by omega)]
  refine Ow.callNW C (y := (⟨"java/lang/AbstractStringBuilder", "ensureCapacityInternal", "(I)V"⟩ : MethodName)) (z := (⟨"java/lang/AbstractStringBuilder", "ensureCapacityInternal", "(I)V"⟩ : MethodName)) (tw69 G.1) (Ow.declares_of (tw70 G.1) (tw73 G.1)) (tw72 G.1) rfl (tw72 G.1) (tw70 G.1) (tw38 G.1) (tw73 G.1) (by decide) S.exa (M) (fun _ q => q) pd_22 rfl rfl rfl dAA_21 (pc' := 24) rfl (Wt := 0) (Nat.le_refl _) (by first | decide | (dsimp only; omega) | (simp [Value.category]; done) | (simp [Value.category]; omega)) (by first | decide | (dsimp only; omega) | (simp [Value.category]; done) | (simp [Value.category]; omega)) (by first | decide | (dsimp only; omega) | (simp [Value.category]; done) | (simp [Value.category]; omega)) (by first | decide | (dsimp only; omega) | (simp [Value.category]; done) | (simp [Value.category]; omega)) (fun v2 h2 W2 ⟨e2, y, S2, K2, g2, m2⟩ s2 => ?_)
  subst e2
  dsimp only [Option.toList, List.cons_append, List.nil_append]
  have T2 := T.keep K2 (Ow.nin1 hxa) (Ow.nin1 hda)
  have hdy : d ≠ y := by rcases g2 with g2 | g2 <;> omega
  refine Ow.aloadN C dAA_24 (pc' := 25) rfl rfl rfl ?_
  refine Ow.aloadN C dAA_25 (pc' := 26) rfl rfl rfl ?_
  refine Ow.getF C (tw67 G.1) S2.o.cnt dAA_26 (pc' := 29) rfl ?_
  refine Ow.aloadN C dAA_29 (pc' := 30) rfl rfl rfl ?_
  refine Ow.callNW C (y := (⟨"java/lang/AbstractStringBuilder", "putStringAt", "(ILjava/lang/String;)V"⟩ : MethodName)) (z := (⟨"java/lang/AbstractStringBuilder", "putStringAt", "(ILjava/lang/String;)V"⟩ : MethodName)) (tw74 G.1) (Ow.declares_of (tw75 G.1) (tw78 G.1)) (tw77 G.1) rfl (tw77 G.1) (tw75 G.1) (tw38 G.1) (tw78 G.1) (by decide) S2.o.exa (con_PS G B a y u x d k cs ds r h2 _ S2 T2 (by simp [ha]) (by simp [m2]) hxa hda hdy hB hB2) (fun _ q => q) pd_23 rfl rfl rfl dAA_30 (pc' := 33) rfl (Wt := 0) (Nat.le_refl _) (by first | decide | (dsimp only; omega) | (simp [Value.category]; done) | (simp [Value.category]; omega)) (by first | decide | (dsimp only; omega) | (simp [Value.category]; done) | (simp [Value.category]; omega)) (by first | decide | (dsimp only; omega) | (simp [Value.category]; done) | (simp [Value.category]; omega)) (by first | decide | (dsimp only; omega) | (simp [Value.category]; done) | (simp [Value.category]; omega)) (fun v3 h3 W3 ⟨e3, y3, O3, A3, X3, n3, g3, K3, f3, m3⟩ s3 => ?_)
  subst e3
  dsimp only [Option.toList, List.cons_append, List.nil_append]
  refine Ow.aloadN C dAA_33 (pc' := 34) rfl rfl rfl ?_
  refine Ow.dup C dAA_34 (pc' := 35) rfl rfl ?_
  refine Ow.getF C (tw67 G.1) O3.cnt dAA_35 (pc' := 38) rfl ?_
  refine Ow.iloadN C dAA_38 (pc' := 39) rfl rfl ?_
  refine Ow.iadd C dAA_39 (pc' := 40) rfl ?_
  rw [Ow.add_ofNat (by omega), ← List.length_append]
  refine Ow.putF C (tw67 G.1) O3.cnt O3.exa (Or.inl (tw68 G.1)) (tw29 G.1) (ty := .int) (by decide) rfl rfl (by first | assumption | (simp; done) | (simp [*]; done)) dAA_40 (pc' := 43) rfl (fun h4 w4 K4 F4 => ?_)
  have O4 := sbN G O3 K4 w4 F4
  refine Ow.aloadN C dAA_43 (pc' := 44) rfl rfl rfl ?_
  have hsz : h1.size ≤ h2.size := K2.1
  refine Ow.retA C rfl rfl rfl dAA_44 (by first | decide | (dsimp only; omega) | (simp [Value.category]; done) | (simp [Value.category]; omega)) (by first | decide | (dsimp only; omega) | (simp [Value.category]; done) | (simp [Value.category]; omega)) (W3 ++ (W2 ++ W)) (by first | (simp; done) | (intro x hx; simp [hx]; done)) ⟨rfl, y3, ⟨O4, A3.keep K4 (Ow.nin1 (Ne.symm n3)), X3.keep K4, n3, g3⟩, (((Keep.refl h1 [a, v]).trans K2 (fun z hz => Or.inl (by rw [List.mem_singleton.mp hz]; simp))).trans K3 (fun z hz => (List.mem_cons.mp hz).elim (fun e => Or.inl (by rw [e]; simp)) (fun hz => g2.elim (fun g2 => Or.inl (by rw [List.mem_singleton.mp hz, g2]; simp)) (fun g2 => Or.inr (by rw [List.mem_singleton.mp hz]; exact g2))))).trans K4 (fun z hz => Or.inl (by rw [List.mem_singleton.mp hz]; simp)), by rcases f3 with f3 | f3 <;> rcases g2 with g2 | g2 <;> omega, by simp [m3]⟩
abbrev rmAB (rmE : Room) (B : Nat) : Room := { frames := 9, cells := rmE.cells + 1, slots := rmE.slots + B, locals := 130 }
set_option maxHeartbeats 4000000 in
theorem con_AB (G : Glob Z a0) (rmE : Room) (B a v u x d k : Nat) (cs ds : List Int32) (r : Nat) (h : Heap) (W : List Nat) (S : Ow.SBo Z h a (.ref v) (Int32.ofNat u) ds.length) (M : EnOk l Z rmE a v u ds cs.length r h W) (T : Ow.StrK Z h x d k cs) (ha : a ∈ W) (hxa : x ≠ a) (hda : d ≠ a) (hdv : d ≠ v) (hB : 2 * (ds.length + (cs.length + r)) ≤ B) (hB2 : B ≤ 4000) (hf : rmE.frames ≤ 6) (hlc : rmE.locals ≤ 80) :
    Ow.Con l Z EL1 bb (⟨"java/lang/StringBuilder", "append", "(Ljava/lang/String;)Ljava/lang/StringBuilder;"⟩ : MethodName) jdk_67_method_7_code 2 (Option.some (Jvm.ClassFile.FieldType.object "java/lang/StringBuilder")) [] (rmAB rmE B) #[.ref a, .ref x] h W (fun w h' W' => w = some (.ref a) ∧ ∃ y : Nat, Ow.SB Z h' a y (mx u k) (ds ++ cs) r ∧ Keep h h' [a, v] ∧ (y = v ∨ h.size ≤ y) ∧ y ∈ W') := by
  refine Ow.Con.intro (a0 := a0) pn_32 (ewG G) (saG G) bbG [.val (.ref a), .val (.ref x)] (by first | exact Ow.locals_all (by simp [Value.category]) rfl | rfl | (simp [argsToLocals, Value.category]; done)) ?_
  intro p e s m below meth c C hO
  refine Ow.aloadN C dAB_0 (pc' := 1) rfl rfl rfl ?_
  refine Ow.aloadN C dAB_1 (pc' := 2) rfl rfl rfl ?_
  refine Ow.callUW C (y := (⟨"java/lang/AbstractStringBuilder", "append", "(Ljava/lang/String;)Ljava/lang/AbstractStringBuilder;"⟩ : MethodName)) (by decide) (tw51 G.1) (Ow.same_of (y := (⟨"java/lang/AbstractStringBuilder", "append", "(Ljava/lang/String;)Ljava/lang/AbstractStringBuilder;"⟩ : MethodName)) (tw52 G.1) (tw72 G.1) rfl (by decide)) (tw52 G.1) (tw53 G.1) (tw38 G.1) (tw55 G.1) ((Ins.self S.exa)) (con_AA G rmE B a v u x d k cs ds r h W S M T ha hxa hda hdv hB hB2 hf hlc) (fun _ q => q) pd_24 rfl rfl rfl dAB_2 (pc' := 5) rfl (Wt := 0) (Nat.le_refl _) (by first | decide | (dsimp only; omega) | (simp [Value.category]; done) | (simp [Value.category]; omega)) (by first | decide | (dsimp only; omega) | (simp [Value.category]; done) | (simp [Value.category]; omega)) (by first | decide | (dsimp only; omega) | (simp [Value.category]; done) | (simp [Value.category]; omega)) (by first | decide | (dsimp only; omega) | (simp [Value.category]; done) | (simp [Value.category]; omega)) (fun v1 h1 W1 ⟨e1, y, S1, K1, g1, m1⟩ s1 => ?_)
  subst e1
  dsimp only [Option.toList, List.cons_append, List.nil_append]
  refine Ow.pop C dAB_5 (pc' := 6) rfl rfl ?_
  refine Ow.aloadN C dAB_6 (pc' := 7) rfl rfl rfl ?_
  refine Ow.retA C rfl rfl rfl dAB_7 (by first | decide | (dsimp only; omega) | (simp [Value.category]; done) | (simp [Value.category]; omega)) (by first | decide | (dsimp only; omega) | (simp [Value.category]; done) | (simp [Value.category]; omega)) W1 (by first | (simp; done) | (intro x hx; simp [hx]; done)) ⟨rfl, y, S1, K1, g1, m1⟩
theorem con_GV (G : Glob Z a0) (a v : Nat) (h : Heap) (W : List Nat) (F : Fld Z h a Ow.ASB "value" "[B" (.ref v)) : Ow.Con l Z EL1 bb (⟨"java/lang/AbstractStringBuilder", "getValue", "()[B"⟩ : MethodName) jdk_68_method_64_code 1 (Option.some (Jvm.ClassFile.FieldType.array Jvm.ClassFile.FieldType.byte)) [] rm0 #[.ref a] h W (fun w h' W' => w = some (.ref v) ∧ h' = h) := by
  refine Ow.Con.intro (a0 := a0) pn_33 (ewG G) (saG G) bbG [.val (.ref a)] (by first | exact Ow.locals_all (by simp [Value.category]) rfl | rfl | (simp [argsToLocals, Value.category]; done)) ?_
  intro p e s m below meth c C hO
  refine Ow.aloadN C dGV_0 (pc' := 1) rfl rfl rfl ?_
  refine Ow.getF C (tw42 G.1) F dGV_1 (pc' := 4) rfl ?_
  refine Ow.retA C rfl rfl rfl dGV_4 (by first | decide | (dsimp only; omega) | (simp [Value.category]; done) | (simp [Value.category]; omega)) (by first | decide | (dsimp only; omega) | (simp [Value.category]; done) | (simp [Value.category]; omega)) [] (by first | (simp; done) | (intro x hx; simp [hx]; done)) ⟨rfl, rfl⟩
theorem con_AL (G : Glob Z a0) (a n : Nat) (h : Heap) (W : List Nat) (F : Fld Z h a Ow.ASB "count" "I" (.int (Int32.ofNat n))) : Ow.Con l Z EL1 bb (⟨"java/lang/AbstractStringBuilder", "length", "()I"⟩ : MethodName) jdk_68_method_6_code 1 (Option.some Jvm.ClassFile.FieldType.int) [] rm0 #[.ref a] h W (fun w h' W' => w = some (.int (Int32.ofNat n)) ∧ h' = h) := by
  refine Ow.Con.intro (a0 := a0) pn_34 (ewG G) (saG G) bbG [.val (.ref a)] (by first | exact Ow.locals_all (by simp [Value.category]) rfl | rfl | (simp [argsToLocals, Value.category]; done)) ?_
  intro p e s m below meth c C hO
  refine Ow.aloadN C dAL_0 (pc' := 1) rfl rfl rfl ?_
  refine Ow.getF C (tw67 G.1) F dAL_1 (pc' := 4) rfl ?_
  refine Ow.retI C rfl dAL_4 (by first | decide | (dsimp only; omega) | (simp [Value.category]; done) | (simp [Value.category]; omega)) (by first | decide | (dsimp only; omega) | (simp [Value.category]; done) | (simp [Value.category]; omega)) [] (by first | (simp; done) | (intro x hx; simp [hx]; done)) ⟨rfl, rfl⟩
abbrev rmBN : Room := { frames := 1, cells := 0, slots := 0, locals := 12 }
theorem con_BN (G : Glob Z a0) (a n : Nat) (vv : Value) (u : Int32) (h : Heap) (W : List Nat) (S : Ow.SBo Z h a vv u n) : Ow.Con l Z EL1 bb (⟨"java/lang/StringBuilder", "length", "()I"⟩ : MethodName) jdk_67_method_93_code 1 (Option.some Jvm.ClassFile.FieldType.int) [] rmBN #[.ref a] h W (fun w h' W' => w = some (.int (Int32.ofNat n)) ∧ h' = h) := by
  refine Ow.Con.intro (a0 := a0) pn_35 (ewG G) (saG G) bbG [.val (.ref a)] (by first | exact Ow.locals_all (by simp [Value.category]) rfl | rfl | (simp [argsToLocals, Value.category]; done)) ?_
  intro p e s m below meth c C hO
  refine Ow.aloadN C dBN_0 (pc' := 1) rfl rfl rfl ?_
  refine Ow.callU C (y := (⟨"java/lang/AbstractStringBuilder", "length", "()I"⟩ : MethodName)) (by decide) (tw119 G.1) (Ow.same_of (y := (⟨"java/lang/AbstractStringBuilder", "length", "()I"⟩ : MethodName)) (tw115 G.1) (tw72 G.1) rfl (by decide)) (tw115 G.1) (tw53 G.1) (tw38 G.1) (tw120 G.1) ((Ins.self S.exa)) (con_AL G a n h W S.cnt) (fun _ q => q) pd_21 rfl rfl rfl dBN_1 (pc' := 4) rfl (Wt := 0) (Nat.le_refl _) (by first | decide | (dsimp only; omega) | (simp [Value.category]; done) | (simp [Value.category]; omega)) (by first | decide | (dsimp only; omega) | (simp [Value.category]; done) | (simp [Value.category]; omega)) (by first | decide | (dsimp only; omega) | (simp [Value.category]; done) | (simp [Value.category]; omega)) (by first | decide | (dsimp only; omega) | (simp [Value.category]; done) | (simp [Value.category]; omega)) (fun v1 h1 W1 ⟨e1, e1'⟩ s1 => ?_)
  subst e1 e1'
  dsimp only [Option.toList, List.cons_append, List.nil_append]
  refine Ow.retI C rfl dBN_4 (by first | decide | (dsimp only; omega) | (simp [Value.category]; done) | (simp [Value.category]; omega)) (by first | decide | (dsimp only; omega) | (simp [Value.category]; done) | (simp [Value.category]; omega)) [] (by first | (simp; done) | (intro x hx; simp [hx]; done)) ⟨rfl, rfl⟩
/-- copyOfRange(v, 0, j) -/
abbrev CrOk (l : Launch) (Z : State) (B v : Nat) (xs : List Int32) (j : Nat) (h : Heap) (W : List Nat) : Prop :=
  Ow.Con l Z EL1 bb (⟨"java/util/Arrays", "copyOfRange", "([BII)[B"⟩ : MethodName) jdk_65_method_132_code 3 (Option.some (Jvm.ClassFile.FieldType.array Jvm.ClassFile.FieldType.byte)) [] (rmCR B) #[.ref v, .int (Int32.ofNat 0), .int (Int32.ofNat j)] h W (fun w h' W' => ∃ y : Nat, w = some (.ref y) ∧ ArI Z h' y .byte ((xs.drop 0).take (j - 0)) ∧ Keep h h' [] ∧ h.size ≤ y)
abbrev rmI3 (B : Nat) : Room := { frames := 3, cells := 1, slots := B, locals := 49 }
set_option maxHeartbeats 4000000 in
theorem con_I3 (G : Glob Z a0) (B a v u x : Nat) (cs : List Int32) (r : Nat) (h : Heap) (W : List Nat) (S : Ow.SB Z h a v u cs r) (M : ∀ h', Keep h h' [x] → ∀ W', CrOk l Z B v (Ow.enc u cs ++ List.replicate ((u + 1) * r) 0) ((u + 1) * cs.length) h' W') (ov oc : Value) (A : Exa Z h x "java/lang/String") (Fv : Fld Z h x "java/lang/String" "value" "[B" ov) (Fc : Fld Z h x "java/lang/String" "coder" "B" oc) (hx : x ∈ W) (hxa : x ≠ a) (hxv : x ≠ v) :
    Ow.Con l Z EL1 bb (⟨"java/lang/String", "<init>", "(Ljava/lang/AbstractStringBuilder;Ljava/lang/Void;)V"⟩ : MethodName) jdk_42_method_150_code 5 (Option.none : Option Jvm.ClassFile.FieldType) [] (rmI3 B) #[.ref x, .ref a, .null] h W (fun w h' W' => w = none ∧ ∃ d : Nat, Ow.StrK Z h' x d u cs ∧ Keep h h' [x] ∧ h.size ≤ d) := by
  obtain ⟨cv, hcv, hst⟩ := G.2.1
  have hlen := S.len
  have hxL : x < h.size := A.lt
  have htk : List.take ((u + 1) * cs.length - 0) (List.drop 0 (Ow.enc u cs ++ List.replicate ((u + 1) * r) 0)) = Ow.enc u cs := by
    rw [List.drop_zero, Nat.sub_zero, ← Ow.enc_len S.sg.u, List.take_left' rfl]
  have hcl : (u + 1) * cs.length < 2 ^ 31 := by have := Nat.mul_add (u + 1) cs.length r; omega
  refine Ow.Con.intro (a0 := a0) pn_36 (ewG G) (saG G) bbG [.val (.ref x), .val (.ref a), .val .null, .unset, .unset] (by first | exact Ow.locals_all (by simp [Value.category]) rfl | rfl | (simp [argsToLocals, Value.category]; done)) ?_
  intro p e s m below meth c C hO
  refine Ow.aloadN C dI3_0 (pc' := 1) rfl rfl rfl ?_
  refine Ow.initO C (tw11 G.1) (tw12 G.1) (tw13 G.1) dI3_1 (pc' := 4) rfl rfl (by first | decide | (dsimp only; omega) | (simp [Value.category]; done) | (simp [Value.category]; omega)) (by first | decide | (dsimp only; omega) | (simp [Value.category]; done) | (simp [Value.category]; omega)) ?_
  refine Ow.aloadN C dI3_4 (pc' := 5) rfl rfl rfl ?_
  refine Ow.callN C (y := (⟨"java/lang/AbstractStringBuilder", "getValue", "()[B"⟩ : MethodName)) (z := (⟨"java/lang/AbstractStringBuilder", "getValue", "()[B"⟩ : MethodName)) (tw108 G.1) (tw109 G.1) (tw111 G.1) rfl (tw111 G.1) (tw110 G.1) (tw38 G.1) (tw112 G.1) (by decide) S.o.exa (con_GV G a v h W S.o.val) (fun _ q => q) pd_25 rfl rfl rfl dI3_5 (pc' := 8) rfl (Wt := 0) (Nat.le_refl _) (by first | decide | (dsimp only; omega) | (simp [Value.category]; done) | (simp [Value.category]; omega)) (by first | decide | (dsimp only; omega) | (simp [Value.category]; done) | (simp [Value.category]; omega)) (by first | decide | (dsimp only; omega) | (simp [Value.category]; done) | (simp [Value.category]; omega)) (by first | decide | (dsimp only; omega) | (simp [Value.category]; done) | (simp [Value.category]; omega)) (fun v1 h1 W1 ⟨e1, e1'⟩ s1 => ?_)
  subst e1 e1'
  dsimp only [Option.toList, List.cons_append, List.nil_append]
  refine Ow.astoreN C dI3_8 (pc' := 9) rfl rfl rfl ?_
  dsimp only [List.set]
  refine Ow.aloadN C dI3_9 (pc' := 10) rfl rfl rfl ?_
  refine Ow.callN C (y := (⟨"java/lang/AbstractStringBuilder", "length", "()I"⟩ : MethodName)) (z := (⟨"java/lang/StringBuilder", "length", "()I"⟩ : MethodName)) (tw113 G.1) (tw114 G.1) (tw72 G.1) rfl (tw116 G.1) (tw117 G.1) (tw30 G.1) (tw118 G.1) (by decide) S.o.exa (con_BN G a cs.length _ _ h1 W S.o) (fun _ q => q) pd_21 rfl rfl rfl dI3_10 (pc' := 13) rfl (Wt := 0) (Nat.le_refl _) (by first | decide | (dsimp only; omega) | (simp [Value.category]; done) | (simp [Value.category]; omega)) (by first | decide | (dsimp only; omega) | (simp [Value.category]; done) | (simp [Value.category]; omega)) (by first | decide | (dsimp only; omega) | (simp [Value.category]; done) | (simp [Value.category]; omega)) (by first | decide | (dsimp only; omega) | (simp [Value.category]; done) | (simp [Value.category]; omega)) (fun v2 h2 W2 ⟨e2, e2'⟩ s2 => ?_)
  subst e2 e2'
  dsimp only [Option.toList, List.cons_append, List.nil_append]
  refine Ow.istore C dI3_13 (pc' := 15) rfl rfl ?_
  dsimp only [List.set]
  refine Ow.aloadN C dI3_15 (pc' := 16) rfl rfl rfl ?_
  refine Ow.callN C (y := (⟨"java/lang/AbstractStringBuilder", "isLatin1", "()Z"⟩ : MethodName)) (z := (⟨"java/lang/AbstractStringBuilder", "isLatin1", "()Z"⟩ : MethodName)) (tw121 G.1) (tw122 G.1) (tw124 G.1) rfl (tw124 G.1) (tw123 G.1) (tw38 G.1) (tw125 G.1) (by decide) S.o.exa (con_BL G a _ h2 W S.o.cod) (fun _ q => q) pd_17 rfl rfl rfl dI3_16 (pc' := 19) rfl (Wt := 0) (Nat.le_refl _) (by first | decide | (dsimp only; omega) | (simp [Value.category]; done) | (simp [Value.category]; omega)) (by first | decide | (dsimp only; omega) | (simp [Value.category]; done) | (simp [Value.category]; omega)) (by first | decide | (dsimp only; omega) | (simp [Value.category]; done) | (simp [Value.category]; omega)) (by first | decide | (dsimp only; omega) | (simp [Value.category]; done) | (simp [Value.category]; omega)) (fun v3 h3 W3 ⟨e3, e3'⟩ s3 => ?_)
  rcases S.sg.u with hu | hu
  · subst hu
    rw [show (if Int32.ofNat 0 = 0 then (1 : Int32) else 0) = 1 from rfl] at e3
    subst e3 e3'
    dsimp only [Option.toList, List.cons_append, List.nil_append]
    refine Ow.ifCN C dI3_19 (pc' := 22) rfl (XT.i0_eq_f (by decide)) ?_
    refine Ow.aloadN C dI3_22 (pc' := 23) rfl rfl rfl ?_
    refine Ow.iconst C (0 : Int32) dI3_23 (pc' := 24) rfl rfl ?_
    refine Ow.putF C (tw21 G.1) Fc A (Or.inr ⟨(tw17 G.1), rfl, rfl⟩) (tw1 G.1) (ty := .byte) (by decide) rfl rfl (by first | assumption | (simp; done) | (simp [*]; done)) dI3_24 (pc' := 27) rfl (fun h4 w4 K4 Fc4 => ?_)
    have Fv4 := Fv.other w4 (Or.inr (slot_ne (Or.inr (tw16 G.1)) (Or.inr (tw17 G.1)) (by decide) (t := .array .byte) (t' := .byte) (by decide) (by decide)))
    have A4 := A.keep K4
    refine Ow.aloadN C dI3_27 (pc' := 28) rfl rfl rfl ?_
    refine Ow.aloadN C dI3_28 (pc' := 29) rfl rfl rfl ?_
    refine Ow.iconst C (0 : Int32) dI3_29 (pc' := 30) rfl rfl ?_
    refine Ow.iload C dI3_30 (pc' := 32) rfl rfl ?_
    have M4 := M h4 K4 W
    rw [show (0 + 1) * cs.length = cs.length by omega] at M4 htk
    refine Ow.callS C (tw126 G.1) (tw127 G.1) (tw128 G.1) (tw129 G.1) (by decide) (M4) (fun _ q => q) pd_11 rfl rfl rfl dI3_32 (pc' := 35) rfl (Wt := 1) (Nat.le_refl _) (by first | decide | (dsimp only; omega) | (simp [Value.category]; done) | (simp [Value.category]; omega)) (by first | decide | (dsimp only; omega) | (simp [Value.category]; done) | (simp [Value.category]; omega)) (by first | decide | (dsimp only; omega) | (simp [Value.category]; done) | (simp [Value.category]; omega)) (by first | decide | (dsimp only; omega) | (simp [Value.category]; done) | (simp [Value.category]; omega)) (fun v5 h5 W5 ⟨d, e5, D5, K5, g5⟩ s5 => ?_)
    subst e5
    dsimp only [Option.toList, List.cons_append, List.nil_append]
    rw [htk] at D5
    have A5 := A4.keep K5
    have Fv5 := Fv4.keep K5 nin0
    have Fc5 := Fc4.keep K5 nin0
    refine Ow.putF C (tw20 G.1) Fv5 A5 (Or.inr ⟨(tw16 G.1), rfl, rfl⟩) (tw1 G.1) (ty := (.array .byte)) (by decide) rfl rfl (by first | assumption | (simp; done) | (simp [*]; done)) dI3_35 (pc' := 38) rfl (fun h6 w6 K6 Fv6 => ?_)
    have Fc6 := Fc5.other w6 (Or.inr (slot_ne (Or.inr (tw17 G.1)) (Or.inr (tw16 G.1)) (by decide) (t := .byte) (t' := .array .byte) (by decide) (by decide)))
    have hs4 : h3.size ≤ h4.size := K4.1
    have D6 := D5.keep K6 (Ow.nin1 (by omega))
    refine Ow.goto C 97 dI3_38 (by decide) (by decide) ?_
    refine Ow.retV C rfl dI3_97 (by first | decide | (dsimp only; omega) | (simp [Value.category]; done) | (simp [Value.category]; omega)) (by first | decide | (dsimp only; omega) | (simp [Value.category]; done) | (simp [Value.category]; omega)) [] (by first | (simp; done) | (intro x hx; simp [hx]; done)) ⟨rfl, d, ⟨A5.keep K6, Fv6, Fc6, D6, S.sg⟩, (((Keep.refl h3 [x]).trans K4 (fun _ q => Or.inl q)).trans K5 (fun z hz => by cases hz)).trans K6 (fun _ q => Or.inl q), by omega⟩
  · subst hu
    rw [if_neg (by decide)] at e3
    subst e3 e3'
    dsimp only [Option.toList, List.cons_append, List.nil_append]
    refine Ow.ifCY C 41 dI3_19 (XT.i0_eq_t (by decide)) (by decide) (by decide) ?_
    refine Ow.getS C (tw66 G.1) hst dI3_41 (pc' := 44) rfl ?_
    refine Ow.ifCN C dI3_44 (pc' := 47) rfl (XT.i0_eq_f hcv) ?_
    refine Ow.aloadN C dI3_47 (pc' := 48) rfl rfl rfl ?_
    refine Ow.getF C (tw306 G.1) S.o.may dI3_48 (pc' := 51) rfl ?_
    refine Ow.ifCY C 79 dI3_51 (XT.i0_eq_t (by decide)) (by decide) (by decide) ?_
    refine Ow.aloadN C dI3_79 (pc' := 80) rfl rfl rfl ?_
    refine Ow.iconst C (1 : Int32) dI3_80 (pc' := 81) rfl rfl ?_
    refine Ow.putF C (tw21 G.1) Fc A (Or.inr ⟨(tw17 G.1), rfl, rfl⟩) (tw1 G.1) (ty := .byte) (by decide) rfl rfl (by first | assumption | (simp; done) | (simp [*]; done)) dI3_81 (pc' := 84) rfl (fun h4 w4 K4 Fc4 => ?_)
    have Fv4 := Fv.other w4 (Or.inr (slot_ne (Or.inr (tw16 G.1)) (Or.inr (tw17 G.1)) (by decide) (t := .array .byte) (t' := .byte) (by decide) (by decide)))
    have A4 := A.keep K4
    refine Ow.aloadN C dI3_84 (pc' := 85) rfl rfl rfl ?_
    refine Ow.aloadN C dI3_85 (pc' := 86) rfl rfl rfl ?_
    refine Ow.iconst C (0 : Int32) dI3_86 (pc' := 87) rfl rfl ?_
    refine Ow.iload C dI3_87 (pc' := 89) rfl rfl ?_
    refine Ow.iconst C (1 : Int32) dI3_89 (pc' := 90) rfl rfl ?_
    refine Ow.ishl C dI3_90 (pc' := 91) rfl ?_
    rw [Ow.shl_one (by omega)]
    refine Ow.callS C (tw126 G.1) (tw127 G.1) (tw128 G.1) (tw129 G.1) (by decide) (M h4 K4 W) (fun _ q => q) pd_11 rfl rfl rfl dI3_91 (pc' := 94) rfl (Wt := 1) (Nat.le_refl _) (by first | decide | (dsimp only; omega) | (simp [Value.category]; done) | (simp [Value.category]; omega)) (by first | decide | (dsimp only; omega) | (simp [Value.category]; done) | (simp [Value.category]; omega)) (by first | decide | (dsimp only; omega) | (simp [Value.category]; done) | (simp [Value.category]; omega)) (by first | decide | (dsimp only; omega) | (simp [Value.category]; done) | (simp [Value.category]; omega)) (fun v5 h5 W5 ⟨d, e5, D5, K5, g5⟩ s5 => ?_)
    subst e5
    dsimp only [Option.toList, List.cons_append, List.nil_append]
    rw [htk] at D5
    have A5 := A4.keep K5
    have Fv5 := Fv4.keep K5 nin0
    have Fc5 := Fc4.keep K5 nin0
    refine Ow.putF C (tw20 G.1) Fv5 A5 (Or.inr ⟨(tw16 G.1), rfl, rfl⟩) (tw1 G.1) (ty := (.array .byte)) (by decide) rfl rfl (by first | assumption | (simp; done) | (simp [*]; done)) dI3_94 (pc' := 97) rfl (fun h6 w6 K6 Fv6 => ?_)
    have Fc6 := Fc5.other w6 (Or.inr (slot_ne (Or.inr (tw17 G.1)) (Or.inr (tw16 G.1)) (by decide) (t := .byte) (t' := .array .byte) (by decide) (by decide)))
    have hs4 : h3.size ≤ h4.size := K4.1
    have D6 := D5.keep K6 (Ow.nin1 (by omega))
    refine Ow.retV C rfl dI3_97 (by first | decide | (dsimp only; omega) | (simp [Value.category]; done) | (simp [Value.category]; omega)) (by first | decide | (dsimp only; omega) | (simp [Value.category]; done) | (simp [Value.category]; omega)) [] (by first | (simp; done) | (intro x hx; simp [hx]; done)) ⟨rfl, d, ⟨A5.keep K6, Fv6, Fc6, D6, S.sg⟩, (((Keep.refl h3 [x]).trans K4 (fun _ q => Or.inl q)).trans K5 (fun z hz => by cases hz)).trans K6 (fun _ q => Or.inl q), by omega⟩
abbrev rmI2 (B : Nat) : Room := { frames := 4, cells := 1, slots := B, locals := 65 }
theorem con_I2 (G : Glob Z a0) (B a v u x : Nat) (cs : List Int32) (r : Nat) (h : Heap) (W : List Nat) (S : Ow.SB Z h a v u cs r) (M : ∀ h', Keep h h' [x] → ∀ W', CrOk l Z B v (Ow.enc u cs ++ List.replicate ((u + 1) * r) 0) ((u + 1) * cs.length) h' W') (ov oc : Value) (A : Exa Z h x "java/lang/String") (Fv : Fld Z h x "java/lang/String" "value" "[B" ov) (Fc : Fld Z h x "java/lang/String" "coder" "B" oc) (hx : x ∈ W) (hxa : x ≠ a) (hxv : x ≠ v) :
    Ow.Con l Z EL1 bb (⟨"java/lang/String", "<init>", "(Ljava/lang/StringBuilder;)V"⟩ : MethodName) jdk_42_method_53_code 2 (Option.none : Option Jvm.ClassFile.FieldType) [] (rmI2 B) #[.ref x, .ref a] h W (fun w h' W' => w = none ∧ ∃ d : Nat, Ow.StrK Z h' x d u cs ∧ Keep h h' [x] ∧ h.size ≤ d) := by
  refine Ow.Con.intro (a0 := a0) pn_37 (ewG G) (saG G) bbG [.val (.ref x), .val (.ref a)] (by first | exact Ow.locals_all (by simp [Value.category]) rfl | rfl | (simp [argsToLocals, Value.category]; done)) ?_
  intro p e s m below meth c C hO
  refine Ow.aloadN C dI2_0 (pc' := 1) rfl rfl rfl ?_
  refine Ow.aloadN C dI2_1 (pc' := 2) rfl rfl rfl ?_
  refine Ow.aconstNull C dI2_2 (pc' := 3) rfl ?_
  refine Ow.callI C rfl (tw105 G.1) (tw106 G.1) (tw2 G.1) (tw107 G.1) (by decide) (con_I3 G B a v u x cs r h W S M ov oc A Fv Fc hx hxa hxv) (fun _ q => q) pd_26 rfl rfl rfl dI2_3 (pc' := 6) rfl (Wt := 0) (Nat.le_refl _) (by first | decide | (dsimp only; omega) | (simp [Value.category]; done) | (simp [Value.category]; omega)) (by first | decide | (dsimp only; omega) | (simp [Value.category]; done) | (simp [Value.category]; omega)) (by first | decide | (dsimp only; omega) | (simp [Value.category]; done) | (simp [Value.category]; omega)) (by first | decide | (dsimp only; omega) | (simp [Value.category]; done) | (simp [Value.category]; omega)) (fun v1 h1 W1 ⟨e1, q1⟩ s1 => ?_)
  subst e1
  dsimp only [Option.toList, List.cons_append, List.nil_append]
  refine Ow.retV C rfl dI2_6 (by first | decide | (dsimp only; omega) | (simp [Value.category]; done) | (simp [Value.category]; omega)) (by first | decide | (dsimp only; omega) | (simp [Value.category]; done) | (simp [Value.category]; omega)) [] (by first | (simp; done) | (intro x hx; simp [hx]; done)) ⟨rfl, q1⟩
abbrev rmTS (B : Nat) : Room := { frames := 5, cells := 2, slots := 4 + B, locals := 79 }
theorem con_TS (G : Glob Z a0) (B a v u : Nat) (cs : List Int32) (r : Nat) (h : Heap) (W : List Nat) (S : Ow.SB Z h a v u cs r) (M : ∀ h', Keep h h' [] → ∀ W', CrOk l Z B v (Ow.enc u cs ++ List.replicate ((u + 1) * r) 0) ((u + 1) * cs.length) h' W') :
    Ow.Con l Z EL1 bb (⟨"java/lang/StringBuilder", "toString", "()Ljava/lang/String;"⟩ : MethodName) jdk_67_method_42_code 1 (Option.some (Jvm.ClassFile.FieldType.object "java/lang/String")) [] (rmTS B) #[.ref a] h W (fun w h' W' => ∃ x d : Nat, w = some (.ref x) ∧ Ow.StrK Z h' x d u cs ∧ Keep h h' [] ∧ h.size ≤ x ∧ h.size ≤ d) := by
  have hS := S.lt
  refine Ow.Con.intro (a0 := a0) pn_38 (ewG G) (saG G) bbG [.val (.ref a)] (by first | exact Ow.locals_all (by simp [Value.category]) rfl | rfl | (simp [argsToLocals, Value.category]; done)) ?_
  intro p e s m below meth c C hO
  refine Ow.newO C (tw101 G.1) (tw1 G.1) (tw2 G.1) dTS_0 (pc' := 3) rfl (by first | decide | (dsimp only; omega) | (simp [Value.category]; done) | (simp [Value.category]; omega)) (by first | decide | (dsimp only; omega) | (simp [Value.category]; done) | (simp [Value.category]; omega)) (fun h1 a1 s1 z1 l1 E1 ⟨A1, D1⟩ => ?_)
  have Fv1 := D1 (O := "java/lang/String") (f := "value") (d := "[B") (ty := .array .byte) (Or.inr (tw16 G.1)) (by decide)
  have Fc1 := D1 (O := "java/lang/String") (f := "coder") (d := "B") (ty := .byte) (Or.inr (tw17 G.1)) (by decide)
  refine Ow.dup C dTS_3 (pc' := 4) rfl rfl ?_
  refine Ow.aloadN C dTS_4 (pc' := 5) rfl rfl rfl ?_
  refine Ow.callI C rfl (tw102 G.1) (tw103 G.1) (tw2 G.1) (tw104 G.1) (by decide) (con_I2 G B a v u a1 cs r h1 _ (S.ext E1) (fun h' K' W' => M h' ((Ow.Keep.z E1).trans K' (fun z hz => Or.inr (by rw [List.mem_singleton.mp hz]; omega))) W') _ _ A1 Fv1 Fc1 (by simp) (by omega) (by omega)) (fun _ q => q) pd_27 rfl rfl rfl dTS_5 (pc' := 8) rfl (Wt := 1) (Nat.le_refl _) (by first | decide | (dsimp only; omega) | (simp [Value.category]; done) | (simp [Value.category]; omega)) (by first | decide | (dsimp only; omega) | (simp [Value.category]; done) | (simp [Value.category]; omega)) (by first | decide | (dsimp only; omega) | (simp [Value.category]; done) | (simp [Value.category]; omega)) (by first | decide | (dsimp only; omega) | (simp [Value.category]; done) | (simp [Value.category]; omega)) (fun v2 h2 W2 ⟨e2, d, S2, K2, g2⟩ s2 => ?_)
  subst e2
  dsimp only [Option.toList, List.cons_append, List.nil_append]
  have hE : h.size ≤ h1.size := E1.1
  refine Ow.retA C rfl rfl rfl dTS_8 (by first | decide | (dsimp only; omega) | (simp [Value.category]; done) | (simp [Value.category]; omega)) (by first | decide | (dsimp only; omega) | (simp [Value.category]; done) | (simp [Value.category]; omega)) [] (by first | (simp; done) | (intro x hx; simp [hx]; done)) ⟨a1, d, rfl, S2, (Ow.Keep.z E1).trans K2 (fun z hz => Or.inr (by rw [List.mem_singleton.mp hz]; omega)), by omega, by omega⟩
end StrSB

section StrGrow
variable {l : Launch} {Z : State} {a0 : Array Value}
set_option maxHeartbeats 4000000 in
/-- copyOfRange(d, 0, j), the whole array too -/
theorem con_CRc (G : Glob Z a0) (B d j : Nat) (xs : List Int32) (hjn : j ≤ xs.length) (hB : xs.length ≤ B) (hB2 : B ≤ 4000) (h : Heap) (W : List Nat) (D : ArI Z h d .byte xs) (X : Exa Z h d "[B") : CrOk l Z B d xs j h W := by
  by_cases hj : j = xs.length
  · have hN := D.2
    refine Ow.Con.intro (a0 := a0) pn_17 (ewG G) (saG G) bbG [.val (.ref d), .val (.int (Int32.ofNat 0)), .val (.int (Int32.ofNat j))] (by first | exact Ow.locals_all (by simp [Value.category]) rfl | rfl | (simp [argsToLocals, Value.category]; done)) ?_
    intro p e s m below meth c C hO
    refine Ow.iloadN C dCR_0 (pc' := 1) rfl rfl ?_
    refine Ow.ifCN C dCR_1 (pc' := 4) rfl (XT.i0_ne_f rfl) ?_
    refine Ow.iloadN C dCR_4 (pc' := 5) rfl rfl ?_
    refine Ow.aloadN C dCR_5 (pc' := 6) rfl rfl rfl ?_
    refine Ow.arrlen C D dCR_6 (pc' := 7) rfl ?_
    refine Ow.icmpY C 17 dCR_7 (XT.ii_eq_t (by rw [hj])) (by decide) (by decide) ?_
    refine Ow.aloadN C dCR_17 (pc' := 18) rfl rfl rfl ?_
    refine Ow.cloneI C (ad := "[B") (tw130 G.1) (tw131 G.1) (tw135 G.1) (tw133 G.1) (tw134 G.1) (tw136 G.1) D X dCR_18 (pc' := 21) rfl rfl (by first | decide | (dsimp only; omega) | (simp [Value.category]; done) | (simp [Value.category]; omega)) (Wt := 0) (Nat.le_refl _) (by first | decide | (dsimp only; omega) | (simp [Value.category]; done) | (simp [Value.category]; omega)) (by first | decide | (dsimp only; omega) | (simp [Value.category]; done) | (simp [Value.category]; omega)) (by first | decide | (dsimp only; omega) | (simp [Value.category]; done) | (simp [Value.category]; omega)) (fun h1 a1 s1 z1 l1 E1 ⟨V1, X1⟩ => ?_)
    refine Ow.castY C (tw137 G.1) (Ins.self X1) dCR_21 (pc' := 24) rfl ?_
    refine Ow.retA C rfl rfl rfl dCR_24 (by first | decide | (dsimp only; omega) | (simp [Value.category]; done) | (simp [Value.category]; omega)) (by first | decide | (dsimp only; omega) | (simp [Value.category]; done) | (simp [Value.category]; omega)) [] (by first | (simp; done) | (intro x hx; simp [hx]; done)) ⟨a1, rfl, by rw [hj]; simpa using V1, Ow.Keep.z E1, by omega⟩
  · exact con_CR G B d 0 j xs (by omega) hjn (by omega) hB hB2 h W D
abbrev rmNN : Room := { frames := 1, cells := 0, slots := 0, locals := 14 }
theorem con_NN (G : Glob Z a0) (N g q : Nat) (hgq : g ≤ q) (h0 : 0 < N + q) (hb : N + q < 2147483639) (h : Heap) (W : List Nat) : Ow.Con l Z EL1 bb (⟨"jdk/internal/util/ArraysSupport", "newLength", "(III)I"⟩ : MethodName) jdk_48_method_27_code 4 (Option.some Jvm.ClassFile.FieldType.int) [] rmNN #[.int (Int32.ofNat N), .int (Int32.ofNat g), .int (Int32.ofNat q)] h W (fun v h' W' => v = some (.int (Int32.ofNat (N + q))) ∧ h' = h) := by
  refine Ow.Con.intro (a0 := a0) pn_39 (ewG G) (saG G) bbG [.val (.int (Int32.ofNat N)), .val (.int (Int32.ofNat g)), .val (.int (Int32.ofNat q)), .unset] (by first | exact Ow.locals_all (by simp [Value.category]) rfl | rfl | (simp [argsToLocals, Value.category]; done)) ?_
  intro p e s m below meth c C hO
  refine Ow.iloadN C dNN_0 (pc' := 1) rfl rfl ?_
  refine Ow.iloadN C dNN_1 (pc' := 2) rfl rfl ?_
  refine Ow.iloadN C dNN_2 (pc' := 3) rfl rfl ?_
  refine Ow.callS C (tw242 G.1) (tw243 G.1) (tw244 G.1) (tw245 G.1) (by decide) (con_MX G (Int32.ofNat g) (Int32.ofNat q) h W) (fun _ q => q) pd_10 rfl rfl rfl dNN_3 (pc' := 6) rfl (Wt := 1) (Nat.le_refl _) (by first | decide | (dsimp only; omega) | (simp [Value.category]; done) | (simp [Value.category]; omega)) (by first | decide | (dsimp only; omega) | (simp [Value.category]; done) | (simp [Value.category]; omega)) (by first | decide | (dsimp only; omega) | (simp [Value.category]; done) | (simp [Value.category]; omega)) (by first | decide | (dsimp only; omega) | (simp [Value.category]; done) | (simp [Value.category]; omega)) (fun v1 h1 W1 ⟨e1, e1'⟩ s1 => ?_)
  have e2 : (if Int32.ofNat g < Int32.ofNat q then Int32.ofNat q else Int32.ofNat g) = Int32.ofNat q := by
    by_cases r : g = q
    · rw [r, ite_self]
    · rw [if_pos (by rw [Ow.lt32, Ow.ofNat_toInt (by omega), Ow.ofNat_toInt (by omega)]; omega)]
  rw [e2] at e1
  subst e1 e1'
  dsimp only [Option.toList, List.cons_append, List.nil_append]
  refine Ow.iadd C dNN_6 (pc' := 7) rfl ?_
  rw [Ow.add_ofNat (by omega)]
  refine Ow.istoreN C dNN_7 (pc' := 8) rfl rfl ?_
  dsimp only [List.set]
  refine Ow.iconst C (0 : Int32) dNN_8 (pc' := 9) rfl rfl ?_
  refine Ow.iloadN C dNN_9 (pc' := 10) rfl rfl ?_
  refine Ow.icmpN C dNN_10 (pc' := 13) rfl (XT.ii_ge_f (by rw [Ow.lt32, Ow.ofNat_toInt (by omega), Ow.zero_toInt]; omega)) ?_
  refine Ow.iloadN C dNN_13 (pc' := 14) rfl rfl ?_
  refine Ow.ldcI C (tw246 G.1) dNN_14 (pc' := 16) rfl ?_
  refine Ow.icmpN C dNN_16 (pc' := 19) rfl (XT.ii_gt_f (by rw [Ow.lt32, Ow.ofNat_toInt (by omega)]; have e0 : ((2147483639 : Int32)).toInt = 2147483639 := rfl; omega)) ?_
  refine Ow.iloadN C dNN_19 (pc' := 20) rfl rfl ?_
  refine Ow.retI C rfl dNN_20 (by first | decide | (dsimp only; omega) | (simp [Value.category]; done) | (simp [Value.category]; omega)) (by first | decide | (dsimp only; omega) | (simp [Value.category]; done) | (simp [Value.category]; omega)) [] (by first | (simp; done) | (intro x hx; simp [hx]; done)) ⟨rfl, rfl⟩
abbrev rmNC : Room := { frames := 2, cells := 0, slots := 0, locals := 29 }
set_option maxHeartbeats 4000000 in
theorem con_NC (G : Glob Z a0) (a v u : Nat) (cs : List Int32) (r mn : Nat) (h : Heap) (W : List Nat) (S : Ow.SB Z h a v u cs r) (h1 : cs.length + r < mn) (h2 : mn ≤ 2 * (cs.length + r) + 2) (hb : cs.length + r < 10000) :
    Ow.Con l Z EL1 bb (⟨"java/lang/AbstractStringBuilder", "newCapacity", "(I)I"⟩ : MethodName) jdk_68_method_10_code 6 (Option.some Jvm.ClassFile.FieldType.int) [] rmNC #[.ref a, .int (Int32.ofNat mn)] h W (fun v h' W' => v = some (.int (Int32.ofNat (2 * (cs.length + r) + 2))) ∧ h' = h) := by
  have hu := S.sg.u
  have hlen := S.alen
  generalize cs.length + r = cap at h1 h2 hb hlen
  have f1 : (u + 1) * mn < 2 ^ 31 := by rcases hu with e | e <;> subst e <;> omega
  have f2 : (u + 1) * cap ≤ (u + 1) * mn := Nat.mul_le_mul_left _ (by omega)
  have f3 : (u + 1) * cap + (u + 1) * 2 < 2 ^ 31 := by rcases hu with e | e <;> subst e <;> omega
  have f4 : (u + 1) * mn - (u + 1) * cap ≤ (u + 1) * cap + (u + 1) * 2 := by rcases hu with e | e <;> subst e <;> omega
  have f5 : (u + 1) * cap + ((u + 1) * cap + (u + 1) * 2) = (u + 1) * (2 * cap + 2) := by rcases hu with e | e <;> subst e <;> omega
  have f6 : (u + 1) * cap + ((u + 1) * cap + (u + 1) * 2) < 2147483639 := by rcases hu with e | e <;> subst e <;> omega
  have f7 : 0 < (u + 1) * cap + ((u + 1) * cap + (u + 1) * 2) := by rcases hu with e | e <;> subst e <;> omega
  have e2 : (2 : Int32) <<< (Int32.ofNat u &&& 31) = Int32.ofNat ((u + 1) * 2) := Ow.shlU (i := 2) hu (by rcases hu with e | e <;> subst e <;> omega)
  refine Ow.Con.intro (a0 := a0) pn_40 (ewG G) (saG G) bbG [.val (.ref a), .val (.int (Int32.ofNat mn)), .unset, .unset, .unset, .unset] (by first | exact Ow.locals_all (by simp [Value.category]) rfl | rfl | (simp [argsToLocals, Value.category]; done)) ?_
  intro p e s m below meth c C hO
  refine Ow.aloadN C dNC_0 (pc' := 1) rfl rfl rfl ?_
  refine Ow.getF C (tw42 G.1) S.o.val dNC_1 (pc' := 4) rfl ?_
  refine Ow.arrlen C S.ar dNC_4 (pc' := 5) rfl ?_
  rw [hlen]
  refine Ow.istoreN C dNC_5 (pc' := 6) rfl rfl ?_
  dsimp only [List.set]
  refine Ow.iloadN C dNC_6 (pc' := 7) rfl rfl ?_
  refine Ow.aloadN C dNC_7 (pc' := 8) rfl rfl rfl ?_
  refine Ow.getF C (tw44 G.1) S.o.cod dNC_8 (pc' := 11) rfl ?_
  refine Ow.ishl C dNC_11 (pc' := 12) rfl ?_
  rw [Ow.shlU hu f1]
  refine Ow.istoreN C dNC_12 (pc' := 13) rfl rfl ?_
  dsimp only [List.set]
  refine Ow.iloadN C dNC_13 (pc' := 14) rfl rfl ?_
  refine Ow.iloadN C dNC_14 (pc' := 15) rfl rfl ?_
  refine Ow.isub C dNC_15 (pc' := 16) rfl ?_
  rw [Ow.sub_ofNat f2 f1]
  refine Ow.istore C dNC_16 (pc' := 18) rfl rfl ?_
  dsimp only [List.set]
  refine Ow.iloadN C dNC_18 (pc' := 19) rfl rfl ?_
  refine Ow.iload C dNC_19 (pc' := 21) rfl rfl ?_
  refine Ow.iloadN C dNC_21 (pc' := 22) rfl rfl ?_
  refine Ow.iconst C (2 : Int32) dNC_22 (pc' := 23) rfl rfl ?_
  refine Ow.aloadN C dNC_23 (pc' := 24) rfl rfl rfl ?_
  refine Ow.getF C (tw44 G.1) S.o.cod dNC_24 (pc' := 27) rfl ?_
  refine Ow.ishl C dNC_27 (pc' := 28) rfl ?_
  rw [e2]
  refine Ow.iadd C dNC_28 (pc' := 29) rfl ?_
  rw [Ow.add_ofNat f3]
  refine Ow.callS C (tw238 G.1) (tw239 G.1) (tw240 G.1) (tw241 G.1) (by decide) (con_NN G _ _ _ f4 f7 f6 h W) (fun _ q => q) pd_14 rfl rfl rfl dNC_29 (pc' := 32) rfl (Wt := 0) (Nat.le_refl _) (by first | decide | (dsimp only; omega) | (simp [Value.category]; done) | (simp [Value.category]; omega)) (by first | decide | (dsimp only; omega) | (simp [Value.category]; done) | (simp [Value.category]; omega)) (by first | decide | (dsimp only; omega) | (simp [Value.category]; done) | (simp [Value.category]; omega)) (by first | decide | (dsimp only; omega) | (simp [Value.category]; done) | (simp [Value.category]; omega)) (fun v3 h3 W3 ⟨e3, e3'⟩ s3 => ?_)
  subst e3 e3'
  dsimp only [Option.toList, List.cons_append, List.nil_append]
  rw [f5]
  rw [f5] at f6
  refine Ow.istore C dNC_32 (pc' := 34) rfl rfl ?_
  dsimp only [List.set]
  refine Ow.iload C dNC_34 (pc' := 36) rfl rfl ?_
  refine Ow.ldcI C (tw247 G.1) dNC_36 (pc' := 38) rfl ?_
  refine Ow.icmpY C 51 dNC_38 (XT.ii_ne_t (fun q => by have := Ow.ofNat_toInt (i := (u + 1) * (2 * cap + 2)) (by omega); rw [q] at this; have e0 : ((2147483647 : Int32)).toInt = 2147483647 := rfl; omega)) (by decide) (by decide) ?_
  refine Ow.iload C dNC_51 (pc' := 53) rfl rfl ?_
  refine Ow.aloadN C dNC_53 (pc' := 54) rfl rfl rfl ?_
  refine Ow.getF C (tw44 G.1) S.o.cod dNC_54 (pc' := 57) rfl ?_
  refine Ow.ishr C dNC_57 (pc' := 58) rfl ?_
  rw [Ow.shrU hu (by omega)]
  refine Ow.retI C rfl dNC_58 (by first | decide | (dsimp only; omega) | (simp [Value.category]; done) | (simp [Value.category]; omega)) (by first | decide | (dsimp only; omega) | (simp [Value.category]; done) | (simp [Value.category]; omega)) [] (by first | (simp; done) | (intro x hx; simp [hx]; done)) ⟨rfl, rfl⟩
abbrev rmCP (B : Nat) : Room := { frames := 1, cells := 1, slots := B, locals := 18 }
set_option maxHeartbeats 4000000 in
theorem con_CP (G : Glob Z a0) (B d M : Nat) (xs : List Int32) (hM : xs.length < M) (hB : M ≤ B) (hB2 : B ≤ 4000) (h : Heap) (W : List Nat) (D : ArI Z h d .byte xs) :
    Ow.Con l Z EL1 bb (⟨"java/util/Arrays", "copyOf", "([BI)[B"⟩ : MethodName) jdk_65_method_121_code 3 (Option.some (Jvm.ClassFile.FieldType.array Jvm.ClassFile.FieldType.byte)) [] (rmCP B) #[.ref d, .int (Int32.ofNat M)] h W (fun v h' W' => ∃ y : Nat, v = some (.ref y) ∧ ArI Z h' y .byte (xs ++ List.replicate (M - xs.length) 0) ∧ Exa Z h' y "[B" ∧ Keep h h' [] ∧ h.size ≤ y ∧ y ∈ W') := by
  have hN := D.2
  have hdl := D.lt
  refine Ow.Con.intro (a0 := a0) pn_41 (ewG G) (saG G) bbG [.val (.ref d), .val (.int (Int32.ofNat M)), .unset] (by first | exact Ow.locals_all (by simp [Value.category]) rfl | rfl | (simp [argsToLocals, Value.category]; done)) ?_
  intro p e s m below meth c C hO
  refine Ow.iloadN C dCP_0 (pc' := 1) rfl rfl ?_
  refine Ow.aloadN C dCP_1 (pc' := 2) rfl rfl rfl ?_
  refine Ow.arrlen C D dCP_2 (pc' := 3) rfl ?_
  refine Ow.icmpY C 14 dCP_3 (XT.ii_ne_t (fun q => by have := Ow.ofNat_inj (by omega) hN q; omega)) (by decide) (by decide) ?_
  refine Ow.iloadN C dCP_14 (pc' := 15) rfl rfl ?_
  refine Ow.newarrE C (ty := .byte) (cap := M) (ad := "[B") (by decide) rfl rfl (tw15 G.1) dCP_15 (pc' := 17) rfl rfl (by omega) (by dsimp only; omega) (by dsimp only; omega) (fun h2 a2 s2 z2 l2 E2 ⟨V2, X2⟩ => ?_)
  have D2 := D.ext E2
  refine Ow.astoreN C dCP_17 (pc' := 18) rfl rfl rfl ?_
  dsimp only [List.set]
  refine Ow.aloadN C dCP_18 (pc' := 19) rfl rfl rfl ?_
  refine Ow.iconst C (0 : Int32) dCP_19 (pc' := 20) rfl rfl ?_
  refine Ow.aloadN C dCP_20 (pc' := 21) rfl rfl rfl ?_
  refine Ow.iconst C (0 : Int32) dCP_21 (pc' := 22) rfl rfl ?_
  refine Ow.aloadN C dCP_22 (pc' := 23) rfl rfl rfl ?_
  refine Ow.arrlen C D2 dCP_23 (pc' := 24) rfl ?_
  refine Ow.iloadN C dCP_24 (pc' := 25) rfl rfl ?_
  refine Ow.callS C (tw251 G.1) (tw252 G.1) (tw244 G.1) (tw253 G.1) (by decide) (con_MN G (Int32.ofNat xs.length) (Int32.ofNat M) h2 _) (fun _ q => q) pd_10 rfl rfl rfl dCP_25 (pc' := 28) rfl (Wt := 4) (Nat.le_refl _) (by first | decide | (dsimp only; omega) | (simp [Value.category]; done) | (simp [Value.category]; omega)) (by first | decide | (dsimp only; omega) | (simp [Value.category]; done) | (simp [Value.category]; omega)) (by first | decide | (dsimp only; omega) | (simp [Value.category]; done) | (simp [Value.category]; omega)) (by first | decide | (dsimp only; omega) | (simp [Value.category]; done) | (simp [Value.category]; omega)) (fun v3 h3 W3 ⟨e3, e3'⟩ s3 => ?_)
  rw [if_neg (by rw [Ow.lt32, Ow.ofNat_toInt (by omega), Ow.ofNat_toInt (by omega)]; omega)] at e3
  subst e3 e3'
  dsimp only [Option.toList, List.cons_append, List.nil_append]
  refine Ow.acopy C (tw254 G.1) (tw93 G.1) (tw91 G.1) (tw92 G.1) D2 V2 rfl (i := 0) (j := 0) (q := xs.length) rfl rfl (Ow.ofNat_toInt (by omega)) (by omega) (by simp; omega) (by simp) dCP_28 (pc' := 31) rfl rfl (by dsimp only; omega) (Wt := 0) (Nat.le_refl _) (by dsimp only; decide) (fun h6 K6 V6 => ?_)
  refine Ow.aloadN C dCP_31 (pc' := 32) rfl rfl rfl ?_
  refine Ow.retA C rfl rfl rfl dCP_32 (by first | decide | (dsimp only; omega) | (simp [Value.category]; done) | (simp [Value.category]; omega)) (by first | decide | (dsimp only; omega) | (simp [Value.category]; done) | (simp [Value.category]; omega)) [a2] (by first | (simp; done) | (intro x hx; simp [hx]; done)) ⟨a2, rfl, by simpa using V6, X2.keep K6, (Ow.Keep.z E2).trans K6 (fun z hz => Or.inr (by rw [List.mem_singleton.mp hz]; omega)), by omega, by simp⟩
abbrev rmEN (B : Nat) : Room := { frames := 3, cells := 1, slots := B, locals := 48 }
set_option maxHeartbeats 4000000 in
/-- the builder grows -/
theorem en1 (G : Glob Z a0) (B a v u : Nat) (ds : List Int32) (q r : Nat) (h : Heap) (W : List Nat) (S : Ow.SB Z h a v u ds r) (ha : a ∈ W) (h1 : r < q) (h2 : ds.length + q ≤ 2 * (ds.length + r) + 2) (hb : (u + 1) * (2 * (ds.length + r) + 2) ≤ B) (hB2 : B ≤ 4000) : EnOk l Z (rmEN B) a v u ds q (2 * (ds.length + r) + 2 - ds.length - q) h W := by
  have hu := S.sg.u
  have hl := S.len
  have hlt := S.lt
  have hcap : ds.length + r < 4000 := by rcases hu with e | e <;> subst e <;> omega
  have f1 : (u + 1) * (2 * (ds.length + r) + 2) < 2 ^ 31 := by omega
  have f2 : (u + 1) * (ds.length + r) < (u + 1) * (2 * (ds.length + r) + 2) := by rcases hu with e | e <;> subst e <;> omega
  have f3 : (u + 1) * r + ((u + 1) * (2 * (ds.length + r) + 2) - (u + 1) * (ds.length + r)) = (u + 1) * (q + (2 * (ds.length + r) + 2 - ds.length - q)) := by rcases hu with e | e <;> subst e <;> omega
  refine Ow.Con.intro (a0 := a0) pn_20 (ewG G) (saG G) bbG [.val (.ref a), .val (.int (Int32.ofNat (ds.length + q))), .unset] (by first | exact Ow.locals_all (by simp [Value.category]) rfl | rfl | (simp [argsToLocals, Value.category]; done)) ?_
  intro p e s m below meth c C hO
  refine Ow.aloadN C dEN_0 (pc' := 1) rfl rfl rfl ?_
  refine Ow.getF C (tw42 G.1) S.o.val dEN_1 (pc' := 4) rfl ?_
  refine Ow.arrlen C S.ar dEN_4 (pc' := 5) rfl ?_
  rw [S.alen]
  refine Ow.aloadN C dEN_5 (pc' := 6) rfl rfl rfl ?_
  refine Ow.getF C (tw44 G.1) S.o.cod dEN_6 (pc' := 9) rfl ?_
  refine Ow.ishr C dEN_9 (pc' := 10) rfl ?_
  rw [Ow.shrU hu hl]
  refine Ow.istoreN C dEN_10 (pc' := 11) rfl rfl ?_
  dsimp only [List.set]
  refine Ow.iloadN C dEN_11 (pc' := 12) rfl rfl ?_
  refine Ow.iloadN C dEN_12 (pc' := 13) rfl rfl ?_
  refine Ow.isub C dEN_13 (pc' := 14) rfl ?_
  refine Ow.ifCN C dEN_14 (pc' := 17) rfl (XT.i0_le_f (by rw [Ow.lt32, Ow.sub_toInt (by omega) (by omega), Ow.zero_toInt]; omega)) ?_
  refine Ow.aloadN C dEN_17 (pc' := 18) rfl rfl rfl ?_
  refine Ow.aloadN C dEN_18 (pc' := 19) rfl rfl rfl ?_
  refine Ow.getF C (tw42 G.1) S.o.val dEN_19 (pc' := 22) rfl ?_
  refine Ow.aloadN C dEN_22 (pc' := 23) rfl rfl rfl ?_
  refine Ow.iloadN C dEN_23 (pc' := 24) rfl rfl ?_
  refine Ow.callN C (y := (⟨"java/lang/AbstractStringBuilder", "newCapacity", "(I)I"⟩ : MethodName)) (z := (⟨"java/lang/AbstractStringBuilder", "newCapacity", "(I)I"⟩ : MethodName)) (tw233 G.1) (Ow.declares_of (tw234 G.1) (tw237 G.1)) (tw236 G.1) rfl (tw236 G.1) (tw234 G.1) (tw38 G.1) (tw237 G.1) (by decide) S.o.exa (con_NC G a v u ds r (ds.length + q) h W S (by omega) h2 (by omega)) (fun _ q => q) pd_5 rfl rfl rfl dEN_24 (pc' := 27) rfl (Wt := 2) (Nat.le_refl _) (by first | decide | (dsimp only; omega) | (simp [Value.category]; done) | (simp [Value.category]; omega)) (by first | decide | (dsimp only; omega) | (simp [Value.category]; done) | (simp [Value.category]; omega)) (by first | decide | (dsimp only; omega) | (simp [Value.category]; done) | (simp [Value.category]; omega)) (by first | decide | (dsimp only; omega) | (simp [Value.category]; done) | (simp [Value.category]; omega)) (fun v3 h3 W3 ⟨e3, e3'⟩ s3 => ?_)
  subst e3 e3'
  dsimp only [Option.toList, List.cons_append, List.nil_append]
  refine Ow.aloadN C dEN_27 (pc' := 28) rfl rfl rfl ?_
  refine Ow.getF C (tw44 G.1) S.o.cod dEN_28 (pc' := 31) rfl ?_
  refine Ow.ishl C dEN_31 (pc' := 32) rfl ?_
  rw [Ow.shlU hu f1]
  refine Ow.callSW C (tw248 G.1) (tw249 G.1) (tw128 G.1) (tw250 G.1) (by decide) (con_CP G B v _ _ (by rw [S.alen]; exact f2) hb hB2 h3 W S.ar) (fun _ q => q) pd_28 rfl rfl rfl dEN_32 (pc' := 35) rfl (Wt := 1) (Nat.le_refl _) (by first | decide | (dsimp only; omega) | (simp [Value.category]; done) | (simp [Value.category]; omega)) (by first | decide | (dsimp only; omega) | (simp [Value.category]; done) | (simp [Value.category]; omega)) (by first | decide | (dsimp only; omega) | (simp [Value.category]; done) | (simp [Value.category]; omega)) (by first | decide | (dsimp only; omega) | (simp [Value.category]; done) | (simp [Value.category]; omega)) (fun v4 h4 W4 ⟨y, e4, Y4, X4, K4, g4, m4⟩ s4 => ?_)
  subst e4
  dsimp only [Option.toList, List.cons_append, List.nil_append]
  rw [S.alen, List.append_assoc, List.replicate_append_replicate, f3] at Y4
  have O4 := S.o.keep K4 nin0
  have na : a ≠ y := by omega
  refine Ow.putF C (tw42 G.1) O4.val O4.exa (Or.inl (tw43 G.1)) (tw29 G.1) (ty := (.array .byte)) (by decide) rfl rfl (by first | assumption | (simp; done) | (simp [*]; done)) dEN_35 (pc' := 38) rfl (fun h5 w5 K5 F5 => ?_)
  have O5 := sbV G O4 K5 w5 F5
  refine Ow.retV C rfl dEN_38 (by first | decide | (dsimp only; omega) | (simp [Value.category]; done) | (simp [Value.category]; omega)) (by first | decide | (dsimp only; omega) | (simp [Value.category]; done) | (simp [Value.category]; omega)) (W4 ++ W) (by first | (simp; done) | (intro x hx; simp [hx]; done)) ⟨rfl, y, ⟨O5, Y4.keep K5 (Ow.nin1 (Ne.symm na)), X4.keep K5, na, S.sg⟩, ((Keep.refl h3 [a]).trans K4 (fun z hz => by cases hz)).trans K5 (fun _ q => Or.inl q), Or.inr g4, by simp [m4]⟩
end StrGrow

section StrCh
variable {l : Launch} {Z : State} {a0 : Array Value}
theorem con_PI (G : Glob Z a0) (i n : Nat) (hin : i < n) (hn : n < 2 ^ 31) (w : Value) (hw : w.isRef = true) (h : Heap) (W : List Nat) :
    Ow.Con l Z EL1 bb (⟨"jdk/internal/util/Preconditions", "checkIndex", "(IILjava/util/function/BiFunction;)I"⟩ : MethodName) jdk_41_method_11_code 3 (Option.some Jvm.ClassFile.FieldType.int) [] rm0 #[.int (Int32.ofNat i), .int (Int32.ofNat n), w] h W (fun v h' W' => (∃ x, v = some (.int x)) ∧ h' = h) := by
  refine Ow.Con.intro (a0 := a0) pn_42 (ewG G) (saG G) bbG [.val (.int (Int32.ofNat i)), .val (.int (Int32.ofNat n)), .val w] (by first | exact Ow.locals_all (by simp [Ow.cat_ref, Ow.cat_int, Ow.cat_null, XT.cat1 hw]) rfl | rfl | (simp [argsToLocals, Value.category]; done) | simp [argsToLocals, Ow.cat_ref, Ow.cat_int, Ow.cat_null, XT.cat1 hw]) ?_
  intro p e s m below meth c C hO
  refine Ow.iloadN C dPI_0 (pc' := 1) rfl rfl ?_
  refine Ow.ifCN C dPI_1 (pc' := 4) rfl (XT.i0_lt_f (by rw [Ow.lt32, Ow.ofNat_toInt (by omega), Ow.zero_toInt]; omega)) ?_
  refine Ow.iloadN C dPI_4 (pc' := 5) rfl rfl ?_
  refine Ow.iloadN C dPI_5 (pc' := 6) rfl rfl ?_
  refine Ow.icmpY C 16 dPI_6 (XT.ii_lt_t (by rw [Ow.lt32, Ow.ofNat_toInt (by omega), Ow.ofNat_toInt (by omega)]; omega)) (by decide) (by decide) ?_
  refine Ow.iloadN C dPI_16 (pc' := 17) rfl rfl ?_
  refine Ow.retI C rfl dPI_17 (by first | decide | (dsimp only; omega) | (simp [Value.category]; done) | (simp [Value.category]; omega)) (by first | decide | (dsimp only; omega) | (simp [Value.category]; done) | (simp [Value.category]; omega)) [] (by first | (simp; done) | (intro x hx; simp [hx]; done)) ⟨⟨_, rfl⟩, rfl⟩
abbrev rmCI : Room := { frames := 1, cells := 0, slots := 0, locals := 14 }
theorem con_CI (G : Glob Z a0) (i n : Nat) (hin : i < n) (hn : n < 2 ^ 31) (h : Heap) (W : List Nat) :
    Ow.Con l Z EL1 bb (⟨"java/lang/String", "checkIndex", "(II)V"⟩ : MethodName) jdk_42_method_155_code 2 (Option.none : Option Jvm.ClassFile.FieldType) [] rmCI #[.int (Int32.ofNat i), .int (Int32.ofNat n)] h W (fun v h' W' => v = none ∧ h' = h) := by
  obtain ⟨w, Sw, hw⟩ := sioG G
  refine Ow.Con.intro (a0 := a0) pn_43 (ewG G) (saG G) bbG [.val (.int (Int32.ofNat i)), .val (.int (Int32.ofNat n))] (by first | exact Ow.locals_all (by simp [Value.category]) rfl | rfl | (simp [argsToLocals, Value.category]; done)) ?_
  intro p e s m below meth c C hO
  refine Ow.iloadN C dCI_0 (pc' := 1) rfl rfl ?_
  refine Ow.iloadN C dCI_1 (pc' := 2) rfl rfl ?_
  refine Ow.getS C (tw218 G.1) Sw dCI_2 (pc' := 5) rfl ?_
  refine Ow.callS C (tw220 G.1) (tw221 G.1) (tw219 G.1) (tw222 G.1) (by decide) (con_PI G i n hin hn w hw h W) (fun _ q => q) pd_29 rfl rfl rfl dCI_5 (pc' := 8) rfl (Wt := 0) (Nat.le_refl _) (by first | decide | (dsimp only; omega) | (simp [Value.category]; done) | (simp [Value.category]; omega)) (by first | decide | (dsimp only; omega) | (simp [Value.category]; done) | (simp [Value.category]; omega)) (by first | decide | (dsimp only; omega) | (simp [Value.category]; done) | (simp [Value.category]; omega)) (by first | decide | (dsimp only; omega) | (simp [Value.category]; done) | (simp [Value.category]; omega)) (fun v1 h1 W1 ⟨⟨x1, e1⟩, e1'⟩ s1 => ?_)
  subst e1 e1'
  dsimp only [Option.toList, List.cons_append, List.nil_append]
  refine Ow.pop C dCI_8 (pc' := 9) rfl rfl ?_
  refine Ow.retV C rfl dCI_9 (by first | decide | (dsimp only; omega) | (simp [Value.category]; done) | (simp [Value.category]; omega)) (by first | decide | (dsimp only; omega) | (simp [Value.category]; done) | (simp [Value.category]; omega)) [] (by first | (simp; done) | (intro x hx; simp [hx]; done)) ⟨rfl, rfl⟩
abbrev rmLA : Room := { frames := 2, cells := 0, slots := 0, locals := 27 }
theorem con_LA (G : Glob Z a0) (d i : Nat) (cs : List Int32) (hi : i < cs.length) (hL : ∀ z ∈ cs, 0 ≤ z.toInt ∧ z.toInt < 256) (h : Heap) (W : List Nat) (D : ArI Z h d .byte (cs.map (nar .byte))) :
    Ow.Con l Z EL1 bb (⟨"java/lang/StringLatin1", "charAt", "([BI)C"⟩ : MethodName) jdk_43_method_2_code 2 (Option.some Jvm.ClassFile.FieldType.char) [] rmLA #[.ref d, .int (Int32.ofNat i)] h W (fun v h' W' => v = some (.int (cs.getD i 0)) ∧ h' = h) := by
  refine Ow.Con.intro (a0 := a0) pn_44 (ewG G) (saG G) bbG [.val (.ref d), .val (.int (Int32.ofNat i))] (by first | exact Ow.locals_all (by simp [Value.category]) rfl | rfl | (simp [argsToLocals, Value.category]; done)) ?_
  intro p e s m below meth c C hO
  have hN : cs.length < 2 ^ 31 := by simpa using D.2
  have hc := Ow.getD_rng hL hi
  refine Ow.iloadN C dLA_0 (pc' := 1) rfl rfl ?_
  refine Ow.aloadN C dLA_1 (pc' := 2) rfl rfl rfl ?_
  refine Ow.arrlen C D dLA_2 (pc' := 3) rfl ?_
  rw [List.length_map]
  refine Ow.callS C (tw215 G.1) (tw216 G.1) (tw2 G.1) (tw217 G.1) (by decide) (con_CI G i cs.length hi hN h W) (fun _ q => q) pd_9 rfl rfl rfl dLA_3 (pc' := 6) rfl (Wt := 0) (Nat.le_refl _) (by first | decide | (dsimp only; omega) | (simp [Value.category]; done) | (simp [Value.category]; omega)) (by first | decide | (dsimp only; omega) | (simp [Value.category]; done) | (simp [Value.category]; omega)) (by first | decide | (dsimp only; omega) | (simp [Value.category]; done) | (simp [Value.category]; omega)) (by first | decide | (dsimp only; omega) | (simp [Value.category]; done) | (simp [Value.category]; omega)) (fun v1 h1 W1 ⟨e1, e1'⟩ s1 => ?_)
  subst e1 e1'
  dsimp only [Option.toList, List.cons_append, List.nil_append]
  refine Ow.aloadN C dLA_6 (pc' := 7) rfl rfl rfl ?_
  refine Ow.iloadN C dLA_7 (pc' := 8) rfl rfl ?_
  refine Ow.baload C D (i := i) (Ow.ofNat_toInt (by omega)) (by simpa using hi) dLA_8 (pc' := 9) rfl ?_
  rw [Ow.map_getD hi]
  refine Ow.sipush C (255 : Int32) dLA_9 (pc' := 12) rfl rfl ?_
  refine Ow.iand C dLA_12 (pc' := 13) rfl ?_
  rw [Ow.byte_back hc.1 hc.2]
  refine Ow.i2c C dLA_13 (pc' := 14) rfl ?_
  rw [Ow.nar_char_id hc.1 (by omega)]
  refine Ow.retN C (t := .char) rfl (by simp) dLA_14 (by first | decide | (dsimp only; omega) | (simp [Value.category]; done) | (simp [Value.category]; omega)) (by first | decide | (dsimp only; omega) | (simp [Value.category]; done) | (simp [Value.category]; omega)) [] (by first | (simp; done) | (intro x hx; simp [hx]; done)) ⟨by rw [Ow.nar_char_id hc.1 (by omega)], rfl⟩
abbrev rmCA : Room := { frames := 3, cells := 0, slots := 0, locals := 40 }
theorem con_CA (G : Glob Z a0) (a d i : Nat) (cs : List Int32) (hi : i < cs.length) (h : Heap) (W : List Nat) (S : Ow.StrL Z h a d cs) :
    Ow.Con l Z EL1 bb (⟨"java/lang/String", "charAt", "(I)C"⟩ : MethodName) jdk_42_method_56_code 2 (Option.some Jvm.ClassFile.FieldType.char) [] rmCA #[.ref a, .int (Int32.ofNat i)] h W (fun v h' W' => v = some (.int (cs.getD i 0)) ∧ h' = h) := by
  refine Ow.Con.intro (a0 := a0) pn_45 (ewG G) (saG G) bbG [.val (.ref a), .val (.int (Int32.ofNat i))] (by first | exact Ow.locals_all (by simp [Value.category]) rfl | rfl | (simp [argsToLocals, Value.category]; done)) ?_
  intro p e s m below meth c C hO
  have hc := Ow.getD_rng S.2.2.2.2 hi
  refine Ow.aloadN C dCA_0 (pc' := 1) rfl rfl rfl ?_
  refine Ow.callV C (y := (⟨"java/lang/String", "isLatin1", "()Z"⟩ : MethodName)) (z := (⟨"java/lang/String", "isLatin1", "()Z"⟩ : MethodName)) (tw206 G.1) (tw207 G.1) (tw209 G.1) (tw209 G.1) (tw208 G.1) (tw2 G.1) (tw210 G.1) (by decide) S.1 (con_IL G a 0 h W S.2.2.1) (fun _ q => q) pd_17 rfl rfl rfl dCA_1 (pc' := 4) rfl (Wt := 0) (Nat.le_refl _) (by first | decide | (dsimp only; omega) | (simp [Value.category]; done) | (simp [Value.category]; omega)) (by first | decide | (dsimp only; omega) | (simp [Value.category]; done) | (simp [Value.category]; omega)) (by first | decide | (dsimp only; omega) | (simp [Value.category]; done) | (simp [Value.category]; omega)) (by first | decide | (dsimp only; omega) | (simp [Value.category]; done) | (simp [Value.category]; omega)) (fun v1 h1 W1 ⟨e1, e1'⟩ s1 => ?_)
  rw [if_pos rfl] at e1
  subst e1 e1'
  dsimp only [Option.toList, List.cons_append, List.nil_append]
  refine Ow.ifCN C dCA_4 (pc' := 7) rfl (XT.i0_eq_f (by decide)) ?_
  refine Ow.aloadN C dCA_7 (pc' := 8) rfl rfl rfl ?_
  refine Ow.getF C (tw20 G.1) S.2.1 dCA_8 (pc' := 11) rfl ?_
  refine Ow.iloadN C dCA_11 (pc' := 12) rfl rfl ?_
  refine Ow.callS C (tw211 G.1) (tw212 G.1) (tw213 G.1) (tw214 G.1) (by decide) (con_LA G d i cs hi S.2.2.2.2 h1 W S.2.2.2.1) (fun _ q => q) pd_8 rfl rfl rfl dCA_12 (pc' := 15) rfl (Wt := 0) (Nat.le_refl _) (by first | decide | (dsimp only; omega) | (simp [Value.category]; done) | (simp [Value.category]; omega)) (by first | decide | (dsimp only; omega) | (simp [Value.category]; done) | (simp [Value.category]; omega)) (by first | decide | (dsimp only; omega) | (simp [Value.category]; done) | (simp [Value.category]; omega)) (by first | decide | (dsimp only; omega) | (simp [Value.category]; done) | (simp [Value.category]; omega)) (fun v2 h2 W2 ⟨e2, e2'⟩ s2 => ?_)
  subst e2 e2'
  dsimp only [Option.toList, List.cons_append, List.nil_append]
  refine Ow.retN C (t := .char) rfl (by simp) dCA_15 (by first | decide | (dsimp only; omega) | (simp [Value.category]; done) | (simp [Value.category]; omega)) (by first | decide | (dsimp only; omega) | (simp [Value.category]; done) | (simp [Value.category]; omega)) [] (by first | (simp; done) | (intro x hx; simp [hx]; done)) ⟨by rw [Ow.nar_char_id hc.1 (by omega)], rfl⟩
end StrCh

section StrChK
variable {l : Launch} {Z : State} {a0 : Array Value}
abbrev rmUK : Room := { frames := 2, cells := 0, slots := 0, locals := 27 }
theorem con_UK (G : Glob Z a0) (i y : Nat) (cs : List Int32) (hi : i < cs.length) (h : Heap) (W : List Nat) (Y : ArI Z h y .byte (Ow.u16 cs)) :
    Ow.Con l Z EL1 bb (⟨"java/lang/StringUTF16", "checkIndex", "(I[B)V"⟩ : MethodName) jdk_52_method_91_code 2 (Option.none : Option Jvm.ClassFile.FieldType) [] rmUK #[.int (Int32.ofNat i), .ref y] h W (fun v h' W' => v = none ∧ h' = h) := by
  have hN := Y.2
  rw [Ow.u16_len] at hN
  refine Ow.Con.intro (a0 := a0) pn_46 (ewG G) (saG G) bbG [.val (.int (Int32.ofNat i)), .val (.ref y)] (by first | exact Ow.locals_all (by simp [Value.category]) rfl | rfl | (simp [argsToLocals, Value.category]; done)) ?_
  intro p e s m below meth c C hO
  refine Ow.iloadN C dUK_0 (pc' := 1) rfl rfl ?_
  refine Ow.aloadN C dUK_1 (pc' := 2) rfl rfl rfl ?_
  refine Ow.callS C (tw296 G.1) (tw297 G.1) (tw225 G.1) (tw298 G.1) (by decide) (con_UL G y _ cs.length (Ow.u16_len cs) h W Y) (fun _ q => q) pd_13 rfl rfl rfl dUK_2 (pc' := 5) rfl (Wt := 1) (Nat.le_refl _) (by first | decide | (dsimp only; omega) | (simp [Value.category]; done) | (simp [Value.category]; omega)) (by first | decide | (dsimp only; omega) | (simp [Value.category]; done) | (simp [Value.category]; omega)) (by first | decide | (dsimp only; omega) | (simp [Value.category]; done) | (simp [Value.category]; omega)) (by first | decide | (dsimp only; omega) | (simp [Value.category]; done) | (simp [Value.category]; omega)) (fun v1 h1 W1 ⟨e1, e1'⟩ s1 => ?_)
  subst e1 e1'
  dsimp only [Option.toList, List.cons_append, List.nil_append]
  refine Ow.callS C (tw314 G.1) (tw216 G.1) (tw2 G.1) (tw217 G.1) (by decide) (con_CI G i cs.length hi (by omega) h1 W) (fun _ q => q) pd_9 rfl rfl rfl dUK_5 (pc' := 8) rfl (Wt := 0) (Nat.le_refl _) (by first | decide | (dsimp only; omega) | (simp [Value.category]; done) | (simp [Value.category]; omega)) (by first | decide | (dsimp only; omega) | (simp [Value.category]; done) | (simp [Value.category]; omega)) (by first | decide | (dsimp only; omega) | (simp [Value.category]; done) | (simp [Value.category]; omega)) (by first | decide | (dsimp only; omega) | (simp [Value.category]; done) | (simp [Value.category]; omega)) (fun v2 h2 W2 ⟨e2, e2'⟩ s2 => ?_)
  subst e2 e2'
  dsimp only [Option.toList, List.cons_append, List.nil_append]
  refine Ow.retV C rfl dUK_8 (by first | decide | (dsimp only; omega) | (simp [Value.category]; done) | (simp [Value.category]; omega)) (by first | decide | (dsimp only; omega) | (simp [Value.category]; done) | (simp [Value.category]; omega)) [] (by first | (simp; done) | (intro x hx; simp [hx]; done)) ⟨rfl, rfl⟩
abbrev rmUA : Room := { frames := 3, cells := 0, slots := 0, locals := 40 }
theorem con_UA (G : Glob Z a0) (i y : Nat) (cs : List Int32) (hi : i < cs.length) (hc : 0 ≤ (cs.getD i 0).toInt ∧ (cs.getD i 0).toInt < 65536) (h : Heap) (W : List Nat) (Y : ArI Z h y .byte (Ow.u16 cs)) :
    Ow.Con l Z EL1 bb (⟨"java/lang/StringUTF16", "charAt", "([BI)C"⟩ : MethodName) jdk_52_method_83_code 2 (Option.some Jvm.ClassFile.FieldType.char) [] rmUA #[.ref y, .int (Int32.ofNat i)] h W (fun v h' W' => v = some (.int (cs.getD i 0)) ∧ h' = h) := by
  refine Ow.Con.intro (a0 := a0) pn_47 (ewG G) (saG G) bbG [.val (.ref y), .val (.int (Int32.ofNat i))] (by first | exact Ow.locals_all (by simp [Value.category]) rfl | rfl | (simp [argsToLocals, Value.category]; done)) ?_
  intro p e s m below meth c C hO
  refine Ow.iloadN C dUA_0 (pc' := 1) rfl rfl ?_
  refine Ow.aloadN C dUA_1 (pc' := 2) rfl rfl rfl ?_
  refine Ow.callS C (tw311 G.1) (tw312 G.1) (tw225 G.1) (tw313 G.1) (by decide) (con_UK G i y cs hi h W Y) (fun _ q => q) pd_30 rfl rfl rfl dUA_2 (pc' := 5) rfl (Wt := 0) (Nat.le_refl _) (by first | decide | (dsimp only; omega) | (simp [Value.category]; done) | (simp [Value.category]; omega)) (by first | decide | (dsimp only; omega) | (simp [Value.category]; done) | (simp [Value.category]; omega)) (by first | decide | (dsimp only; omega) | (simp [Value.category]; done) | (simp [Value.category]; omega)) (by first | decide | (dsimp only; omega) | (simp [Value.category]; done) | (simp [Value.category]; omega)) (fun v1 h1 W1 ⟨e1, e1'⟩ s1 => ?_)
  subst e1 e1'
  dsimp only [Option.toList, List.cons_append, List.nil_append]
  refine Ow.aloadN C dUA_5 (pc' := 6) rfl rfl rfl ?_
  refine Ow.iloadN C dUA_6 (pc' := 7) rfl rfl ?_
  refine Ow.callS C (tw277 G.1) (tw278 G.1) (tw225 G.1) (tw279 G.1) (by decide) (con_GC G y cs i h1 W Y hi hc) (fun _ q => q) pd_8 rfl rfl rfl dUA_7 (pc' := 10) rfl (Wt := 0) (Nat.le_refl _) (by first | decide | (dsimp only; omega) | (simp [Value.category]; done) | (simp [Value.category]; omega)) (by first | decide | (dsimp only; omega) | (simp [Value.category]; done) | (simp [Value.category]; omega)) (by first | decide | (dsimp only; omega) | (simp [Value.category]; done) | (simp [Value.category]; omega)) (by first | decide | (dsimp only; omega) | (simp [Value.category]; done) | (simp [Value.category]; omega)) (fun v2 h2 W2 ⟨e2, e2'⟩ s2 => ?_)
  subst e2 e2'
  dsimp only [Option.toList, List.cons_append, List.nil_append]
  refine Ow.retN C (t := .char) rfl (by simp) dUA_10 (by first | decide | (dsimp only; omega) | (simp [Value.category]; done) | (simp [Value.category]; omega)) (by first | decide | (dsimp only; omega) | (simp [Value.category]; done) | (simp [Value.category]; omega)) [] (by first | (simp; done) | (intro x hx; simp [hx]; done)) ⟨by rw [Ow.nar_char_id hc.1 hc.2], rfl⟩
abbrev rmCAk : Room := { frames := 4, cells := 0, slots := 0, locals := 53 }
theorem con_CAk (G : Glob Z a0) (a d u i : Nat) (cs : List Int32) (hi : i < cs.length) (h : Heap) (W : List Nat) (S : Ow.StrK Z h a d u cs) :
    Ow.Con l Z EL1 bb (⟨"java/lang/String", "charAt", "(I)C"⟩ : MethodName) jdk_42_method_56_code 2 (Option.some Jvm.ClassFile.FieldType.char) [] rmCAk #[.ref a, .int (Int32.ofNat i)] h W (fun v h' W' => v = some (.int (cs.getD i 0)) ∧ h' = h) := by
  have hc := S.sg.r _ (Ow.getD_mem hi)
  refine Ow.Con.intro (a0 := a0) pn_45 (ewG G) (saG G) bbG [.val (.ref a), .val (.int (Int32.ofNat i))] (by first | exact Ow.locals_all (by simp [Value.category]) rfl | rfl | (simp [argsToLocals, Value.category]; done)) ?_
  intro p e s m below meth c C hO
  refine Ow.aloadN C dCA_0 (pc' := 1) rfl rfl rfl ?_
  refine Ow.callV C (y := (⟨"java/lang/String", "isLatin1", "()Z"⟩ : MethodName)) (z := (⟨"java/lang/String", "isLatin1", "()Z"⟩ : MethodName)) (tw206 G.1) (tw207 G.1) (tw209 G.1) (tw209 G.1) (tw208 G.1) (tw2 G.1) (tw210 G.1) (by decide) S.exa (con_IL G a _ h W S.cod) (fun _ q => q) pd_17 rfl rfl rfl dCA_1 (pc' := 4) rfl (Wt := 0) (Nat.le_refl _) (by first | decide | (dsimp only; omega) | (simp [Value.category]; done) | (simp [Value.category]; omega)) (by first | decide | (dsimp only; omega) | (simp [Value.category]; done) | (simp [Value.category]; omega)) (by first | decide | (dsimp only; omega) | (simp [Value.category]; done) | (simp [Value.category]; omega)) (by first | decide | (dsimp only; omega) | (simp [Value.category]; done) | (simp [Value.category]; omega)) (fun v1 h1 W1 ⟨e1, e1'⟩ s1 => ?_)
  have A := S.ar
  rcases S.sg.u with hu | hu
  · subst hu
    rw [show (if Int32.ofNat 0 = 0 then (1 : Int32) else 0) = 1 from rfl] at e1
    subst e1 e1'
    dsimp only [Option.toList, List.cons_append, List.nil_append]
    refine Ow.ifCN C dCA_4 (pc' := 7) rfl (XT.i0_eq_f (by decide)) ?_
    refine Ow.aloadN C dCA_7 (pc' := 8) rfl rfl rfl ?_
    refine Ow.getF C (tw20 G.1) S.val dCA_8 (pc' := 11) rfl ?_
    refine Ow.iloadN C dCA_11 (pc' := 12) rfl rfl ?_
    rw [Ow.enc0] at A
    refine Ow.callS C (tw211 G.1) (tw212 G.1) (tw213 G.1) (tw214 G.1) (by decide) (con_LA G d i cs hi (S.sg.l rfl) h1 W A) (fun _ q => q) pd_8 rfl rfl rfl dCA_12 (pc' := 15) rfl (Wt := 0) (Nat.le_refl _) (by first | decide | (dsimp only; omega) | (simp [Value.category]; done) | (simp [Value.category]; omega)) (by first | decide | (dsimp only; omega) | (simp [Value.category]; done) | (simp [Value.category]; omega)) (by first | decide | (dsimp only; omega) | (simp [Value.category]; done) | (simp [Value.category]; omega)) (by first | decide | (dsimp only; omega) | (simp [Value.category]; done) | (simp [Value.category]; omega)) (fun v2 h2 W2 ⟨e2, e2'⟩ s2 => ?_)
    subst e2 e2'
    dsimp only [Option.toList, List.cons_append, List.nil_append]
    refine Ow.retN C (t := .char) rfl (by simp) dCA_15 (by first | decide | (dsimp only; omega) | (simp [Value.category]; done) | (simp [Value.category]; omega)) (by first | decide | (dsimp only; omega) | (simp [Value.category]; done) | (simp [Value.category]; omega)) [] (by first | (simp; done) | (intro x hx; simp [hx]; done)) ⟨by rw [Ow.nar_char_id hc.1 hc.2], rfl⟩
  · subst hu
    rw [if_neg (by decide)] at e1
    subst e1 e1'
    dsimp only [Option.toList, List.cons_append, List.nil_append]
    refine Ow.ifCY C 16 dCA_4 (XT.i0_eq_t (by decide)) (by decide) (by decide) ?_
    refine Ow.aloadN C dCA_16 (pc' := 17) rfl rfl rfl ?_
    refine Ow.getF C (tw20 G.1) S.val dCA_17 (pc' := 20) rfl ?_
    refine Ow.iloadN C dCA_20 (pc' := 21) rfl rfl ?_
    rw [Ow.enc1] at A
    refine Ow.callS C (tw308 G.1) (tw309 G.1) (tw225 G.1) (tw310 G.1) (by decide) (con_UA G i d cs hi hc h1 W A) (fun _ q => q) pd_8 rfl rfl rfl dCA_21 (pc' := 24) rfl (Wt := 0) (Nat.le_refl _) (by first | decide | (dsimp only; omega) | (simp [Value.category]; done) | (simp [Value.category]; omega)) (by first | decide | (dsimp only; omega) | (simp [Value.category]; done) | (simp [Value.category]; omega)) (by first | decide | (dsimp only; omega) | (simp [Value.category]; done) | (simp [Value.category]; omega)) (by first | decide | (dsimp only; omega) | (simp [Value.category]; done) | (simp [Value.category]; omega)) (fun v2 h2 W2 ⟨e2, e2'⟩ s2 => ?_)
    subst e2 e2'
    dsimp only [Option.toList, List.cons_append, List.nil_append]
    refine Ow.retN C (t := .char) rfl (by simp) dCA_24 (by first | decide | (dsimp only; omega) | (simp [Value.category]; done) | (simp [Value.category]; omega)) (by first | decide | (dsimp only; omega) | (simp [Value.category]; done) | (simp [Value.category]; omega)) [] (by first | (simp; done) | (intro x hx; simp [hx]; done)) ⟨by rw [Ow.nar_char_id hc.1 hc.2], rfl⟩
end StrChK

section StrVO
variable {l : Launch} {Z : State} {a0 : Array Value}
theorem con_CE (G : Glob Z a0) (ch : Int32) (h : Heap) (W : List Nat) : Ow.Con l Z EL1 bb (⟨"java/lang/StringLatin1", "canEncode", "(C)Z"⟩ : MethodName) jdk_43_method_3_code 1 (Option.some Jvm.ClassFile.FieldType.boolean) [] rm0 #[.int ch] h W (fun v h' W' => v = some (.int (if ch.toInt < 256 then 1 else 0)) ∧ h' = h) := by
  refine Ow.Con.intro (a0 := a0) pn_48 (ewG G) (saG G) bbG [.val (.int ch)] (by first | exact Ow.locals_all (by simp [Value.category]) rfl | rfl | (simp [argsToLocals, Value.category]; done)) ?_
  intro p e s m below meth c C hO
  refine Ow.iloadN C dCE_0 (pc' := 1) rfl rfl ?_
  refine Ow.sipush C (255 : Int32) dCE_1 (pc' := 4) rfl rfl ?_
  have e255 : ((255 : Int32)).toInt = 255 := rfl
  refine Ow.icmp C 11 7 dCE_4 (Ow.kGt _ _) (by decide) (by decide) rfl (fun hc => ?_) (fun hc => ?_)
  · rw [Ow.lt32] at hc
    refine Ow.iconst C (0 : Int32) dCE_11 (pc' := 12) rfl rfl ?_
    refine Ow.retN C (t := .boolean) rfl (by simp) dCE_12 (by first | decide | (dsimp only; omega) | (simp [Value.category]; done) | (simp [Value.category]; omega)) (by first | decide | (dsimp only; omega) | (simp [Value.category]; done) | (simp [Value.category]; omega)) [] (by first | (simp; done) | (intro x hx; simp [hx]; done)) ⟨by rw [if_neg (by omega)]; rfl, rfl⟩
  · rw [Ow.lt32] at hc
    refine Ow.iconst C (1 : Int32) dCE_7 (pc' := 8) rfl rfl ?_
    refine Ow.goto C 12 dCE_8 (by decide) (by decide) ?_
    refine Ow.retN C (t := .boolean) rfl (by simp) dCE_12 (by first | decide | (dsimp only; omega) | (simp [Value.category]; done) | (simp [Value.category]; omega)) (by first | decide | (dsimp only; omega) | (simp [Value.category]; done) | (simp [Value.category]; omega)) [] (by first | (simp; done) | (intro x hx; simp [hx]; done)) ⟨by rw [if_pos (by omega)]; rfl, rfl⟩
abbrev rmTL : Room := { frames := 0, cells := 1, slots := 2, locals := 0 }
theorem con_TL (G : Glob Z a0) (ch : Int32) (h : Heap) (W : List Nat) : Ow.Con l Z EL1 bb (⟨"java/lang/StringLatin1", "toBytes", "(C)[B"⟩ : MethodName) jdk_43_method_46_code 1 (Option.some (Jvm.ClassFile.FieldType.array Jvm.ClassFile.FieldType.byte)) [] rmTL #[.int ch] h W (fun v h' W' => ∃ y : Nat, v = some (.ref y) ∧ ArI Z h' y .byte [nar .byte ch] ∧ Keep h h' [] ∧ h.size ≤ y) := by
  refine Ow.Con.intro (a0 := a0) pn_49 (ewG G) (saG G) bbG [.val (.int ch)] (by first | exact Ow.locals_all (by simp [Value.category]) rfl | rfl | (simp [argsToLocals, Value.category]; done)) ?_
  intro p e s m below meth c C hO
  refine Ow.iconst C (1 : Int32) dTL_0 (pc' := 1) rfl rfl ?_
  refine Ow.newarr C (ty := .byte) (cap := 1) rfl rfl (tw15 G.1) dTL_1 (pc' := 3) rfl rfl (by decide) (by first | decide | (dsimp only; omega) | (simp [Value.category]; done) | (simp [Value.category]; omega)) (by first | decide | (dsimp only; omega) | (simp [Value.category]; done) | (simp [Value.category]; omega)) (fun h1 a1 s1 z1 l1 E1 V1 => ?_)
  refine Ow.dup C dTL_3 (pc' := 4) rfl rfl ?_
  refine Ow.iconst C (0 : Int32) dTL_4 (pc' := 5) rfl rfl ?_
  refine Ow.iloadN C dTL_5 (pc' := 6) rfl rfl ?_
  refine Ow.i2b C dTL_6 (pc' := 7) rfl ?_
  refine Ow.bastore C V1 (i := 0) rfl (by first | decide | (simp; done)) (by first | assumption | (simp; done) | (simp [*]; done)) dTL_7 (pc' := 8) rfl (fun h2 K2 V2 => ?_)
  refine Ow.retA C rfl rfl rfl dTL_8 (by first | decide | (dsimp only; omega) | (simp [Value.category]; done) | (simp [Value.category]; omega)) (by first | decide | (dsimp only; omega) | (simp [Value.category]; done) | (simp [Value.category]; omega)) [] (by first | (simp; done) | (intro x hx; simp [hx]; done)) ⟨a1, rfl, by simpa [Ow.nar_byte_nar] using V2, (Ow.Keep.z E1).trans K2 (fun z hz => Or.inr (by rw [List.mem_singleton.mp hz]; omega)), by omega⟩
abbrev rmT2 : Room := { frames := 1, cells := 1, slots := 2, locals := 14 }
theorem con_T2 (G : Glob Z a0) (ch : Int32) (h : Heap) (W : List Nat) : Ow.Con l Z EL1 bb (⟨"java/lang/StringUTF16", "toBytes", "(C)[B"⟩ : MethodName) jdk_52_method_24_code 2 (Option.some (Jvm.ClassFile.FieldType.array Jvm.ClassFile.FieldType.byte)) [] rmT2 #[.int ch] h W (fun v h' W' => ∃ y : Nat, v = some (.ref y) ∧ ArI Z h' y .byte (Ow.u16 [ch]) ∧ Keep h h' [] ∧ h.size ≤ y) := by
  refine Ow.Con.intro (a0 := a0) pn_50 (ewG G) (saG G) bbG [.val (.int ch), .unset] (by first | exact Ow.locals_all (by simp [Value.category]) rfl | rfl | (simp [argsToLocals, Value.category]; done)) ?_
  intro p e s m below meth c C hO
  refine Ow.iconst C (2 : Int32) dT2_0 (pc' := 1) rfl rfl ?_
  refine Ow.newarr C (ty := .byte) (cap := 2) rfl rfl (tw15 G.1) dT2_1 (pc' := 3) rfl rfl (by decide) (by first | decide | (dsimp only; omega) | (simp [Value.category]; done) | (simp [Value.category]; omega)) (by first | decide | (dsimp only; omega) | (simp [Value.category]; done) | (simp [Value.category]; omega)) (fun h1 a1 s1 z1 l1 E1 V1 => ?_)
  refine Ow.astoreN C dT2_3 (pc' := 4) rfl rfl rfl ?_
  dsimp only [List.set]
  refine Ow.aloadN C dT2_4 (pc' := 5) rfl rfl rfl ?_
  refine Ow.iconst C (0 : Int32) dT2_5 (pc' := 6) rfl rfl ?_
  refine Ow.iloadN C dT2_6 (pc' := 7) rfl rfl ?_
  refine Ow.callS C (tw271 G.1) (tw272 G.1) (tw225 G.1) (tw273 G.1) (by decide) (con_PC G a1 _ 0 ch h1 _ V1 (by simp) (by simp)) (fun _ q => q) pd_7 rfl rfl rfl dT2_7 (pc' := 10) rfl (Wt := 0) (Nat.le_refl _) (by first | decide | (dsimp only; omega) | (simp [Value.category]; done) | (simp [Value.category]; omega)) (by first | decide | (dsimp only; omega) | (simp [Value.category]; done) | (simp [Value.category]; omega)) (by first | decide | (dsimp only; omega) | (simp [Value.category]; done) | (simp [Value.category]; omega)) (by first | decide | (dsimp only; omega) | (simp [Value.category]; done) | (simp [Value.category]; omega)) (fun v2 h2 W2 ⟨e2, K2, V2⟩ s2 => ?_)
  subst e2
  dsimp only [Option.toList, List.cons_append, List.nil_append]
  refine Ow.aloadN C dT2_10 (pc' := 11) rfl rfl rfl ?_
  refine Ow.retA C rfl rfl rfl dT2_11 (by first | decide | (dsimp only; omega) | (simp [Value.category]; done) | (simp [Value.category]; omega)) (by first | decide | (dsimp only; omega) | (simp [Value.category]; done) | (simp [Value.category]; omega)) [] (by first | (simp; done) | (intro x hx; simp [hx]; done)) ⟨a1, rfl, by simpa [Ow.u16] using V2, (Ow.Keep.z E1).trans K2 (fun z hz => Or.inr (by rw [List.mem_singleton.mp hz]; omega)), by omega⟩
abbrev rmIB : Room := { frames := 1, cells := 0, slots := 0, locals := 13 }
theorem con_IB (G : Glob Z a0) (x y u : Nat) (hu : u = 0 ∨ u = 1) (h : Heap) (W : List Nat) (ov oc : Value) (A : Exa Z h x "java/lang/String") (Fv : Fld Z h x "java/lang/String" "value" "[B" ov) (Fc : Fld Z h x "java/lang/String" "coder" "B" oc) (hx : x ∈ W) :
    Ow.Con l Z EL1 bb (⟨"java/lang/String", "<init>", "([BB)V"⟩ : MethodName) jdk_42_method_151_code 3 (Option.none : Option Jvm.ClassFile.FieldType) [] rmIB #[.ref x, .ref y, .int (Int32.ofNat u)] h W (fun v h' W' => v = none ∧ Exa Z h' x "java/lang/String" ∧ Fld Z h' x "java/lang/String" "value" "[B" (.ref y) ∧ Fld Z h' x "java/lang/String" "coder" "B" (.int (Int32.ofNat u)) ∧ Keep h h' [x]) := by
  refine Ow.Con.intro (a0 := a0) pn_51 (ewG G) (saG G) bbG [.val (.ref x), .val (.ref y), .val (.int (Int32.ofNat u))] (by first | exact Ow.locals_all (by simp [Value.category]) rfl | rfl | (simp [argsToLocals, Value.category]; done)) ?_
  intro p e s m below meth c C hO
  refine Ow.aloadN C dIB_0 (pc' := 1) rfl rfl rfl ?_
  refine Ow.initO C (tw11 G.1) (tw12 G.1) (tw13 G.1) dIB_1 (pc' := 4) rfl rfl (by first | decide | (dsimp only; omega) | (simp [Value.category]; done) | (simp [Value.category]; omega)) (by first | decide | (dsimp only; omega) | (simp [Value.category]; done) | (simp [Value.category]; omega)) ?_
  refine Ow.aloadN C dIB_4 (pc' := 5) rfl rfl rfl ?_
  refine Ow.aloadN C dIB_5 (pc' := 6) rfl rfl rfl ?_
  refine Ow.putF C (tw20 G.1) Fv A (Or.inr ⟨(tw16 G.1), rfl, rfl⟩) (tw1 G.1) (ty := (.array .byte)) (by decide) rfl rfl (by first | assumption | (simp; done) | (simp [*]; done)) dIB_6 (pc' := 9) rfl (fun h2 w2 K2 Fv2 => ?_)
  have Fc2 := Fc.other w2 (Or.inr (slot_ne (Or.inr (tw17 G.1)) (Or.inr (tw16 G.1)) (by decide) (t := .byte) (t' := .array .byte) (by decide) (by decide)))
  have A2 := A.keep K2
  refine Ow.aloadN C dIB_9 (pc' := 10) rfl rfl rfl ?_
  refine Ow.iloadN C dIB_10 (pc' := 11) rfl rfl ?_
  refine Ow.putF C (tw21 G.1) Fc2 A2 (Or.inr ⟨(tw17 G.1), rfl, rfl⟩) (tw1 G.1) (ty := .byte) (by decide) (by rcases hu with e | e <;> subst e <;> rfl) (by rcases hu with e | e <;> subst e <;> rfl) (by first | assumption | (simp; done) | (simp [*]; done)) dIB_11 (pc' := 14) rfl (fun h3 w3 K3 Fc3 => ?_)
  have Fv3 := Fv2.other w3 (Or.inr (slot_ne (Or.inr (tw16 G.1)) (Or.inr (tw17 G.1)) (by decide) (t := .array .byte) (t' := .byte) (by decide) (by decide)))
  refine Ow.retV C rfl dIB_14 (by first | decide | (dsimp only; omega) | (simp [Value.category]; done) | (simp [Value.category]; omega)) (by first | decide | (dsimp only; omega) | (simp [Value.category]; done) | (simp [Value.category]; omega)) [] (by first | (simp; done) | (intro x hx; simp [hx]; done)) ⟨rfl, A2.keep K3, Fv3, Fc3, K2.trans K3 (fun _ q => Or.inl q)⟩
abbrev rmVO : Room := { frames := 2, cells := 2, slots := 6, locals := 29 }
set_option maxHeartbeats 4000000 in
theorem con_VO (G : Glob Z a0) (ch : Int32) (hc : 0 ≤ ch.toInt ∧ ch.toInt < 65536) (h : Heap) (W : List Nat) : Ow.Con l Z EL1 bb (⟨"java/lang/String", "valueOf", "(C)Ljava/lang/String;"⟩ : MethodName) jdk_42_method_139_code 1 (Option.some (Jvm.ClassFile.FieldType.object "java/lang/String")) [] rmVO #[.int ch] h W (fun v h' W' => ∃ x d u : Nat, v = some (.ref x) ∧ Ow.StrK Z h' x d u [ch] ∧ Keep h h' [] ∧ h.size ≤ x ∧ h.size ≤ d) := by
  obtain ⟨cv, hcv, hst⟩ := G.2.1
  refine Ow.Con.intro (a0 := a0) pn_52 (ewG G) (saG G) bbG [.val (.int ch)] (by first | exact Ow.locals_all (by simp [Value.category]) rfl | rfl | (simp [argsToLocals, Value.category]; done)) ?_
  intro p e s m below meth c C hO
  refine Ow.getS C (tw66 G.1) hst dVO_0 (pc' := 3) rfl ?_
  refine Ow.ifCN C dVO_3 (pc' := 6) rfl (XT.i0_eq_f hcv) ?_
  refine Ow.iloadN C dVO_6 (pc' := 7) rfl rfl ?_
  refine Ow.callS C (tw318 G.1) (tw319 G.1) (tw213 G.1) (tw320 G.1) (by decide) (con_CE G ch h W) (fun _ q => q) pd_31 rfl rfl rfl dVO_7 (pc' := 10) rfl (Wt := 0) (Nat.le_refl _) (by first | decide | (dsimp only; omega) | (simp [Value.category]; done) | (simp [Value.category]; omega)) (by first | decide | (dsimp only; omega) | (simp [Value.category]; done) | (simp [Value.category]; omega)) (by first | decide | (dsimp only; omega) | (simp [Value.category]; done) | (simp [Value.category]; omega)) (by first | decide | (dsimp only; omega) | (simp [Value.category]; done) | (simp [Value.category]; omega)) (fun v1 h1 W1 ⟨e1, e1'⟩ s1 => ?_)
  by_cases hl : ch.toInt < 256
  · rw [if_pos hl] at e1
    subst e1 e1'
    dsimp only [Option.toList, List.cons_append, List.nil_append]
    refine Ow.ifCN C dVO_10 (pc' := 13) rfl (XT.i0_eq_f (by decide)) ?_
    refine Ow.newO C (tw321 G.1) (tw1 G.1) (tw2 G.1) dVO_13 (pc' := 16) rfl (by first | decide | (dsimp only; omega) | (simp [Value.category]; done) | (simp [Value.category]; omega)) (by first | decide | (dsimp only; omega) | (simp [Value.category]; done) | (simp [Value.category]; omega)) (fun h2 a2 s2 z2 l2 E2 ⟨A2, D2⟩ => ?_)
    have Fv2 := D2 (O := "java/lang/String") (f := "value") (d := "[B") (ty := .array .byte) (Or.inr (tw16 G.1)) (by decide)
    have Fc2 := D2 (O := "java/lang/String") (f := "coder") (d := "B") (ty := .byte) (Or.inr (tw17 G.1)) (by decide)
    refine Ow.dup C dVO_16 (pc' := 17) rfl rfl ?_
    refine Ow.iloadN C dVO_17 (pc' := 18) rfl rfl ?_
    refine Ow.callS C (tw322 G.1) (tw323 G.1) (tw213 G.1) (tw324 G.1) (by decide) (con_TL G ch h2 _) (fun _ q => q) pd_32 rfl rfl rfl dVO_18 (pc' := 21) rfl (Wt := 2) (Nat.le_refl _) (by first | decide | (dsimp only; omega) | (simp [Value.category]; done) | (simp [Value.category]; omega)) (by first | decide | (dsimp only; omega) | (simp [Value.category]; done) | (simp [Value.category]; omega)) (by first | decide | (dsimp only; omega) | (simp [Value.category]; done) | (simp [Value.category]; omega)) (by first | decide | (dsimp only; omega) | (simp [Value.category]; done) | (simp [Value.category]; omega)) (fun v3 h3 W3 ⟨d, e3, D3, K3, g3⟩ s3 => ?_)
    subst e3
    dsimp only [Option.toList, List.cons_append, List.nil_append]
    refine Ow.iconst C (0 : Int32) dVO_21 (pc' := 22) rfl rfl ?_
    refine Ow.callI C rfl (tw325 G.1) (tw326 G.1) (tw2 G.1) (tw327 G.1) (by decide) (con_IB G a2 d 0 (Or.inl rfl) h3 _ _ _ (A2.keep K3) (Fv2.keep K3 nin0) (Fc2.keep K3 nin0) (by simp)) (fun _ q => q) pd_33 rfl rfl rfl dVO_22 (pc' := 25) rfl (Wt := 1) (Nat.le_refl _) (by first | decide | (dsimp only; omega) | (simp [Value.category]; done) | (simp [Value.category]; omega)) (by first | decide | (dsimp only; omega) | (simp [Value.category]; done) | (simp [Value.category]; omega)) (by first | decide | (dsimp only; omega) | (simp [Value.category]; done) | (simp [Value.category]; omega)) (by first | decide | (dsimp only; omega) | (simp [Value.category]; done) | (simp [Value.category]; omega)) (fun v4 h4 W4 ⟨e4, A4, Fv4, Fc4, K4⟩ s4 => ?_)
    subst e4
    dsimp only [Option.toList, List.cons_append, List.nil_append]
    have hE : h1.size ≤ h2.size := E2.1
    refine Ow.retA C rfl rfl rfl dVO_25 (by first | decide | (dsimp only; omega) | (simp [Value.category]; done) | (simp [Value.category]; omega)) (by first | decide | (dsimp only; omega) | (simp [Value.category]; done) | (simp [Value.category]; omega)) [] (by first | (simp; done) | (intro x hx; simp [hx]; done)) ⟨a2, d, 0, rfl, ⟨A4, Fv4, Fc4, D3.keep K4 (Ow.nin1 (by omega)), Or.inl rfl, fun _ c hc' => by rw [List.mem_singleton.mp hc']; omega, fun c hc' => by rw [List.mem_singleton.mp hc']; exact hc⟩, ((Ow.Keep.z E2).trans K3 (fun z hz => by cases hz)).trans K4 (fun z hz => Or.inr (by rw [List.mem_singleton.mp hz]; omega)), by omega, by omega⟩
  · rw [if_neg hl] at e1
    subst e1 e1'
    dsimp only [Option.toList, List.cons_append, List.nil_append]
    refine Ow.ifCY C 26 dVO_10 (XT.i0_eq_t (by decide)) (by decide) (by decide) ?_
    refine Ow.newO C (tw321 G.1) (tw1 G.1) (tw2 G.1) dVO_26 (pc' := 29) rfl (by first | decide | (dsimp only; omega) | (simp [Value.category]; done) | (simp [Value.category]; omega)) (by first | decide | (dsimp only; omega) | (simp [Value.category]; done) | (simp [Value.category]; omega)) (fun h2 a2 s2 z2 l2 E2 ⟨A2, D2⟩ => ?_)
    have Fv2 := D2 (O := "java/lang/String") (f := "value") (d := "[B") (ty := .array .byte) (Or.inr (tw16 G.1)) (by decide)
    have Fc2 := D2 (O := "java/lang/String") (f := "coder") (d := "B") (ty := .byte) (Or.inr (tw17 G.1)) (by decide)
    refine Ow.dup C dVO_29 (pc' := 30) rfl rfl ?_
    refine Ow.iloadN C dVO_30 (pc' := 31) rfl rfl ?_
    refine Ow.callS C (tw328 G.1) (tw329 G.1) (tw225 G.1) (tw330 G.1) (by decide) (con_T2 G ch h2 _) (fun _ q => q) pd_32 rfl rfl rfl dVO_31 (pc' := 34) rfl (Wt := 2) (Nat.le_refl _) (by first | decide | (dsimp only; omega) | (simp [Value.category]; done) | (simp [Value.category]; omega)) (by first | decide | (dsimp only; omega) | (simp [Value.category]; done) | (simp [Value.category]; omega)) (by first | decide | (dsimp only; omega) | (simp [Value.category]; done) | (simp [Value.category]; omega)) (by first | decide | (dsimp only; omega) | (simp [Value.category]; done) | (simp [Value.category]; omega)) (fun v3 h3 W3 ⟨d, e3, D3, K3, g3⟩ s3 => ?_)
    subst e3
    dsimp only [Option.toList, List.cons_append, List.nil_append]
    refine Ow.iconst C (1 : Int32) dVO_34 (pc' := 35) rfl rfl ?_
    refine Ow.callI C rfl (tw325 G.1) (tw326 G.1) (tw2 G.1) (tw327 G.1) (by decide) (con_IB G a2 d 1 (Or.inr rfl) h3 _ _ _ (A2.keep K3) (Fv2.keep K3 nin0) (Fc2.keep K3 nin0) (by simp)) (fun _ q => q) pd_33 rfl rfl rfl dVO_35 (pc' := 38) rfl (Wt := 1) (Nat.le_refl _) (by first | decide | (dsimp only; omega) | (simp [Value.category]; done) | (simp [Value.category]; omega)) (by first | decide | (dsimp only; omega) | (simp [Value.category]; done) | (simp [Value.category]; omega)) (by first | decide | (dsimp only; omega) | (simp [Value.category]; done) | (simp [Value.category]; omega)) (by first | decide | (dsimp only; omega) | (simp [Value.category]; done) | (simp [Value.category]; omega)) (fun v4 h4 W4 ⟨e4, A4, Fv4, Fc4, K4⟩ s4 => ?_)
    subst e4
    dsimp only [Option.toList, List.cons_append, List.nil_append]
    have hE : h1.size ≤ h2.size := E2.1
    refine Ow.retA C rfl rfl rfl dVO_38 (by first | decide | (dsimp only; omega) | (simp [Value.category]; done) | (simp [Value.category]; omega)) (by first | decide | (dsimp only; omega) | (simp [Value.category]; done) | (simp [Value.category]; omega)) [] (by first | (simp; done) | (intro x hx; simp [hx]; done)) ⟨a2, d, 1, rfl, ⟨A4, Fv4, Fc4, D3.keep K4 (Ow.nin1 (by omega)), Or.inr rfl, fun q => (nomatch q), fun c hc' => by rw [List.mem_singleton.mp hc']; exact hc⟩, ((Ow.Keep.z E2).trans K3 (fun z hz => by cases hz)).trans K4 (fun z hz => Or.inr (by rw [List.mem_singleton.mp hz]; omega)), by omega, by omega⟩
end StrVO

section Sfx
variable {l : Launch} {Z : State} {a0 : Array Value}
abbrev SFX : List Int32 := [58, 32, 110, 111, 116, 32, 85, 84, 70, 45, 56, 32, 116, 101, 120, 116]
abbrev rmSX : Room := { frames := 5, cells := 0, slots := 0, locals := 66 }
set_option maxHeartbeats 4000000 in
theorem con_SX (G : Glob Z a0) (x d u o : Nat) (cs : List Int32) (hl : cs.length = o + 16) (hs : ∀ i, i < 16 → cs.getD (o + i) 0 = SFX.getD i 0) (h : Heap) (W : List Nat) (S : Ow.StrK Z h x d u cs) (hb : o < 1000) :
    Ow.Con l Z EL1 bb (⟨"com/example/congruent/congruent/io/UnreadableInputExceptionNotUtf8PinLaw", "suffixAt", "(Ljava/lang/String;I)Z"⟩ : MethodName) method_3_code 2 (Option.some Jvm.ClassFile.FieldType.boolean) [] rmSX #[.ref x, .int (Int32.ofNat o)] h W (fun v h' W' => v = some (.int 1) ∧ h' = h) := by
  refine Ow.Con.intro (a0 := a0) pn_53 (ewG G) (saG G) bbG [.val (.ref x), .val (.int (Int32.ofNat o))] (by first | exact Ow.locals_all (by simp [Value.category]) rfl | rfl | (simp [argsToLocals, Value.category]; done)) ?_
  intro p e s m below meth c C hO
  refine Ow.aloadN C dSX_0 (pc' := 1) rfl rfl rfl ?_
  refine Ow.iloadN C dSX_1 (pc' := 2) rfl rfl ?_
  refine Ow.callV C (y := (⟨"java/lang/String", "charAt", "(I)C"⟩ : MethodName)) (z := (⟨"java/lang/String", "charAt", "(I)C"⟩ : MethodName)) (tw201 G.1) (tw202 G.1) (tw204 G.1) (tw204 G.1) (tw203 G.1) (tw2 G.1) (tw205 G.1) (by decide) S.exa (con_CAk G x d u (o + 0) cs (by omega) h W S) (fun _ q => q) pd_34 rfl rfl rfl dSX_2 (pc' := 5) rfl (Wt := 0) (Nat.le_refl _) (by first | decide | (dsimp only; omega) | (simp [Value.category]; done) | (simp [Value.category]; omega)) (by first | decide | (dsimp only; omega) | (simp [Value.category]; done) | (simp [Value.category]; omega)) (by first | decide | (dsimp only; omega) | (simp [Value.category]; done) | (simp [Value.category]; omega)) (by first | decide | (dsimp only; omega) | (simp [Value.category]; done) | (simp [Value.category]; omega)) (fun v0 h0 W0 ⟨e0, e0'⟩ s0 => ?_)
  subst e0 e0'
  dsimp only [Option.toList, List.cons_append, List.nil_append]
  refine Ow.bipush C (58 : Int32) dSX_5 (pc' := 7) rfl rfl ?_
  refine Ow.icmpN C dSX_7 (pc' := 10) rfl (XT.ii_ne_f (by rw [hs 0 (by decide)]; rfl)) ?_
  refine Ow.aloadN C dSX_10 (pc' := 11) rfl rfl rfl ?_
  refine Ow.iloadN C dSX_11 (pc' := 12) rfl rfl ?_
  refine Ow.iconst C (1 : Int32) dSX_12 (pc' := 13) rfl rfl ?_
  refine Ow.iadd C dSX_13 (pc' := 14) rfl ?_
  rw [show Int32.ofNat o + (1 : Int32) = Int32.ofNat (o + 1) from Ow.add_ofNat (i := o) (j := 1) (by omega)]
  refine Ow.callV C (y := (⟨"java/lang/String", "charAt", "(I)C"⟩ : MethodName)) (z := (⟨"java/lang/String", "charAt", "(I)C"⟩ : MethodName)) (tw201 G.1) (tw202 G.1) (tw204 G.1) (tw204 G.1) (tw203 G.1) (tw2 G.1) (tw205 G.1) (by decide) S.exa (con_CAk G x d u (o + 1) cs (by omega) h0 W S) (fun _ q => q) pd_34 rfl rfl rfl dSX_14 (pc' := 17) rfl (Wt := 0) (Nat.le_refl _) (by first | decide | (dsimp only; omega) | (simp [Value.category]; done) | (simp [Value.category]; omega)) (by first | decide | (dsimp only; omega) | (simp [Value.category]; done) | (simp [Value.category]; omega)) (by first | decide | (dsimp only; omega) | (simp [Value.category]; done) | (simp [Value.category]; omega)) (by first | decide | (dsimp only; omega) | (simp [Value.category]; done) | (simp [Value.category]; omega)) (fun v1 h1 W1 ⟨e1, e1'⟩ s1 => ?_)
  subst e1 e1'
  dsimp only [Option.toList, List.cons_append, List.nil_append]
  refine Ow.bipush C (32 : Int32) dSX_17 (pc' := 19) rfl rfl ?_
  refine Ow.icmpN C dSX_19 (pc' := 22) rfl (XT.ii_ne_f (by rw [hs 1 (by decide)]; rfl)) ?_
  refine Ow.aloadN C dSX_22 (pc' := 23) rfl rfl rfl ?_
  refine Ow.iloadN C dSX_23 (pc' := 24) rfl rfl ?_
  refine Ow.iconst C (2 : Int32) dSX_24 (pc' := 25) rfl rfl ?_
  refine Ow.iadd C dSX_25 (pc' := 26) rfl ?_
  rw [show Int32.ofNat o + (2 : Int32) = Int32.ofNat (o + 2) from Ow.add_ofNat (i := o) (j := 2) (by omega)]
  refine Ow.callV C (y := (⟨"java/lang/String", "charAt", "(I)C"⟩ : MethodName)) (z := (⟨"java/lang/String", "charAt", "(I)C"⟩ : MethodName)) (tw201 G.1) (tw202 G.1) (tw204 G.1) (tw204 G.1) (tw203 G.1) (tw2 G.1) (tw205 G.1) (by decide) S.exa (con_CAk G x d u (o + 2) cs (by omega) h1 W S) (fun _ q => q) pd_34 rfl rfl rfl dSX_26 (pc' := 29) rfl (Wt := 0) (Nat.le_refl _) (by first | decide | (dsimp only; omega) | (simp [Value.category]; done) | (simp [Value.category]; omega)) (by first | decide | (dsimp only; omega) | (simp [Value.category]; done) | (simp [Value.category]; omega)) (by first | decide | (dsimp only; omega) | (simp [Value.category]; done) | (simp [Value.category]; omega)) (by first | decide | (dsimp only; omega) | (simp [Value.category]; done) | (simp [Value.category]; omega)) (fun v2 h2 W2 ⟨e2, e2'⟩ s2 => ?_)
  subst e2 e2'
  dsimp only [Option.toList, List.cons_append, List.nil_append]
  refine Ow.bipush C (110 : Int32) dSX_29 (pc' := 31) rfl rfl ?_
  refine Ow.icmpN C dSX_31 (pc' := 34) rfl (XT.ii_ne_f (by rw [hs 2 (by decide)]; rfl)) ?_
  refine Ow.aloadN C dSX_34 (pc' := 35) rfl rfl rfl ?_
  refine Ow.iloadN C dSX_35 (pc' := 36) rfl rfl ?_
  refine Ow.iconst C (3 : Int32) dSX_36 (pc' := 37) rfl rfl ?_
  refine Ow.iadd C dSX_37 (pc' := 38) rfl ?_
  rw [show Int32.ofNat o + (3 : Int32) = Int32.ofNat (o + 3) from Ow.add_ofNat (i := o) (j := 3) (by omega)]
  refine Ow.callV C (y := (⟨"java/lang/String", "charAt", "(I)C"⟩ : MethodName)) (z := (⟨"java/lang/String", "charAt", "(I)C"⟩ : MethodName)) (tw201 G.1) (tw202 G.1) (tw204 G.1) (tw204 G.1) (tw203 G.1) (tw2 G.1) (tw205 G.1) (by decide) S.exa (con_CAk G x d u (o + 3) cs (by omega) h2 W S) (fun _ q => q) pd_34 rfl rfl rfl dSX_38 (pc' := 41) rfl (Wt := 0) (Nat.le_refl _) (by first | decide | (dsimp only; omega) | (simp [Value.category]; done) | (simp [Value.category]; omega)) (by first | decide | (dsimp only; omega) | (simp [Value.category]; done) | (simp [Value.category]; omega)) (by first | decide | (dsimp only; omega) | (simp [Value.category]; done) | (simp [Value.category]; omega)) (by first | decide | (dsimp only; omega) | (simp [Value.category]; done) | (simp [Value.category]; omega)) (fun v3 h3 W3 ⟨e3, e3'⟩ s3 => ?_)
  subst e3 e3'
  dsimp only [Option.toList, List.cons_append, List.nil_append]
  refine Ow.bipush C (111 : Int32) dSX_41 (pc' := 43) rfl rfl ?_
  refine Ow.icmpN C dSX_43 (pc' := 46) rfl (XT.ii_ne_f (by rw [hs 3 (by decide)]; rfl)) ?_
  refine Ow.aloadN C dSX_46 (pc' := 47) rfl rfl rfl ?_
  refine Ow.iloadN C dSX_47 (pc' := 48) rfl rfl ?_
  refine Ow.iconst C (4 : Int32) dSX_48 (pc' := 49) rfl rfl ?_
  refine Ow.iadd C dSX_49 (pc' := 50) rfl ?_
  rw [show Int32.ofNat o + (4 : Int32) = Int32.ofNat (o + 4) from Ow.add_ofNat (i := o) (j := 4) (by omega)]
  refine Ow.callV C (y := (⟨"java/lang/String", "charAt", "(I)C"⟩ : MethodName)) (z := (⟨"java/lang/String", "charAt", "(I)C"⟩ : MethodName)) (tw201 G.1) (tw202 G.1) (tw204 G.1) (tw204 G.1) (tw203 G.1) (tw2 G.1) (tw205 G.1) (by decide) S.exa (con_CAk G x d u (o + 4) cs (by omega) h3 W S) (fun _ q => q) pd_34 rfl rfl rfl dSX_50 (pc' := 53) rfl (Wt := 0) (Nat.le_refl _) (by first | decide | (dsimp only; omega) | (simp [Value.category]; done) | (simp [Value.category]; omega)) (by first | decide | (dsimp only; omega) | (simp [Value.category]; done) | (simp [Value.category]; omega)) (by first | decide | (dsimp only; omega) | (simp [Value.category]; done) | (simp [Value.category]; omega)) (by first | decide | (dsimp only; omega) | (simp [Value.category]; done) | (simp [Value.category]; omega)) (fun v4 h4 W4 ⟨e4, e4'⟩ s4 => ?_)
  subst e4 e4'
  dsimp only [Option.toList, List.cons_append, List.nil_append]
  refine Ow.bipush C (116 : Int32) dSX_53 (pc' := 55) rfl rfl ?_
  refine Ow.icmpN C dSX_55 (pc' := 58) rfl (XT.ii_ne_f (by rw [hs 4 (by decide)]; rfl)) ?_
  refine Ow.aloadN C dSX_58 (pc' := 59) rfl rfl rfl ?_
  refine Ow.iloadN C dSX_59 (pc' := 60) rfl rfl ?_
  refine Ow.iconst C (5 : Int32) dSX_60 (pc' := 61) rfl rfl ?_
  refine Ow.iadd C dSX_61 (pc' := 62) rfl ?_
  rw [show Int32.ofNat o + (5 : Int32) = Int32.ofNat (o + 5) from Ow.add_ofNat (i := o) (j := 5) (by omega)]
  refine Ow.callV C (y := (⟨"java/lang/String", "charAt", "(I)C"⟩ : MethodName)) (z := (⟨"java/lang/String", "charAt", "(I)C"⟩ : MethodName)) (tw201 G.1) (tw202 G.1) (tw204 G.1) (tw204 G.1) (tw203 G.1) (tw2 G.1) (tw205 G.1) (by decide) S.exa (con_CAk G x d u (o + 5) cs (by omega) h4 W S) (fun _ q => q) pd_34 rfl rfl rfl dSX_62 (pc' := 65) rfl (Wt := 0) (Nat.le_refl _) (by first | decide | (dsimp only; omega) | (simp [Value.category]; done) | (simp [Value.category]; omega)) (by first | decide | (dsimp only; omega) | (simp [Value.category]; done) | (simp [Value.category]; omega)) (by first | decide | (dsimp only; omega) | (simp [Value.category]; done) | (simp [Value.category]; omega)) (by first | decide | (dsimp only; omega) | (simp [Value.category]; done) | (simp [Value.category]; omega)) (fun v5 h5 W5 ⟨e5, e5'⟩ s5 => ?_)
  subst e5 e5'
  dsimp only [Option.toList, List.cons_append, List.nil_append]
  refine Ow.bipush C (32 : Int32) dSX_65 (pc' := 67) rfl rfl ?_
  refine Ow.icmpN C dSX_67 (pc' := 70) rfl (XT.ii_ne_f (by rw [hs 5 (by decide)]; rfl)) ?_
  refine Ow.aloadN C dSX_70 (pc' := 71) rfl rfl rfl ?_
  refine Ow.iloadN C dSX_71 (pc' := 72) rfl rfl ?_
  refine Ow.bipush C (6 : Int32) dSX_72 (pc' := 74) rfl rfl ?_
  refine Ow.iadd C dSX_74 (pc' := 75) rfl ?_
  rw [show Int32.ofNat o + (6 : Int32) = Int32.ofNat (o + 6) from Ow.add_ofNat (i := o) (j := 6) (by omega)]
  refine Ow.callV C (y := (⟨"java/lang/String", "charAt", "(I)C"⟩ : MethodName)) (z := (⟨"java/lang/String", "charAt", "(I)C"⟩ : MethodName)) (tw201 G.1) (tw202 G.1) (tw204 G.1) (tw204 G.1) (tw203 G.1) (tw2 G.1) (tw205 G.1) (by decide) S.exa (con_CAk G x d u (o + 6) cs (by omega) h5 W S) (fun _ q => q) pd_34 rfl rfl rfl dSX_75 (pc' := 78) rfl (Wt := 0) (Nat.le_refl _) (by first | decide | (dsimp only; omega) | (simp [Value.category]; done) | (simp [Value.category]; omega)) (by first | decide | (dsimp only; omega) | (simp [Value.category]; done) | (simp [Value.category]; omega)) (by first | decide | (dsimp only; omega) | (simp [Value.category]; done) | (simp [Value.category]; omega)) (by first | decide | (dsimp only; omega) | (simp [Value.category]; done) | (simp [Value.category]; omega)) (fun v6 h6 W6 ⟨e6, e6'⟩ s6 => ?_)
  subst e6 e6'
  dsimp only [Option.toList, List.cons_append, List.nil_append]
  refine Ow.bipush C (85 : Int32) dSX_78 (pc' := 80) rfl rfl ?_
  refine Ow.icmpN C dSX_80 (pc' := 83) rfl (XT.ii_ne_f (by rw [hs 6 (by decide)]; rfl)) ?_
  refine Ow.aloadN C dSX_83 (pc' := 84) rfl rfl rfl ?_
  refine Ow.iloadN C dSX_84 (pc' := 85) rfl rfl ?_
  refine Ow.bipush C (7 : Int32) dSX_85 (pc' := 87) rfl rfl ?_
  refine Ow.iadd C dSX_87 (pc' := 88) rfl ?_
  rw [show Int32.ofNat o + (7 : Int32) = Int32.ofNat (o + 7) from Ow.add_ofNat (i := o) (j := 7) (by omega)]
  refine Ow.callV C (y := (⟨"java/lang/String", "charAt", "(I)C"⟩ : MethodName)) (z := (⟨"java/lang/String", "charAt", "(I)C"⟩ : MethodName)) (tw201 G.1) (tw202 G.1) (tw204 G.1) (tw204 G.1) (tw203 G.1) (tw2 G.1) (tw205 G.1) (by decide) S.exa (con_CAk G x d u (o + 7) cs (by omega) h6 W S) (fun _ q => q) pd_34 rfl rfl rfl dSX_88 (pc' := 91) rfl (Wt := 0) (Nat.le_refl _) (by first | decide | (dsimp only; omega) | (simp [Value.category]; done) | (simp [Value.category]; omega)) (by first | decide | (dsimp only; omega) | (simp [Value.category]; done) | (simp [Value.category]; omega)) (by first | decide | (dsimp only; omega) | (simp [Value.category]; done) | (simp [Value.category]; omega)) (by first | decide | (dsimp only; omega) | (simp [Value.category]; done) | (simp [Value.category]; omega)) (fun v7 h7 W7 ⟨e7, e7'⟩ s7 => ?_)
  subst e7 e7'
  dsimp only [Option.toList, List.cons_append, List.nil_append]
  refine Ow.bipush C (84 : Int32) dSX_91 (pc' := 93) rfl rfl ?_
  refine Ow.icmpN C dSX_93 (pc' := 96) rfl (XT.ii_ne_f (by rw [hs 7 (by decide)]; rfl)) ?_
  refine Ow.aloadN C dSX_96 (pc' := 97) rfl rfl rfl ?_
  refine Ow.iloadN C dSX_97 (pc' := 98) rfl rfl ?_
  refine Ow.bipush C (8 : Int32) dSX_98 (pc' := 100) rfl rfl ?_
  refine Ow.iadd C dSX_100 (pc' := 101) rfl ?_
  rw [show Int32.ofNat o + (8 : Int32) = Int32.ofNat (o + 8) from Ow.add_ofNat (i := o) (j := 8) (by omega)]
  refine Ow.callV C (y := (⟨"java/lang/String", "charAt", "(I)C"⟩ : MethodName)) (z := (⟨"java/lang/String", "charAt", "(I)C"⟩ : MethodName)) (tw201 G.1) (tw202 G.1) (tw204 G.1) (tw204 G.1) (tw203 G.1) (tw2 G.1) (tw205 G.1) (by decide) S.exa (con_CAk G x d u (o + 8) cs (by omega) h7 W S) (fun _ q => q) pd_34 rfl rfl rfl dSX_101 (pc' := 104) rfl (Wt := 0) (Nat.le_refl _) (by first | decide | (dsimp only; omega) | (simp [Value.category]; done) | (simp [Value.category]; omega)) (by first | decide | (dsimp only; omega) | (simp [Value.category]; done) | (simp [Value.category]; omega)) (by first | decide | (dsimp only; omega) | (simp [Value.category]; done) | (simp [Value.category]; omega)) (by first | decide | (dsimp only; omega) | (simp [Value.category]; done) | (simp [Value.category]; omega)) (fun v8 h8 W8 ⟨e8, e8'⟩ s8 => ?_)
  subst e8 e8'
  dsimp only [Option.toList, List.cons_append, List.nil_append]
  refine Ow.bipush C (70 : Int32) dSX_104 (pc' := 106) rfl rfl ?_
  refine Ow.icmpN C dSX_106 (pc' := 109) rfl (XT.ii_ne_f (by rw [hs 8 (by decide)]; rfl)) ?_
  refine Ow.aloadN C dSX_109 (pc' := 110) rfl rfl rfl ?_
  refine Ow.iloadN C dSX_110 (pc' := 111) rfl rfl ?_
  refine Ow.bipush C (9 : Int32) dSX_111 (pc' := 113) rfl rfl ?_
  refine Ow.iadd C dSX_113 (pc' := 114) rfl ?_
  rw [show Int32.ofNat o + (9 : Int32) = Int32.ofNat (o + 9) from Ow.add_ofNat (i := o) (j := 9) (by omega)]
  refine Ow.callV C (y := (⟨"java/lang/String", "charAt", "(I)C"⟩ : MethodName)) (z := (⟨"java/lang/String", "charAt", "(I)C"⟩ : MethodName)) (tw201 G.1) (tw202 G.1) (tw204 G.1) (tw204 G.1) (tw203 G.1) (tw2 G.1) (tw205 G.1) (by decide) S.exa (con_CAk G x d u (o + 9) cs (by omega) h8 W S) (fun _ q => q) pd_34 rfl rfl rfl dSX_114 (pc' := 117) rfl (Wt := 0) (Nat.le_refl _) (by first | decide | (dsimp only; omega) | (simp [Value.category]; done) | (simp [Value.category]; omega)) (by first | decide | (dsimp only; omega) | (simp [Value.category]; done) | (simp [Value.category]; omega)) (by first | decide | (dsimp only; omega) | (simp [Value.category]; done) | (simp [Value.category]; omega)) (by first | decide | (dsimp only; omega) | (simp [Value.category]; done) | (simp [Value.category]; omega)) (fun v9 h9 W9 ⟨e9, e9'⟩ s9 => ?_)
  subst e9 e9'
  dsimp only [Option.toList, List.cons_append, List.nil_append]
  refine Ow.bipush C (45 : Int32) dSX_117 (pc' := 119) rfl rfl ?_
  refine Ow.icmpN C dSX_119 (pc' := 122) rfl (XT.ii_ne_f (by rw [hs 9 (by decide)]; rfl)) ?_
  refine Ow.aloadN C dSX_122 (pc' := 123) rfl rfl rfl ?_
  refine Ow.iloadN C dSX_123 (pc' := 124) rfl rfl ?_
  refine Ow.bipush C (10 : Int32) dSX_124 (pc' := 126) rfl rfl ?_
  refine Ow.iadd C dSX_126 (pc' := 127) rfl ?_
  rw [show Int32.ofNat o + (10 : Int32) = Int32.ofNat (o + 10) from Ow.add_ofNat (i := o) (j := 10) (by omega)]
  refine Ow.callV C (y := (⟨"java/lang/String", "charAt", "(I)C"⟩ : MethodName)) (z := (⟨"java/lang/String", "charAt", "(I)C"⟩ : MethodName)) (tw201 G.1) (tw202 G.1) (tw204 G.1) (tw204 G.1) (tw203 G.1) (tw2 G.1) (tw205 G.1) (by decide) S.exa (con_CAk G x d u (o + 10) cs (by omega) h9 W S) (fun _ q => q) pd_34 rfl rfl rfl dSX_127 (pc' := 130) rfl (Wt := 0) (Nat.le_refl _) (by first | decide | (dsimp only; omega) | (simp [Value.category]; done) | (simp [Value.category]; omega)) (by first | decide | (dsimp only; omega) | (simp [Value.category]; done) | (simp [Value.category]; omega)) (by first | decide | (dsimp only; omega) | (simp [Value.category]; done) | (simp [Value.category]; omega)) (by first | decide | (dsimp only; omega) | (simp [Value.category]; done) | (simp [Value.category]; omega)) (fun v10 h10 W10 ⟨e10, e10'⟩ s10 => ?_)
  subst e10 e10'
  dsimp only [Option.toList, List.cons_append, List.nil_append]
  refine Ow.bipush C (56 : Int32) dSX_130 (pc' := 132) rfl rfl ?_
  refine Ow.icmpN C dSX_132 (pc' := 135) rfl (XT.ii_ne_f (by rw [hs 10 (by decide)]; rfl)) ?_
  refine Ow.aloadN C dSX_135 (pc' := 136) rfl rfl rfl ?_
  refine Ow.iloadN C dSX_136 (pc' := 137) rfl rfl ?_
  refine Ow.bipush C (11 : Int32) dSX_137 (pc' := 139) rfl rfl ?_
  refine Ow.iadd C dSX_139 (pc' := 140) rfl ?_
  rw [show Int32.ofNat o + (11 : Int32) = Int32.ofNat (o + 11) from Ow.add_ofNat (i := o) (j := 11) (by omega)]
  refine Ow.callV C (y := (⟨"java/lang/String", "charAt", "(I)C"⟩ : MethodName)) (z := (⟨"java/lang/String", "charAt", "(I)C"⟩ : MethodName)) (tw201 G.1) (tw202 G.1) (tw204 G.1) (tw204 G.1) (tw203 G.1) (tw2 G.1) (tw205 G.1) (by decide) S.exa (con_CAk G x d u (o + 11) cs (by omega) h10 W S) (fun _ q => q) pd_34 rfl rfl rfl dSX_140 (pc' := 143) rfl (Wt := 0) (Nat.le_refl _) (by first | decide | (dsimp only; omega) | (simp [Value.category]; done) | (simp [Value.category]; omega)) (by first | decide | (dsimp only; omega) | (simp [Value.category]; done) | (simp [Value.category]; omega)) (by first | decide | (dsimp only; omega) | (simp [Value.category]; done) | (simp [Value.category]; omega)) (by first | decide | (dsimp only; omega) | (simp [Value.category]; done) | (simp [Value.category]; omega)) (fun v11 h11 W11 ⟨e11, e11'⟩ s11 => ?_)
  subst e11 e11'
  dsimp only [Option.toList, List.cons_append, List.nil_append]
  refine Ow.bipush C (32 : Int32) dSX_143 (pc' := 145) rfl rfl ?_
  refine Ow.icmpN C dSX_145 (pc' := 148) rfl (XT.ii_ne_f (by rw [hs 11 (by decide)]; rfl)) ?_
  refine Ow.aloadN C dSX_148 (pc' := 149) rfl rfl rfl ?_
  refine Ow.iloadN C dSX_149 (pc' := 150) rfl rfl ?_
  refine Ow.bipush C (12 : Int32) dSX_150 (pc' := 152) rfl rfl ?_
  refine Ow.iadd C dSX_152 (pc' := 153) rfl ?_
  rw [show Int32.ofNat o + (12 : Int32) = Int32.ofNat (o + 12) from Ow.add_ofNat (i := o) (j := 12) (by omega)]
  refine Ow.callV C (y := (⟨"java/lang/String", "charAt", "(I)C"⟩ : MethodName)) (z := (⟨"java/lang/String", "charAt", "(I)C"⟩ : MethodName)) (tw201 G.1) (tw202 G.1) (tw204 G.1) (tw204 G.1) (tw203 G.1) (tw2 G.1) (tw205 G.1) (by decide) S.exa (con_CAk G x d u (o + 12) cs (by omega) h11 W S) (fun _ q => q) pd_34 rfl rfl rfl dSX_153 (pc' := 156) rfl (Wt := 0) (Nat.le_refl _) (by first | decide | (dsimp only; omega) | (simp [Value.category]; done) | (simp [Value.category]; omega)) (by first | decide | (dsimp only; omega) | (simp [Value.category]; done) | (simp [Value.category]; omega)) (by first | decide | (dsimp only; omega) | (simp [Value.category]; done) | (simp [Value.category]; omega)) (by first | decide | (dsimp only; omega) | (simp [Value.category]; done) | (simp [Value.category]; omega)) (fun v12 h12 W12 ⟨e12, e12'⟩ s12 => ?_)
  subst e12 e12'
  dsimp only [Option.toList, List.cons_append, List.nil_append]
  refine Ow.bipush C (116 : Int32) dSX_156 (pc' := 158) rfl rfl ?_
  refine Ow.icmpN C dSX_158 (pc' := 161) rfl (XT.ii_ne_f (by rw [hs 12 (by decide)]; rfl)) ?_
  refine Ow.aloadN C dSX_161 (pc' := 162) rfl rfl rfl ?_
  refine Ow.iloadN C dSX_162 (pc' := 163) rfl rfl ?_
  refine Ow.bipush C (13 : Int32) dSX_163 (pc' := 165) rfl rfl ?_
  refine Ow.iadd C dSX_165 (pc' := 166) rfl ?_
  rw [show Int32.ofNat o + (13 : Int32) = Int32.ofNat (o + 13) from Ow.add_ofNat (i := o) (j := 13) (by omega)]
  refine Ow.callV C (y := (⟨"java/lang/String", "charAt", "(I)C"⟩ : MethodName)) (z := (⟨"java/lang/String", "charAt", "(I)C"⟩ : MethodName)) (tw201 G.1) (tw202 G.1) (tw204 G.1) (tw204 G.1) (tw203 G.1) (tw2 G.1) (tw205 G.1) (by decide) S.exa (con_CAk G x d u (o + 13) cs (by omega) h12 W S) (fun _ q => q) pd_34 rfl rfl rfl dSX_166 (pc' := 169) rfl (Wt := 0) (Nat.le_refl _) (by first | decide | (dsimp only; omega) | (simp [Value.category]; done) | (simp [Value.category]; omega)) (by first | decide | (dsimp only; omega) | (simp [Value.category]; done) | (simp [Value.category]; omega)) (by first | decide | (dsimp only; omega) | (simp [Value.category]; done) | (simp [Value.category]; omega)) (by first | decide | (dsimp only; omega) | (simp [Value.category]; done) | (simp [Value.category]; omega)) (fun v13 h13 W13 ⟨e13, e13'⟩ s13 => ?_)
  subst e13 e13'
  dsimp only [Option.toList, List.cons_append, List.nil_append]
  refine Ow.bipush C (101 : Int32) dSX_169 (pc' := 171) rfl rfl ?_
  refine Ow.icmpN C dSX_171 (pc' := 174) rfl (XT.ii_ne_f (by rw [hs 13 (by decide)]; rfl)) ?_
  refine Ow.aloadN C dSX_174 (pc' := 175) rfl rfl rfl ?_
  refine Ow.iloadN C dSX_175 (pc' := 176) rfl rfl ?_
  refine Ow.bipush C (14 : Int32) dSX_176 (pc' := 178) rfl rfl ?_
  refine Ow.iadd C dSX_178 (pc' := 179) rfl ?_
  rw [show Int32.ofNat o + (14 : Int32) = Int32.ofNat (o + 14) from Ow.add_ofNat (i := o) (j := 14) (by omega)]
  refine Ow.callV C (y := (⟨"java/lang/String", "charAt", "(I)C"⟩ : MethodName)) (z := (⟨"java/lang/String", "charAt", "(I)C"⟩ : MethodName)) (tw201 G.1) (tw202 G.1) (tw204 G.1) (tw204 G.1) (tw203 G.1) (tw2 G.1) (tw205 G.1) (by decide) S.exa (con_CAk G x d u (o + 14) cs (by omega) h13 W S) (fun _ q => q) pd_34 rfl rfl rfl dSX_179 (pc' := 182) rfl (Wt := 0) (Nat.le_refl _) (by first | decide | (dsimp only; omega) | (simp [Value.category]; done) | (simp [Value.category]; omega)) (by first | decide | (dsimp only; omega) | (simp [Value.category]; done) | (simp [Value.category]; omega)) (by first | decide | (dsimp only; omega) | (simp [Value.category]; done) | (simp [Value.category]; omega)) (by first | decide | (dsimp only; omega) | (simp [Value.category]; done) | (simp [Value.category]; omega)) (fun v14 h14 W14 ⟨e14, e14'⟩ s14 => ?_)
  subst e14 e14'
  dsimp only [Option.toList, List.cons_append, List.nil_append]
  refine Ow.bipush C (120 : Int32) dSX_182 (pc' := 184) rfl rfl ?_
  refine Ow.icmpN C dSX_184 (pc' := 187) rfl (XT.ii_ne_f (by rw [hs 14 (by decide)]; rfl)) ?_
  refine Ow.aloadN C dSX_187 (pc' := 188) rfl rfl rfl ?_
  refine Ow.iloadN C dSX_188 (pc' := 189) rfl rfl ?_
  refine Ow.bipush C (15 : Int32) dSX_189 (pc' := 191) rfl rfl ?_
  refine Ow.iadd C dSX_191 (pc' := 192) rfl ?_
  rw [show Int32.ofNat o + (15 : Int32) = Int32.ofNat (o + 15) from Ow.add_ofNat (i := o) (j := 15) (by omega)]
  refine Ow.callV C (y := (⟨"java/lang/String", "charAt", "(I)C"⟩ : MethodName)) (z := (⟨"java/lang/String", "charAt", "(I)C"⟩ : MethodName)) (tw201 G.1) (tw202 G.1) (tw204 G.1) (tw204 G.1) (tw203 G.1) (tw2 G.1) (tw205 G.1) (by decide) S.exa (con_CAk G x d u (o + 15) cs (by omega) h14 W S) (fun _ q => q) pd_34 rfl rfl rfl dSX_192 (pc' := 195) rfl (Wt := 0) (Nat.le_refl _) (by first | decide | (dsimp only; omega) | (simp [Value.category]; done) | (simp [Value.category]; omega)) (by first | decide | (dsimp only; omega) | (simp [Value.category]; done) | (simp [Value.category]; omega)) (by first | decide | (dsimp only; omega) | (simp [Value.category]; done) | (simp [Value.category]; omega)) (by first | decide | (dsimp only; omega) | (simp [Value.category]; done) | (simp [Value.category]; omega)) (fun v15 h15 W15 ⟨e15, e15'⟩ s15 => ?_)
  subst e15 e15'
  dsimp only [Option.toList, List.cons_append, List.nil_append]
  refine Ow.bipush C (116 : Int32) dSX_195 (pc' := 197) rfl rfl ?_
  refine Ow.icmpN C dSX_197 (pc' := 200) rfl (XT.ii_ne_f (by rw [hs 15 (by decide)]; rfl)) ?_
  refine Ow.iconst C (1 : Int32) dSX_200 (pc' := 201) rfl rfl ?_
  refine Ow.goto C 205 dSX_201 (by decide) (by decide) ?_
  refine Ow.retN C (t := .boolean) rfl (by simp) dSX_205 (by first | decide | (dsimp only; omega) | (simp [Value.category]; done) | (simp [Value.category]; omega)) (by first | decide | (dsimp only; omega) | (simp [Value.category]; done) | (simp [Value.category]; omega)) [] (by first | (simp; done) | (intro x hx; simp [hx]; done)) ⟨rfl, rfl⟩
end Sfx

section Law
variable {l : Launch} {Z : State} {a0 : Array Value}
open Jvm.Free.Exc (excAtoms msgD obD thD)
theorem excG (G : Glob Z a0) : Ow.ExcW UX a0 Z := fun x hx => G.1 x ((by decide +kernel : ∀ x ∈ excAtoms UX, x ≠ Ow.suppW → x ∈ tables_1) x hx.1 hx.2)
abbrev CtorQ (Z : State) (a mm : Nat) (h : Heap) (v : Option Value) (h' : Heap) : Prop := v = none ∧ Exa Z h' a UX ∧ Fld Z h' a tN "detailMessage" msgD (.ref mm) ∧ Keep h h' [a]
abbrev rmTI : Room := { frames := 3, cells := 1, slots := 2752, locals := 42 }
set_option maxHeartbeats 4000000 in
theorem con_TI (G : Glob Z a0) (hst : l.stackTraces = true) (a mm : Nat) (vc vs vp : Value) (h : Heap) (W : List Nat) (E : Exa Z h a UX) (N : Unt h a) (C0 : Fld Z h a tN "cause" "Ljava/lang/Throwable;" vc) (S0 : Fld Z h a tN "stackTrace" "[Ljava/lang/StackTraceElement;" vs) (P0 : Fld Z h a tN "suppressedExceptions" "Ljava/util/List;" vp) (B0 : Fld Z h a tN "backtrace" "Ljava/lang/Object;" .null) (ha : a ∈ W) :
    Ow.ConK l Z EL1 (⟨"java/lang/Throwable", "<init>", "(Ljava/lang/String;)V"⟩ : MethodName) jdk_78_method_2_code 2 (Option.none : Option Jvm.ClassFile.FieldType) [] rmTI #[.ref a, .ref mm] h W (fun v h' W' => CtorQ Z a mm h v h') := by
  obtain ⟨u, Su⟩ := G.2.2.2.2.1
  obtain ⟨w, Sw, hw⟩ := G.2.2.2.2.2
  refine Ow.ConK.intro (a0 := a0) pn_54 (ewG G) (saG G rfl) [.val (.ref a), .val (.ref mm)] (by first | exact Ow.locals_all (by simp [Value.category]) rfl | rfl | (simp [argsToLocals, Value.category]; done)) ?_
  intro p e s m below meth c C hO hTK hBelow hT0
  refine Ow.aloadN C dTI_0 (pc' := 1) rfl rfl rfl ?_
  refine Ow.initO C (tw153 G.1) (tw12 G.1) (tw13 G.1) dTI_1 (pc' := 4) rfl rfl (by first | decide | (dsimp only; omega) | (simp [Value.category]; done) | (simp [Value.category]; omega)) (by first | decide | (dsimp only; omega) | (simp [Value.category]; done) | (simp [Value.category]; omega)) ?_
  refine Ow.aloadN C dTI_4 (pc' := 5) rfl rfl rfl ?_
  refine Ow.aloadN C dTI_5 (pc' := 6) rfl rfl rfl ?_
  refine Ow.putF C (tw154 G.1) C0 E (Or.inl (tw155 G.1)) (tw27 G.1) (ty := (.object "java/lang/Throwable")) (by decide) rfl rfl (by first | assumption | (simp; done) | (simp [*]; done)) dTI_6 (pc' := 9) rfl (fun h1 w1 K1 F1 => ?_)
  have E1 := E.keep K1
  have S1 := S0.other w1 (Or.inr (slot_ne (Or.inl (tw158 G.1)) (Or.inl (tw155 G.1)) (by decide) (t := .array (.object "java/lang/StackTraceElement")) (t' := .object "java/lang/Throwable") (by decide) (by decide)))
  have P1 := P0.other w1 (Or.inr (slot_ne (Or.inl (tw161 G.1)) (Or.inl (tw155 G.1)) (by decide) (t := .object "java/util/List") (t' := .object "java/lang/Throwable") (by decide) (by decide)))
  have B1 := B0.other w1 (Or.inr (slot_ne (Or.inl (tw186 G.1)) (Or.inl (tw155 G.1)) (by decide) (t := .object "java/lang/Object") (t' := .object "java/lang/Throwable") (by decide) (by decide)))
  refine Ow.aloadN C dTI_9 (pc' := 10) rfl rfl rfl ?_
  refine Ow.getS C (tw156 G.1) Su dTI_10 (pc' := 13) rfl ?_
  refine Ow.putF C (tw157 G.1) S1 E1 (Or.inl (tw158 G.1)) (tw27 G.1) (ty := (.array (.object "java/lang/StackTraceElement"))) (by decide) rfl rfl (by first | assumption | (simp; done) | (simp [*]; done)) dTI_13 (pc' := 16) rfl (fun h2 w2 K2 F2 => ?_)
  have E2 := E1.keep K2
  have P2 := P1.other w2 (Or.inr (slot_ne (Or.inl (tw161 G.1)) (Or.inl (tw158 G.1)) (by decide) (t := .object "java/util/List") (t' := .array (.object "java/lang/StackTraceElement")) (by decide) (by decide)))
  have B2 := B1.other w2 (Or.inr (slot_ne (Or.inl (tw186 G.1)) (Or.inl (tw158 G.1)) (by decide) (t := .object "java/lang/Object") (t' := .array (.object "java/lang/StackTraceElement")) (by decide) (by decide)))
  refine Ow.aloadN C dTI_16 (pc' := 17) rfl rfl rfl ?_
  refine Ow.getS C (tw159 G.1) Sw dTI_17 (pc' := 20) rfl ?_
  refine Ow.putF C (tw160 G.1) P2 E2 (Or.inl (tw161 G.1)) (tw27 G.1) (ty := (.object "java/util/List")) (by decide) (narrow_isRef _ hw) (Jvm.fits_refV_object _ ⟨w, hw⟩) (by first | assumption | (simp; done) | (simp [*]; done)) dTI_20 (pc' := 23) rfl (fun h3 w3 K3 F3 => ?_)
  have E3 := E2.keep K3
  have S3 := F2.other w3 (Or.inr (slot_ne (Or.inl (tw158 G.1)) (Or.inl (tw161 G.1)) (by decide) (t := .array (.object "java/lang/StackTraceElement")) (t' := .object "java/util/List") (by decide) (by decide)))
  have B3 := B2.other w3 (Or.inr (slot_ne (Or.inl (tw186 G.1)) (Or.inl (tw161 G.1)) (by decide) (t := .object "java/lang/Object") (t' := .object "java/util/List") (by decide) (by decide)))
  have N3 := Unt.wr w3 (Unt.wr w2 (Unt.wr w1 N))
  refine Ow.aloadN C dTI_23 (pc' := 24) rfl rfl rfl ?_
  refine Ow.fillW C hst hTK hBelow hT0 (by decide) (excG G) (tw27 G.1) E3 N3 B3 S3 Su ha rfl dTI_24 (pc' := 27) rfl (by decide) (by decide) (by decide) (by decide) (fun h4 v4 K4 E4 N4 F4 => ?_)
  refine Ow.pop C dTI_27 (pc' := 28) rfl rfl ?_
  refine Ow.aloadN C dTI_28 (pc' := 29) rfl rfl rfl ?_
  refine Ow.aloadN C dTI_29 (pc' := 30) rfl rfl rfl ?_
  refine Ow.putF C (tw189 G.1) F4 E4 (Or.inl (tw185 G.1)) (tw27 G.1) (ty := (.object "java/lang/String")) (by decide) rfl rfl (by first | assumption | (simp; done) | (simp [*]; done)) dTI_30 (pc' := 33) rfl (fun h5 w5 K5 F5 => ?_)
  refine Ow.retV C rfl dTI_33 (by first | decide | (dsimp only; omega) | (simp [Value.category]; done) | (simp [Value.category]; omega)) (by first | decide | (dsimp only; omega) | (simp [Value.category]; done) | (simp [Value.category]; omega)) [] (by first | (simp; done) | (intro x hx; simp [hx]; done)) ⟨rfl, E4.keep K5, F5, (((K1.trans K2 (fun _ q => Or.inl q)).trans K3 (fun _ q => Or.inl q)).trans K4 (fun _ q => Or.inl q)).trans K5 (fun _ q => Or.inl q)⟩
abbrev rmEI : Room := { frames := 4, cells := 1, slots := 2752, locals := 55 }
theorem con_EI (G : Glob Z a0) (hst : l.stackTraces = true) (a mm : Nat) (vc vs vp : Value) (h : Heap) (W : List Nat) (E : Exa Z h a UX) (N : Unt h a) (C0 : Fld Z h a tN "cause" "Ljava/lang/Throwable;" vc) (S0 : Fld Z h a tN "stackTrace" "[Ljava/lang/StackTraceElement;" vs) (P0 : Fld Z h a tN "suppressedExceptions" "Ljava/util/List;" vp) (B0 : Fld Z h a tN "backtrace" "Ljava/lang/Object;" .null) (ha : a ∈ W) :
    Ow.ConK l Z EL1 (⟨"java/lang/Exception", "<init>", "(Ljava/lang/String;)V"⟩ : MethodName) jdk_59_method_2_code 2 (Option.none : Option Jvm.ClassFile.FieldType) [] rmEI #[.ref a, .ref mm] h W (fun v h' W' => CtorQ Z a mm h v h') := by
  refine Ow.ConK.intro (a0 := a0) pn_55 (ewG G) (saG G rfl) [.val (.ref a), .val (.ref mm)] (by first | exact Ow.locals_all (by simp [Value.category]) rfl | rfl | (simp [argsToLocals, Value.category]; done)) ?_
  intro p e s m below meth c C hO hTK hBelow hT0
  refine Ow.aloadN C dEI_0 (pc' := 1) rfl rfl rfl ?_
  refine Ow.aloadN C dEI_1 (pc' := 2) rfl rfl rfl ?_
  refine Ow.callIK C hTK hBelow rfl (tw147 G.1) (tw148 G.1) (tw151 G.1) (tw152 G.1) (by decide) (con_TI G hst a mm vc vs vp h W E N C0 S0 P0 B0 ha) (fun _ q => q) pd_19 rfl rfl rfl dEI_2 (pc' := 5) rfl (Wt := 0) (Nat.le_refl _) (by first | decide | (dsimp only; omega) | (simp [Value.category]; done) | (simp [Value.category]; omega)) (by first | decide | (dsimp only; omega) | (simp [Value.category]; done) | (simp [Value.category]; omega)) (by first | decide | (dsimp only; omega) | (simp [Value.category]; done) | (simp [Value.category]; omega)) (by first | decide | (dsimp only; omega) | (simp [Value.category]; done) | (simp [Value.category]; omega)) (fun v1 h1 W1 ⟨e1, q1⟩ s1 => ?_)
  subst e1
  dsimp only [Option.toList, List.cons_append, List.nil_append]
  refine Ow.retV C rfl dEI_5 (by first | decide | (dsimp only; omega) | (simp [Value.category]; done) | (simp [Value.category]; omega)) (by first | decide | (dsimp only; omega) | (simp [Value.category]; done) | (simp [Value.category]; omega)) [] (by first | (simp; done) | (intro x hx; simp [hx]; done)) ⟨rfl, q1⟩
abbrev rmXI : Room := { frames := 5, cells := 1, slots := 2752, locals := 68 }
theorem con_XI (G : Glob Z a0) (hst : l.stackTraces = true) (a mm : Nat) (vc vs vp : Value) (h : Heap) (W : List Nat) (E : Exa Z h a UX) (N : Unt h a) (C0 : Fld Z h a tN "cause" "Ljava/lang/Throwable;" vc) (S0 : Fld Z h a tN "stackTrace" "[Ljava/lang/StackTraceElement;" vs) (P0 : Fld Z h a tN "suppressedExceptions" "Ljava/util/List;" vp) (B0 : Fld Z h a tN "backtrace" "Ljava/lang/Object;" .null) (ha : a ∈ W) :
    Ow.ConK l Z EL1 (⟨"com/example/congruent/congruent/io/UnreadableInputException", "<init>", "(Ljava/lang/String;)V"⟩ : MethodName) prog_13_method_1_code 2 (Option.none : Option Jvm.ClassFile.FieldType) [] rmXI #[.ref a, .ref mm] h W (fun v h' W' => CtorQ Z a mm h v h') := by
  refine Ow.ConK.intro (a0 := a0) pn_56 (ewG G) (saG G rfl) [.val (.ref a), .val (.ref mm)] (by first | exact Ow.locals_all (by simp [Value.category]) rfl | rfl | (simp [argsToLocals, Value.category]; done)) ?_
  intro p e s m below meth c C hO hTK hBelow hT0
  refine Ow.aloadN C dXI_0 (pc' := 1) rfl rfl rfl ?_
  refine Ow.aloadN C dXI_1 (pc' := 2) rfl rfl rfl ?_
  refine Ow.callIK C hTK hBelow rfl (tw142 G.1) (tw143 G.1) (tw145 G.1) (tw146 G.1) (by decide) (con_EI G hst a mm vc vs vp h W E N C0 S0 P0 B0 ha) (fun _ q => q) pd_19 rfl rfl rfl dXI_2 (pc' := 5) rfl (Wt := 0) (Nat.le_refl _) (by first | decide | (dsimp only; omega) | (simp [Value.category]; done) | (simp [Value.category]; omega)) (by first | decide | (dsimp only; omega) | (simp [Value.category]; done) | (simp [Value.category]; omega)) (by first | decide | (dsimp only; omega) | (simp [Value.category]; done) | (simp [Value.category]; omega)) (by first | decide | (dsimp only; omega) | (simp [Value.category]; done) | (simp [Value.category]; omega)) (fun v1 h1 W1 ⟨e1, q1⟩ s1 => ?_)
  subst e1
  dsimp only [Option.toList, List.cons_append, List.nil_append]
  refine Ow.retV C rfl dXI_5 (by first | decide | (dsimp only; omega) | (simp [Value.category]; done) | (simp [Value.category]; omega)) (by first | decide | (dsimp only; omega) | (simp [Value.category]; done) | (simp [Value.category]; omega)) [] (by first | (simp; done) | (intro x hx; simp [hx]; done)) ⟨rfl, q1⟩
abbrev rmSZ : Room := { frames := 2, cells := 1, slots := 16, locals := 26 }
theorem con_SZ (G : Glob Z a0) (a : Nat) (h : Heap) (W : List Nat) (S : Ow.SBo Z h a .null 0 0) (ha : a ∈ W) :
    Ow.Con l Z EL1 bb (⟨"java/lang/StringBuilder", "<init>", "()V"⟩ : MethodName) jdk_67_method_1_code 1 (Option.none : Option Jvm.ClassFile.FieldType) [] rmSZ #[.ref a] h W (fun v h' W' => v = none ∧ ∃ y : Nat, Ow.SB Z h' a y 0 [] 16 ∧ Keep h h' [a] ∧ h.size ≤ y ∧ y ∈ W') := by
  refine Ow.Con.intro (a0 := a0) pn_57 (ewG G) (saG G) bbG [.val (.ref a)] (by first | exact Ow.locals_all (by simp [Value.category]) rfl | rfl | (simp [argsToLocals, Value.category]; done)) ?_
  intro p e s m below meth c C hO
  refine Ow.aloadN C dSZ_0 (pc' := 1) rfl rfl rfl ?_
  refine Ow.bipush C (16 : Int32) dSZ_1 (pc' := 3) rfl rfl ?_
  refine Ow.callIW C rfl (tw34 G.1) (tw35 G.1) (tw38 G.1) (tw39 G.1) (by decide) (con_AI G 16 16 a h W S ha (by omega) (by omega)) (fun _ q => q) pd_22 rfl rfl rfl dSZ_3 (pc' := 6) rfl (Wt := 0) (Nat.le_refl _) (by first | decide | (dsimp only; omega) | (simp [Value.category]; done) | (simp [Value.category]; omega)) (by first | decide | (dsimp only; omega) | (simp [Value.category]; done) | (simp [Value.category]; omega)) (by first | decide | (dsimp only; omega) | (simp [Value.category]; done) | (simp [Value.category]; omega)) (by first | decide | (dsimp only; omega) | (simp [Value.category]; done) | (simp [Value.category]; omega)) (fun v1 h1 W1 ⟨e1, y, S1, K1, g1, m1⟩ s1 => ?_)
  subst e1
  dsimp only [Option.toList, List.cons_append, List.nil_append]
  refine Ow.retV C rfl dSZ_6 (by first | decide | (dsimp only; omega) | (simp [Value.category]; done) | (simp [Value.category]; omega)) (by first | decide | (dsimp only; omega) | (simp [Value.category]; done) | (simp [Value.category]; omega)) W1 (by first | (simp; done) | (intro x hx; simp [hx]; done)) ⟨rfl, y, S1, K1, g1, m1⟩
theorem con_GM (G : Glob Z a0) (a : Nat) (v : Value) (hv : v.isRef = true) (h : Heap) (W : List Nat) (F : Fld Z h a tN "detailMessage" msgD v) : Ow.Con l Z EL1 bb (⟨"java/lang/Throwable", "getMessage", "()Ljava/lang/String;"⟩ : MethodName) jdk_78_method_6_code 1 (Option.some (Jvm.ClassFile.FieldType.object "java/lang/String")) [] rm0 #[.ref a] h W (fun w h' W' => w = some v ∧ h' = h) := by
  refine Ow.Con.intro (a0 := a0) pn_58 (ewG G) (saG G) bbG [.val (.ref a)] (by first | exact Ow.locals_all (by simp [Value.category]) rfl | rfl | (simp [argsToLocals, Value.category]; done)) ?_
  intro p e s m below meth c C hO
  refine Ow.aloadN C dGM_0 (pc' := 1) rfl rfl rfl ?_
  refine Ow.getF C (tw189 G.1) F dGM_1 (pc' := 4) rfl ?_
  refine Ow.retA C rfl rfl hv dGM_4 (by decide) (by decide) [] (by simp) ⟨rfl, rfl⟩
theorem mx0 (u : Nat) : mx u 0 = u := by unfold mx; split <;> omega
theorem mx0' (u : Nat) : mx 0 u = u := by unfold mx; simp
abbrev rmNU : Room := { frames := 10, cells := 16, slots := 3400, locals := 145 }
set_option maxHeartbeats 8000000 in
theorem con_NU (G : Glob Z a0) (hst : l.stackTraces = true) (x d k : Nat) (ws : List Int32) (hn : ws.length ≤ 3) (h : Heap) (S0 : Ow.StrK Z h x d k ws) :
    Ow.ConK l Z EL1 (⟨"com/example/congruent/congruent/io/UnreadableInputException", "notUtf8", "(Ljava/lang/String;)Lcom/example/congruent/congruent/io/UnreadableInputException;"⟩ : MethodName) prog_13_method_2_code 1 (Option.some (Jvm.ClassFile.FieldType.object "com/example/congruent/congruent/io/UnreadableInputException")) [] rmNU #[.ref x] h []
      (fun v h' W' => ∃ ex mm d' u' : Nat, v = some (.ref ex) ∧ Exa Z h' ex UX ∧ Fld Z h' ex tN "detailMessage" msgD (.ref mm) ∧ Ow.StrK Z h' mm d' u' (ws ++ [58, 32] ++ [110, 111, 116, 32, 85, 84, 70, 45, 56, 32, 116, 101, 120, 116])) := by
  have hS0 := S0.lt
  refine Ow.ConK.intro (a0 := a0) pn_59 (ewG G) (saG G rfl) [.val (.ref x)] (by first | exact Ow.locals_all (by simp [Value.category]) rfl | rfl | (simp [argsToLocals, Value.category]; done)) ?_
  intro p e s m below meth c C hO hTK hBelow hT0
  refine Ow.newX C (tw26 G.1) (tw27 G.1) (tw24 G.1) dNU_0 (pc' := 3) rfl (by first | decide | (dsimp only; omega) | (simp [Value.category]; done) | (simp [Value.category]; omega)) (by first | decide | (dsimp only; omega) | (simp [Value.category]; done) | (simp [Value.category]; omega)) (fun h1 a1 s1 z1 l1 E1 ⟨⟨A1, N1⟩, D1⟩ => ?_)
  have B1 := D1 (O := tN) (f := "backtrace") (d := obD) (ty := .object "java/lang/Object") (Or.inl (tw186 G.1)) (by decide)
  have C1 := D1 (O := tN) (f := "cause") (d := "Ljava/lang/Throwable;") (ty := .object "java/lang/Throwable") (Or.inl (tw155 G.1)) (by decide)
  have S1 := D1 (O := tN) (f := "stackTrace") (d := "[Ljava/lang/StackTraceElement;") (ty := .array (.object "java/lang/StackTraceElement")) (Or.inl (tw158 G.1)) (by decide)
  have P1 := D1 (O := tN) (f := "suppressedExceptions") (d := "Ljava/util/List;") (ty := .object "java/util/List") (Or.inl (tw161 G.1)) (by decide)
  refine Ow.dup C dNU_3 (pc' := 4) rfl rfl ?_
  refine Ow.newO C (tw28 G.1) (tw29 G.1) (tw30 G.1) dNU_4 (pc' := 7) rfl (by first | decide | (dsimp only; omega) | (simp [Value.category]; done) | (simp [Value.category]; omega)) (by first | decide | (dsimp only; omega) | (simp [Value.category]; done) | (simp [Value.category]; omega)) (fun h2 a2 s2 z2 l2 E2 ⟨A2, D2⟩ => ?_)
  have O2 : Ow.SBo Z h2 a2 .null 0 0 := ⟨A2, D2 (Or.inl (tw43 G.1)) (ty := .array .byte) (by decide), D2 (Or.inl (tw45 G.1)) (ty := .byte) (by decide), D2 (Or.inl (tw68 G.1)) (ty := .int) (by decide), D2 (Or.inl (tw307 G.1)) (ty := .boolean) (by decide)⟩
  have X2 := ((S0.ext E1).ext E2)
  have hE1 : h.size ≤ h1.size := E1.1
  have hE2 : h1.size ≤ h2.size := E2.1
  refine Ow.dup C dNU_7 (pc' := 8) rfl rfl ?_
  refine Ow.callIW C rfl (tw31 G.1) (tw32 G.1) (tw30 G.1) (tw33 G.1) (by decide) (con_SZ G a2 h2 _ O2 (by simp)) (fun _ q => q) pd_18 rfl rfl rfl dNU_8 (pc' := 11) rfl (Wt := 3) (Nat.le_refl _) (by first | decide | (dsimp only; omega) | (simp [Value.category]; done) | (simp [Value.category]; omega)) (by first | decide | (dsimp only; omega) | (simp [Value.category]; done) | (simp [Value.category]; omega)) (by first | decide | (dsimp only; omega) | (simp [Value.category]; done) | (simp [Value.category]; omega)) (by first | decide | (dsimp only; omega) | (simp [Value.category]; done) | (simp [Value.category]; omega)) (fun v3 h3 W3 ⟨e3, y, S3, K3, g3, m3⟩ s3 => ?_)
  subst e3
  dsimp only [Option.toList, List.cons_append, List.nil_append]
  have X3 := X2.keep K3 (Ow.nin1 (by omega)) (Ow.nin1 (by omega))
  have c3 : Keep h1 h3 [a2] := ((Keep.refl h1 [a2]).ext E2).trans K3 (fun _ q => Or.inl q)
  refine Ow.aloadN C dNU_11 (pc' := 12) rfl rfl rfl ?_
  have r3 : ∃ r, 16 = ws.length + r := ⟨16 - ws.length, by omega⟩
  obtain ⟨r, hr⟩ := r3
  rw [hr] at S3
  refine Ow.callVW C (y := (⟨"java/lang/StringBuilder", "append", "(Ljava/lang/String;)Ljava/lang/StringBuilder;"⟩ : MethodName)) (z := (⟨"java/lang/StringBuilder", "append", "(Ljava/lang/String;)Ljava/lang/StringBuilder;"⟩ : MethodName)) (tw46 G.1) (tw47 G.1) (tw49 G.1) (tw49 G.1) (tw48 G.1) (tw30 G.1) (tw50 G.1) (by decide) S3.o.exa (con_AB G rm0 32 a2 y 0 x d k ws [] r h3 _ S3.o (en0 G a2 y 0 [] ws.length r h3 _ S3 (by simp [m3])) X3 (by simp) (by omega) (by omega) (by omega) (by simp; omega) (by omega) (by decide) (by decide)) (fun _ q => q) pd_35 rfl rfl rfl dNU_12 (pc' := 15) rfl (Wt := 2) (Nat.le_refl _) (by first | decide | (dsimp only; omega) | (simp [Value.category]; done) | (simp [Value.category]; omega)) (by first | decide | (dsimp only; omega) | (simp [Value.category]; done) | (simp [Value.category]; omega)) (by first | decide | (dsimp only; omega) | (simp [Value.category]; done) | (simp [Value.category]; omega)) (by first | decide | (dsimp only; omega) | (simp [Value.category]; done) | (simp [Value.category]; omega)) (fun v4 h4 W4 ⟨e4, y4, S4, K4, g4, m4⟩ s4 => ?_)
  subst e4
  dsimp only [Option.toList, List.cons_append, List.nil_append]
  rw [mx0', List.nil_append] at S4
  have c4 : Keep h1 h4 [a2] := c3.trans K4 (fun z hz => (List.mem_cons.mp hz).elim (fun e => Or.inl (by rw [e]; simp)) (fun hz => Or.inr (by rw [List.mem_singleton.mp hz]; omega)))
  have hs4 : h2.size ≤ h4.size := Nat.le_trans K3.1 K4.1
  have hy4 : h1.size ≤ y4 := by rcases g4 with g4 | g4 <;> omega
  refine Ow.ldcS C rfl (N := 8) (xs := [58, 32]) (tw94 G.1) (by decide) (by decide) (by decide) dNU_15 (pc' := 17) rfl (by decide) (by decide) (by first | decide | (dsimp only; omega) | (simp [Value.category]; done) | (simp [Value.category]; omega)) (by first | decide | (dsimp only; omega) | (simp [Value.category]; done) | (simp [Value.category]; omega)) (fun h5 b5 d5 E5 B5 Bc5 Bv5 D5 n5 => ?_)
  have S5 := S4.ext E5
  have c5 := c4.ext E5
  have T5 : Ow.StrK Z h5 b5 d5 0 [58, 32] := ⟨B5, Bv5, Bc5, by rw [show Ow.enc 0 [58, 32] = [58, 32] by decide]; exact D5, Or.inl rfl, fun _ => by decide, by decide⟩
  obtain ⟨r5, hr5⟩ : ∃ r5, r = 2 + r5 := ⟨r - 2, by omega⟩
  rw [hr5] at S5
  have nb5 := n5 a2 (by simp)
  have nv5 := n5 y4 (by simp [m4])
  refine Ow.callVW C (y := (⟨"java/lang/StringBuilder", "append", "(Ljava/lang/String;)Ljava/lang/StringBuilder;"⟩ : MethodName)) (z := (⟨"java/lang/StringBuilder", "append", "(Ljava/lang/String;)Ljava/lang/StringBuilder;"⟩ : MethodName)) (tw46 G.1) (tw47 G.1) (tw49 G.1) (tw49 G.1) (tw48 G.1) (tw30 G.1) (tw50 G.1) (by decide) S5.o.exa (con_AB G rm0 32 a2 y4 k b5 d5 0 [58, 32] ws r5 h5 _ S5.o (en0 G a2 y4 k ws 2 r5 h5 _ S5 (by simp [m4])) T5 (by simp) (Ne.symm nb5.1) (Ne.symm nb5.2) (Ne.symm nv5.2) (by simp; omega) (by omega) (by decide) (by decide)) (fun _ q => q) pd_35 rfl rfl rfl dNU_17 (pc' := 20) rfl (Wt := 2) (Nat.le_refl _) (by first | decide | (dsimp only; omega) | (simp [Value.category]; done) | (simp [Value.category]; omega)) (by first | decide | (dsimp only; omega) | (simp [Value.category]; done) | (simp [Value.category]; omega)) (by first | decide | (dsimp only; omega) | (simp [Value.category]; done) | (simp [Value.category]; omega)) (by first | decide | (dsimp only; omega) | (simp [Value.category]; done) | (simp [Value.category]; omega)) (fun v6 h6 W6 ⟨e6, y6, S6, K6, g6, m6⟩ s6 => ?_)
  subst e6
  dsimp only [Option.toList, List.cons_append, List.nil_append]
  rw [mx0] at S6
  have c6 : Keep h1 h6 [a2] := c5.trans K6 (fun z hz => (List.mem_cons.mp hz).elim (fun e => Or.inl (by rw [e]; simp)) (fun hz => Or.inr (by rw [List.mem_singleton.mp hz]; omega)))
  have hs6 : h4.size ≤ h6.size := Nat.le_trans E5.1 K6.1
  have hy6 : h1.size ≤ y6 := by have := E5.1; rcases g6 with g6 | g6 <;> omega
  refine Ow.ldcS C rfl (N := 56) (xs := [110, 111, 116, 32, 85, 84, 70, 45, 56, 32, 116, 101, 120, 116]) (tw95 G.1) (by decide) (by decide) (by decide) dNU_20 (pc' := 22) rfl (by decide) (by decide) (by first | decide | (dsimp only; omega) | (simp [Value.category]; done) | (simp [Value.category]; omega)) (by first | decide | (dsimp only; omega) | (simp [Value.category]; done) | (simp [Value.category]; omega)) (fun h7 b7 d7 E7 B7 Bc7 Bv7 D7 n7 => ?_)
  have S7 := S6.ext E7
  have c7 := c6.ext E7
  have T7 : Ow.StrK Z h7 b7 d7 0 [110, 111, 116, 32, 85, 84, 70, 45, 56, 32, 116, 101, 120, 116] := ⟨B7, Bv7, Bc7, by rw [show Ow.enc 0 [110, 111, 116, 32, 85, 84, 70, 45, 56, 32, 116, 101, 120, 116] = [110, 111, 116, 32, 85, 84, 70, 45, 56, 32, 116, 101, 120, 116] by decide]; exact D7, Or.inl rfl, fun _ => by decide, by decide⟩
  have nb7 := n7 a2 (by simp)
  have nv7 := n7 y6 (by simp [m6])
  have hu := S7.sg.u
  have hw2 : (ws ++ [58, 32]).length = ws.length + 2 := by simp
  have M7 : ∃ r7, (ws ++ [58, 32]).length + (14 + r7) ≤ 34 ∧ EnOk l Z (rmEN 68) a2 y6 k (ws ++ [58, 32]) 14 r7 h7 (W6 ++ (W4 ++ (W3 ++ (a2 :: a1 :: [])))) := by
    by_cases hz : ws.length = 0
    · have hr6 : r5 = 14 + 0 := by omega
      rw [hr6] at S7
      exact ⟨0, by omega, (en0 G a2 y6 k _ 14 0 h7 _ S7 (by simp [m6])).rm (by decide) (by decide) (by decide) (by decide)⟩
    · exact ⟨_, by rw [hw2]; omega, en1 G 68 a2 y6 k _ 14 r5 h7 _ S7 (by simp) (by omega) (by rw [hw2]; omega) (by rw [hw2]; rcases hu with e | e <;> subst e <;> omega) (by decide)⟩
  obtain ⟨r7, hr7, M7⟩ := M7
  refine Ow.callVW C (y := (⟨"java/lang/StringBuilder", "append", "(Ljava/lang/String;)Ljava/lang/StringBuilder;"⟩ : MethodName)) (z := (⟨"java/lang/StringBuilder", "append", "(Ljava/lang/String;)Ljava/lang/StringBuilder;"⟩ : MethodName)) (tw46 G.1) (tw47 G.1) (tw49 G.1) (tw49 G.1) (tw48 G.1) (tw30 G.1) (tw50 G.1) (by decide) S7.o.exa (con_AB G (rmEN 68) 68 a2 y6 k b7 d7 0 [110, 111, 116, 32, 85, 84, 70, 45, 56, 32, 116, 101, 120, 116] _ r7 h7 _ S7.o M7 T7 (by simp) (Ne.symm nb7.1) (Ne.symm nb7.2) (Ne.symm nv7.2) (by simp at hr7 ⊢; omega) (by omega) (by decide) (by decide)) (fun _ q => q) pd_35 rfl rfl rfl dNU_22 (pc' := 25) rfl (Wt := 2) (Nat.le_refl _) (by first | decide | (dsimp only; omega) | (simp [Value.category]; done) | (simp [Value.category]; omega)) (by first | decide | (dsimp only; omega) | (simp [Value.category]; done) | (simp [Value.category]; omega)) (by first | decide | (dsimp only; omega) | (simp [Value.category]; done) | (simp [Value.category]; omega)) (by first | decide | (dsimp only; omega) | (simp [Value.category]; done) | (simp [Value.category]; omega)) (fun v8 h8 W8 ⟨e8, y8, S8, K8, g8, m8⟩ s8 => ?_)
  subst e8
  dsimp only [Option.toList, List.cons_append, List.nil_append]
  rw [mx0] at S8
  have c8 : Keep h1 h8 [a2] := c7.trans K8 (fun z hz => (List.mem_cons.mp hz).elim (fun e => Or.inl (by rw [e]; simp)) (fun hz => Or.inr (by rw [List.mem_singleton.mp hz]; omega)))
  have hl8 := S8.alen
  refine Ow.callV C (y := (⟨"java/lang/StringBuilder", "toString", "()Ljava/lang/String;"⟩ : MethodName)) (z := (⟨"java/lang/StringBuilder", "toString", "()Ljava/lang/String;"⟩ : MethodName)) (tw96 G.1) (tw97 G.1) (tw99 G.1) (tw99 G.1) (tw98 G.1) (tw30 G.1) (tw100 G.1) (by decide) S8.o.exa (con_TS G 68 a2 y8 k _ r7 h8 _ S8 (fun h' K' W' => con_CRc G 68 y8 _ _ (by rw [S8.alen, Nat.mul_add]; exact Nat.le_add_right _ _) (by rw [S8.alen]; simp at hr7 ⊢; rcases hu with e | e <;> subst e <;> omega) (by decide) h' W' (S8.ar.keep K' nin0) (S8.ex.keep K'))) (fun _ q => q) pd_36 rfl rfl rfl dNU_25 (pc' := 28) rfl (Wt := 2) (Nat.le_refl _) (by first | decide | (dsimp only; omega) | (simp [Value.category]; done) | (simp [Value.category]; omega)) (by first | decide | (dsimp only; omega) | (simp [Value.category]; done) | (simp [Value.category]; omega)) (by first | decide | (dsimp only; omega) | (simp [Value.category]; done) | (simp [Value.category]; omega)) (by first | decide | (dsimp only; omega) | (simp [Value.category]; done) | (simp [Value.category]; omega)) (fun v9 h9 W9 ⟨mm, d9, e9, S9, K9, g9, gd9⟩ s9 => ?_)
  subst e9
  dsimp only [Option.toList, List.cons_append, List.nil_append]
  have c9 : Keep h1 h9 [a2] := c8.trans K9 (fun z hz => by cases hz)
  have na : a1 ≠ a2 := by omega
  have A9 := A1.keep c9
  have B9 := B1.keep c9 (Ow.nin1 na)
  have C9 := C1.keep c9 (Ow.nin1 na)
  have V9 := S1.keep c9 (Ow.nin1 na)
  have P9 := P1.keep c9 (Ow.nin1 na)
  have N9 := Unt.keep c9 (Ow.nin1 na) N1
  have hm1 : h1.size ≤ mm := by have := c8.1; omega
  have hd1 : h1.size ≤ d9 := by have := c8.1; omega
  refine Ow.callIK C hTK hBelow rfl (tw139 G.1) (tw140 G.1) (tw24 G.1) (tw141 G.1) (by decide) (con_XI G hst a1 mm _ _ _ h9 _ A9 N9 C9 V9 P9 B9 (by simp)) (fun _ q => q) pd_19 rfl rfl rfl dNU_28 (pc' := 31) rfl (Wt := 1) (Nat.le_refl _) (by first | decide | (dsimp only; omega) | (simp [Value.category]; done) | (simp [Value.category]; omega)) (by first | decide | (dsimp only; omega) | (simp [Value.category]; done) | (simp [Value.category]; omega)) (by first | decide | (dsimp only; omega) | (simp [Value.category]; done) | (simp [Value.category]; omega)) (by first | decide | (dsimp only; omega) | (simp [Value.category]; done) | (simp [Value.category]; omega)) (fun v10 h10 W10 ⟨e10, E10, F10, K10⟩ s10 => ?_)
  subst e10
  dsimp only [Option.toList, List.cons_append, List.nil_append]
  refine Ow.retA C rfl rfl rfl dNU_31 (by first | decide | (dsimp only; omega) | (simp [Value.category]; done) | (simp [Value.category]; omega)) (by first | decide | (dsimp only; omega) | (simp [Value.category]; done) | (simp [Value.category]; omega)) [] (by first | (simp; done) | (intro x hx; simp [hx]; done)) ⟨a1, mm, d9, k, rfl, E10, F10, S9.keep K10 (Ow.nin1 (by omega)) (Ow.nin1 (by omega))⟩
theorem ofNat_cases {i : Nat} (hi : i ≤ 3) : i = 0 ∨ i = 1 ∨ i = 2 ∨ i = 3 := by omega
set_option maxHeartbeats 8000000 in
theorem con_law (G : Glob Z a0) (hst : l.stackTraces = true) (p0 p1 p2 p3 : Int32) : Ow.ConK l Z EL1 x code maxLocals ret tables_1 room_1 #[.int p0, .int p1, .int p2, .int p3] Z.heap [] (fun v h' W' => v = some (.int 1)) := by
  refine Ow.ConK.intro (a0 := a0) pn_60 (ewG G) (saG G rfl) [.val (.int p0), .val (.int p1), .val (.int p2), .val (.int p3), .unset, .unset, .unset, .unset, .unset, .unset, .unset] (by first | exact Ow.locals_all (by simp [Value.category]) rfl | rfl | (simp [argsToLocals, Value.category]; done)) ?_
  intro p e s m below meth c C0 hO hTK hBelow hT0
  have C : Ow.Cx p m meth c s Z a0 EL1 bb "com/example/congruent/congruent/io/UnreadableInputExceptionNotUtf8PinLaw" "law" code 11 ret := C0
  obtain ⟨n, hn, en⟩ := Ow.and3 p0
  refine Ow.iloadN C at_0 (pc' := 1) rfl rfl ?_
  refine Ow.iconst C (3 : Int32) at_1 (pc' := 2) rfl rfl ?_
  refine Ow.iand C at_2 (pc' := 3) rfl ?_
  rw [en]
  refine Ow.istore C at_3 (pc' := 5) rfl rfl ?_
  dsimp only [List.set]
  refine Ow.iloadN C at_5 (pc' := 6) rfl rfl ?_
  refine Ow.i2c C at_6 (pc' := 7) rfl ?_
  refine Ow.istore C at_7 (pc' := 9) rfl rfl ?_
  dsimp only [List.set]
  refine Ow.iloadN C at_9 (pc' := 10) rfl rfl ?_
  refine Ow.i2c C at_10 (pc' := 11) rfl ?_
  refine Ow.istore C at_11 (pc' := 13) rfl rfl ?_
  dsimp only [List.set]
  refine Ow.iloadN C at_13 (pc' := 14) rfl rfl ?_
  refine Ow.i2c C at_14 (pc' := 15) rfl ?_
  refine Ow.istore C at_15 (pc' := 17) rfl rfl ?_
  dsimp only [List.set]
  have q0 := Ow.charR p1
  have q1 := Ow.charR p2
  have q2 := Ow.charR p3
  generalize nar .char p1 = c0 at q0 ⊢
  generalize nar .char p2 = c1 at q1 ⊢
  generalize nar .char p3 = c2 at q2 ⊢
  suffices hJ : ∀ (h1 : Heap) (x d u : Nat), Ow.StrK Z h1 x d u (([c0, c1, c2] : List Int32).take n) → Ow.WP p l e room_1 s m #[.int p0, .int p1, .int p2, .int p3] below meth c Z EL1 bb (fun v h' W' => v = some (.int 1)) 111 [.val (.int p0), .val (.int p1), .val (.int p2), .val (.int p3), .val (.int (Int32.ofNat n)), .val (.int c0), .val (.int c1), .val (.int c2), .val (.ref x), .unset, .unset] [] h1 [] 10 100 by
    rcases ofNat_cases hn with e | e | e | e <;> subst e
    · refine Ow.iload C at_17 (pc' := 19) rfl rfl ?_
      refine Ow.ifCN C at_19 (pc' := 22) rfl (XT.i0_ne_f rfl) ?_
      refine Ow.newO C (tw0 G.1) (tw1 G.1) (tw2 G.1) at_22 (pc' := 25) rfl (by first | decide | (dsimp only; omega) | (simp [Value.category]; done) | (simp [Value.category]; omega)) (by first | decide | (dsimp only; omega) | (simp [Value.category]; done) | (simp [Value.category]; omega)) (fun hxs axs sxs zxs lxs Exs ⟨Axs, Dxs⟩ => ?_)
      refine Ow.dup C at_25 (pc' := 26) rfl rfl ?_
      refine Ow.iconst C (0 : Int32) at_26 (pc' := 27) rfl rfl ?_
      refine Ow.newarr C (ty := .char) (cap := 0) rfl rfl (tw3 G.1) at_27 (pc' := 29) rfl rfl (by decide) (by first | decide | (dsimp only; omega) | (simp [Value.category]; done) | (simp [Value.category]; omega)) (by first | decide | (dsimp only; omega) | (simp [Value.category]; done) | (simp [Value.category]; omega)) (fun hxv axv sxv zxv lxv Exv Vxv => ?_)
      have nx : axs ≠ axv := by omega
      have KAx : Keep hxs hxv [axv] := ((Keep.refl hxs [axv]).ext Exv)
      refine Ow.callI C rfl (tw4 G.1) (tw5 G.1) (tw2 G.1) (tw6 G.1) (by decide) (con_I0e G axs axv hxv _ _ _ (Axs.keep KAx) ((Dxs (Or.inr (tw16 G.1)) (ty := .array .byte) (by decide)).keep KAx (Ow.nin1 nx)) ((Dxs (Or.inr (tw17 G.1)) (ty := .byte) (by decide)).keep KAx (Ow.nin1 nx)) (by simp) Vxv) (fun _ q => q) pd_37 rfl rfl rfl at_29 (pc' := 32) rfl (Wt := 1) (Nat.le_refl _) (by first | decide | (dsimp only; omega) | (simp [Value.category]; done) | (simp [Value.category]; omega)) (by first | decide | (dsimp only; omega) | (simp [Value.category]; done) | (simp [Value.category]; omega)) (by first | decide | (dsimp only; omega) | (simp [Value.category]; done) | (simp [Value.category]; omega)) (by first | decide | (dsimp only; omega) | (simp [Value.category]; done) | (simp [Value.category]; omega)) (fun vx hx Wx ⟨ex, dx, Sx, Kcx, hdx⟩ gx => ?_)
      subst ex
      dsimp only [Option.toList, List.cons_append, List.nil_append]
      refine Ow.astore C at_32 (pc' := 34) rfl rfl rfl ?_
      dsimp only [List.set]
      refine Ow.goto C 111 at_34 (by decide) (by decide) ?_
      exact (WP.wk (fun x hx => absurd hx List.not_mem_nil) (hJ _ _ _ _ Sx.k)).room (by decide) (by decide)
    · refine Ow.iload C at_17 (pc' := 19) rfl rfl ?_
      refine Ow.ifCY C 37 at_19 (XT.i0_ne_t (by decide)) (by decide) (by decide) ?_
      refine Ow.iload C at_37 (pc' := 39) rfl rfl ?_
      refine Ow.iconst C (1 : Int32) at_39 (pc' := 40) rfl rfl ?_
      refine Ow.icmpN C at_40 (pc' := 43) rfl (XT.ii_ne_f (by decide)) ?_
      refine Ow.iload C at_43 (pc' := 45) rfl rfl ?_
      refine Ow.callS C (tw315 G.1) (tw316 G.1) (tw2 G.1) (tw317 G.1) (by decide) (con_VO G c0 q0 _ _) (fun _ q => q) pd_38 rfl rfl rfl at_45 (pc' := 48) rfl (Wt := 0) (Nat.le_refl _) (by first | decide | (dsimp only; omega) | (simp [Value.category]; done) | (simp [Value.category]; omega)) (by first | decide | (dsimp only; omega) | (simp [Value.category]; done) | (simp [Value.category]; omega)) (by first | decide | (dsimp only; omega) | (simp [Value.category]; done) | (simp [Value.category]; omega)) (by first | decide | (dsimp only; omega) | (simp [Value.category]; done) | (simp [Value.category]; omega)) (fun vx hx Wx ⟨x, d, u, ex, Sx, Kx, gx, gdx⟩ sx => ?_)
      subst ex
      dsimp only [Option.toList, List.cons_append, List.nil_append]
      refine Ow.astore C at_48 (pc' := 50) rfl rfl rfl ?_
      dsimp only [List.set]
      refine Ow.goto C 111 at_50 (by decide) (by decide) ?_
      exact (WP.wk (fun x hx => absurd hx List.not_mem_nil) (hJ _ _ _ _ Sx)).room (by decide) (by decide)
    · refine Ow.iload C at_17 (pc' := 19) rfl rfl ?_
      refine Ow.ifCY C 37 at_19 (XT.i0_ne_t (by decide)) (by decide) (by decide) ?_
      refine Ow.iload C at_37 (pc' := 39) rfl rfl ?_
      refine Ow.iconst C (1 : Int32) at_39 (pc' := 40) rfl rfl ?_
      refine Ow.icmpY C 53 at_40 (XT.ii_ne_t (by decide)) (by decide) (by decide) ?_
      refine Ow.iload C at_53 (pc' := 55) rfl rfl ?_
      refine Ow.iconst C (2 : Int32) at_55 (pc' := 56) rfl rfl ?_
      refine Ow.icmpN C at_56 (pc' := 59) rfl (XT.ii_ne_f (by decide)) ?_
      refine Ow.newO C (tw0 G.1) (tw1 G.1) (tw2 G.1) at_59 (pc' := 62) rfl (by first | decide | (dsimp only; omega) | (simp [Value.category]; done) | (simp [Value.category]; omega)) (by first | decide | (dsimp only; omega) | (simp [Value.category]; done) | (simp [Value.category]; omega)) (fun hxs axs sxs zxs lxs Exs ⟨Axs, Dxs⟩ => ?_)
      refine Ow.dup C at_62 (pc' := 63) rfl rfl ?_
      refine Ow.iconst C (2 : Int32) at_63 (pc' := 64) rfl rfl ?_
      refine Ow.newarr C (ty := .char) (cap := 2) rfl rfl (tw3 G.1) at_64 (pc' := 66) rfl rfl (by decide) (by first | decide | (dsimp only; omega) | (simp [Value.category]; done) | (simp [Value.category]; omega)) (by first | decide | (dsimp only; omega) | (simp [Value.category]; done) | (simp [Value.category]; omega)) (fun hxv axv sxv zxv lxv Exv Vxv => ?_)
      refine Ow.dup C at_66 (pc' := 67) rfl rfl ?_
      refine Ow.iconst C (0 : Int32) at_67 (pc' := 68) rfl rfl ?_
      refine Ow.iload C at_68 (pc' := 70) rfl rfl ?_
      refine Ow.castore C Vxv (i := 0) rfl (by first | decide | (simp; done)) (by first | assumption | (simp; done) | (simp [*]; done)) at_70 (pc' := 71) rfl (fun hx0 Kx0 Vx0 => ?_)
      have gx0 := Kx0.1
      refine Ow.dup C at_71 (pc' := 72) rfl rfl ?_
      refine Ow.iconst C (1 : Int32) at_72 (pc' := 73) rfl rfl ?_
      refine Ow.iload C at_73 (pc' := 75) rfl rfl ?_
      refine Ow.castore C Vx0 (i := 1) rfl (by first | decide | (simp; done)) (by first | assumption | (simp; done) | (simp [*]; done)) at_75 (pc' := 76) rfl (fun hx1 Kx1 Vx1 => ?_)
      have gx1 := Kx1.1
      have nx : axs ≠ axv := by omega
      have KAx : Keep hxs hx1 [axv] := ((((Keep.refl hxs [axv]).ext Exv).trans Kx0 (fun _ q => Or.inl q)).trans Kx1 (fun _ q => Or.inl q))
      refine Ow.callI C rfl (tw4 G.1) (tw5 G.1) (tw2 G.1) (tw6 G.1) (by decide) (con_I0g G 2 axs axv [_, _] hx1 _ _ _ (Axs.keep KAx) ((Dxs (Or.inr (tw16 G.1)) (ty := .array .byte) (by decide)).keep KAx (Ow.nin1 nx)) ((Dxs (Or.inr (tw17 G.1)) (ty := .byte) (by decide)).keep KAx (Ow.nin1 nx)) (by simp) Vx1 (by simp) (by intro z hz; simp at hz; rcases hz with rfl | rfl; rw [Ow.nar_char_id q0.1 q0.2]; exact q0; rw [Ow.nar_char_id q1.1 q1.2]; exact q1) (by simp) (by decide)) (fun _ q => q) pd_37 rfl rfl rfl at_76 (pc' := 79) rfl (Wt := 1) (Nat.le_refl _) (by first | decide | (dsimp only; omega) | (simp [Value.category]; done) | (simp [Value.category]; omega)) (by first | decide | (dsimp only; omega) | (simp [Value.category]; done) | (simp [Value.category]; omega)) (by first | decide | (dsimp only; omega) | (simp [Value.category]; done) | (simp [Value.category]; omega)) (by first | decide | (dsimp only; omega) | (simp [Value.category]; done) | (simp [Value.category]; omega)) (fun vx hx Wx ⟨ex, dx, Sx, Kcx, hdx⟩ gx => ?_)
      subst ex
      dsimp only [Option.toList, List.cons_append, List.nil_append]
      refine Ow.astore C at_79 (pc' := 81) rfl rfl rfl ?_
      dsimp only [List.set]
      refine Ow.goto C 111 at_81 (by decide) (by decide) ?_
      rw [Ow.nar_char_id q0.1 q0.2, Ow.nar_char_id q1.1 q1.2] at Sx
      obtain ⟨u, Sx⟩ := Sx.k
      exact (WP.wk (fun x hx => absurd hx List.not_mem_nil) (hJ _ _ _ _ Sx)).room (by decide) (by decide)
    · refine Ow.iload C at_17 (pc' := 19) rfl rfl ?_
      refine Ow.ifCY C 37 at_19 (XT.i0_ne_t (by decide)) (by decide) (by decide) ?_
      refine Ow.iload C at_37 (pc' := 39) rfl rfl ?_
      refine Ow.iconst C (1 : Int32) at_39 (pc' := 40) rfl rfl ?_
      refine Ow.icmpY C 53 at_40 (XT.ii_ne_t (by decide)) (by decide) (by decide) ?_
      refine Ow.iload C at_53 (pc' := 55) rfl rfl ?_
      refine Ow.iconst C (2 : Int32) at_55 (pc' := 56) rfl rfl ?_
      refine Ow.icmpY C 84 at_56 (XT.ii_ne_t (by decide)) (by decide) (by decide) ?_
      refine Ow.newO C (tw0 G.1) (tw1 G.1) (tw2 G.1) at_84 (pc' := 87) rfl (by first | decide | (dsimp only; omega) | (simp [Value.category]; done) | (simp [Value.category]; omega)) (by first | decide | (dsimp only; omega) | (simp [Value.category]; done) | (simp [Value.category]; omega)) (fun hxs axs sxs zxs lxs Exs ⟨Axs, Dxs⟩ => ?_)
      refine Ow.dup C at_87 (pc' := 88) rfl rfl ?_
      refine Ow.iconst C (3 : Int32) at_88 (pc' := 89) rfl rfl ?_
      refine Ow.newarr C (ty := .char) (cap := 3) rfl rfl (tw3 G.1) at_89 (pc' := 91) rfl rfl (by decide) (by first | decide | (dsimp only; omega) | (simp [Value.category]; done) | (simp [Value.category]; omega)) (by first | decide | (dsimp only; omega) | (simp [Value.category]; done) | (simp [Value.category]; omega)) (fun hxv axv sxv zxv lxv Exv Vxv => ?_)
      refine Ow.dup C at_91 (pc' := 92) rfl rfl ?_
      refine Ow.iconst C (0 : Int32) at_92 (pc' := 93) rfl rfl ?_
      refine Ow.iload C at_93 (pc' := 95) rfl rfl ?_
      refine Ow.castore C Vxv (i := 0) rfl (by first | decide | (simp; done)) (by first | assumption | (simp; done) | (simp [*]; done)) at_95 (pc' := 96) rfl (fun hx0 Kx0 Vx0 => ?_)
      have gx0 := Kx0.1
      refine Ow.dup C at_96 (pc' := 97) rfl rfl ?_
      refine Ow.iconst C (1 : Int32) at_97 (pc' := 98) rfl rfl ?_
      refine Ow.iload C at_98 (pc' := 100) rfl rfl ?_
      refine Ow.castore C Vx0 (i := 1) rfl (by first | decide | (simp; done)) (by first | assumption | (simp; done) | (simp [*]; done)) at_100 (pc' := 101) rfl (fun hx1 Kx1 Vx1 => ?_)
      have gx1 := Kx1.1
      refine Ow.dup C at_101 (pc' := 102) rfl rfl ?_
      refine Ow.iconst C (2 : Int32) at_102 (pc' := 103) rfl rfl ?_
      refine Ow.iload C at_103 (pc' := 105) rfl rfl ?_
      refine Ow.castore C Vx1 (i := 2) rfl (by first | decide | (simp; done)) (by first | assumption | (simp; done) | (simp [*]; done)) at_105 (pc' := 106) rfl (fun hx2 Kx2 Vx2 => ?_)
      have gx2 := Kx2.1
      have nx : axs ≠ axv := by omega
      have KAx : Keep hxs hx2 [axv] := (((((Keep.refl hxs [axv]).ext Exv).trans Kx0 (fun _ q => Or.inl q)).trans Kx1 (fun _ q => Or.inl q)).trans Kx2 (fun _ q => Or.inl q))
      refine Ow.callI C rfl (tw4 G.1) (tw5 G.1) (tw2 G.1) (tw6 G.1) (by decide) (con_I0g G 3 axs axv [_, _, _] hx2 _ _ _ (Axs.keep KAx) ((Dxs (Or.inr (tw16 G.1)) (ty := .array .byte) (by decide)).keep KAx (Ow.nin1 nx)) ((Dxs (Or.inr (tw17 G.1)) (ty := .byte) (by decide)).keep KAx (Ow.nin1 nx)) (by simp) Vx2 (by simp) (by intro z hz; simp at hz; rcases hz with rfl | rfl | rfl; rw [Ow.nar_char_id q0.1 q0.2]; exact q0; rw [Ow.nar_char_id q1.1 q1.2]; exact q1; rw [Ow.nar_char_id q2.1 q2.2]; exact q2) (by simp) (by decide)) (fun _ q => q) pd_37 rfl rfl rfl at_106 (pc' := 109) rfl (Wt := 1) (Nat.le_refl _) (by first | decide | (dsimp only; omega) | (simp [Value.category]; done) | (simp [Value.category]; omega)) (by first | decide | (dsimp only; omega) | (simp [Value.category]; done) | (simp [Value.category]; omega)) (by first | decide | (dsimp only; omega) | (simp [Value.category]; done) | (simp [Value.category]; omega)) (by first | decide | (dsimp only; omega) | (simp [Value.category]; done) | (simp [Value.category]; omega)) (fun vx hx Wx ⟨ex, dx, Sx, Kcx, hdx⟩ gx => ?_)
      subst ex
      dsimp only [Option.toList, List.cons_append, List.nil_append]
      refine Ow.astore C at_109 (pc' := 111) rfl rfl rfl ?_
      dsimp only [List.set]
      rw [Ow.nar_char_id q0.1 q0.2, Ow.nar_char_id q1.1 q1.2, Ow.nar_char_id q2.1 q2.2] at Sx
      obtain ⟨u, Sx⟩ := Sx.k
      exact (WP.wk (fun x hx => absurd hx List.not_mem_nil) (hJ _ _ _ _ Sx)).room (by decide) (by decide)
  intro h1 x d u S1
  have hlw : (([c0, c1, c2] : List Int32).take n).length = n := by simp; omega
  refine Ow.aload C at_111 (pc' := 113) rfl rfl rfl ?_
  refine Ow.callSK C hTK hBelow (tw22 G.1) (tw23 G.1) (tw24 G.1) (tw25 G.1) (by decide) (con_NU G hst x d u _ (by rw [hlw]; exact hn) h1 S1) (fun _ q => q) pd_39 rfl rfl rfl at_113 (pc' := 116) rfl (Wt := 0) (Nat.le_refl _) (by decide) (by decide) (by decide) (by decide) (fun v2 h2 W2 ⟨ex, mm, d', u', e2, E2, F2, S2⟩ g2 => ?_)
  subst e2
  dsimp only [Option.toList, List.cons_append, List.nil_append]
  generalize hcs : ([c0, c1, c2] : List Int32).take n ++ [58, 32] ++ [110, 111, 116, 32, 85, 84, 70, 45, 56, 32, 116, 101, 120, 116] = cs at S2
  have hlen : cs.length = n + 16 := by rw [← hcs]; simp; omega
  have hsf : ∀ i, i < 16 → cs.getD (n + i) 0 = SFX.getD i 0 := fun i hi => by
    rw [← hcs, List.append_assoc, Ow.getD_right (by rw [hlw]; omega), hlw, Nat.add_sub_cancel_left]
    rfl
  have hpre : ∀ i, i < n → cs.getD i 0 = ([c0, c1, c2] : List Int32).getD i 0 := fun i hi => by
    rw [← hcs, List.append_assoc, Ow.getD_left (by rw [hlw]; omega), (by simp [List.getD_eq_getElem?_getD, hi] : (([c0, c1, c2] : List Int32).take n).getD i 0 = ([c0, c1, c2] : List Int32).getD i 0)]
  refine Ow.astore C at_116 (pc' := 118) rfl rfl rfl ?_
  dsimp only [List.set]
  refine Ow.aload C at_118 (pc' := 120) rfl rfl rfl ?_
  refine Ow.ifnonnullY C 125 at_120 (by decide) (by decide) ?_
  refine Ow.aload C at_125 (pc' := 127) rfl rfl rfl ?_
  refine Ow.callVU C (y := (⟨"com/example/congruent/congruent/io/UnreadableInputException", "getMessage", "()Ljava/lang/String;"⟩ : MethodName)) (z := (⟨"java/lang/Throwable", "getMessage", "()Ljava/lang/String;"⟩ : MethodName)) (owner := "java/lang/Throwable") (tw190 G.1) (tw191 G.1) (tw192 G.1) (by decide) (tw194 G.1) (tw193 G.1) (tw151 G.1) (tw195 G.1) E2 (con_GM G ex (.ref mm) rfl h2 _ F2) (fun _ q => q) pd_36 rfl rfl rfl at_127 (pc' := 130) rfl (Wt := 0) (Nat.le_refl _) (by decide) (by decide) (by decide) (by decide) (fun v3 h3 W3 ⟨e3, e3'⟩ g3 => ?_)
  subst e3 e3'
  dsimp only [Option.toList, List.cons_append, List.nil_append]
  refine Ow.astore C at_130 (pc' := 132) rfl rfl rfl ?_
  dsimp only [List.set]
  refine Ow.aload C at_132 (pc' := 134) rfl rfl rfl ?_
  refine Ow.ifnonnullY C 139 at_134 (by decide) (by decide) ?_
  refine Ow.aload C at_139 (pc' := 141) rfl rfl rfl ?_
  refine Ow.callV C (y := (⟨"java/lang/String", "length", "()I"⟩ : MethodName)) (z := (⟨"java/lang/String", "length", "()I"⟩ : MethodName)) (tw196 G.1) (tw57 G.1) (tw59 G.1) (tw59 G.1) (tw58 G.1) (tw2 G.1) (tw60 G.1) (by decide) S2.exa (con_LNk G mm d' u' cs h3 _ S2) (fun _ q => q) pd_21 rfl rfl rfl at_141 (pc' := 144) rfl (Wt := 0) (Nat.le_refl _) (by first | decide | (dsimp only; omega) | (simp [Value.category]; done) | (simp [Value.category]; omega)) (by first | decide | (dsimp only; omega) | (simp [Value.category]; done) | (simp [Value.category]; omega)) (by first | decide | (dsimp only; omega) | (simp [Value.category]; done) | (simp [Value.category]; omega)) (by first | decide | (dsimp only; omega) | (simp [Value.category]; done) | (simp [Value.category]; omega)) (fun v4 h4 W4 ⟨e4, e4'⟩ s4 => ?_)
  subst e4 e4'
  dsimp only [Option.toList, List.cons_append, List.nil_append]
  refine Ow.iload C at_144 (pc' := 146) rfl rfl ?_
  refine Ow.bipush C (16 : Int32) at_146 (pc' := 148) rfl rfl ?_
  refine Ow.iadd C at_148 (pc' := 149) rfl ?_
  rw [show Int32.ofNat n + (16 : Int32) = Int32.ofNat (n + 16) from Ow.add_ofNat (i := n) (j := 16) (by omega), hlen]
  refine Ow.icmpY C 154 at_149 (XT.ii_eq_t rfl) (by decide) (by decide) ?_
  have J211 : Ow.WP p l e room_1 s m #[.int p0, .int p1, .int p2, .int p3] below meth c Z EL1 bb (fun v h' W' => v = some (.int 1)) 211 [.val (.int p0), .val (.int p1), .val (.int p2), .val (.int p3), .val (.int (Int32.ofNat n)), .val (.int c0), .val (.int c1), .val (.int c2), .val (.ref x), .val (.ref ex), .val (.ref mm)] [] h4 [] 30 4000 := by
    refine Ow.aload C at_211 (pc' := 213) rfl rfl rfl ?_
    refine Ow.iload C at_213 (pc' := 215) rfl rfl ?_
    refine Ow.callS C (tw197 G.1) (tw198 G.1) (tw199 G.1) (tw200 G.1) (by decide) (con_SX G mm d' u' n cs hlen hsf h4 _ S2 (by omega)) (fun _ q => q) pd_40 rfl rfl rfl at_215 (pc' := 218) rfl (Wt := 0) (Nat.le_refl _) (by first | decide | (dsimp only; omega) | (simp [Value.category]; done) | (simp [Value.category]; omega)) (by first | decide | (dsimp only; omega) | (simp [Value.category]; done) | (simp [Value.category]; omega)) (by first | decide | (dsimp only; omega) | (simp [Value.category]; done) | (simp [Value.category]; omega)) (by first | decide | (dsimp only; omega) | (simp [Value.category]; done) | (simp [Value.category]; omega)) (fun v5 h5 W5 ⟨e5, e5'⟩ s5 => ?_)
    subst e5 e5'
    dsimp only [Option.toList, List.cons_append, List.nil_append]
    refine Ow.retN C (t := .boolean) rfl (by simp) at_218 (by first | decide | (dsimp only; omega) | (simp [Value.category]; done) | (simp [Value.category]; omega)) (by first | decide | (dsimp only; omega) | (simp [Value.category]; done) | (simp [Value.category]; omega)) [] (by first | (simp; done) | (intro x hx; simp [hx]; done)) rfl
  have J192 : Ow.WP p l e room_1 s m #[.int p0, .int p1, .int p2, .int p3] below meth c Z EL1 bb (fun v h' W' => v = some (.int 1)) 192 [.val (.int p0), .val (.int p1), .val (.int p2), .val (.int p3), .val (.int (Int32.ofNat n)), .val (.int c0), .val (.int c1), .val (.int c2), .val (.ref x), .val (.ref ex), .val (.ref mm)] [] h4 [] 30 4000 := by
    refine Ow.iload C at_192 (pc' := 194) rfl rfl ?_
    refine Ow.iconst C (3 : Int32) at_194 (pc' := 195) rfl rfl ?_
    by_cases q : n < 3
    · refine Ow.icmpY C 211 at_195 (XT.ii_lt_t (by rw [Ow.lt32, Ow.ofNat_toInt (by omega)]; have e0 : ((3 : Int32)).toInt = 3 := rfl; omega)) (by decide) (by decide) ?_
      exact J211
    · refine Ow.icmpN C at_195 (pc' := 198) rfl (XT.ii_lt_f (by rw [Ow.lt32, Ow.ofNat_toInt (by omega)]; have e0 : ((3 : Int32)).toInt = 3 := rfl; omega)) ?_
      refine Ow.aload C at_198 (pc' := 200) rfl rfl rfl ?_
      refine Ow.iconst C (2 : Int32) at_200 (pc' := 201) rfl rfl ?_
      refine Ow.callV C (y := (⟨"java/lang/String", "charAt", "(I)C"⟩ : MethodName)) (z := (⟨"java/lang/String", "charAt", "(I)C"⟩ : MethodName)) (tw201 G.1) (tw202 G.1) (tw204 G.1) (tw204 G.1) (tw203 G.1) (tw2 G.1) (tw205 G.1) (by decide) S2.exa (con_CAk G mm d' u' 2 cs (by omega) h4 _ S2) (fun _ q => q) pd_34 rfl rfl rfl at_201 (pc' := 204) rfl (Wt := 0) (Nat.le_refl _) (by first | decide | (dsimp only; omega) | (simp [Value.category]; done) | (simp [Value.category]; omega)) (by first | decide | (dsimp only; omega) | (simp [Value.category]; done) | (simp [Value.category]; omega)) (by first | decide | (dsimp only; omega) | (simp [Value.category]; done) | (simp [Value.category]; omega)) (by first | decide | (dsimp only; omega) | (simp [Value.category]; done) | (simp [Value.category]; omega)) (fun v5 h5 W5 ⟨e5, e5'⟩ s5 => ?_)
      subst e5 e5'
      dsimp only [Option.toList, List.cons_append, List.nil_append]
      refine Ow.iload C at_204 (pc' := 206) rfl rfl ?_
      refine Ow.icmpY C 211 at_206 (XT.ii_eq_t (by rw [hpre 2 (by omega)]; rfl)) (by decide) (by decide) ?_
      exact J211
  have J173 : Ow.WP p l e room_1 s m #[.int p0, .int p1, .int p2, .int p3] below meth c Z EL1 bb (fun v h' W' => v = some (.int 1)) 173 [.val (.int p0), .val (.int p1), .val (.int p2), .val (.int p3), .val (.int (Int32.ofNat n)), .val (.int c0), .val (.int c1), .val (.int c2), .val (.ref x), .val (.ref ex), .val (.ref mm)] [] h4 [] 30 4000 := by
    refine Ow.iload C at_173 (pc' := 175) rfl rfl ?_
    refine Ow.iconst C (2 : Int32) at_175 (pc' := 176) rfl rfl ?_
    by_cases q : n < 2
    · refine Ow.icmpY C 192 at_176 (XT.ii_lt_t (by rw [Ow.lt32, Ow.ofNat_toInt (by omega)]; have e0 : ((2 : Int32)).toInt = 2 := rfl; omega)) (by decide) (by decide) ?_
      exact J192
    · refine Ow.icmpN C at_176 (pc' := 179) rfl (XT.ii_lt_f (by rw [Ow.lt32, Ow.ofNat_toInt (by omega)]; have e0 : ((2 : Int32)).toInt = 2 := rfl; omega)) ?_
      refine Ow.aload C at_179 (pc' := 181) rfl rfl rfl ?_
      refine Ow.iconst C (1 : Int32) at_181 (pc' := 182) rfl rfl ?_
      refine Ow.callV C (y := (⟨"java/lang/String", "charAt", "(I)C"⟩ : MethodName)) (z := (⟨"java/lang/String", "charAt", "(I)C"⟩ : MethodName)) (tw201 G.1) (tw202 G.1) (tw204 G.1) (tw204 G.1) (tw203 G.1) (tw2 G.1) (tw205 G.1) (by decide) S2.exa (con_CAk G mm d' u' 1 cs (by omega) h4 _ S2) (fun _ q => q) pd_34 rfl rfl rfl at_182 (pc' := 185) rfl (Wt := 0) (Nat.le_refl _) (by first | decide | (dsimp only; omega) | (simp [Value.category]; done) | (simp [Value.category]; omega)) (by first | decide | (dsimp only; omega) | (simp [Value.category]; done) | (simp [Value.category]; omega)) (by first | decide | (dsimp only; omega) | (simp [Value.category]; done) | (simp [Value.category]; omega)) (by first | decide | (dsimp only; omega) | (simp [Value.category]; done) | (simp [Value.category]; omega)) (fun v5 h5 W5 ⟨e5, e5'⟩ s5 => ?_)
      subst e5 e5'
      dsimp only [Option.toList, List.cons_append, List.nil_append]
      refine Ow.iload C at_185 (pc' := 187) rfl rfl ?_
      refine Ow.icmpY C 192 at_187 (XT.ii_eq_t (by rw [hpre 1 (by omega)]; rfl)) (by decide) (by decide) ?_
      exact J192
  refine WP.room (k' := 30) (n' := 4000) (by decide) (by decide) ?_
  refine Ow.iload C at_154 (pc' := 156) rfl rfl ?_
  refine Ow.iconst C (1 : Int32) at_156 (pc' := 157) rfl rfl ?_
  by_cases q : n < 1
  · refine Ow.icmpY C 173 at_157 (XT.ii_lt_t (by rw [Ow.lt32, Ow.ofNat_toInt (by omega)]; have e0 : ((1 : Int32)).toInt = 1 := rfl; omega)) (by decide) (by decide) ?_
    exact J173
  · refine Ow.icmpN C at_157 (pc' := 160) rfl (XT.ii_lt_f (by rw [Ow.lt32, Ow.ofNat_toInt (by omega)]; have e0 : ((1 : Int32)).toInt = 1 := rfl; omega)) ?_
    refine Ow.aload C at_160 (pc' := 162) rfl rfl rfl ?_
    refine Ow.iconst C (0 : Int32) at_162 (pc' := 163) rfl rfl ?_
    refine Ow.callV C (y := (⟨"java/lang/String", "charAt", "(I)C"⟩ : MethodName)) (z := (⟨"java/lang/String", "charAt", "(I)C"⟩ : MethodName)) (tw201 G.1) (tw202 G.1) (tw204 G.1) (tw204 G.1) (tw203 G.1) (tw2 G.1) (tw205 G.1) (by decide) S2.exa (con_CAk G mm d' u' 0 cs (by omega) h4 _ S2) (fun _ q => q) pd_34 rfl rfl rfl at_163 (pc' := 166) rfl (Wt := 0) (Nat.le_refl _) (by first | decide | (dsimp only; omega) | (simp [Value.category]; done) | (simp [Value.category]; omega)) (by first | decide | (dsimp only; omega) | (simp [Value.category]; done) | (simp [Value.category]; omega)) (by first | decide | (dsimp only; omega) | (simp [Value.category]; done) | (simp [Value.category]; omega)) (by first | decide | (dsimp only; omega) | (simp [Value.category]; done) | (simp [Value.category]; omega)) (fun v5 h5 W5 ⟨e5, e5'⟩ s5 => ?_)
    subst e5 e5'
    dsimp only [Option.toList, List.cons_append, List.nil_append]
    refine Ow.iload C at_166 (pc' := 168) rfl rfl ?_
    refine Ow.icmpY C 173 at_168 (XT.ii_eq_t (by rw [hpre 0 (by omega)]; rfl)) (by decide) (by decide) ?_
    exact J173
end Law
set_option maxRecDepth 65536 in
set_option maxHeartbeats 40000000 in
theorem comes_1 {Post : Tables → Env → Array Value → State → Outcome → State → Prop} (hpost : ∀ tb e args s v u, (limb_1_1.after args s (.returned v) u = true ∧ limb_1_2.after args s (.returned v) u = true ∧ True) → ReturnedEndW s (.returned v) u (Jvm.fieldLocs frame_1_writes args s ++ Jvm.arrayLocs frame_1_arrays args s ++ Jvm.staticLocs frame_1_statics s) 40 9024 → Post tb e args s (.returned v) u) :
    ArmFor flags0 classFile x code maxLocals ret World_1 tables_1 room_1 Calls_1 rest_1 Pre_1 Post := by
  intro l hfl _ _ p e ha hc hk s m args below hf hA hF happ hP
  obtain ⟨hcalls, hrest, hpre⟩ := hP
  obtain ⟨-, -, -, hnamed, -, -, -, hat⟩ := (Spec.applies_iff hf).mp happ
  obtain ⟨hg, hn⟩ := and_e (Cond.before_iff.mp (show (Jvm.Cond.and given_1 narrow_1).before args s = true from hpre))
  obtain ⟨h1, h2⟩ := and_e hg
  obtain ⟨w0, w1, w2, w3, rfl⟩ : ∃ w0 w1 w2 w3 : Value, args = #[w0, w1, w2, w3] := by
    have hs : args.size = 4 := by simpa [Cond.value, given_1] using h1
    obtain ⟨L⟩ := args
    match L, hs with
    | [w0, w1, w2, w3], _ => exact ⟨w0, w1, w2, w3, rfl⟩
  have hw := fun d (hd : d ∈ tables_1) => atoms_spec (ws := Jvm.Cond.code x code maxLocals ret :: tables_1) hat d (List.mem_cons_of_mem _ hd)
  obtain ⟨hsets, hown0⟩ := atoms_of _ (rest_1_c_eq ▸ (show rest_1_c.before _ s = true from hrest))
  have hfit : Fit s := fun {y c} hc i hi => by
    obtain ⟨ha, rfl⟩ := Array.getElem?_eq_some_iff.mp hc
    have q := List.all_eq_true.mp ((Array.all_eq_true_iff_forall_mem.mp hF) _ (Array.getElem_mem ha)) i (List.mem_range.mpr hi)
    simpa [Array.getElem?_eq_getElem hi] using q
  obtain ⟨q0, h2⟩ := and_e h2
  obtain ⟨q1, h2⟩ := and_e h2
  obtain ⟨q2, h2⟩ := and_e h2
  have q3 := h2
  obtain ⟨i0, e0⟩ := is_v q0
  obtain rfl : w0 = (.int i0) := Option.some.inj e0
  obtain ⟨i1, e1⟩ := is_v q1
  obtain rfl : w1 = (.int i1) := Option.some.inj e1
  obtain ⟨i2, e2⟩ := is_v q2
  obtain rfl : w2 = (.int i2) := Option.some.inj e2
  obtain ⟨i3, e3⟩ := is_v q3
  obtain rfl : w3 = (.int i3) := Option.some.inj e3
  have n3 := not_v (Cond.before_iff.mp (hsets _ (List.mem_of_getElem? (i := 2) rfl)))
  obtain ⟨cv, ecv⟩ := is_v (Cond.before_iff.mp (hsets _ (List.mem_of_getElem? (i := 1) rfl)))
  have Scv : Sta s s.heap "java/lang/String" "COMPACT_STRINGS" "Z" (.int cv) := Sta.start ecv (Or.inl (hsets _ (List.mem_of_getElem? (i := 0) rfl)))
  have hcv : ¬ (cv = (0 : Int32)) := gotF (Cond.eq_ints ecv (Term.int_eval (0))) n3
  have sw := isR_v (Cond.before_iff.mp (hsets _ (List.mem_of_getElem? (i := 8) rfl)))
  obtain ⟨w, ew, hw'⟩ := sw
  have U1 := Ow.staEq (hsets _ (List.mem_of_getElem? (i := 31) rfl)) (hsets _ (List.mem_of_getElem? (i := 32) rfl))
  have U2 := Ow.staEq (hsets _ (List.mem_of_getElem? (i := 34) rfl)) (hsets _ (List.mem_of_getElem? (i := 35) rfl))
  have U3 := Ow.staEq (hsets _ (List.mem_of_getElem? (i := 37) rfl)) (hsets _ (List.mem_of_getElem? (i := 38) rfl))
  have sw2 := isR_v (Cond.before_iff.mp (hsets _ (List.mem_of_getElem? (i := 21) rfl)))
  obtain ⟨w2, ew2, hw2⟩ := sw2
  obtain ⟨ua, eua⟩ := arr_v (Cond.before_iff.mp (hsets _ (List.mem_of_getElem? (i := 17) rfl)))
  have hstk : l.stackTraces = true := by (unfold Launch.stackTraces; rw [hfl]; decide)
  have G : Glob s _ := ⟨hw, ⟨cv, hcv, Scv⟩, ⟨U1, U2, U3⟩, ⟨w, Sta.start ew (Or.inl (hsets _ (List.mem_of_getElem? (i := 7) rfl))), hw'⟩, ⟨ua, Sta.start eua (Or.inl (hsets _ (List.mem_of_getElem? (i := 15) rfl)))⟩, ⟨w2, Sta.start ew2 (Or.inl (hsets _ (List.mem_of_getElem? (i := 20) rfl))), hw2⟩⟩
  obtain ⟨n, o, h1, h2, h3, _, L, rfl, ⟨W', rfl, -, -, N⟩, -, hq, hq'⟩ := con_law G hstk i0 i1 i2 i3 p e ha hc hk s m _ below hf ((Spec.applies_iff_loose hf).mp happ).1 ⟨rfl, State.Warmed39.refl s, rfl, (CHv.start (ewG G) (fun p hp => hcalls.2.2.1 p hp) (show Jvm.Lit.compactW.before _ s = true from (hsets _ (List.mem_of_getElem? (i := 2) rfl))) (tw15 G.1) (tw1 G.1)), Old.start s, Ow.Own.nil⟩ (Ow.known_start hf hcalls.1 hcalls.2.1)
  exact ⟨n, _, h1, h2, h3, hpost _ _ _ _ _ _ ⟨Cond.after_iff.mpr rfl, Cond.after_iff.mpr (eq_i res_at (Term.int_eval (1)) rfl), trivial⟩ ⟨hq.1, hq.2.1, hq.2.2.1, (hq.2.2.2.sift fun y hy => Or.inr (N y hy)).mono (by decide) (by decide)⟩⟩
theorem main_1_1 : Claimed_1_1 := comes_1 fun _ _ _ _ _ _ h hF => ⟨h.1, hF⟩
theorem main_1_2 : Claimed_1_2 := comes_1 fun _ _ _ _ _ _ h hF => ⟨h.2.1, hF⟩

end Jvm.Pilot.@@N@@
namespace Jvm.Pilot.@@N@@
open Jvm Jvm.ClassFile Sem Op Lib Jvm.Free Jvm.Stand Jvm.Pilot.@@N@@.Jvm.D
/-! MADE BY PROGRAM (witnessworld.py) out of the Statement's table words and the real class files: 39 classes; the members and pool entries that the words name. The judged class is class 1, her method 1. -/
namespace start1
open Jvm.ClassFile
def u (s : String) : CpInfo := .utf8 (stringToUtf16 s)
/-- a pool by its gaps: so many unusable entries, then the entry; so many at the end -/
def gap : Nat → List CpInfo → List CpInfo
  | 0, r => r
  | n + 1, r => .unusable :: gap n r
def poolList (es : List (Nat × CpInfo)) (last : Nat) : List CpInfo := es.foldr (fun e r => gap e.1 (e.2 :: r)) (gap last [])
def pool (es : List (Nat × CpInfo)) (last : Nat) : Array CpInfo := ⟨poolList es last⟩
def fileOf (pool : Array CpInfo) (this : Nat) (attrs : Array Attribute := #[]) (ms : Array MethodInfo := #[]) (fl : Nat := 33) (sup : Nat := 0) (ifs : Array Nat := #[]) (fds : Array FieldInfo := #[]) : ClassFile where
  minorVersion := 0
  majorVersion := 65
  constantPool := pool
  accessFlags := fl
  thisClass := this
  superClass := sup
  interfaces := ifs
  fields := fds
  methods := ms
  attributes := attrs
def plain (name : String) (sup : Option ClassId) : Class where
  name := name
  kind := .ordinary
  loader := none
  accessFlags := 33
  super := sup
  interfaces := #[]
  cf := none
  fields := #[]
  methods := #[]
  instanceTypes := #[]
  staticTypes := #[]
  resolved := #[]
  callSites := []
  init := .initialized
  statics := none
  mirror := none

def pool0 : Array CpInfo := pool [(5, u "<init>"), (0, u "()V"), (1, .class_ 10), (1, u "java/lang/Object"), (85, u "clone"), (0, u "()Ljava/lang/Object;")] 26

def k0c0 : Code := { maxStack := 0, maxLocals := 1, code := object_method_1_code, exceptionTable := #[], attributes := #[] }
def k0m0 : Method := { name := "<init>", desc := "()V", sig := { parameters := [], returnType := none }, accessFlags := 1, code := some k0c0 }
def k0m1 : Method := { name := "clone", desc := "()Ljava/lang/Object;", sig := { parameters := [], returnType := some (.object "java/lang/Object") }, accessFlags := 260, code := none }
/-- java/lang/Object -/
def k0 : Class := { plain "java/lang/Object" none with
  accessFlags := 33
  interfaces := #[]
  cf := some (fileOf pool0 8 #[] #[{ accessFlags := 1, nameIndex := 5, descriptorIndex := 6, attributes := #[] }, { accessFlags := 260, nameIndex := 96, descriptorIndex := 97, attributes := #[] }] 33 0 #[] #[])
  fields := #[]
  methods := #[k0m0, k0m1]
  instanceTypes := #[]
  staticTypes := #[]
  resolved := Array.replicate 124 none
  statics := none }

def pool1 : Array CpInfo := pool [(2, .class_ 4), (1, u "java/lang/Object"), (0, u "<init>"), (0, u "()V"), (0, .class_ 8), (0, u "java/lang/String"), (0, .methodref 7 10), (0, .nameAndType 5 11), (0, u "([C)V"), (0, .methodref 7 13), (0, .nameAndType 14 15), (0, u "valueOf"), (0, u "(C)Ljava/lang/String;"), (0, .methodref 17 18), (0, .class_ 19), (0, .nameAndType 20 21), (0, u "com/example/congruent/congruent/io/UnreadableInputException"), (0, u "notUtf8"), (0, u "(Ljava/lang/String;)Lcom/example/congruent/congruent/io/UnreadableInputException;"), (0, .methodref 17 23), (0, .nameAndType 24 25), (0, u "getMessage"), (0, u "()Ljava/lang/String;"), (0, .methodref 7 27), (0, .nameAndType 28 29), (0, u "length"), (0, u "()I"), (0, .methodref 7 31), (0, .nameAndType 32 33), (0, u "charAt"), (0, u "(I)C"), (0, .methodref 35 36), (0, .class_ 37), (0, .nameAndType 38 39), (0, u "com/example/congruent/congruent/io/UnreadableInputExceptionNotUtf8PinLaw"), (0, u "suffixAt"), (0, u "(Ljava/lang/String;I)Z"), (2, u "law"), (0, u "(IIII)Z")] 3

def k1m0 : Method := { name := "<init>", desc := "()V", sig := { parameters := [], returnType := none }, accessFlags := 1, code := none }
def k1c1 : Code := { maxStack := 6, maxLocals := 11, code := code, exceptionTable := #[], attributes := #[] }
def k1m1 : Method := { name := "law", desc := "(IIII)Z", sig := { parameters := [.int, .int, .int, .int], returnType := some .boolean }, accessFlags := 9, code := some k1c1 }
def k1c2 : Code := { maxStack := 3, maxLocals := 2, code := method_3_code, exceptionTable := #[], attributes := #[] }
def k1m2 : Method := { name := "suffixAt", desc := "(Ljava/lang/String;I)Z", sig := { parameters := [(.object "java/lang/String"), .int], returnType := some .boolean }, accessFlags := 10, code := some k1c2 }
/-- com/example/congruent/congruent/io/UnreadableInputExceptionNotUtf8PinLaw -/
def k1 : Class := { plain "com/example/congruent/congruent/io/UnreadableInputExceptionNotUtf8PinLaw" (some 0) with
  accessFlags := 49
  interfaces := #[]
  cf := some (fileOf pool1 35 #[] #[{ accessFlags := 1, nameIndex := 5, descriptorIndex := 6, attributes := #[] }, { accessFlags := 9, nameIndex := 42, descriptorIndex := 43, attributes := #[] }, { accessFlags := 10, nameIndex := 38, descriptorIndex := 39, attributes := #[] }] 49 2 #[] #[])
  fields := #[]
  methods := #[k1m0, k1m1, k1m2]
  instanceTypes := #[]
  staticTypes := #[]
  resolved := Array.replicate 47 none
  statics := none }

def pool2 : Array CpInfo := pool [(1, .class_ 2), (0, u "java/io/Serializable"), (0, .class_ 4), (0, u "java/lang/Object")] 2

/-- java/io/Serializable -/
def k2 : Class := { plain "java/io/Serializable" (some 0) with
  accessFlags := 1537
  interfaces := #[]
  cf := some (fileOf pool2 1 #[] #[] 1537 3 #[] #[])
  fields := #[]
  methods := #[]
  instanceTypes := #[]
  staticTypes := #[]
  resolved := Array.replicate 7 none
  statics := none }

def pool3 : Array CpInfo := pool [(1, .class_ 2), (0, u "java/lang/Comparable"), (0, .class_ 4), (0, u "java/lang/Object")] 7

/-- java/lang/Comparable -/
def k3 : Class := { plain "java/lang/Comparable" (some 0) with
  accessFlags := 1537
  interfaces := #[]
  cf := some (fileOf pool3 1 #[] #[] 1537 3 #[] #[])
  fields := #[]
  methods := #[]
  instanceTypes := #[]
  staticTypes := #[]
  resolved := Array.replicate 12 none
  statics := none }

def pool4 : Array CpInfo := pool [(2, .class_ 4), (1, u "java/lang/CharSequence"), (42, .class_ 48), (0, u "java/lang/CharSequence$1CodePointIterator"), (10, .class_ 60), (0, u "java/lang/CharSequence$1CharIterator"), (5, .class_ 67), (0, u "java/lang/Object")] 63

/-- java/lang/CharSequence -/
def k4 : Class := { plain "java/lang/CharSequence" (some 0) with
  accessFlags := 1537
  interfaces := #[]
  cf := some (fileOf pool4 2 #[.nestMembers #[47, 59]] #[] 1537 66 #[] #[])
  fields := #[]
  methods := #[]
  instanceTypes := #[]
  staticTypes := #[]
  resolved := Array.replicate 131 none
  statics := none }

def pool5 : Array CpInfo := pool [(1, .class_ 2), (0, u "java/lang/constant/Constable"), (0, .class_ 4), (0, u "java/lang/Object")] 6

/-- java/lang/constant/Constable -/
def k5 : Class := { plain "java/lang/constant/Constable" (some 0) with
  accessFlags := 1537
  interfaces := #[]
  cf := some (fileOf pool5 1 #[] #[] 1537 3 #[] #[])
  fields := #[]
  methods := #[]
  instanceTypes := #[]
  staticTypes := #[]
  resolved := Array.replicate 11 none
  statics := none }

def pool6 : Array CpInfo := pool [(1, .class_ 2), (0, u "java/lang/constant/ConstantDesc"), (0, .class_ 4), (0, u "java/lang/Object")] 32

/-- java/lang/constant/ConstantDesc -/
def k6 : Class := { plain "java/lang/constant/ConstantDesc" (some 0) with
  accessFlags := 1537
  interfaces := #[]
  cf := some (fileOf pool6 1 #[] #[] 1537 3 #[] #[])
  fields := #[]
  methods := #[]
  instanceTypes := #[]
  staticTypes := #[]
  resolved := Array.replicate 37 none
  statics := none }

def pool7 : Array CpInfo := pool [(1, .methodref 2 3), (0, .class_ 4), (0, .nameAndType 5 6), (0, u "java/lang/Object"), (0, u "<init>"), (0, u "()V"), (0, .string 8), (0, u ""), (0, .fieldref 10 11), (0, .class_ 12), (0, .nameAndType 13 14), (0, u "java/lang/String"), (0, u "value"), (0, u "[B"), (0, .fieldref 10 16), (0, .nameAndType 17 18), (0, u "coder"), (0, u "B"), (2, u "hash"), (0, u "I"), (2, u "hashIsZero"), (0, u "Z"), (0, .methodref 10 28), (0, .nameAndType 5 29), (0, u "([CIILjava/lang/Void;)V"), (6, u "checkBoundsOffCount"), (0, u "(III)I"), (0, .fieldref 10 39), (0, .nameAndType 40 26), (0, u "COMPACT_STRINGS"), (1, .class_ 44), (1, u "java/lang/StringUTF16"), (0, u "compress"), (1, .methodref 42 48), (0, .nameAndType 49 50), (0, u "coderFromArrayLen"), (0, u "([BI)B"), (2, u "toBytes"), (0, .methodref 55 56), (0, .class_ 57), (0, .nameAndType 58 59), (0, u "java/util/Arrays"), (0, u "copyOfRange"), (0, u "([BII)[B"), (46, .methodref 107 108), (0, .class_ 109), (0, .nameAndType 110 111), (0, u "java/lang/StringLatin1"), (0, u "inflate"), (0, u "([BI[BII)V"), (30, u "()Z"), (34, .methodref 42 178), (0, .nameAndType 45 179), (0, u "([CII)[B"), (13, .class_ 195), (1, u "java/lang/System"), (13, .methodref 10 210), (0, .nameAndType 5 211), (0, u "([BB)V"), (0, .methodref 193 213), (0, .nameAndType 214 215), (0, u "arraycopy"), (0, u "(Ljava/lang/Object;ILjava/lang/Object;II)V"), (118, u "()I"), (0, .methodref 10 336), (0, .nameAndType 17 337), (0, u "()B"), (2, u "()[B"), (22, u "([BI)C"), (5, u "(C)Z"), (21, u "(II)V"), (35, u "(I)C"), (61, .methodref 10 490), (0, .nameAndType 5 491), (0, u "(Ljava/lang/AbstractStringBuilder;Ljava/lang/Void;)V"), (0, .methodref 10 493), (0, .nameAndType 494 142), (0, u "isLatin1"), (0, .methodref 107 496), (0, .nameAndType 497 363), (0, u "charAt"), (0, .methodref 42 496), (2, u "checkIndex"), (4, .nameAndType 507 334), (0, u "length"), (24, u "getBytes"), (16, .methodref 550 506), (0, .class_ 551), (0, u "java/lang/AbstractStringBuilder"), (0, .methodref 550 553), (0, .nameAndType 554 340), (0, u "getValue"), (20, .class_ 576), (0, u "java/lang/CharSequence"), (22, u "CASE_INSENSITIVE_ORDER"), (0, u "Ljava/util/Comparator;"), (181, u "valueOf"), (0, u "(C)Ljava/lang/String;"), (37, u "([BIB)V"), (188, u "([C)V"), (4, .methodref 107 1016), (0, .nameAndType 1017 369), (0, u "canEncode"), (0, .methodref 107 1019), (0, .nameAndType 53 1020), (0, u "(C)[B"), (0, .methodref 42 1019), (25, .methodref 550 493), (0, .fieldref 550 1049), (0, .nameAndType 1050 26), (0, u "maybeLatin1"), (2, .fieldref 1054 1055), (0, .class_ 1056), (0, .nameAndType 1057 1058), (0, u "jdk/internal/util/Preconditions"), (0, u "SIOOBE_FORMATTER"), (0, u "Ljava/util/function/BiFunction;"), (0, .methodref 1054 1060), (0, .nameAndType 501 1061), (0, u "(IILjava/util/function/BiFunction;)I"), (2, u "(IIILjava/util/function/BiFunction;)I"), (0, .methodref 1054 1066), (0, .nameAndType 1067 1064), (0, u "checkFromIndexSize"), (33, u "serialPersistentFields"), (0, u "[Ljava/io/ObjectStreamField;"), (0, .class_ 1104), (0, u "java/lang/String$CaseInsensitiveComparator"), (1, .class_ 1107), (0, u "java/io/Serializable"), (0, .class_ 1109), (0, u "java/lang/Comparable"), (0, .class_ 1111), (0, u "java/lang/constant/Constable"), (0, .class_ 1113), (0, u "java/lang/constant/ConstantDesc"), (2, u "serialVersionUID"), (0, u "J"), (3, u "REPL"), (0, u "C"), (2, u "LATIN1"), (1, u "UTF16"), (105, u "(Ljava/lang/StringBuilder;)V")] 217

def k7m0 : Method := { name := "<init>", desc := "()V", sig := { parameters := [], returnType := none }, accessFlags := 1, code := none }
def k7c1 : Code := { maxStack := 5, maxLocals := 2, code := jdk_42_method_3_code, exceptionTable := #[], attributes := #[] }
def k7m1 : Method := { name := "<init>", desc := "([C)V", sig := { parameters := [(.array .char)], returnType := none }, accessFlags := 1, code := some k7c1 }
def k7c2 : Code := { maxStack := 3, maxLocals := 2, code := jdk_42_method_53_code, exceptionTable := #[], attributes := #[] }
def k7m2 : Method := { name := "<init>", desc := "(Ljava/lang/StringBuilder;)V", sig := { parameters := [(.object "java/lang/StringBuilder")], returnType := none }, accessFlags := 1, code := some k7c2 }
def k7c3 : Code := { maxStack := 2, maxLocals := 1, code := jdk_42_method_54_code, exceptionTable := #[], attributes := #[] }
def k7m3 : Method := { name := "length", desc := "()I", sig := { parameters := [], returnType := some .int }, accessFlags := 1, code := some k7c3 }
def k7c4 : Code := { maxStack := 2, maxLocals := 2, code := jdk_42_method_56_code, exceptionTable := #[], attributes := #[] }
def k7m4 : Method := { name := "charAt", desc := "(I)C", sig := { parameters := [.int], returnType := some .char }, accessFlags := 1, code := some k7c4 }
def k7c5 : Code := { maxStack := 4, maxLocals := 1, code := jdk_42_method_139_code, exceptionTable := #[], attributes := #[] }
def k7m5 : Method := { name := "valueOf", desc := "(C)Ljava/lang/String;", sig := { parameters := [.char], returnType := some (.object "java/lang/String") }, accessFlags := 9, code := some k7c5 }
def k7c6 : Code := { maxStack := 5, maxLocals := 4, code := jdk_42_method_147_code, exceptionTable := #[], attributes := #[] }
def k7m6 : Method := { name := "getBytes", desc := "([BIB)V", sig := { parameters := [(.array .byte), .int, .byte], returnType := none }, accessFlags := 0, code := some k7c6 }
def k7c7 : Code := { maxStack := 4, maxLocals := 6, code := jdk_42_method_149_code, exceptionTable := #[], attributes := #[] }
def k7m7 : Method := { name := "<init>", desc := "([CIILjava/lang/Void;)V", sig := { parameters := [(.array .char), .int, .int, (.object "java/lang/Void")], returnType := none }, accessFlags := 2, code := some k7c7 }
def k7c8 : Code := { maxStack := 5, maxLocals := 5, code := jdk_42_method_150_code, exceptionTable := #[], attributes := #[] }
def k7m8 : Method := { name := "<init>", desc := "(Ljava/lang/AbstractStringBuilder;Ljava/lang/Void;)V", sig := { parameters := [(.object "java/lang/AbstractStringBuilder"), (.object "java/lang/Void")], returnType := none }, accessFlags := 0, code := some k7c8 }
def k7c9 : Code := { maxStack := 2, maxLocals := 3, code := jdk_42_method_151_code, exceptionTable := #[], attributes := #[] }
def k7m9 : Method := { name := "<init>", desc := "([BB)V", sig := { parameters := [(.array .byte), .byte], returnType := none }, accessFlags := 0, code := some k7c9 }
def k7c10 : Code := { maxStack := 1, maxLocals := 1, code := jdk_42_method_152_code, exceptionTable := #[], attributes := #[] }
def k7m10 : Method := { name := "coder", desc := "()B", sig := { parameters := [], returnType := some .byte }, accessFlags := 0, code := some k7c10 }
def k7c11 : Code := { maxStack := 1, maxLocals := 1, code := jdk_42_method_154_code, exceptionTable := #[], attributes := #[] }
def k7m11 : Method := { name := "isLatin1", desc := "()Z", sig := { parameters := [], returnType := some .boolean }, accessFlags := 0, code := some k7c11 }
def k7c12 : Code := { maxStack := 3, maxLocals := 2, code := jdk_42_method_155_code, exceptionTable := #[], attributes := #[] }
def k7m12 : Method := { name := "checkIndex", desc := "(II)V", sig := { parameters := [.int, .int], returnType := none }, accessFlags := 8, code := some k7c12 }
def k7c13 : Code := { maxStack := 4, maxLocals := 3, code := jdk_42_method_157_code, exceptionTable := #[], attributes := #[] }
def k7m13 : Method := { name := "checkBoundsOffCount", desc := "(III)I", sig := { parameters := [.int, .int, .int], returnType := some .int }, accessFlags := 8, code := some k7c13 }
/-- java/lang/String -/
def k7 : Class := { plain "java/lang/String" (some 0) with
  accessFlags := 49
  interfaces := #[2, 3, 4, 5, 6]
  cf := some (fileOf pool7 10 #[.nestMembers #[1103]] #[{ accessFlags := 1, nameIndex := 5, descriptorIndex := 6, attributes := #[] }, { accessFlags := 1, nameIndex := 5, descriptorIndex := 1010, attributes := #[] }, { accessFlags := 1, nameIndex := 5, descriptorIndex := 1233, attributes := #[] }, { accessFlags := 1, nameIndex := 507, descriptorIndex := 334, attributes := #[] }, { accessFlags := 1, nameIndex := 497, descriptorIndex := 427, attributes := #[] }, { accessFlags := 9, nameIndex := 782, descriptorIndex := 783, attributes := #[] }, { accessFlags := 0, nameIndex := 532, descriptorIndex := 821, attributes := #[] }, { accessFlags := 2, nameIndex := 5, descriptorIndex := 29, attributes := #[] }, { accessFlags := 0, nameIndex := 5, descriptorIndex := 491, attributes := #[] }, { accessFlags := 0, nameIndex := 5, descriptorIndex := 211, attributes := #[] }, { accessFlags := 0, nameIndex := 17, descriptorIndex := 337, attributes := #[] }, { accessFlags := 0, nameIndex := 494, descriptorIndex := 142, attributes := #[] }, { accessFlags := 8, nameIndex := 501, descriptorIndex := 391, attributes := #[] }, { accessFlags := 8, nameIndex := 36, descriptorIndex := 37, attributes := #[] }] 49 2 #[1106, 1108, 575, 1110, 1112] #[{ accessFlags := 18, nameIndex := 13, descriptorIndex := 14, attributes := #[] }, { accessFlags := 18, nameIndex := 17, descriptorIndex := 18, attributes := #[] }, { accessFlags := 2, nameIndex := 21, descriptorIndex := 22, attributes := #[] }, { accessFlags := 2, nameIndex := 25, descriptorIndex := 26, attributes := #[] }, { accessFlags := 26, nameIndex := 1116, descriptorIndex := 1117, attributes := #[] }, { accessFlags := 24, nameIndex := 40, descriptorIndex := 26, attributes := #[] }, { accessFlags := 26, nameIndex := 1101, descriptorIndex := 1102, attributes := #[] }, { accessFlags := 26, nameIndex := 1121, descriptorIndex := 1122, attributes := #[] }, { accessFlags := 25, nameIndex := 599, descriptorIndex := 600, attributes := #[] }, { accessFlags := 24, nameIndex := 1125, descriptorIndex := 18, attributes := #[] }, { accessFlags := 24, nameIndex := 1127, descriptorIndex := 18, attributes := #[] }])
  fields := #[{ name := "value", type := (.array .byte), accessFlags := 18, slot := 0, constantValue := 0 }, { name := "coder", type := .byte, accessFlags := 18, slot := 1, constantValue := 0 }, { name := "hash", type := .int, accessFlags := 2, slot := 2, constantValue := 0 }, { name := "hashIsZero", type := .boolean, accessFlags := 2, slot := 3, constantValue := 0 }, { name := "serialVersionUID", type := .long, accessFlags := 26, slot := 0, constantValue := 0 }, { name := "COMPACT_STRINGS", type := .boolean, accessFlags := 24, slot := 1, constantValue := 0 }, { name := "serialPersistentFields", type := (.array (.object "java/io/ObjectStreamField")), accessFlags := 26, slot := 2, constantValue := 0 }, { name := "REPL", type := .char, accessFlags := 26, slot := 3, constantValue := 0 }, { name := "CASE_INSENSITIVE_ORDER", type := (.object "java/util/Comparator"), accessFlags := 25, slot := 4, constantValue := 0 }, { name := "LATIN1", type := .byte, accessFlags := 24, slot := 5, constantValue := 0 }, { name := "UTF16", type := .byte, accessFlags := 24, slot := 6, constantValue := 0 }]
  methods := #[k7m0, k7m1, k7m2, k7m3, k7m4, k7m5, k7m6, k7m7, k7m8, k7m9, k7m10, k7m11, k7m12, k7m13]
  instanceTypes := #[(.array .byte), .byte, .int, .boolean]
  staticTypes := #[.long, .boolean, (.array (.object "java/io/ObjectStreamField")), .char, (.object "java/util/Comparator"), .byte, .byte]
  resolved := Array.replicate 1451 none
  statics := some 0 }

def pool8 : Array CpInfo := pool [(1, .methodref 2 3), (0, .class_ 4), (0, .nameAndType 5 6), (0, u "java/lang/Object"), (0, u "<init>"), (0, u "()V"), (0, .fieldref 8 9), (0, .class_ 10), (0, .nameAndType 11 12), (0, u "java/lang/Throwable"), (0, u "cause"), (0, u "Ljava/lang/Throwable;"), (0, .fieldref 8 14), (0, .nameAndType 15 16), (0, u "UNASSIGNED_STACK"), (0, u "[Ljava/lang/StackTraceElement;"), (0, .fieldref 8 18), (0, .nameAndType 19 16), (0, u "stackTrace"), (0, .fieldref 8 21), (0, .nameAndType 22 23), (0, u "SUPPRESSED_SENTINEL"), (0, u "Ljava/util/List;"), (0, .fieldref 8 25), (0, .nameAndType 26 23), (0, u "suppressedExceptions"), (0, .methodref 8 28), (0, .nameAndType 29 30), (0, u "fillInStackTrace"), (0, u "()Ljava/lang/Throwable;"), (0, .fieldref 8 32), (0, .nameAndType 33 34), (0, u "detailMessage"), (0, u "Ljava/lang/String;"), (3, u "()Ljava/lang/String;"), (2, u "getMessage"), (51, .class_ 94), (0, u "java/lang/Throwable$WrappedPrintStream"), (6, .class_ 103), (1, u "java/lang/Throwable$PrintStreamOrWriter"), (61, u "$assertionsDisabled"), (0, u "Z"), (26, .class_ 194), (0, u "java/lang/Throwable$WrappedPrintWriter"), (3, .fieldref 8 199), (0, .nameAndType 200 201), (0, u "backtrace"), (0, u "Ljava/lang/Object;"), (0, .methodref 8 203), (0, .nameAndType 29 204), (0, u "(I)Ljava/lang/Throwable;"), (6, u "depth"), (0, u "I"), (10, u "(Ljava/lang/String;)V"), (45, .class_ 271), (1, u "java/lang/Throwable$SentinelHolder"), (32, u "EMPTY_THROWABLE_ARRAY"), (0, u "[Ljava/lang/Throwable;"), (12, .class_ 319), (0, u "java/io/Serializable"), (0, u "serialVersionUID"), (0, u "J"), (5, u "NULL_CAUSE_MESSAGE"), (0, u "SELF_SUPPRESSION_MESSAGE"), (0, u "CAUSE_CAPTION"), (0, u "SUPPRESSED_CAPTION")] 73

def k8c0 : Code := { maxStack := 2, maxLocals := 1, code := jdk_78_method_1_code, exceptionTable := #[], attributes := #[] }
def k8m0 : Method := { name := "<init>", desc := "()V", sig := { parameters := [], returnType := none }, accessFlags := 1, code := some k8c0 }
def k8c1 : Code := { maxStack := 2, maxLocals := 2, code := jdk_78_method_2_code, exceptionTable := #[], attributes := #[] }
def k8m1 : Method := { name := "<init>", desc := "(Ljava/lang/String;)V", sig := { parameters := [(.object "java/lang/String")], returnType := none }, accessFlags := 1, code := some k8c1 }
def k8c2 : Code := { maxStack := 1, maxLocals := 1, code := jdk_78_method_6_code, exceptionTable := #[], attributes := #[] }
def k8m2 : Method := { name := "getMessage", desc := "()Ljava/lang/String;", sig := { parameters := [], returnType := some (.object "java/lang/String") }, accessFlags := 1, code := some k8c2 }
def k8c3 : Code := { maxStack := 2, maxLocals := 1, code := ⟨#[0x2a, 0xb4, 0x00, 0x11, 0xc7, 0x00, 0x0a, 0x2a, 0xb4, 0x00, 0xc6, 0xc6, 0x00, 0x10, 0x2a, 0x03, 0xb6, 0x00, 0xca, 0x57, 0x2a, 0xb2, 0x00, 0x0d, 0xb5, 0x00, 0x11, 0x2a, 0xb0]⟩, exceptionTable := #[], attributes := #[] }
def k8m3 : Method := { name := "fillInStackTrace", desc := "()Ljava/lang/Throwable;", sig := { parameters := [], returnType := some (.object "java/lang/Throwable") }, accessFlags := 33, code := some k8c3 }
def k8m4 : Method := { name := "fillInStackTrace", desc := "(I)Ljava/lang/Throwable;", sig := { parameters := [.int], returnType := some (.object "java/lang/Throwable") }, accessFlags := 258, code := none }
/-- java/lang/Throwable -/
def k8 : Class := { plain "java/lang/Throwable" (some 0) with
  accessFlags := 33
  interfaces := #[2]
  cf := some (fileOf pool8 8 #[.nestMembers #[193, 93, 101, 269]] #[{ accessFlags := 1, nameIndex := 5, descriptorIndex := 6, attributes := #[] }, { accessFlags := 1, nameIndex := 5, descriptorIndex := 223, attributes := #[] }, { accessFlags := 1, nameIndex := 41, descriptorIndex := 38, attributes := #[] }, { accessFlags := 33, nameIndex := 29, descriptorIndex := 30, attributes := #[] }, { accessFlags := 258, nameIndex := 29, descriptorIndex := 204, attributes := #[] }] 33 2 #[318] #[{ accessFlags := 26, nameIndex := 320, descriptorIndex := 321, attributes := #[] }, { accessFlags := 130, nameIndex := 200, descriptorIndex := 201, attributes := #[] }, { accessFlags := 2, nameIndex := 33, descriptorIndex := 34, attributes := #[] }, { accessFlags := 26, nameIndex := 15, descriptorIndex := 16, attributes := #[] }, { accessFlags := 2, nameIndex := 11, descriptorIndex := 12, attributes := #[] }, { accessFlags := 2, nameIndex := 19, descriptorIndex := 16, attributes := #[] }, { accessFlags := 130, nameIndex := 211, descriptorIndex := 212, attributes := #[] }, { accessFlags := 26, nameIndex := 22, descriptorIndex := 23, attributes := #[] }, { accessFlags := 2, nameIndex := 26, descriptorIndex := 23, attributes := #[] }, { accessFlags := 26, nameIndex := 327, descriptorIndex := 34, attributes := #[] }, { accessFlags := 26, nameIndex := 328, descriptorIndex := 34, attributes := #[] }, { accessFlags := 26, nameIndex := 329, descriptorIndex := 34, attributes := #[] }, { accessFlags := 26, nameIndex := 330, descriptorIndex := 34, attributes := #[] }, { accessFlags := 26, nameIndex := 304, descriptorIndex := 305, attributes := #[] }, { accessFlags := 4120, nameIndex := 165, descriptorIndex := 166, attributes := #[] }])
  fields := #[{ name := "serialVersionUID", type := .long, accessFlags := 26, slot := 0, constantValue := 0 }, { name := "backtrace", type := (.object "java/lang/Object"), accessFlags := 130, slot := 0, constantValue := 0 }, { name := "detailMessage", type := (.object "java/lang/String"), accessFlags := 2, slot := 1, constantValue := 0 }, { name := "UNASSIGNED_STACK", type := (.array (.object "java/lang/StackTraceElement")), accessFlags := 26, slot := 1, constantValue := 0 }, { name := "cause", type := (.object "java/lang/Throwable"), accessFlags := 2, slot := 2, constantValue := 0 }, { name := "stackTrace", type := (.array (.object "java/lang/StackTraceElement")), accessFlags := 2, slot := 3, constantValue := 0 }, { name := "depth", type := .int, accessFlags := 130, slot := 4, constantValue := 0 }, { name := "SUPPRESSED_SENTINEL", type := (.object "java/util/List"), accessFlags := 26, slot := 2, constantValue := 0 }, { name := "suppressedExceptions", type := (.object "java/util/List"), accessFlags := 2, slot := 5, constantValue := 0 }, { name := "NULL_CAUSE_MESSAGE", type := (.object "java/lang/String"), accessFlags := 26, slot := 3, constantValue := 0 }, { name := "SELF_SUPPRESSION_MESSAGE", type := (.object "java/lang/String"), accessFlags := 26, slot := 4, constantValue := 0 }, { name := "CAUSE_CAPTION", type := (.object "java/lang/String"), accessFlags := 26, slot := 5, constantValue := 0 }, { name := "SUPPRESSED_CAPTION", type := (.object "java/lang/String"), accessFlags := 26, slot := 6, constantValue := 0 }, { name := "EMPTY_THROWABLE_ARRAY", type := (.array (.object "java/lang/Throwable")), accessFlags := 26, slot := 7, constantValue := 0 }, { name := "$assertionsDisabled", type := .boolean, accessFlags := 4120, slot := 8, constantValue := 0 }]
  methods := #[k8m0, k8m1, k8m2, k8m3, k8m4]
  instanceTypes := #[(.object "java/lang/Object"), (.object "java/lang/String"), (.object "java/lang/Throwable"), (.array (.object "java/lang/StackTraceElement")), .int, (.object "java/util/List")]
  staticTypes := #[.long, (.array (.object "java/lang/StackTraceElement")), (.object "java/util/List"), (.object "java/lang/String"), (.object "java/lang/String"), (.object "java/lang/String"), (.object "java/lang/String"), (.array (.object "java/lang/Throwable")), .boolean]
  resolved := Array.replicate 404 none
  statics := some 1 }

def pool9 : Array CpInfo := pool [(2, .class_ 4), (1, u "java/lang/Throwable"), (0, u "<init>"), (0, u "()V"), (0, .methodref 2 8), (0, .nameAndType 5 9), (0, u "(Ljava/lang/String;)V"), (9, .class_ 20), (0, u "java/lang/Exception"), (0, u "serialVersionUID"), (0, u "J")] 17

def k9m0 : Method := { name := "<init>", desc := "()V", sig := { parameters := [], returnType := none }, accessFlags := 1, code := none }
def k9c1 : Code := { maxStack := 2, maxLocals := 2, code := jdk_59_method_2_code, exceptionTable := #[], attributes := #[] }
def k9m1 : Method := { name := "<init>", desc := "(Ljava/lang/String;)V", sig := { parameters := [(.object "java/lang/String")], returnType := none }, accessFlags := 1, code := some k9c1 }
/-- java/lang/Exception -/
def k9 : Class := { plain "java/lang/Exception" (some 8) with
  accessFlags := 33
  interfaces := #[]
  cf := some (fileOf pool9 19 #[] #[{ accessFlags := 1, nameIndex := 5, descriptorIndex := 6, attributes := #[] }, { accessFlags := 1, nameIndex := 5, descriptorIndex := 9, attributes := #[] }] 33 2 #[] #[{ accessFlags := 24, nameIndex := 21, descriptorIndex := 22, attributes := #[] }])
  fields := #[{ name := "serialVersionUID", type := .long, accessFlags := 24, slot := 0, constantValue := 0 }]
  methods := #[k9m0, k9m1]
  instanceTypes := #[(.object "java/lang/Object"), (.object "java/lang/String"), (.object "java/lang/Throwable"), (.array (.object "java/lang/StackTraceElement")), .int, (.object "java/util/List")]
  staticTypes := #[.long]
  resolved := Array.replicate 40 none
  statics := none }

def pool10 : Array CpInfo := pool [(1, .methodref 2 3), (0, .class_ 4), (0, .nameAndType 5 6), (0, u "java/lang/Exception"), (0, u "<init>"), (0, u "(Ljava/lang/String;)V"), (0, .class_ 8), (0, u "com/example/congruent/congruent/io/UnreadableInputException"), (0, .class_ 10), (0, u "java/lang/StringBuilder"), (0, .methodref 9 12), (0, .nameAndType 5 13), (0, u "()V"), (0, .methodref 9 15), (0, .nameAndType 16 17), (0, u "append"), (0, u "(Ljava/lang/String;)Ljava/lang/StringBuilder;"), (0, .string 19), (0, u ": "), (0, .string 21), (0, u "not UTF-8 text"), (0, .methodref 9 23), (0, .nameAndType 24 25), (0, u "toString"), (0, u "()Ljava/lang/String;"), (0, .methodref 7 3), (15, u "serialVersionUID"), (0, u "J"), (3, u "NOT_UTF8"), (0, u "Ljava/lang/String;"), (2, u "notUtf8"), (0, u "(Ljava/lang/String;)Lcom/example/congruent/congruent/io/UnreadableInputException;")] 7

def k10c0 : Code := { maxStack := 2, maxLocals := 2, code := prog_13_method_1_code, exceptionTable := #[], attributes := #[] }
def k10m0 : Method := { name := "<init>", desc := "(Ljava/lang/String;)V", sig := { parameters := [(.object "java/lang/String")], returnType := none }, accessFlags := 1, code := some k10c0 }
def k10c1 : Code := { maxStack := 4, maxLocals := 1, code := prog_13_method_2_code, exceptionTable := #[], attributes := #[] }
def k10m1 : Method := { name := "notUtf8", desc := "(Ljava/lang/String;)Lcom/example/congruent/congruent/io/UnreadableInputException;", sig := { parameters := [(.object "java/lang/String")], returnType := some (.object "com/example/congruent/congruent/io/UnreadableInputException") }, accessFlags := 8, code := some k10c1 }
/-- com/example/congruent/congruent/io/UnreadableInputException -/
def k10 : Class := { plain "com/example/congruent/congruent/io/UnreadableInputException" (some 9) with
  accessFlags := 49
  interfaces := #[]
  cf := some (fileOf pool10 7 #[] #[{ accessFlags := 1, nameIndex := 5, descriptorIndex := 6, attributes := #[] }, { accessFlags := 8, nameIndex := 51, descriptorIndex := 52, attributes := #[] }] 49 2 #[] #[{ accessFlags := 26, nameIndex := 42, descriptorIndex := 43, attributes := #[] }, { accessFlags := 26, nameIndex := 47, descriptorIndex := 48, attributes := #[] }])
  fields := #[{ name := "serialVersionUID", type := .long, accessFlags := 26, slot := 0, constantValue := 0 }, { name := "NOT_UTF8", type := (.object "java/lang/String"), accessFlags := 26, slot := 1, constantValue := 0 }]
  methods := #[k10m0, k10m1]
  instanceTypes := #[(.object "java/lang/Object"), (.object "java/lang/String"), (.object "java/lang/Throwable"), (.array (.object "java/lang/StackTraceElement")), .int, (.object "java/util/List")]
  staticTypes := #[.long, (.object "java/lang/String")]
  resolved := Array.replicate 60 none
  statics := none }

def pool11 : Array CpInfo := pool [(1, .class_ 2), (0, u "java/lang/Appendable"), (0, .class_ 4), (0, u "java/lang/Object")] 9

/-- java/lang/Appendable -/
def k11 : Class := { plain "java/lang/Appendable" (some 0) with
  accessFlags := 1537
  interfaces := #[]
  cf := some (fileOf pool11 1 #[] #[] 1537 3 #[] #[])
  fields := #[]
  methods := #[]
  instanceTypes := #[]
  staticTypes := #[]
  resolved := Array.replicate 14 none
  statics := none }

def pool12 : Array CpInfo := pool [(1, .class_ 2), (0, u "java/lang/String"), (0, .methodref 4 5), (0, .class_ 6), (0, .nameAndType 7 8), (0, u "java/lang/Object"), (0, u "<init>"), (0, u "()V"), (1, .class_ 12), (1, u "java/lang/AbstractStringBuilder"), (0, u "EMPTYVALUE"), (0, u "[B"), (0, .fieldref 10 16), (0, .nameAndType 17 14), (0, u "value"), (0, .fieldref 1 19), (0, .nameAndType 20 21), (0, u "COMPACT_STRINGS"), (0, u "Z"), (0, .fieldref 10 23), (0, .nameAndType 24 25), (0, u "coder"), (0, u "B"), (0, .methodref 27 28), (0, .class_ 29), (0, .nameAndType 30 31), (0, u "java/lang/StringUTF16"), (0, u "newBytesFor"), (0, u "(I)[B"), (0, .methodref 1 33), (0, .nameAndType 34 35), (0, u "length"), (0, u "()I"), (3, .integer 2147483647), (0, .methodref 1 41), (0, .nameAndType 24 42), (0, u "()B"), (2, u "append"), (0, u "(Ljava/lang/String;)Ljava/lang/AbstractStringBuilder;"), (1, .class_ 49), (0, u "java/lang/CharSequence"), (19, u "(Ljava/lang/String;)V"), (5, u "maybeLatin1"), (3, .fieldref 10 80), (0, .nameAndType 81 82), (0, u "count"), (0, u "I"), (0, .methodref 10 84), (0, .nameAndType 85 86), (0, u "isLatin1"), (0, u "()Z"), (1, .class_ 90), (1, u "java/lang/StringLatin1"), (9, .methodref 10 101), (0, .nameAndType 102 103), (0, u "ensureCapacityInternal"), (0, u "(I)V"), (0, .methodref 10 105), (0, .nameAndType 106 107), (0, u "newCapacity"), (0, u "(I)I"), (0, .methodref 109 110), (0, .class_ 111), (0, .nameAndType 112 113), (0, u "java/util/Arrays"), (0, u "copyOf"), (0, u "([BI)[B"), (0, .methodref 115 116), (0, .class_ 117), (0, .nameAndType 118 119), (0, u "jdk/internal/util/ArraysSupport"), (0, u "newLength"), (0, u "(III)I"), (5, .methodref 88 126), (0, .nameAndType 127 128), (0, u "inflate"), (0, u "([BI[BII)V"), (66, .methodref 10 196), (0, .nameAndType 127 8), (11, .methodref 10 209), (0, .nameAndType 210 211), (0, u "putStringAt"), (0, u "(ILjava/lang/String;)V"), (5, u "inflateIfNeededFor"), (2, .nameAndType 221 222), (0, u "getBytes"), (0, u "([BIB)V"), (174, .methodref 10 398), (0, .nameAndType 217 69), (0, .methodref 1 220), (3, u "()[B"), (40, .class_ 445), (0, u "java/lang/Appendable"), (106, u "getValue")] 56

def k12m0 : Method := { name := "<init>", desc := "()V", sig := { parameters := [], returnType := none }, accessFlags := 0, code := none }
def k12c1 : Code := { maxStack := 2, maxLocals := 2, code := jdk_68_method_2_code, exceptionTable := #[], attributes := #[] }
def k12m1 : Method := { name := "<init>", desc := "(I)V", sig := { parameters := [.int], returnType := none }, accessFlags := 0, code := some k12c1 }
def k12c2 : Code := { maxStack := 1, maxLocals := 1, code := jdk_68_method_6_code, exceptionTable := #[], attributes := #[] }
def k12m2 : Method := { name := "length", desc := "()I", sig := { parameters := [], returnType := some .int }, accessFlags := 1, code := some k12c2 }
def k12c3 : Code := { maxStack := 4, maxLocals := 3, code := jdk_68_method_9_code, exceptionTable := #[], attributes := #[] }
def k12m3 : Method := { name := "ensureCapacityInternal", desc := "(I)V", sig := { parameters := [.int], returnType := none }, accessFlags := 2, code := some k12c3 }
def k12c4 : Code := { maxStack := 5, maxLocals := 6, code := jdk_68_method_10_code, exceptionTable := #[], attributes := #[] }
def k12m4 : Method := { name := "newCapacity", desc := "(I)I", sig := { parameters := [.int], returnType := some .int }, accessFlags := 2, code := some k12c4 }
def k12c5 : Code := { maxStack := 5, maxLocals := 2, code := jdk_68_method_11_code, exceptionTable := #[], attributes := #[] }
def k12m5 : Method := { name := "inflate", desc := "()V", sig := { parameters := [], returnType := none }, accessFlags := 2, code := some k12c5 }
def k12c6 : Code := { maxStack := 3, maxLocals := 3, code := jdk_68_method_22_code, exceptionTable := #[], attributes := #[] }
def k12m6 : Method := { name := "append", desc := "(Ljava/lang/String;)Ljava/lang/AbstractStringBuilder;", sig := { parameters := [(.object "java/lang/String")], returnType := some (.object "java/lang/AbstractStringBuilder") }, accessFlags := 1, code := some k12c6 }
def k12c7 : Code := { maxStack := 1, maxLocals := 1, code := jdk_68_method_64_code, exceptionTable := #[], attributes := #[] }
def k12m7 : Method := { name := "getValue", desc := "()[B", sig := { parameters := [], returnType := some (.array .byte) }, accessFlags := 16, code := some k12c7 }
def k12c8 : Code := { maxStack := 1, maxLocals := 1, code := jdk_68_method_68_code, exceptionTable := #[], attributes := #[] }
def k12m8 : Method := { name := "isLatin1", desc := "()Z", sig := { parameters := [], returnType := some .boolean }, accessFlags := 16, code := some k12c8 }
def k12c9 : Code := { maxStack := 2, maxLocals := 2, code := jdk_68_method_71_code, exceptionTable := #[], attributes := #[] }
def k12m9 : Method := { name := "inflateIfNeededFor", desc := "(Ljava/lang/String;)V", sig := { parameters := [(.object "java/lang/String")], returnType := none }, accessFlags := 2, code := some k12c9 }
def k12c10 : Code := { maxStack := 4, maxLocals := 3, code := jdk_68_method_73_code, exceptionTable := #[], attributes := #[] }
def k12m10 : Method := { name := "putStringAt", desc := "(ILjava/lang/String;)V", sig := { parameters := [.int, (.object "java/lang/String")], returnType := none }, accessFlags := 2, code := some k12c10 }
/-- java/lang/AbstractStringBuilder -/
def k12 : Class := { plain "java/lang/AbstractStringBuilder" (some 0) with
  accessFlags := 1056
  interfaces := #[11, 4]
  cf := some (fileOf pool12 10 #[] #[{ accessFlags := 0, nameIndex := 7, descriptorIndex := 8, attributes := #[] }, { accessFlags := 0, nameIndex := 7, descriptorIndex := 103, attributes := #[] }, { accessFlags := 1, nameIndex := 34, descriptorIndex := 35, attributes := #[] }, { accessFlags := 2, nameIndex := 102, descriptorIndex := 103, attributes := #[] }, { accessFlags := 2, nameIndex := 106, descriptorIndex := 107, attributes := #[] }, { accessFlags := 2, nameIndex := 127, descriptorIndex := 8, attributes := #[] }, { accessFlags := 1, nameIndex := 45, descriptorIndex := 46, attributes := #[] }, { accessFlags := 16, nameIndex := 552, descriptorIndex := 403, attributes := #[] }, { accessFlags := 16, nameIndex := 85, descriptorIndex := 86, attributes := #[] }, { accessFlags := 2, nameIndex := 217, descriptorIndex := 69, attributes := #[] }, { accessFlags := 2, nameIndex := 210, descriptorIndex := 211, attributes := #[] }] 1056 4 #[444, 48] #[{ accessFlags := 0, nameIndex := 17, descriptorIndex := 14, attributes := #[] }, { accessFlags := 0, nameIndex := 24, descriptorIndex := 25, attributes := #[] }, { accessFlags := 0, nameIndex := 75, descriptorIndex := 21, attributes := #[] }, { accessFlags := 0, nameIndex := 81, descriptorIndex := 82, attributes := #[] }, { accessFlags := 26, nameIndex := 13, descriptorIndex := 14, attributes := #[] }])
  fields := #[{ name := "value", type := (.array .byte), accessFlags := 0, slot := 0, constantValue := 0 }, { name := "coder", type := .byte, accessFlags := 0, slot := 1, constantValue := 0 }, { name := "maybeLatin1", type := .boolean, accessFlags := 0, slot := 2, constantValue := 0 }, { name := "count", type := .int, accessFlags := 0, slot := 3, constantValue := 0 }, { name := "EMPTYVALUE", type := (.array .byte), accessFlags := 26, slot := 0, constantValue := 0 }]
  methods := #[k12m0, k12m1, k12m2, k12m3, k12m4, k12m5, k12m6, k12m7, k12m8, k12m9, k12m10]
  instanceTypes := #[(.array .byte), .byte, .boolean, .int]
  staticTypes := #[(.array .byte)]
  resolved := Array.replicate 609 none
  statics := none }

def pool13 : Array CpInfo := pool [(1, .methodref 2 3), (0, .class_ 4), (0, .nameAndType 5 6), (0, u "java/lang/AbstractStringBuilder"), (0, u "<init>"), (0, u "(I)V"), (11, .class_ 20), (1, u "java/lang/String"), (3, .class_ 26), (1, u "java/lang/StringBuilder"), (0, u "append"), (0, u "(Ljava/lang/String;)Ljava/lang/StringBuilder;"), (0, .methodref 2 30), (0, .nameAndType 27 31), (0, u "(Ljava/lang/String;)Ljava/lang/AbstractStringBuilder;"), (105, .methodref 18 138), (0, .nameAndType 5 139), (0, u "(Ljava/lang/StringBuilder;)V"), (5, u "()V"), (10, u "()I"), (186, .methodref 2 344), (0, .nameAndType 345 156), (0, u "length"), (3, .class_ 350), (0, u "java/lang/Appendable"), (0, .class_ 352), (0, u "java/io/Serializable"), (0, .class_ 354), (0, u "java/lang/Comparable"), (0, .class_ 356), (0, u "java/lang/CharSequence"), (0, u "serialVersionUID"), (0, u "J"), (40, u "toString"), (0, u "()Ljava/lang/String;")] 21

def k13c0 : Code := { maxStack := 2, maxLocals := 1, code := jdk_67_method_1_code, exceptionTable := #[], attributes := #[] }
def k13m0 : Method := { name := "<init>", desc := "()V", sig := { parameters := [], returnType := none }, accessFlags := 1, code := some k13c0 }
def k13c1 : Code := { maxStack := 2, maxLocals := 2, code := jdk_67_method_7_code, exceptionTable := #[], attributes := #[] }
def k13m1 : Method := { name := "append", desc := "(Ljava/lang/String;)Ljava/lang/StringBuilder;", sig := { parameters := [(.object "java/lang/String")], returnType := some (.object "java/lang/StringBuilder") }, accessFlags := 1, code := some k13c1 }
def k13c2 : Code := { maxStack := 3, maxLocals := 1, code := jdk_67_method_42_code, exceptionTable := #[], attributes := #[] }
def k13m2 : Method := { name := "toString", desc := "()Ljava/lang/String;", sig := { parameters := [], returnType := some (.object "java/lang/String") }, accessFlags := 1, code := some k13c2 }
def k13c3 : Code := { maxStack := 1, maxLocals := 1, code := jdk_67_method_93_code, exceptionTable := #[], attributes := #[] }
def k13m3 : Method := { name := "length", desc := "()I", sig := { parameters := [], returnType := some .int }, accessFlags := 4161, code := some k13c3 }
/-- java/lang/StringBuilder -/
def k13 : Class := { plain "java/lang/StringBuilder" (some 12) with
  accessFlags := 49
  interfaces := #[11, 2, 3, 4]
  cf := some (fileOf pool13 24 #[] #[{ accessFlags := 1, nameIndex := 5, descriptorIndex := 145, attributes := #[] }, { accessFlags := 1, nameIndex := 27, descriptorIndex := 28, attributes := #[] }, { accessFlags := 1, nameIndex := 399, descriptorIndex := 400, attributes := #[] }, { accessFlags := 4161, nameIndex := 345, descriptorIndex := 156, attributes := #[] }] 49 2 #[349, 351, 353, 355] #[{ accessFlags := 24, nameIndex := 357, descriptorIndex := 358, attributes := #[] }])
  fields := #[{ name := "serialVersionUID", type := .long, accessFlags := 24, slot := 0, constantValue := 0 }]
  methods := #[k13m0, k13m1, k13m2, k13m3]
  instanceTypes := #[(.array .byte), .byte, .boolean, .int]
  staticTypes := #[.long]
  resolved := Array.replicate 422 none
  statics := none }

def pool14 : Array CpInfo := pool [(2, .class_ 4), (1, u "java/lang/Object"), (0, u "<init>"), (0, u "()V"), (1, .class_ 10), (1, u "java/lang/System"), (0, u "allowSecurityManager"), (0, u "I"), (16, u "cons"), (0, u "Ljava/io/Console;"), (77, .class_ 110), (1, u "java/lang/System$CallersHolder"), (43, u "initialErrStream"), (0, u "Ljava/io/PrintStream;"), (19, u "security"), (0, u "Ljava/lang/SecurityManager;"), (31, .class_ 209), (0, u "java/lang/System$1"), (7, u "props"), (0, u "Ljava/util/Properties;"), (2, u "lineSeparator"), (0, u "Ljava/lang/String;"), (96, .class_ 321), (1, u "java/lang/System$LoggerFinder"), (5, .class_ 328), (0, u "java/lang/System$Logger"), (67, u "err"), (2, u "out"), (91, u "notSupportedJnuEncoding"), (15, u "in"), (17, u "initialIn"), (0, u "Ljava/io/InputStream;"), (35, u "bootLayer"), (0, u "Ljava/lang/ModuleLayer;"), (99, .class_ 664), (0, u "java/lang/System$2"), (9, u "NEVER"), (2, u "MAYBE"), (49, u "arraycopy"), (0, u "(Ljava/lang/Object;ILjava/lang/Object;II)V"), (72, .class_ 802), (0, u "java/lang/System$Logger$Level")] 31

def k14m0 : Method := { name := "<init>", desc := "()V", sig := { parameters := [], returnType := none }, accessFlags := 2, code := none }
def k14m1 : Method := { name := "arraycopy", desc := "(Ljava/lang/Object;ILjava/lang/Object;II)V", sig := { parameters := [(.object "java/lang/Object"), .int, (.object "java/lang/Object"), .int, .int], returnType := none }, accessFlags := 265, code := none }
/-- java/lang/System -/
def k14 : Class := { plain "java/lang/System" (some 0) with
  accessFlags := 49
  interfaces := #[]
  cf := some (fileOf pool14 8 #[.nestMembers #[319, 327, 801, 108, 663, 208]] #[{ accessFlags := 2, nameIndex := 5, descriptorIndex := 6, attributes := #[] }, { accessFlags := 265, nameIndex := 727, descriptorIndex := 728, attributes := #[] }] 49 2 #[] #[{ accessFlags := 25, nameIndex := 507, descriptorIndex := 526, attributes := #[] }, { accessFlags := 25, nameIndex := 399, descriptorIndex := 155, attributes := #[] }, { accessFlags := 25, nameIndex := 396, descriptorIndex := 155, attributes := #[] }, { accessFlags := 10, nameIndex := 525, descriptorIndex := 526, attributes := #[] }, { accessFlags := 26, nameIndex := 674, descriptorIndex := 12, attributes := #[] }, { accessFlags := 26, nameIndex := 677, descriptorIndex := 12, attributes := #[] }, { accessFlags := 10, nameIndex := 11, descriptorIndex := 12, attributes := #[] }, { accessFlags := 74, nameIndex := 175, descriptorIndex := 176, attributes := #[] }, { accessFlags := 10, nameIndex := 491, descriptorIndex := 222, attributes := #[] }, { accessFlags := 74, nameIndex := 29, descriptorIndex := 30, attributes := #[] }, { accessFlags := 74, nameIndex := 154, descriptorIndex := 155, attributes := #[] }, { accessFlags := 10, nameIndex := 217, descriptorIndex := 218, attributes := #[] }, { accessFlags := 10, nameIndex := 221, descriptorIndex := 222, attributes := #[] }, { accessFlags := 8, nameIndex := 562, descriptorIndex := 563, attributes := #[] }])
  fields := #[{ name := "in", type := (.object "java/io/InputStream"), accessFlags := 25, slot := 0, constantValue := 0 }, { name := "out", type := (.object "java/io/PrintStream"), accessFlags := 25, slot := 1, constantValue := 0 }, { name := "err", type := (.object "java/io/PrintStream"), accessFlags := 25, slot := 2, constantValue := 0 }, { name := "initialIn", type := (.object "java/io/InputStream"), accessFlags := 10, slot := 3, constantValue := 0 }, { name := "NEVER", type := .int, accessFlags := 26, slot := 4, constantValue := 0 }, { name := "MAYBE", type := .int, accessFlags := 26, slot := 5, constantValue := 0 }, { name := "allowSecurityManager", type := .int, accessFlags := 10, slot := 6, constantValue := 0 }, { name := "security", type := (.object "java/lang/SecurityManager"), accessFlags := 74, slot := 7, constantValue := 0 }, { name := "notSupportedJnuEncoding", type := (.object "java/lang/String"), accessFlags := 10, slot := 8, constantValue := 0 }, { name := "cons", type := (.object "java/io/Console"), accessFlags := 74, slot := 9, constantValue := 0 }, { name := "initialErrStream", type := (.object "java/io/PrintStream"), accessFlags := 74, slot := 10, constantValue := 0 }, { name := "props", type := (.object "java/util/Properties"), accessFlags := 10, slot := 11, constantValue := 0 }, { name := "lineSeparator", type := (.object "java/lang/String"), accessFlags := 10, slot := 12, constantValue := 0 }, { name := "bootLayer", type := (.object "java/lang/ModuleLayer"), accessFlags := 8, slot := 13, constantValue := 0 }]
  methods := #[k14m0, k14m1]
  instanceTypes := #[]
  staticTypes := #[(.object "java/io/InputStream"), (.object "java/io/PrintStream"), (.object "java/io/PrintStream"), (.object "java/io/InputStream"), .int, .int, .int, (.object "java/lang/SecurityManager"), (.object "java/lang/String"), (.object "java/io/Console"), (.object "java/io/PrintStream"), (.object "java/util/Properties"), (.object "java/lang/String"), (.object "java/lang/ModuleLayer")]
  resolved := Array.replicate 834 none
  statics := none }

def pool15 : Array CpInfo := pool [(2, .class_ 4), (1, u "java/lang/Object"), (0, u "<init>"), (0, u "()V"), (7, .class_ 16), (1, u "java/util/Arrays"), (57, .class_ 76), (1, u "java/util/Arrays$NaturalOrder"), (32, u "()Ljava/lang/Object;"), (3, .class_ 115), (1, u "java/util/Arrays$LegacyMergeSort"), (1, u "Z"), (10, .nameAndType 129 109), (0, u "clone"), (9, u "copyOfRange"), (10, .methodref 151 152), (0, .class_ 153), (0, .nameAndType 154 155), (0, u "java/lang/System"), (0, u "arraycopy"), (0, u "(Ljava/lang/Object;ILjava/lang/Object;II)V"), (146, u "copyOf"), (1, .methodref 305 306), (0, .class_ 307), (0, .nameAndType 308 309), (0, u "java/lang/Math"), (0, u "min"), (0, u "(II)I"), (0, .methodref 311 128), (0, .class_ 312), (0, u "[B"), (26, .methodref 14 340), (0, .nameAndType 341 342), (0, u "copyOfRangeByte"), (0, u "([BII)[B"), (0, .methodref 14 344), (0, .nameAndType 345 346), (0, u "checkLength"), (0, u "(II)V"), (28, .class_ 376), (0, u "java/util/Arrays$ArrayList"), (68, u "$assertionsDisabled"), (269, u "MIN_ARRAY_SORT_GRAN"), (0, u "I"), (2, u "INSERTIONSORT_THRESHOLD"), (149, u "([BI)[B"), (105, .class_ 976), (0, u "java/util/Arrays$ArrayItr")] 52

def k15m0 : Method := { name := "<init>", desc := "()V", sig := { parameters := [], returnType := none }, accessFlags := 2, code := none }
def k15c1 : Code := { maxStack := 6, maxLocals := 3, code := jdk_65_method_121_code, exceptionTable := #[], attributes := #[] }
def k15m1 : Method := { name := "copyOf", desc := "([BI)[B", sig := { parameters := [(.array .byte), .int], returnType := some (.array .byte) }, accessFlags := 9, code := some k15c1 }
def k15c2 : Code := { maxStack := 4, maxLocals := 2, code := jdk_65_method_131_code, exceptionTable := #[], attributes := #[] }
def k15m2 : Method := { name := "checkLength", desc := "(II)V", sig := { parameters := [.int, .int], returnType := none }, accessFlags := 10, code := some k15c2 }
def k15c3 : Code := { maxStack := 3, maxLocals := 3, code := jdk_65_method_132_code, exceptionTable := #[], attributes := #[] }
def k15m3 : Method := { name := "copyOfRange", desc := "([BII)[B", sig := { parameters := [(.array .byte), .int, .int], returnType := some (.array .byte) }, accessFlags := 9, code := some k15c3 }
def k15c4 : Code := { maxStack := 6, maxLocals := 5, code := jdk_65_method_133_code, exceptionTable := #[], attributes := #[] }
def k15m4 : Method := { name := "copyOfRangeByte", desc := "([BII)[B", sig := { parameters := [(.array .byte), .int, .int], returnType := some (.array .byte) }, accessFlags := 10, code := some k15c4 }
/-- java/util/Arrays -/
def k15 : Class := { plain "java/util/Arrays" (some 0) with
  accessFlags := 49
  interfaces := #[]
  cf := some (fileOf pool15 14 #[.nestMembers #[975, 375, 113, 74]] #[{ accessFlags := 2, nameIndex := 5, descriptorIndex := 6, attributes := #[] }, { accessFlags := 9, nameIndex := 302, descriptorIndex := 869, attributes := #[] }, { accessFlags := 10, nameIndex := 345, descriptorIndex := 346, attributes := #[] }, { accessFlags := 9, nameIndex := 139, descriptorIndex := 342, attributes := #[] }, { accessFlags := 10, nameIndex := 341, descriptorIndex := 342, attributes := #[] }] 49 2 #[] #[{ accessFlags := 26, nameIndex := 715, descriptorIndex := 716, attributes := #[] }, { accessFlags := 26, nameIndex := 719, descriptorIndex := 716, attributes := #[] }, { accessFlags := 4120, nameIndex := 445, descriptorIndex := 117, attributes := #[] }])
  fields := #[{ name := "MIN_ARRAY_SORT_GRAN", type := .int, accessFlags := 26, slot := 0, constantValue := 0 }, { name := "INSERTIONSORT_THRESHOLD", type := .int, accessFlags := 26, slot := 1, constantValue := 0 }, { name := "$assertionsDisabled", type := .boolean, accessFlags := 4120, slot := 2, constantValue := 0 }]
  methods := #[k15m0, k15m1, k15m2, k15m3, k15m4]
  instanceTypes := #[]
  staticTypes := #[.int, .int, .boolean]
  resolved := Array.replicate 1029 none
  statics := none }

def pool16 : Array CpInfo := pool [(1, .class_ 2), (0, u "java/lang/Cloneable"), (0, .class_ 4), (0, u "java/lang/Object")] 2

/-- java/lang/Cloneable -/
def k16 : Class := { plain "java/lang/Cloneable" (some 0) with
  accessFlags := 1537
  interfaces := #[]
  cf := some (fileOf pool16 1 #[] #[] 1537 3 #[] #[])
  fields := #[]
  methods := #[]
  instanceTypes := #[]
  staticTypes := #[]
  resolved := Array.replicate 7 none
  statics := none }

def pool17 : Array CpInfo := pool [(1, .class_ 2), (0, u "java/lang/String"), (1, .class_ 6), (1, u "java/lang/Object"), (0, u "<init>"), (0, u "()V"), (0, .methodref 1 10), (0, .nameAndType 11 12), (0, u "checkIndex"), (0, u "(II)V"), (1, .class_ 16), (1, u "java/lang/StringLatin1"), (0, u "inflate"), (2, .class_ 22), (1, u "java/lang/StringUTF16"), (3, .nameAndType 17 27), (0, u "([BI[BII)V"), (25, u "([BI)C"), (36, u "canEncode"), (14, u "(C)Z"), (15, u "$assertionsDisabled"), (0, u "Z"), (98, .class_ 223), (1, u "java/lang/StringLatin1$LinesSpliterator"), (16, .methodref 20 26), (11, u "charAt"), (127, u "toBytes"), (1, u "(C)[B"), (7, .class_ 391), (0, u "java/lang/StringLatin1$CharsSpliterator")] 3

def k17m0 : Method := { name := "<init>", desc := "()V", sig := { parameters := [], returnType := none }, accessFlags := 0, code := none }
def k17c1 : Code := { maxStack := 2, maxLocals := 2, code := jdk_43_method_2_code, exceptionTable := #[], attributes := #[] }
def k17m1 : Method := { name := "charAt", desc := "([BI)C", sig := { parameters := [(.array .byte), .int], returnType := some .char }, accessFlags := 9, code := some k17c1 }
def k17c2 : Code := { maxStack := 2, maxLocals := 1, code := jdk_43_method_3_code, exceptionTable := #[], attributes := #[] }
def k17m2 : Method := { name := "canEncode", desc := "(C)Z", sig := { parameters := [.char], returnType := some .boolean }, accessFlags := 9, code := some k17c2 }
def k17c3 : Code := { maxStack := 4, maxLocals := 1, code := jdk_43_method_46_code, exceptionTable := #[], attributes := #[] }
def k17m3 : Method := { name := "toBytes", desc := "(C)[B", sig := { parameters := [.char], returnType := some (.array .byte) }, accessFlags := 9, code := some k17c3 }
def k17c4 : Code := { maxStack := 5, maxLocals := 5, code := jdk_43_method_50_code, exceptionTable := #[], attributes := #[] }
def k17m4 : Method := { name := "inflate", desc := "([BI[BII)V", sig := { parameters := [(.array .byte), .int, (.array .byte), .int, .int], returnType := none }, accessFlags := 9, code := some k17c4 }
/-- java/lang/StringLatin1 -/
def k17 : Class := { plain "java/lang/StringLatin1" (some 0) with
  accessFlags := 48
  interfaces := #[]
  cf := some (fileOf pool17 14 #[.nestMembers #[390, 221]] #[{ accessFlags := 0, nameIndex := 7, descriptorIndex := 8, attributes := #[] }, { accessFlags := 9, nameIndex := 252, descriptorIndex := 53, attributes := #[] }, { accessFlags := 9, nameIndex := 90, descriptorIndex := 105, attributes := #[] }, { accessFlags := 9, nameIndex := 380, descriptorIndex := 382, attributes := #[] }, { accessFlags := 9, nameIndex := 17, descriptorIndex := 27, attributes := #[] }] 48 4 #[] #[{ accessFlags := 4120, nameIndex := 121, descriptorIndex := 122, attributes := #[] }])
  fields := #[{ name := "$assertionsDisabled", type := .boolean, accessFlags := 4120, slot := 0, constantValue := 0 }]
  methods := #[k17m0, k17m1, k17m2, k17m3, k17m4]
  instanceTypes := #[]
  staticTypes := #[.boolean]
  resolved := Array.replicate 395 none
  statics := none }

def pool18 : Array CpInfo := pool [(2, .class_ 4), (1, u "java/lang/Object"), (0, u "<init>"), (0, u "()V"), (17, .class_ 26), (1, u "jdk/internal/util/Preconditions"), (6, u "checkIndex"), (15, u "checkFromIndexSize"), (5, .class_ 56), (0, u "jdk/internal/util/Preconditions$4"), (57, .class_ 115), (0, u "jdk/internal/util/Preconditions$1"), (7, u "SIOOBE_FORMATTER"), (0, u "Ljava/util/function/BiFunction;"), (0, .class_ 126), (0, u "jdk/internal/util/Preconditions$2"), (3, u "AIOOBE_FORMATTER"), (0, .class_ 132), (0, u "jdk/internal/util/Preconditions$3"), (3, u "IOOBE_FORMATTER"), (41, u "(IILjava/util/function/BiFunction;)I"), (4, u "(IIILjava/util/function/BiFunction;)I")] 10

def k18m0 : Method := { name := "<init>", desc := "()V", sig := { parameters := [], returnType := none }, accessFlags := 1, code := none }
def k18c1 : Code := { maxStack := 3, maxLocals := 3, code := jdk_41_method_11_code, exceptionTable := #[], attributes := #[] }
def k18m1 : Method := { name := "checkIndex", desc := "(IILjava/util/function/BiFunction;)I", sig := { parameters := [.int, .int, (.object "java/util/function/BiFunction")], returnType := some .int }, accessFlags := 9, code := some k18c1 }
def k18c2 : Code := { maxStack := 4, maxLocals := 4, code := jdk_41_method_13_code, exceptionTable := #[], attributes := #[] }
def k18m2 : Method := { name := "checkFromIndexSize", desc := "(IIILjava/util/function/BiFunction;)I", sig := { parameters := [.int, .int, .int, (.object "java/util/function/BiFunction")], returnType := some .int }, accessFlags := 9, code := some k18c2 }
/-- jdk/internal/util/Preconditions -/
def k18 : Class := { plain "jdk/internal/util/Preconditions" (some 0) with
  accessFlags := 33
  interfaces := #[]
  cf := some (fileOf pool18 24 #[.nestMembers #[55, 131, 125, 114]] #[{ accessFlags := 1, nameIndex := 5, descriptorIndex := 6, attributes := #[] }, { accessFlags := 9, nameIndex := 33, descriptorIndex := 178, attributes := #[] }, { accessFlags := 9, nameIndex := 49, descriptorIndex := 183, attributes := #[] }] 33 2 #[] #[{ accessFlags := 25, nameIndex := 123, descriptorIndex := 124, attributes := #[] }, { accessFlags := 25, nameIndex := 130, descriptorIndex := 124, attributes := #[] }, { accessFlags := 25, nameIndex := 136, descriptorIndex := 124, attributes := #[] }])
  fields := #[{ name := "SIOOBE_FORMATTER", type := (.object "java/util/function/BiFunction"), accessFlags := 25, slot := 0, constantValue := 0 }, { name := "AIOOBE_FORMATTER", type := (.object "java/util/function/BiFunction"), accessFlags := 25, slot := 1, constantValue := 0 }, { name := "IOOBE_FORMATTER", type := (.object "java/util/function/BiFunction"), accessFlags := 25, slot := 2, constantValue := 0 }]
  methods := #[k18m0, k18m1, k18m2]
  instanceTypes := #[]
  staticTypes := #[(.object "java/util/function/BiFunction"), (.object "java/util/function/BiFunction"), (.object "java/util/function/BiFunction")]
  resolved := Array.replicate 194 none
  statics := some 2 }

def pool19 : Array CpInfo := pool [(3, .class_ 4), (0, u "java/lang/String"), (1, .class_ 8), (1, u "java/lang/Object"), (0, u "<init>"), (0, u "()V"), (0, .methodref 12 13), (0, .class_ 14), (0, .nameAndType 15 16), (0, u "java/lang/StringUTF16"), (0, u "newBytesLength"), (0, u "(I)I"), (3, .integer 1073741823), (23, .fieldref 12 45), (0, .nameAndType 46 47), (0, u "$assertionsDisabled"), (0, u "Z"), (0, .methodref 12 49), (0, .nameAndType 50 51), (0, u "length"), (0, u "([B)I"), (7, .fieldref 12 60), (0, .nameAndType 61 62), (0, u "HI_BYTE_SHIFT"), (0, u "I"), (0, .fieldref 12 64), (0, .nameAndType 65 62), (0, u "LO_BYTE_SHIFT"), (1, .methodref 12 68), (0, .nameAndType 69 70), (0, u "checkIndex"), (0, u "(I[B)V"), (0, .methodref 12 72), (0, .nameAndType 73 74), (0, u "getChar"), (0, u "([BI)C"), (24, u "(II[B)V"), (7, .methodref 12 108), (0, .nameAndType 109 110), (0, u "newBytesFor"), (0, u "(I)[B"), (0, .methodref 12 112), (0, .nameAndType 113 114), (0, u "putChar"), (0, u "([BII)V"), (0, .methodref 12 116), (0, .nameAndType 117 118), (0, u "compress"), (0, u "([CI[BII)I"), (0, .methodref 12 120), (0, .nameAndType 121 122), (0, u "toBytes"), (0, u "([CII)[B"), (17, u "inflate"), (0, u "([BI[BII)V"), (31, .methodref 12 174), (0, .nameAndType 175 99), (0, u "checkBoundsOffCount"), (85, u "coderFromArrayLen"), (0, u "([BI)B"), (18, u "(III)I"), (87, .class_ 371), (1, u "java/lang/StringUTF16$LinesSpliterator"), (20, u "charAt"), (21, .methodref 3 415), (0, .nameAndType 69 416), (0, u "(II)V"), (2, .methodref 3 420), (0, .nameAndType 175 281), (9, u "MAX_LENGTH"), (44, u "(C)[B"), (151, .class_ 628), (0, u "java/lang/StringUTF16$CodePointsSpliterator"), (0, .class_ 630), (0, u "java/lang/StringUTF16$CharsSpliterator")] 4

def k19m0 : Method := { name := "<init>", desc := "()V", sig := { parameters := [], returnType := none }, accessFlags := 0, code := none }
def k19c1 : Code := { maxStack := 1, maxLocals := 1, code := jdk_52_method_2_code, exceptionTable := #[], attributes := #[] }
def k19m1 : Method := { name := "newBytesFor", desc := "(I)[B", sig := { parameters := [.int], returnType := some (.array .byte) }, accessFlags := 9, code := some k19c1 }
def k19c2 : Code := { maxStack := 4, maxLocals := 1, code := jdk_52_method_3_code, exceptionTable := #[], attributes := #[] }
def k19m2 : Method := { name := "newBytesLength", desc := "(I)I", sig := { parameters := [.int], returnType := some .int }, accessFlags := 9, code := some k19c2 }
def k19c3 : Code := { maxStack := 4, maxLocals := 3, code := jdk_52_method_4_code, exceptionTable := #[], attributes := #[] }
def k19m3 : Method := { name := "putChar", desc := "([BII)V", sig := { parameters := [(.array .byte), .int, .int], returnType := none }, accessFlags := 8, code := some k19c3 }
def k19c4 : Code := { maxStack := 3, maxLocals := 2, code := jdk_52_method_5_code, exceptionTable := #[], attributes := #[] }
def k19m4 : Method := { name := "getChar", desc := "([BI)C", sig := { parameters := [(.array .byte), .int], returnType := some .char }, accessFlags := 8, code := some k19c4 }
def k19c5 : Code := { maxStack := 2, maxLocals := 1, code := jdk_52_method_6_code, exceptionTable := #[], attributes := #[] }
def k19m5 : Method := { name := "length", desc := "([B)I", sig := { parameters := [(.array .byte)], returnType := some .int }, accessFlags := 9, code := some k19c5 }
def k19c6 : Code := { maxStack := 4, maxLocals := 5, code := jdk_52_method_14_code, exceptionTable := #[], attributes := #[] }
def k19m6 : Method := { name := "toBytes", desc := "([CII)[B", sig := { parameters := [(.array .char), .int, .int], returnType := some (.array .byte) }, accessFlags := 9, code := some k19c6 }
def k19c7 : Code := { maxStack := 2, maxLocals := 2, code := jdk_52_method_15_code, exceptionTable := #[], attributes := #[] }
def k19m7 : Method := { name := "coderFromArrayLen", desc := "([BI)B", sig := { parameters := [(.array .byte), .int], returnType := some .byte }, accessFlags := 8, code := some k19c7 }
def k19c8 : Code := { maxStack := 5, maxLocals := 6, code := jdk_52_method_16_code, exceptionTable := #[], attributes := #[] }
def k19m8 : Method := { name := "compress", desc := "([CII)[B", sig := { parameters := [(.array .char), .int, .int], returnType := some (.array .byte) }, accessFlags := 9, code := some k19c8 }
def k19c9 : Code := { maxStack := 3, maxLocals := 7, code := jdk_52_method_21_code, exceptionTable := #[], attributes := #[] }
def k19m9 : Method := { name := "compress", desc := "([CI[BII)I", sig := { parameters := [(.array .char), .int, (.array .byte), .int, .int], returnType := some .int }, accessFlags := 9, code := some k19c9 }
def k19c10 : Code := { maxStack := 3, maxLocals := 2, code := jdk_52_method_24_code, exceptionTable := #[], attributes := #[] }
def k19m10 : Method := { name := "toBytes", desc := "(C)[B", sig := { parameters := [.char], returnType := some (.array .byte) }, accessFlags := 9, code := some k19c10 }
def k19c11 : Code := { maxStack := 2, maxLocals := 2, code := jdk_52_method_83_code, exceptionTable := #[], attributes := #[] }
def k19m11 : Method := { name := "charAt", desc := "([BI)C", sig := { parameters := [(.array .byte), .int], returnType := some .char }, accessFlags := 9, code := some k19c11 }
def k19c12 : Code := { maxStack := 4, maxLocals := 6, code := jdk_52_method_86_code, exceptionTable := #[], attributes := #[] }
def k19m12 : Method := { name := "inflate", desc := "([BI[BII)V", sig := { parameters := [(.array .byte), .int, (.array .byte), .int, .int], returnType := none }, accessFlags := 9, code := some k19c12 }
def k19c13 : Code := { maxStack := 2, maxLocals := 2, code := jdk_52_method_91_code, exceptionTable := #[], attributes := #[] }
def k19m13 : Method := { name := "checkIndex", desc := "(I[B)V", sig := { parameters := [.int, (.array .byte)], returnType := none }, accessFlags := 9, code := some k19c13 }
def k19c14 : Code := { maxStack := 3, maxLocals := 3, code := jdk_52_method_94_code, exceptionTable := #[], attributes := #[] }
def k19m14 : Method := { name := "checkBoundsOffCount", desc := "(II[B)V", sig := { parameters := [.int, .int, (.array .byte)], returnType := none }, accessFlags := 9, code := some k19c14 }
/-- java/lang/StringUTF16 -/
def k19 : Class := { plain "java/lang/StringUTF16" (some 0) with
  accessFlags := 48
  interfaces := #[]
  cf := some (fileOf pool19 12 #[.nestMembers #[627, 629, 369]] #[{ accessFlags := 0, nameIndex := 9, descriptorIndex := 10, attributes := #[] }, { accessFlags := 9, nameIndex := 109, descriptorIndex := 110, attributes := #[] }, { accessFlags := 9, nameIndex := 15, descriptorIndex := 16, attributes := #[] }, { accessFlags := 8, nameIndex := 113, descriptorIndex := 114, attributes := #[] }, { accessFlags := 8, nameIndex := 73, descriptorIndex := 74, attributes := #[] }, { accessFlags := 9, nameIndex := 50, descriptorIndex := 51, attributes := #[] }, { accessFlags := 9, nameIndex := 121, descriptorIndex := 122, attributes := #[] }, { accessFlags := 8, nameIndex := 261, descriptorIndex := 262, attributes := #[] }, { accessFlags := 9, nameIndex := 117, descriptorIndex := 122, attributes := #[] }, { accessFlags := 9, nameIndex := 117, descriptorIndex := 118, attributes := #[] }, { accessFlags := 9, nameIndex := 121, descriptorIndex := 475, attributes := #[] }, { accessFlags := 9, nameIndex := 392, descriptorIndex := 74, attributes := #[] }, { accessFlags := 9, nameIndex := 140, descriptorIndex := 141, attributes := #[] }, { accessFlags := 9, nameIndex := 69, descriptorIndex := 70, attributes := #[] }, { accessFlags := 9, nameIndex := 175, descriptorIndex := 99, attributes := #[] }] 48 6 #[] #[{ accessFlags := 26, nameIndex := 61, descriptorIndex := 62, attributes := #[] }, { accessFlags := 26, nameIndex := 65, descriptorIndex := 62, attributes := #[] }, { accessFlags := 24, nameIndex := 430, descriptorIndex := 62, attributes := #[] }, { accessFlags := 4120, nameIndex := 46, descriptorIndex := 47, attributes := #[] }])
  fields := #[{ name := "HI_BYTE_SHIFT", type := .int, accessFlags := 26, slot := 0, constantValue := 0 }, { name := "LO_BYTE_SHIFT", type := .int, accessFlags := 26, slot := 1, constantValue := 0 }, { name := "MAX_LENGTH", type := .int, accessFlags := 24, slot := 2, constantValue := 0 }, { name := "$assertionsDisabled", type := .boolean, accessFlags := 4120, slot := 3, constantValue := 0 }]
  methods := #[k19m0, k19m1, k19m2, k19m3, k19m4, k19m5, k19m6, k19m7, k19m8, k19m9, k19m10, k19m11, k19m12, k19m13, k19m14]
  instanceTypes := #[]
  staticTypes := #[.int, .int, .int, .boolean]
  resolved := Array.replicate 635 none
  statics := some 3 }

def pool20 : Array CpInfo := pool [(9, u "<init>"), (6, .class_ 18), (1, u "java/lang/Object"), (0, u "()V"), (1, .class_ 23), (1, u "jdk/internal/util/ArraysSupport"), (0, u "LOG2_ARRAY_LONG_INDEX_SCALE"), (0, u "I"), (2, u "U"), (0, u "Ljdk/internal/misc/Unsafe;"), (8, u "BIG_ENDIAN"), (0, u "Z"), (8, u "LOG2_BYTE_BIT_SIZE"), (4, u "LOG2_ARRAY_INT_INDEX_SCALE"), (54, u "JLA"), (0, u "Ljdk/internal/access/JavaLangAccess;"), (11, u "LOG2_ARRAY_BOOLEAN_INDEX_SCALE"), (9, u "LOG2_ARRAY_BYTE_INDEX_SCALE"), (5, u "LOG2_ARRAY_CHAR_INDEX_SCALE"), (5, u "LOG2_ARRAY_SHORT_INDEX_SCALE"), (18, u "LOG2_ARRAY_FLOAT_INDEX_SCALE"), (24, u "LOG2_ARRAY_DOUBLE_INDEX_SCALE"), (6, .methodref 195 196), (0, .class_ 197), (0, .nameAndType 198 199), (0, u "java/lang/Math"), (0, u "max"), (0, u "(II)I"), (0, .integer 2147483639), (76, u "T_BOOLEAN"), (2, u "T_CHAR"), (1, u "T_FLOAT"), (1, u "T_DOUBLE"), (1, u "T_BYTE"), (1, u "T_SHORT"), (1, u "T_INT"), (1, u "T_LONG"), (1, u "SOFT_MAX_ARRAY_LENGTH"), (56, u "newLength"), (0, u "(III)I")] 25

def k20m0 : Method := { name := "<init>", desc := "()V", sig := { parameters := [], returnType := none }, accessFlags := 2, code := none }
def k20c1 : Code := { maxStack := 3, maxLocals := 4, code := jdk_48_method_27_code, exceptionTable := #[], attributes := #[] }
def k20m1 : Method := { name := "newLength", desc := "(III)I", sig := { parameters := [.int, .int, .int], returnType := some .int }, accessFlags := 9, code := some k20c1 }
/-- jdk/internal/util/ArraysSupport -/
def k20 : Class := { plain "jdk/internal/util/ArraysSupport" (some 0) with
  accessFlags := 33
  interfaces := #[]
  cf := some (fileOf pool20 21 #[] #[{ accessFlags := 2, nameIndex := 9, descriptorIndex := 19, attributes := #[] }, { accessFlags := 9, nameIndex := 351, descriptorIndex := 352, attributes := #[] }] 33 16 #[] #[{ accessFlags := 24, nameIndex := 28, descriptorIndex := 29, attributes := #[] }, { accessFlags := 26, nameIndex := 38, descriptorIndex := 39, attributes := #[] }, { accessFlags := 25, nameIndex := 121, descriptorIndex := 25, attributes := #[] }, { accessFlags := 25, nameIndex := 131, descriptorIndex := 25, attributes := #[] }, { accessFlags := 25, nameIndex := 137, descriptorIndex := 25, attributes := #[] }, { accessFlags := 25, nameIndex := 143, descriptorIndex := 25, attributes := #[] }, { accessFlags := 25, nameIndex := 53, descriptorIndex := 25, attributes := #[] }, { accessFlags := 25, nameIndex := 24, descriptorIndex := 25, attributes := #[] }, { accessFlags := 25, nameIndex := 162, descriptorIndex := 25, attributes := #[] }, { accessFlags := 25, nameIndex := 187, descriptorIndex := 25, attributes := #[] }, { accessFlags := 26, nameIndex := 48, descriptorIndex := 25, attributes := #[] }, { accessFlags := 25, nameIndex := 277, descriptorIndex := 25, attributes := #[] }, { accessFlags := 25, nameIndex := 280, descriptorIndex := 25, attributes := #[] }, { accessFlags := 25, nameIndex := 282, descriptorIndex := 25, attributes := #[] }, { accessFlags := 25, nameIndex := 284, descriptorIndex := 25, attributes := #[] }, { accessFlags := 25, nameIndex := 286, descriptorIndex := 25, attributes := #[] }, { accessFlags := 25, nameIndex := 288, descriptorIndex := 25, attributes := #[] }, { accessFlags := 25, nameIndex := 290, descriptorIndex := 25, attributes := #[] }, { accessFlags := 25, nameIndex := 292, descriptorIndex := 25, attributes := #[] }, { accessFlags := 26, nameIndex := 108, descriptorIndex := 109, attributes := #[] }, { accessFlags := 25, nameIndex := 294, descriptorIndex := 25, attributes := #[] }])
  fields := #[{ name := "U", type := (.object "jdk/internal/misc/Unsafe"), accessFlags := 24, slot := 0, constantValue := 0 }, { name := "BIG_ENDIAN", type := .boolean, accessFlags := 26, slot := 1, constantValue := 0 }, { name := "LOG2_ARRAY_BOOLEAN_INDEX_SCALE", type := .int, accessFlags := 25, slot := 2, constantValue := 0 }, { name := "LOG2_ARRAY_BYTE_INDEX_SCALE", type := .int, accessFlags := 25, slot := 3, constantValue := 0 }, { name := "LOG2_ARRAY_CHAR_INDEX_SCALE", type := .int, accessFlags := 25, slot := 4, constantValue := 0 }, { name := "LOG2_ARRAY_SHORT_INDEX_SCALE", type := .int, accessFlags := 25, slot := 5, constantValue := 0 }, { name := "LOG2_ARRAY_INT_INDEX_SCALE", type := .int, accessFlags := 25, slot := 6, constantValue := 0 }, { name := "LOG2_ARRAY_LONG_INDEX_SCALE", type := .int, accessFlags := 25, slot := 7, constantValue := 0 }, { name := "LOG2_ARRAY_FLOAT_INDEX_SCALE", type := .int, accessFlags := 25, slot := 8, constantValue := 0 }, { name := "LOG2_ARRAY_DOUBLE_INDEX_SCALE", type := .int, accessFlags := 25, slot := 9, constantValue := 0 }, { name := "LOG2_BYTE_BIT_SIZE", type := .int, accessFlags := 26, slot := 10, constantValue := 0 }, { name := "T_BOOLEAN", type := .int, accessFlags := 25, slot := 11, constantValue := 0 }, { name := "T_CHAR", type := .int, accessFlags := 25, slot := 12, constantValue := 0 }, { name := "T_FLOAT", type := .int, accessFlags := 25, slot := 13, constantValue := 0 }, { name := "T_DOUBLE", type := .int, accessFlags := 25, slot := 14, constantValue := 0 }, { name := "T_BYTE", type := .int, accessFlags := 25, slot := 15, constantValue := 0 }, { name := "T_SHORT", type := .int, accessFlags := 25, slot := 16, constantValue := 0 }, { name := "T_INT", type := .int, accessFlags := 25, slot := 17, constantValue := 0 }, { name := "T_LONG", type := .int, accessFlags := 25, slot := 18, constantValue := 0 }, { name := "JLA", type := (.object "jdk/internal/access/JavaLangAccess"), accessFlags := 26, slot := 19, constantValue := 0 }, { name := "SOFT_MAX_ARRAY_LENGTH", type := .int, accessFlags := 25, slot := 20, constantValue := 0 }]
  methods := #[k20m0, k20m1]
  instanceTypes := #[]
  staticTypes := #[(.object "jdk/internal/misc/Unsafe"), .boolean, .int, .int, .int, .int, .int, .int, .int, .int, .int, .int, .int, .int, .int, .int, .int, .int, .int, (.object "jdk/internal/access/JavaLangAccess"), .int]
  resolved := Array.replicate 378 none
  statics := none }

def pool21 : Array CpInfo := pool [(1, .class_ 2), (0, u "java/lang/Math"), (1, .class_ 6), (1, u "java/lang/Object"), (0, u "<init>"), (0, u "()V"), (89, .class_ 100), (1, u "java/lang/Math$RandomNumberGeneratorHolder"), (71, u "negativeZeroFloatBits"), (0, u "J"), (2, u "negativeZeroDoubleBits"), (21, u "max"), (2, u "min"), (43, u "$assertionsDisabled"), (0, u "Z"), (88, u "(II)I"), (2, u "twoToTheDoubleScaleDown"), (0, u "D"), (4, u "twoToTheDoubleScaleUp"), (9, u "E"), (3, u "PI"), (2, u "TAU"), (2, u "DEGREES_TO_RADIANS"), (0, u "RADIANS_TO_DEGREES")] 94

def k21m0 : Method := { name := "<init>", desc := "()V", sig := { parameters := [], returnType := none }, accessFlags := 2, code := none }
def k21c1 : Code := { maxStack := 2, maxLocals := 2, code := jdk_29_method_65_code, exceptionTable := #[], attributes := #[] }
def k21m1 : Method := { name := "max", desc := "(II)I", sig := { parameters := [.int, .int], returnType := some .int }, accessFlags := 9, code := some k21c1 }
def k21c2 : Code := { maxStack := 2, maxLocals := 2, code := jdk_29_method_69_code, exceptionTable := #[], attributes := #[] }
def k21m2 : Method := { name := "min", desc := "(II)I", sig := { parameters := [.int, .int], returnType := some .int }, accessFlags := 9, code := some k21c2 }
/-- java/lang/Math -/
def k21 : Class := { plain "java/lang/Math" (some 0) with
  accessFlags := 49
  interfaces := #[]
  cf := some (fileOf pool21 1 #[.nestMembers #[98]] #[{ accessFlags := 2, nameIndex := 7, descriptorIndex := 8, attributes := #[] }, { accessFlags := 9, nameIndex := 198, descriptorIndex := 335, attributes := #[] }, { accessFlags := 9, nameIndex := 201, descriptorIndex := 335, attributes := #[] }] 49 4 #[] #[{ accessFlags := 25, nameIndex := 354, descriptorIndex := 339, attributes := #[] }, { accessFlags := 25, nameIndex := 358, descriptorIndex := 339, attributes := #[] }, { accessFlags := 25, nameIndex := 361, descriptorIndex := 339, attributes := #[] }, { accessFlags := 26, nameIndex := 364, descriptorIndex := 339, attributes := #[] }, { accessFlags := 26, nameIndex := 365, descriptorIndex := 339, attributes := #[] }, { accessFlags := 26, nameIndex := 172, descriptorIndex := 173, attributes := #[] }, { accessFlags := 26, nameIndex := 176, descriptorIndex := 173, attributes := #[] }, { accessFlags := 8, nameIndex := 344, descriptorIndex := 339, attributes := #[] }, { accessFlags := 8, nameIndex := 338, descriptorIndex := 339, attributes := #[] }, { accessFlags := 4120, nameIndex := 245, descriptorIndex := 246, attributes := #[] }])
  fields := #[{ name := "E", type := .double, accessFlags := 25, slot := 0, constantValue := 0 }, { name := "PI", type := .double, accessFlags := 25, slot := 1, constantValue := 0 }, { name := "TAU", type := .double, accessFlags := 25, slot := 2, constantValue := 0 }, { name := "DEGREES_TO_RADIANS", type := .double, accessFlags := 26, slot := 3, constantValue := 0 }, { name := "RADIANS_TO_DEGREES", type := .double, accessFlags := 26, slot := 4, constantValue := 0 }, { name := "negativeZeroFloatBits", type := .long, accessFlags := 26, slot := 5, constantValue := 0 }, { name := "negativeZeroDoubleBits", type := .long, accessFlags := 26, slot := 6, constantValue := 0 }, { name := "twoToTheDoubleScaleUp", type := .double, accessFlags := 8, slot := 7, constantValue := 0 }, { name := "twoToTheDoubleScaleDown", type := .double, accessFlags := 8, slot := 8, constantValue := 0 }, { name := "$assertionsDisabled", type := .boolean, accessFlags := 4120, slot := 9, constantValue := 0 }]
  methods := #[k21m0, k21m1, k21m2]
  instanceTypes := #[]
  staticTypes := #[.double, .double, .double, .double, .double, .long, .long, .double, .double, .boolean]
  resolved := Array.replicate 460 none
  statics := none }

def pool22 : Array CpInfo := pool [(2, .class_ 4), (1, u "java/lang/Object"), (0, u "<init>"), (0, u "()V"), (12, .class_ 20), (0, u "java/util/Collections"), (63, u "r"), (0, u "Ljava/util/Random;"), (80, .class_ 167), (0, u "java/util/Collections$UnmodifiableCollection"), (6, .class_ 175), (0, u "java/util/Collections$UnmodifiableSequencedCollection"), (6, .class_ 183), (0, u "java/util/Collections$UnmodifiableSet"), (6, .class_ 191), (0, u "java/util/Collections$UnmodifiableSequencedSet"), (6, .class_ 199), (0, u "java/util/Collections$UnmodifiableSortedSet"), (6, .class_ 207), (0, u "java/util/Collections$UnmodifiableNavigableSet"), (4, .class_ 213), (0, u "java/util/Collections$UnmodifiableList"), (1, .class_ 216), (0, u "java/util/Collections$UnmodifiableRandomAccessList"), (6, .class_ 224), (0, u "java/util/Collections$UnmodifiableMap"), (6, .class_ 232), (0, u "java/util/Collections$UnmodifiableSequencedMap"), (4, .class_ 238), (0, u "java/util/Collections$UnmodifiableSortedMap"), (6, .class_ 246), (0, u "java/util/Collections$UnmodifiableNavigableMap"), (3, .class_ 251), (0, u "java/util/Collections$SynchronizedCollection"), (4, .class_ 257), (0, u "java/util/Collections$SynchronizedSet"), (4, .class_ 263), (0, u "java/util/Collections$SynchronizedSortedSet"), (1, .class_ 266), (0, u "java/util/Collections$SynchronizedNavigableSet"), (1, .class_ 269), (0, u "java/util/Collections$SynchronizedRandomAccessList"), (1, .class_ 272), (0, u "java/util/Collections$SynchronizedList"), (5, .class_ 279), (0, u "java/util/Collections$SynchronizedMap"), (1, .class_ 282), (0, u "java/util/Collections$SynchronizedSortedMap"), (1, .class_ 285), (0, u "java/util/Collections$SynchronizedNavigableMap"), (1, .class_ 288), (0, u "java/util/Collections$CheckedCollection"), (11, .class_ 301), (0, u "java/util/Collections$CheckedQueue"), (3, .class_ 306), (0, u "java/util/Collections$CheckedSet"), (3, .class_ 311), (0, u "java/util/Collections$CheckedSortedSet"), (3, .class_ 316), (0, u "java/util/Collections$CheckedNavigableSet"), (3, .class_ 321), (0, u "java/util/Collections$CheckedRandomAccessList"), (3, .class_ 326), (0, u "java/util/Collections$CheckedList"), (1, .class_ 329), (0, u "java/util/Collections$CheckedMap"), (3, .class_ 334), (0, u "java/util/Collections$CheckedSortedMap"), (3, .class_ 339), (0, u "java/util/Collections$CheckedNavigableMap"), (4, .class_ 346), (1, u "java/util/Collections$EmptyIterator"), (3, .class_ 352), (1, u "java/util/Collections$EmptyListIterator"), (2, .class_ 357), (1, u "java/util/Collections$EmptyEnumeration"), (4, u "EMPTY_SET"), (0, u "Ljava/util/Set;"), (6, u "EMPTY_LIST"), (0, u "Ljava/util/List;"), (2, u "EMPTY_MAP"), (0, u "Ljava/util/Map;"), (4, .class_ 381), (0, u "java/util/Collections$SingletonSet"), (2, .class_ 385), (0, u "java/util/Collections$1"), (1, .class_ 388), (0, u "java/util/Collections$2"), (1, .class_ 391), (0, u "java/util/Collections$SingletonList"), (1, .class_ 394), (0, u "java/util/Collections$SingletonMap"), (22, .class_ 418), (0, u "java/util/Collections$CopiesList"), (4, .class_ 425), (1, u "java/util/Collections$ReverseComparator"), (8, .class_ 435), (0, u "java/util/Collections$ReverseComparator2"), (6, .class_ 443), (0, u "java/util/Collections$3"), (25, .class_ 470), (0, u "java/util/Collections$SetFromMap"), (2, .class_ 474), (0, u "java/util/Collections$SequencedSetFromMap"), (3, .class_ 479), (0, u "java/util/Collections$AsLIFOQueue"), (11, .class_ 492), (0, u "java/util/Collections$EmptySet"), (1, .class_ 495), (0, u "java/util/Collections$EmptyList"), (1, .class_ 498), (0, u "java/util/Collections$EmptyMap"), (1, u "BINARYSEARCH_THRESHOLD"), (0, u "I"), (2, u "REVERSE_THRESHOLD"), (1, u "SHUFFLE_THRESHOLD"), (1, u "FILL_THRESHOLD"), (1, u "ROTATE_THRESHOLD"), (1, u "COPY_THRESHOLD"), (1, u "REPLACEALL_THRESHOLD"), (1, u "INDEXOFSUBLIST_THRESHOLD"), (333, .class_ 851), (0, u "java/util/Collections$CheckedMap$CheckedEntrySet"), (0, .class_ 853), (0, u "java/util/Collections$CheckedMap$CheckedEntrySet$CheckedEntry"), (0, .class_ 855), (0, u "java/util/Collections$CheckedMap$CheckedEntrySet$1"), (0, .class_ 857), (0, u "java/util/Collections$CheckedList$1"), (0, .class_ 859), (0, u "java/util/Collections$CheckedCollection$1"), (0, .class_ 861), (0, u "java/util/Collections$UnmodifiableNavigableMap$EmptyNavigableMap"), (0, .class_ 863), (0, u "java/util/Collections$UnmodifiableMap$UnmodifiableEntrySet"), (0, .class_ 865), (0, u "java/util/Collections$UnmodifiableMap$UnmodifiableEntrySet$UnmodifiableEntry"), (0, .class_ 867), (0, u "java/util/Collections$UnmodifiableMap$UnmodifiableEntrySet$UnmodifiableEntrySetSpliterator"), (0, .class_ 869), (0, u "java/util/Collections$UnmodifiableMap$UnmodifiableEntrySet$1"), (0, .class_ 871), (0, u "java/util/Collections$UnmodifiableList$1"), (0, .class_ 873), (0, u "java/util/Collections$UnmodifiableNavigableSet$EmptyNavigableSet"), (0, .class_ 875), (0, u "java/util/Collections$UnmodifiableCollection$1")] 57

def k22m0 : Method := { name := "<init>", desc := "()V", sig := { parameters := [], returnType := none }, accessFlags := 2, code := none }
/-- java/util/Collections -/
def k22 : Class := { plain "java/util/Collections" (some 0) with
  accessFlags := 33
  interfaces := #[]
  cf := some (fileOf pool22 19 #[.nestMembers #[478, 473, 469, 434, 423, 417, 393, 390, 380, 497, 494, 491, 355, 350, 344, 338, 333, 328, 850, 852, 854, 320, 325, 856, 315, 310, 305, 300, 287, 858, 284, 281, 278, 268, 271, 265, 262, 256, 250, 245, 860, 237, 231, 223, 862, 864, 866, 868, 215, 212, 870, 206, 872, 198, 190, 182, 174, 166, 874, 442, 387, 384]] #[{ accessFlags := 2, nameIndex := 5, descriptorIndex := 6, attributes := #[] }] 33 2 #[] #[{ accessFlags := 26, nameIndex := 500, descriptorIndex := 501, attributes := #[] }, { accessFlags := 26, nameIndex := 504, descriptorIndex := 501, attributes := #[] }, { accessFlags := 26, nameIndex := 506, descriptorIndex := 501, attributes := #[] }, { accessFlags := 26, nameIndex := 508, descriptorIndex := 501, attributes := #[] }, { accessFlags := 26, nameIndex := 510, descriptorIndex := 501, attributes := #[] }, { accessFlags := 26, nameIndex := 512, descriptorIndex := 501, attributes := #[] }, { accessFlags := 26, nameIndex := 514, descriptorIndex := 501, attributes := #[] }, { accessFlags := 26, nameIndex := 516, descriptorIndex := 501, attributes := #[] }, { accessFlags := 10, nameIndex := 84, descriptorIndex := 85, attributes := #[] }, { accessFlags := 25, nameIndex := 362, descriptorIndex := 363, attributes := #[] }, { accessFlags := 25, nameIndex := 370, descriptorIndex := 371, attributes := #[] }, { accessFlags := 25, nameIndex := 374, descriptorIndex := 375, attributes := #[] }])
  fields := #[{ name := "BINARYSEARCH_THRESHOLD", type := .int, accessFlags := 26, slot := 0, constantValue := 0 }, { name := "REVERSE_THRESHOLD", type := .int, accessFlags := 26, slot := 1, constantValue := 0 }, { name := "SHUFFLE_THRESHOLD", type := .int, accessFlags := 26, slot := 2, constantValue := 0 }, { name := "FILL_THRESHOLD", type := .int, accessFlags := 26, slot := 3, constantValue := 0 }, { name := "ROTATE_THRESHOLD", type := .int, accessFlags := 26, slot := 4, constantValue := 0 }, { name := "COPY_THRESHOLD", type := .int, accessFlags := 26, slot := 5, constantValue := 0 }, { name := "REPLACEALL_THRESHOLD", type := .int, accessFlags := 26, slot := 6, constantValue := 0 }, { name := "INDEXOFSUBLIST_THRESHOLD", type := .int, accessFlags := 26, slot := 7, constantValue := 0 }, { name := "r", type := (.object "java/util/Random"), accessFlags := 10, slot := 8, constantValue := 0 }, { name := "EMPTY_SET", type := (.object "java/util/Set"), accessFlags := 25, slot := 9, constantValue := 0 }, { name := "EMPTY_LIST", type := (.object "java/util/List"), accessFlags := 25, slot := 10, constantValue := 0 }, { name := "EMPTY_MAP", type := (.object "java/util/Map"), accessFlags := 25, slot := 11, constantValue := 0 }]
  methods := #[k22m0]
  instanceTypes := #[]
  staticTypes := #[.int, .int, .int, .int, .int, .int, .int, .int, (.object "java/util/Random"), (.object "java/util/Set"), (.object "java/util/List"), (.object "java/util/Map")]
  resolved := Array.replicate 933 none
  statics := some 4 }

def pool23 : Array CpInfo := pool [(8, .class_ 10), (1, u "java/lang/Iterable"), (24, .class_ 36), (0, u "java/lang/Object")] 25

/-- java/lang/Iterable -/
def k23 : Class := { plain "java/lang/Iterable" (some 0) with
  accessFlags := 1537
  interfaces := #[]
  cf := some (fileOf pool23 8 #[] #[] 1537 35 #[] #[])
  fields := #[]
  methods := #[]
  instanceTypes := #[]
  staticTypes := #[]
  resolved := Array.replicate 62 none
  statics := none }

def pool24 : Array CpInfo := pool [(10, .class_ 12), (1, u "java/util/Collection"), (47, .class_ 61), (0, u "java/lang/Object"), (0, .class_ 63), (0, u "java/lang/Iterable")] 51

/-- java/util/Collection -/
def k24 : Class := { plain "java/util/Collection" (some 0) with
  accessFlags := 1537
  interfaces := #[23]
  cf := some (fileOf pool24 10 #[] #[] 1537 60 #[62] #[])
  fields := #[]
  methods := #[]
  instanceTypes := #[]
  staticTypes := #[]
  resolved := Array.replicate 115 none
  statics := none }

def pool25 : Array CpInfo := pool [(2, .class_ 4), (1, u "java/lang/Object"), (0, u "<init>"), (0, u "()V"), (1, .class_ 10), (1, u "java/util/AbstractCollection"), (66, .class_ 78), (0, u "java/util/Collection")] 81

def k25m0 : Method := { name := "<init>", desc := "()V", sig := { parameters := [], returnType := none }, accessFlags := 4, code := none }
/-- java/util/AbstractCollection -/
def k25 : Class := { plain "java/util/AbstractCollection" (some 0) with
  accessFlags := 1057
  interfaces := #[24]
  cf := some (fileOf pool25 8 #[] #[{ accessFlags := 4, nameIndex := 5, descriptorIndex := 6, attributes := #[] }] 1057 2 #[77] #[])
  fields := #[]
  methods := #[k25m0]
  instanceTypes := #[]
  staticTypes := #[]
  resolved := Array.replicate 160 none
  statics := none }

def pool26 : Array CpInfo := pool [(8, .class_ 10), (1, u "java/util/SequencedCollection"), (15, .class_ 27), (0, u "java/lang/Object"), (0, .class_ 29), (0, u "java/util/Collection")] 27

/-- java/util/SequencedCollection -/
def k26 : Class := { plain "java/util/SequencedCollection" (some 0) with
  accessFlags := 1537
  interfaces := #[24]
  cf := some (fileOf pool26 8 #[] #[] 1537 26 #[28] #[])
  fields := #[]
  methods := #[]
  instanceTypes := #[]
  staticTypes := #[]
  resolved := Array.replicate 57 none
  statics := none }

def pool27 : Array CpInfo := pool [(8, .class_ 10), (1, u "java/util/List"), (92, .class_ 104), (0, u "java/lang/Object"), (15, .class_ 121), (0, u "java/util/SequencedCollection")] 129

/-- java/util/List -/
def k27 : Class := { plain "java/util/List" (some 0) with
  accessFlags := 1537
  interfaces := #[26]
  cf := some (fileOf pool27 8 #[] #[] 1537 103 #[120] #[])
  fields := #[]
  methods := #[]
  instanceTypes := #[]
  staticTypes := #[]
  resolved := Array.replicate 251 none
  statics := none }

def pool28 : Array CpInfo := pool [(2, .class_ 4), (1, u "java/util/AbstractCollection"), (0, u "<init>"), (0, u "()V"), (1, .class_ 10), (1, u "java/util/AbstractList"), (0, u "modCount"), (0, u "I"), (64, .class_ 78), (0, u "java/util/AbstractList$Itr"), (3, .class_ 83), (0, u "java/util/AbstractList$ListItr"), (9, .class_ 94), (0, u "java/util/AbstractList$RandomAccessSubList"), (3, .class_ 99), (0, u "java/util/AbstractList$SubList"), (33, .class_ 134), (0, u "java/util/List"), (73, .class_ 209), (0, u "java/util/AbstractList$SubList$1"), (0, .class_ 211), (0, u "java/util/AbstractList$RandomAccessSpliterator")] 6

def k28m0 : Method := { name := "<init>", desc := "()V", sig := { parameters := [], returnType := none }, accessFlags := 4, code := none }
/-- java/util/AbstractList -/
def k28 : Class := { plain "java/util/AbstractList" (some 25) with
  accessFlags := 1057
  interfaces := #[27]
  cf := some (fileOf pool28 8 #[.nestMembers #[93, 98, 208, 210, 82, 77]] #[{ accessFlags := 4, nameIndex := 5, descriptorIndex := 6, attributes := #[] }] 1057 2 #[133] #[{ accessFlags := 132, nameIndex := 11, descriptorIndex := 12, attributes := #[] }])
  fields := #[{ name := "modCount", type := .int, accessFlags := 132, slot := 0, constantValue := 0 }]
  methods := #[k28m0]
  instanceTypes := #[.int]
  staticTypes := #[]
  resolved := Array.replicate 218 none
  statics := none }

def pool29 : Array CpInfo := pool [(1, .class_ 2), (0, u "java/util/RandomAccess"), (0, .class_ 4), (0, u "java/lang/Object")] 2

/-- java/util/RandomAccess -/
def k29 : Class := { plain "java/util/RandomAccess" (some 0) with
  accessFlags := 1537
  interfaces := #[]
  cf := some (fileOf pool29 1 #[] #[] 1537 3 #[] #[])
  fields := #[]
  methods := #[]
  instanceTypes := #[]
  staticTypes := #[]
  resolved := Array.replicate 7 none
  statics := none }

def pool30 : Array CpInfo := pool [(2, .class_ 4), (1, u "java/util/AbstractList"), (0, u "<init>"), (0, u "()V"), (1, .class_ 10), (1, u "java/util/Collections"), (54, .class_ 66), (0, u "java/util/Collections$EmptyList"), (0, .class_ 68), (0, u "java/util/RandomAccess"), (0, .class_ 70), (0, u "java/io/Serializable"), (0, u "serialVersionUID"), (0, u "J")] 77

def k30m0 : Method := { name := "<init>", desc := "()V", sig := { parameters := [], returnType := none }, accessFlags := 2, code := none }
/-- java/util/Collections$EmptyList -/
def k30 : Class := { plain "java/util/Collections$EmptyList" (some 28) with
  accessFlags := 32
  interfaces := #[29, 2]
  cf := some (fileOf pool30 65 #[.nestHost 8] #[{ accessFlags := 2, nameIndex := 5, descriptorIndex := 6, attributes := #[] }] 32 2 #[67, 69] #[{ accessFlags := 26, nameIndex := 71, descriptorIndex := 72, attributes := #[] }])
  fields := #[{ name := "serialVersionUID", type := .long, accessFlags := 26, slot := 0, constantValue := 0 }]
  methods := #[k30m0]
  instanceTypes := #[.int]
  staticTypes := #[.long]
  resolved := Array.replicate 150 none
  statics := none }

def pool31 : Array CpInfo := pool [(2, .class_ 4), (1, u "java/lang/StackTraceElement"), (0, u "<init>"), (2, .class_ 10), (1, u "java/lang/Object"), (0, u "()V"), (2, u "format"), (0, u "B"), (2, u "classLoaderName"), (0, u "Ljava/lang/String;"), (2, u "moduleName"), (2, u "moduleVersion"), (12, u "declaringClass"), (4, u "methodName"), (2, u "fileName"), (2, u "lineNumber"), (0, u "I"), (65, u "declaringClassObject"), (0, u "Ljava/lang/Class;"), (33, .class_ 153), (1, u "java/lang/StackTraceElement$HashedModules"), (17, .class_ 172), (0, u "java/io/Serializable"), (0, u "NATIVE_METHOD"), (1, u "UNKNOWN_SOURCE"), (2, u "BUILTIN_CLASS_LOADER"), (1, u "JDK_NON_UPGRADEABLE_MODULE"), (1, u "serialVersionUID"), (0, u "J")] 51

def k31m0 : Method := { name := "<init>", desc := "()V", sig := { parameters := [], returnType := none }, accessFlags := 2, code := none }
/-- java/lang/StackTraceElement -/
def k31 : Class := { plain "java/lang/StackTraceElement" (some 0) with
  accessFlags := 49
  interfaces := #[2]
  cf := some (fileOf pool31 2 #[.nestMembers #[151]] #[{ accessFlags := 2, nameIndex := 5, descriptorIndex := 11, attributes := #[] }] 49 8 #[171] #[{ accessFlags := 26, nameIndex := 173, descriptorIndex := 19, attributes := #[] }, { accessFlags := 26, nameIndex := 175, descriptorIndex := 19, attributes := #[] }, { accessFlags := 130, nameIndex := 116, descriptorIndex := 117, attributes := #[] }, { accessFlags := 2, nameIndex := 18, descriptorIndex := 19, attributes := #[] }, { accessFlags := 2, nameIndex := 22, descriptorIndex := 19, attributes := #[] }, { accessFlags := 2, nameIndex := 25, descriptorIndex := 19, attributes := #[] }, { accessFlags := 2, nameIndex := 38, descriptorIndex := 19, attributes := #[] }, { accessFlags := 2, nameIndex := 43, descriptorIndex := 19, attributes := #[] }, { accessFlags := 2, nameIndex := 46, descriptorIndex := 19, attributes := #[] }, { accessFlags := 2, nameIndex := 49, descriptorIndex := 50, attributes := #[] }, { accessFlags := 2, nameIndex := 14, descriptorIndex := 15, attributes := #[] }, { accessFlags := 26, nameIndex := 178, descriptorIndex := 15, attributes := #[] }, { accessFlags := 26, nameIndex := 180, descriptorIndex := 15, attributes := #[] }, { accessFlags := 26, nameIndex := 182, descriptorIndex := 183, attributes := #[] }])
  fields := #[{ name := "NATIVE_METHOD", type := (.object "java/lang/String"), accessFlags := 26, slot := 0, constantValue := 0 }, { name := "UNKNOWN_SOURCE", type := (.object "java/lang/String"), accessFlags := 26, slot := 1, constantValue := 0 }, { name := "declaringClassObject", type := (.object "java/lang/Class"), accessFlags := 130, slot := 0, constantValue := 0 }, { name := "classLoaderName", type := (.object "java/lang/String"), accessFlags := 2, slot := 1, constantValue := 0 }, { name := "moduleName", type := (.object "java/lang/String"), accessFlags := 2, slot := 2, constantValue := 0 }, { name := "moduleVersion", type := (.object "java/lang/String"), accessFlags := 2, slot := 3, constantValue := 0 }, { name := "declaringClass", type := (.object "java/lang/String"), accessFlags := 2, slot := 4, constantValue := 0 }, { name := "methodName", type := (.object "java/lang/String"), accessFlags := 2, slot := 5, constantValue := 0 }, { name := "fileName", type := (.object "java/lang/String"), accessFlags := 2, slot := 6, constantValue := 0 }, { name := "lineNumber", type := .int, accessFlags := 2, slot := 7, constantValue := 0 }, { name := "format", type := .byte, accessFlags := 2, slot := 8, constantValue := 0 }, { name := "BUILTIN_CLASS_LOADER", type := .byte, accessFlags := 26, slot := 2, constantValue := 0 }, { name := "JDK_NON_UPGRADEABLE_MODULE", type := .byte, accessFlags := 26, slot := 3, constantValue := 0 }, { name := "serialVersionUID", type := .long, accessFlags := 26, slot := 4, constantValue := 0 }]
  methods := #[k31m0]
  instanceTypes := #[(.object "java/lang/Class"), (.object "java/lang/String"), (.object "java/lang/String"), (.object "java/lang/String"), (.object "java/lang/String"), (.object "java/lang/String"), (.object "java/lang/String"), .int, .byte]
  staticTypes := #[(.object "java/lang/String"), (.object "java/lang/String"), .byte, .byte, .long]
  resolved := Array.replicate 235 none
  statics := none }

/-- the primitive byte -/
def k32 : Class := { plain "byte" none with kind := .primitive 'B', accessFlags := 0x411 }
/-- [B -/
def k33 : Class := { plain "[B" (some 0) with kind := .array 32 .byte, interfaces := #[16, 2], accessFlags := 1041 }

/-- the primitive char -/
def k34 : Class := { plain "char" none with kind := .primitive 'C', accessFlags := 0x411 }
/-- [C -/
def k35 : Class := { plain "[C" (some 0) with kind := .array 34 .char, interfaces := #[16, 2], accessFlags := 1041 }

/-- [Ljava/lang/Object; -/
def k36 : Class := { plain "[Ljava/lang/Object;" (some 0) with kind := .array 0 (.object "java/lang/Object"), interfaces := #[16, 2], accessFlags := 1041 }

/-- [Ljava/lang/StackTraceElement; -/
def k37 : Class := { plain "[Ljava/lang/StackTraceElement;" (some 0) with kind := .array 31 (.object "java/lang/StackTraceElement"), interfaces := #[16, 2], accessFlags := 1041 }

/-- [Ljava/lang/Throwable; -/
def k38 : Class := { plain "[Ljava/lang/Throwable;" (some 0) with kind := .array 8 (.object "java/lang/Throwable"), interfaces := #[16, 2], accessFlags := 1041 }

def heap : Heap := #[{ cls := 7, slots := #[.long 0, .int 1, .null, .int 0, .null, .int 0, .int 0], vm := .statics 7 },
  { cls := 8, slots := #[.long 0, .ref 5, .ref 6, .null, .null, .null, .null, .ref 7, .int 1], vm := .statics 8 },
  { cls := 18, slots := #[.null, .null, .null], vm := .statics 18 },
  { cls := 19, slots := #[.int 0, .int 8, .int 0, .int 1], vm := .statics 19 },
  { cls := 22, slots := #[.int 0, .int 0, .int 0, .int 0, .int 0, .int 0, .int 0, .int 0, .null, .null, .ref 6, .null], vm := .statics 22 },
  { cls := 37, slots := #[], vm := .none },
  { cls := 30, slots := #[.int 0], vm := .none },
  { cls := 38, slots := #[], vm := .none }]
def classes : Array Class := #[k0, k1, k2, k3, k4, k5, k6, k7, k8, k9, k10, k11, k12, k13, k14, k15, k16, k17, k18, k19, k20, k21, k22, k23, k24, k25, k26, k27, k28, k29, k30, k31, k32, k33, k34, k35, k36, k37, k38]
def interned : List (Array UInt16 × Addr) := []
def slotsUsed : Nat := 36
def theMethod : MethodId := ⟨1, 1⟩
def args0 : Array Value := #[.int 1, .int 65, .int 6, .int 7]
def aboutOver (below : List Frame) : State where
  vm := { classes := classes, interned := interned.toArray }
  heap := heap
  slotsUsed := slotsUsed
  threads := #[{ frames := .invoking theMethod args0 :: below }]
def below0 : List Frame := [.native { method := ⟨0, 0⟩, args := #[] }]
def about1 : State := aboutOver below0
def p0 : Program := .bare "" "" ""
def e0 : Env := launch0.env 0 0 0
theorem w_frames : about1.frames = Frame.invoking theMethod args0 :: below0 := rfl
set_option maxRecDepth 65536 in
theorem w_args : argsFit about1.vm theMethod args0 = true := by decide +kernel
set_option maxRecDepth 65536 in
theorem w_heap : heapFits about1 = true := by decide +kernel
set_option maxRecDepth 65536 in
theorem w_runnable : about1.curStatus? = some .runnable := by decide +kernel
set_option maxRecDepth 65536 in
theorem w_alone : about1.alone = true := by decide +kernel
set_option maxRecDepth 65536 in
theorem w_named : about1.methodNamed? x = some theMethod := by decide +kernel
set_option maxRecDepth 65536 in
theorem w_hears : about1.hears theMethod below0 = true := by decide +kernel
set_option maxRecDepth 65536 in
theorem w_ripe : about1.ripe theMethod args0 below0 = true := by decide +kernel
theorem w_running : about1.status = .running := rfl
set_option maxRecDepth 65536 in
theorem w_room : about1.hasRoom e0.platform room_1 = true :=
  launch0.hasRoom_least _ room_1 (by decide +kernel) (by decide +kernel) (by decide +kernel) (by decide +kernel) (by decide +kernel) (by decide +kernel)
theorem allAtoms_all (ts : List Jvm.Cond) (a : Array Jvm.Value) (st : Jvm.State) : (allAtoms ts).before a st = ts.all (fun c => c.before a st) := by
  induction ts with
  | nil => rfl
  | cons c t ih =>
    show (Jvm.Cond.and c (allAtoms t)).before a st = _
    rw [Jvm.Cond.before_and, ih, List.all_cons]
def words1 : List Jvm.Cond := Jvm.Cond.code x code maxLocals ret :: tables_1
/-- a 'code' word, met by the world's own term for the bytes: nothing is compared byte by byte -/
theorem code_word {y : MethodName} {bytes : ByteArray} {mx : Nat} {rt : Option FieldType} {a : Array Value} {s : State} {m : MethodId} {meth : Method} {c : Code} (h1 : s.methodNamed? y = some m) (h2 : s.vm.method? m = some meth) (h3 : meth.code = some c) (h4 : c.code = bytes)
    (h5 : (c.maxLocals == mx && c.exceptionTable.isEmpty && decide (c.maxStack ≤ mostOperands) && decide (meth.sig.returnType = rt) && !meth.locks && decide (parseMethodDescriptor y.desc = some meth.sig)) = true) : (Jvm.Cond.code y bytes mx rt).before a s = true := by
  simp only [Bool.and_eq_true, beq_iff_eq, Bool.not_eq_true', decide_eq_true_eq] at h5
  obtain ⟨⟨⟨⟨⟨g1, g2⟩, g3⟩, g4⟩, g5⟩, g6⟩ := h5
  simp [Cond.before, Cond.holds, Cond.value, h1, h2, h3, h4, g1, g2, g3, g4, g5, g6]
def isCode : Jvm.Cond → Bool
  | .code _ _ _ _ => true
  | _ => false
theorem all_split {L : List Jvm.Cond} {P : Jvm.Cond → Bool} (h1 : L.all (fun c => isCode c || P c) = true) (h2 : ∀ c ∈ L.filter isCode, P c = true) : L.all P = true := by
  refine List.all_eq_true.mpr fun c hc => ?_
  have h := List.all_eq_true.mp h1 c hc
  rcases Bool.eq_false_or_eq_true (isCode c) with hi | hi
  · exact h2 c (List.mem_filter.mpr ⟨hc, hi⟩)
  · simpa [hi] using h
set_option maxRecDepth 65536 in
theorem w_c0 : (Jvm.Cond.code x code maxLocals ret).before args0 about1 = true := code_word (m := ⟨1, 1⟩) (meth := k1m1) (c := k1c1) (by decide +kernel) rfl rfl rfl (by decide +kernel)
set_option maxRecDepth 65536 in
theorem w_c1 : (Jvm.Cond.code ({ cls := "java/lang/String", name := "<init>", desc := "([C)V" } : Jvm.MethodName) jdk_42_method_3_code (2 : Nat) (Option.none : Option Jvm.ClassFile.FieldType)).before args0 about1 = true := code_word (m := ⟨7, 1⟩) (meth := k7m1) (c := k7c1) (by decide +kernel) rfl rfl rfl (by decide +kernel)
set_option maxRecDepth 65536 in
theorem w_c2 : (Jvm.Cond.code ({ cls := "java/lang/String", name := "<init>", desc := "([CIILjava/lang/Void;)V" } : Jvm.MethodName) jdk_42_method_149_code (6 : Nat) (Option.none : Option Jvm.ClassFile.FieldType)).before args0 about1 = true := code_word (m := ⟨7, 7⟩) (meth := k7m7) (c := k7c7) (by decide +kernel) rfl rfl rfl (by decide +kernel)
set_option maxRecDepth 65536 in
theorem w_c3 : (Jvm.Cond.code ({ cls := "java/lang/Object", name := "<init>", desc := "()V" } : Jvm.MethodName) object_method_1_code (1 : Nat) (Option.none : Option Jvm.ClassFile.FieldType)).before args0 about1 = true := code_word (m := ⟨0, 0⟩) (meth := k0m0) (c := k0c0) (by decide +kernel) rfl rfl rfl (by decide +kernel)
set_option maxRecDepth 65536 in
theorem w_c4 : (Jvm.Cond.code ({ cls := "com/example/congruent/congruent/io/UnreadableInputException", name := "notUtf8", desc := "(Ljava/lang/String;)Lcom/example/congruent/congruent/io/UnreadableInputException;" } : Jvm.MethodName) prog_13_method_2_code (1 : Nat) (Option.some (Jvm.ClassFile.FieldType.object "com/example/congruent/congruent/io/UnreadableInputException"))).before args0 about1 = true := code_word (m := ⟨10, 1⟩) (meth := k10m1) (c := k10c1) (by decide +kernel) rfl rfl rfl (by decide +kernel)
set_option maxRecDepth 65536 in
theorem w_c5 : (Jvm.Cond.code ({ cls := "java/lang/StringBuilder", name := "<init>", desc := "()V" } : Jvm.MethodName) jdk_67_method_1_code (1 : Nat) (Option.none : Option Jvm.ClassFile.FieldType)).before args0 about1 = true := code_word (m := ⟨13, 0⟩) (meth := k13m0) (c := k13c0) (by decide +kernel) rfl rfl rfl (by decide +kernel)
set_option maxRecDepth 65536 in
theorem w_c6 : (Jvm.Cond.code ({ cls := "java/lang/AbstractStringBuilder", name := "<init>", desc := "(I)V" } : Jvm.MethodName) jdk_68_method_2_code (2 : Nat) (Option.none : Option Jvm.ClassFile.FieldType)).before args0 about1 = true := code_word (m := ⟨12, 1⟩) (meth := k12m1) (c := k12c1) (by decide +kernel) rfl rfl rfl (by decide +kernel)
set_option maxRecDepth 65536 in
theorem w_c7 : (Jvm.Cond.code ({ cls := "java/lang/StringBuilder", name := "append", desc := "(Ljava/lang/String;)Ljava/lang/StringBuilder;" } : Jvm.MethodName) jdk_67_method_7_code (2 : Nat) (Option.some (Jvm.ClassFile.FieldType.object "java/lang/StringBuilder"))).before args0 about1 = true := code_word (m := ⟨13, 1⟩) (meth := k13m1) (c := k13c1) (by decide +kernel) rfl rfl rfl (by decide +kernel)
set_option maxRecDepth 65536 in
theorem w_c8 : (Jvm.Cond.code ({ cls := "java/lang/AbstractStringBuilder", name := "append", desc := "(Ljava/lang/String;)Ljava/lang/AbstractStringBuilder;" } : Jvm.MethodName) jdk_68_method_22_code (3 : Nat) (Option.some (Jvm.ClassFile.FieldType.object "java/lang/AbstractStringBuilder"))).before args0 about1 = true := code_word (m := ⟨12, 6⟩) (meth := k12m6) (c := k12c6) (by decide +kernel) rfl rfl rfl (by decide +kernel)
set_option maxRecDepth 65536 in
theorem w_c9 : (Jvm.Cond.code ({ cls := "java/lang/String", name := "length", desc := "()I" } : Jvm.MethodName) jdk_42_method_54_code (1 : Nat) (Option.some Jvm.ClassFile.FieldType.int)).before args0 about1 = true := code_word (m := ⟨7, 3⟩) (meth := k7m3) (c := k7c3) (by decide +kernel) rfl rfl rfl (by decide +kernel)
set_option maxRecDepth 65536 in
theorem w_c10 : (Jvm.Cond.code ({ cls := "java/lang/String", name := "coder", desc := "()B" } : Jvm.MethodName) jdk_42_method_152_code (1 : Nat) (Option.some Jvm.ClassFile.FieldType.byte)).before args0 about1 = true := code_word (m := ⟨7, 10⟩) (meth := k7m10) (c := k7c10) (by decide +kernel) rfl rfl rfl (by decide +kernel)
set_option maxRecDepth 65536 in
theorem w_c11 : (Jvm.Cond.code ({ cls := "java/lang/AbstractStringBuilder", name := "ensureCapacityInternal", desc := "(I)V" } : Jvm.MethodName) jdk_68_method_9_code (3 : Nat) (Option.none : Option Jvm.ClassFile.FieldType)).before args0 about1 = true := code_word (m := ⟨12, 3⟩) (meth := k12m3) (c := k12c3) (by decide +kernel) rfl rfl rfl (by decide +kernel)
set_option maxRecDepth 65536 in
theorem w_c12 : (Jvm.Cond.code ({ cls := "java/lang/AbstractStringBuilder", name := "putStringAt", desc := "(ILjava/lang/String;)V" } : Jvm.MethodName) jdk_68_method_73_code (3 : Nat) (Option.none : Option Jvm.ClassFile.FieldType)).before args0 about1 = true := code_word (m := ⟨12, 10⟩) (meth := k12m10) (c := k12c10) (by decide +kernel) rfl rfl rfl (by decide +kernel)
set_option maxRecDepth 65536 in
theorem w_c13 : (Jvm.Cond.code ({ cls := "java/lang/AbstractStringBuilder", name := "inflateIfNeededFor", desc := "(Ljava/lang/String;)V" } : Jvm.MethodName) jdk_68_method_71_code (2 : Nat) (Option.none : Option Jvm.ClassFile.FieldType)).before args0 about1 = true := code_word (m := ⟨12, 9⟩) (meth := k12m9) (c := k12c9) (by decide +kernel) rfl rfl rfl (by decide +kernel)
set_option maxRecDepth 65536 in
theorem w_c14 : (Jvm.Cond.code ({ cls := "java/lang/String", name := "getBytes", desc := "([BIB)V" } : Jvm.MethodName) jdk_42_method_147_code (4 : Nat) (Option.none : Option Jvm.ClassFile.FieldType)).before args0 about1 = true := code_word (m := ⟨7, 6⟩) (meth := k7m6) (c := k7c6) (by decide +kernel) rfl rfl rfl (by decide +kernel)
set_option maxRecDepth 65536 in
theorem w_c15 : (Jvm.Cond.code ({ cls := "java/lang/StringBuilder", name := "toString", desc := "()Ljava/lang/String;" } : Jvm.MethodName) jdk_67_method_42_code (1 : Nat) (Option.some (Jvm.ClassFile.FieldType.object "java/lang/String"))).before args0 about1 = true := code_word (m := ⟨13, 2⟩) (meth := k13m2) (c := k13c2) (by decide +kernel) rfl rfl rfl (by decide +kernel)
set_option maxRecDepth 65536 in
theorem w_c16 : (Jvm.Cond.code ({ cls := "java/lang/String", name := "<init>", desc := "(Ljava/lang/StringBuilder;)V" } : Jvm.MethodName) jdk_42_method_53_code (2 : Nat) (Option.none : Option Jvm.ClassFile.FieldType)).before args0 about1 = true := code_word (m := ⟨7, 2⟩) (meth := k7m2) (c := k7c2) (by decide +kernel) rfl rfl rfl (by decide +kernel)
set_option maxRecDepth 65536 in
theorem w_c17 : (Jvm.Cond.code ({ cls := "java/lang/String", name := "<init>", desc := "(Ljava/lang/AbstractStringBuilder;Ljava/lang/Void;)V" } : Jvm.MethodName) jdk_42_method_150_code (5 : Nat) (Option.none : Option Jvm.ClassFile.FieldType)).before args0 about1 = true := code_word (m := ⟨7, 8⟩) (meth := k7m8) (c := k7c8) (by decide +kernel) rfl rfl rfl (by decide +kernel)
set_option maxRecDepth 65536 in
theorem w_c18 : (Jvm.Cond.code ({ cls := "java/lang/AbstractStringBuilder", name := "getValue", desc := "()[B" } : Jvm.MethodName) jdk_68_method_64_code (1 : Nat) (Option.some (Jvm.ClassFile.FieldType.array Jvm.ClassFile.FieldType.byte))).before args0 about1 = true := code_word (m := ⟨12, 7⟩) (meth := k12m7) (c := k12c7) (by decide +kernel) rfl rfl rfl (by decide +kernel)
set_option maxRecDepth 65536 in
theorem w_c19 : (Jvm.Cond.code ({ cls := "java/lang/StringBuilder", name := "length", desc := "()I" } : Jvm.MethodName) jdk_67_method_93_code (1 : Nat) (Option.some Jvm.ClassFile.FieldType.int)).before args0 about1 = true := code_word (m := ⟨13, 3⟩) (meth := k13m3) (c := k13c3) (by decide +kernel) rfl rfl rfl (by decide +kernel)
set_option maxRecDepth 65536 in
theorem w_c20 : (Jvm.Cond.code ({ cls := "java/lang/AbstractStringBuilder", name := "length", desc := "()I" } : Jvm.MethodName) jdk_68_method_6_code (1 : Nat) (Option.some Jvm.ClassFile.FieldType.int)).before args0 about1 = true := code_word (m := ⟨12, 2⟩) (meth := k12m2) (c := k12c2) (by decide +kernel) rfl rfl rfl (by decide +kernel)
set_option maxRecDepth 65536 in
theorem w_c21 : (Jvm.Cond.code ({ cls := "java/lang/AbstractStringBuilder", name := "isLatin1", desc := "()Z" } : Jvm.MethodName) jdk_68_method_68_code (1 : Nat) (Option.some Jvm.ClassFile.FieldType.boolean)).before args0 about1 = true := code_word (m := ⟨12, 8⟩) (meth := k12m8) (c := k12c8) (by decide +kernel) rfl rfl rfl (by decide +kernel)
set_option maxRecDepth 65536 in
theorem w_c22 : (Jvm.Cond.code ({ cls := "java/util/Arrays", name := "copyOfRange", desc := "([BII)[B" } : Jvm.MethodName) jdk_65_method_132_code (3 : Nat) (Option.some (Jvm.ClassFile.FieldType.array Jvm.ClassFile.FieldType.byte))).before args0 about1 = true := code_word (m := ⟨15, 3⟩) (meth := k15m3) (c := k15c3) (by decide +kernel) rfl rfl rfl (by decide +kernel)
set_option maxRecDepth 65536 in
theorem w_c23 : (Jvm.Cond.code ({ cls := "com/example/congruent/congruent/io/UnreadableInputException", name := "<init>", desc := "(Ljava/lang/String;)V" } : Jvm.MethodName) prog_13_method_1_code (2 : Nat) (Option.none : Option Jvm.ClassFile.FieldType)).before args0 about1 = true := code_word (m := ⟨10, 0⟩) (meth := k10m0) (c := k10c0) (by decide +kernel) rfl rfl rfl (by decide +kernel)
set_option maxRecDepth 65536 in
theorem w_c24 : (Jvm.Cond.code ({ cls := "java/lang/Exception", name := "<init>", desc := "(Ljava/lang/String;)V" } : Jvm.MethodName) jdk_59_method_2_code (2 : Nat) (Option.none : Option Jvm.ClassFile.FieldType)).before args0 about1 = true := code_word (m := ⟨9, 1⟩) (meth := k9m1) (c := k9c1) (by decide +kernel) rfl rfl rfl (by decide +kernel)
set_option maxRecDepth 65536 in
theorem w_c25 : (Jvm.Cond.code ({ cls := "java/lang/Throwable", name := "<init>", desc := "(Ljava/lang/String;)V" } : Jvm.MethodName) jdk_78_method_2_code (2 : Nat) (Option.none : Option Jvm.ClassFile.FieldType)).before args0 about1 = true := code_word (m := ⟨8, 1⟩) (meth := k8m1) (c := k8c1) (by decide +kernel) rfl rfl rfl (by decide +kernel)
set_option maxRecDepth 65536 in
theorem w_c26 : (Jvm.Cond.code ({ cls := "java/lang/Throwable", name := "<init>", desc := "()V" } : Jvm.MethodName) jdk_78_method_1_code (1 : Nat) (Option.none : Option Jvm.ClassFile.FieldType)).before args0 about1 = true := code_word (m := ⟨8, 0⟩) (meth := k8m0) (c := k8c0) (by decide +kernel) rfl rfl rfl (by decide +kernel)
set_option maxRecDepth 65536 in
theorem w_c27 : (Jvm.Cond.code ({ cls := "java/lang/Throwable", name := "getMessage", desc := "()Ljava/lang/String;" } : Jvm.MethodName) jdk_78_method_6_code (1 : Nat) (Option.some (Jvm.ClassFile.FieldType.object "java/lang/String"))).before args0 about1 = true := code_word (m := ⟨8, 2⟩) (meth := k8m2) (c := k8c2) (by decide +kernel) rfl rfl rfl (by decide +kernel)
set_option maxRecDepth 65536 in
theorem w_c28 : (Jvm.Cond.code ({ cls := "com/example/congruent/congruent/io/UnreadableInputExceptionNotUtf8PinLaw", name := "suffixAt", desc := "(Ljava/lang/String;I)Z" } : Jvm.MethodName) method_3_code (2 : Nat) (Option.some Jvm.ClassFile.FieldType.boolean)).before args0 about1 = true := code_word (m := ⟨1, 2⟩) (meth := k1m2) (c := k1c2) (by decide +kernel) rfl rfl rfl (by decide +kernel)
set_option maxRecDepth 65536 in
theorem w_c29 : (Jvm.Cond.code ({ cls := "java/lang/String", name := "charAt", desc := "(I)C" } : Jvm.MethodName) jdk_42_method_56_code (2 : Nat) (Option.some Jvm.ClassFile.FieldType.char)).before args0 about1 = true := code_word (m := ⟨7, 4⟩) (meth := k7m4) (c := k7c4) (by decide +kernel) rfl rfl rfl (by decide +kernel)
set_option maxRecDepth 65536 in
theorem w_c30 : (Jvm.Cond.code ({ cls := "java/lang/String", name := "isLatin1", desc := "()Z" } : Jvm.MethodName) jdk_42_method_154_code (1 : Nat) (Option.some Jvm.ClassFile.FieldType.boolean)).before args0 about1 = true := code_word (m := ⟨7, 11⟩) (meth := k7m11) (c := k7c11) (by decide +kernel) rfl rfl rfl (by decide +kernel)
set_option maxRecDepth 65536 in
theorem w_c31 : (Jvm.Cond.code ({ cls := "java/lang/StringLatin1", name := "charAt", desc := "([BI)C" } : Jvm.MethodName) jdk_43_method_2_code (2 : Nat) (Option.some Jvm.ClassFile.FieldType.char)).before args0 about1 = true := code_word (m := ⟨17, 1⟩) (meth := k17m1) (c := k17c1) (by decide +kernel) rfl rfl rfl (by decide +kernel)
set_option maxRecDepth 65536 in
theorem w_c32 : (Jvm.Cond.code ({ cls := "java/lang/String", name := "checkIndex", desc := "(II)V" } : Jvm.MethodName) jdk_42_method_155_code (2 : Nat) (Option.none : Option Jvm.ClassFile.FieldType)).before args0 about1 = true := code_word (m := ⟨7, 12⟩) (meth := k7m12) (c := k7c12) (by decide +kernel) rfl rfl rfl (by decide +kernel)
set_option maxRecDepth 65536 in
theorem w_c33 : (Jvm.Cond.code ({ cls := "jdk/internal/util/Preconditions", name := "checkIndex", desc := "(IILjava/util/function/BiFunction;)I" } : Jvm.MethodName) jdk_41_method_11_code (3 : Nat) (Option.some Jvm.ClassFile.FieldType.int)).before args0 about1 = true := code_word (m := ⟨18, 1⟩) (meth := k18m1) (c := k18c1) (by decide +kernel) rfl rfl rfl (by decide +kernel)
set_option maxRecDepth 65536 in
theorem w_c34 : (Jvm.Cond.code ({ cls := "java/lang/StringUTF16", name := "compress", desc := "([CII)[B" } : Jvm.MethodName) jdk_52_method_16_code (6 : Nat) (Option.some (Jvm.ClassFile.FieldType.array Jvm.ClassFile.FieldType.byte))).before args0 about1 = true := code_word (m := ⟨19, 8⟩) (meth := k19m8) (c := k19c8) (by decide +kernel) rfl rfl rfl (by decide +kernel)
set_option maxRecDepth 65536 in
theorem w_c35 : (Jvm.Cond.code ({ cls := "java/lang/StringUTF16", name := "compress", desc := "([CI[BII)I" } : Jvm.MethodName) jdk_52_method_21_code (7 : Nat) (Option.some Jvm.ClassFile.FieldType.int)).before args0 about1 = true := code_word (m := ⟨19, 9⟩) (meth := k19m9) (c := k19c9) (by decide +kernel) rfl rfl rfl (by decide +kernel)
set_option maxRecDepth 65536 in
theorem w_c36 : (Jvm.Cond.code ({ cls := "java/lang/StringUTF16", name := "coderFromArrayLen", desc := "([BI)B" } : Jvm.MethodName) jdk_52_method_15_code (2 : Nat) (Option.some Jvm.ClassFile.FieldType.byte)).before args0 about1 = true := code_word (m := ⟨19, 7⟩) (meth := k19m7) (c := k19c7) (by decide +kernel) rfl rfl rfl (by decide +kernel)
set_option maxRecDepth 65536 in
theorem w_c37 : (Jvm.Cond.code ({ cls := "java/lang/AbstractStringBuilder", name := "newCapacity", desc := "(I)I" } : Jvm.MethodName) jdk_68_method_10_code (6 : Nat) (Option.some Jvm.ClassFile.FieldType.int)).before args0 about1 = true := code_word (m := ⟨12, 4⟩) (meth := k12m4) (c := k12c4) (by decide +kernel) rfl rfl rfl (by decide +kernel)
set_option maxRecDepth 65536 in
theorem w_c38 : (Jvm.Cond.code ({ cls := "jdk/internal/util/ArraysSupport", name := "newLength", desc := "(III)I" } : Jvm.MethodName) jdk_48_method_27_code (4 : Nat) (Option.some Jvm.ClassFile.FieldType.int)).before args0 about1 = true := code_word (m := ⟨20, 1⟩) (meth := k20m1) (c := k20c1) (by decide +kernel) rfl rfl rfl (by decide +kernel)
set_option maxRecDepth 65536 in
theorem w_c39 : (Jvm.Cond.code ({ cls := "java/lang/Math", name := "max", desc := "(II)I" } : Jvm.MethodName) jdk_29_method_65_code (2 : Nat) (Option.some Jvm.ClassFile.FieldType.int)).before args0 about1 = true := code_word (m := ⟨21, 1⟩) (meth := k21m1) (c := k21c1) (by decide +kernel) rfl rfl rfl (by decide +kernel)
set_option maxRecDepth 65536 in
theorem w_c40 : (Jvm.Cond.code ({ cls := "java/util/Arrays", name := "copyOf", desc := "([BI)[B" } : Jvm.MethodName) jdk_65_method_121_code (3 : Nat) (Option.some (Jvm.ClassFile.FieldType.array Jvm.ClassFile.FieldType.byte))).before args0 about1 = true := code_word (m := ⟨15, 1⟩) (meth := k15m1) (c := k15c1) (by decide +kernel) rfl rfl rfl (by decide +kernel)
set_option maxRecDepth 65536 in
theorem w_c41 : (Jvm.Cond.code ({ cls := "java/lang/Math", name := "min", desc := "(II)I" } : Jvm.MethodName) jdk_29_method_69_code (2 : Nat) (Option.some Jvm.ClassFile.FieldType.int)).before args0 about1 = true := code_word (m := ⟨21, 2⟩) (meth := k21m2) (c := k21c2) (by decide +kernel) rfl rfl rfl (by decide +kernel)
set_option maxRecDepth 65536 in
theorem w_c42 : (Jvm.Cond.code ({ cls := "java/util/Arrays", name := "copyOfRangeByte", desc := "([BII)[B" } : Jvm.MethodName) jdk_65_method_133_code (5 : Nat) (Option.some (Jvm.ClassFile.FieldType.array Jvm.ClassFile.FieldType.byte))).before args0 about1 = true := code_word (m := ⟨15, 4⟩) (meth := k15m4) (c := k15c4) (by decide +kernel) rfl rfl rfl (by decide +kernel)
set_option maxRecDepth 65536 in
theorem w_c43 : (Jvm.Cond.code ({ cls := "java/util/Arrays", name := "checkLength", desc := "(II)V" } : Jvm.MethodName) jdk_65_method_131_code (2 : Nat) (Option.none : Option Jvm.ClassFile.FieldType)).before args0 about1 = true := code_word (m := ⟨15, 2⟩) (meth := k15m2) (c := k15c2) (by decide +kernel) rfl rfl rfl (by decide +kernel)
set_option maxRecDepth 65536 in
theorem w_c44 : (Jvm.Cond.code ({ cls := "java/lang/StringUTF16", name := "toBytes", desc := "([CII)[B" } : Jvm.MethodName) jdk_52_method_14_code (5 : Nat) (Option.some (Jvm.ClassFile.FieldType.array Jvm.ClassFile.FieldType.byte))).before args0 about1 = true := code_word (m := ⟨19, 6⟩) (meth := k19m6) (c := k19c6) (by decide +kernel) rfl rfl rfl (by decide +kernel)
set_option maxRecDepth 65536 in
theorem w_c45 : (Jvm.Cond.code ({ cls := "java/lang/StringUTF16", name := "newBytesFor", desc := "(I)[B" } : Jvm.MethodName) jdk_52_method_2_code (1 : Nat) (Option.some (Jvm.ClassFile.FieldType.array Jvm.ClassFile.FieldType.byte))).before args0 about1 = true := code_word (m := ⟨19, 1⟩) (meth := k19m1) (c := k19c1) (by decide +kernel) rfl rfl rfl (by decide +kernel)
set_option maxRecDepth 65536 in
theorem w_c46 : (Jvm.Cond.code ({ cls := "java/lang/StringUTF16", name := "newBytesLength", desc := "(I)I" } : Jvm.MethodName) jdk_52_method_3_code (1 : Nat) (Option.some Jvm.ClassFile.FieldType.int)).before args0 about1 = true := code_word (m := ⟨19, 2⟩) (meth := k19m2) (c := k19c2) (by decide +kernel) rfl rfl rfl (by decide +kernel)
set_option maxRecDepth 65536 in
theorem w_c47 : (Jvm.Cond.code ({ cls := "java/lang/StringUTF16", name := "putChar", desc := "([BII)V" } : Jvm.MethodName) jdk_52_method_4_code (3 : Nat) (Option.none : Option Jvm.ClassFile.FieldType)).before args0 about1 = true := code_word (m := ⟨19, 3⟩) (meth := k19m3) (c := k19c3) (by decide +kernel) rfl rfl rfl (by decide +kernel)
set_option maxRecDepth 65536 in
theorem w_c48 : (Jvm.Cond.code ({ cls := "java/lang/StringUTF16", name := "getChar", desc := "([BI)C" } : Jvm.MethodName) jdk_52_method_5_code (2 : Nat) (Option.some Jvm.ClassFile.FieldType.char)).before args0 about1 = true := code_word (m := ⟨19, 4⟩) (meth := k19m4) (c := k19c4) (by decide +kernel) rfl rfl rfl (by decide +kernel)
set_option maxRecDepth 65536 in
theorem w_c49 : (Jvm.Cond.code ({ cls := "java/lang/AbstractStringBuilder", name := "inflate", desc := "()V" } : Jvm.MethodName) jdk_68_method_11_code (2 : Nat) (Option.none : Option Jvm.ClassFile.FieldType)).before args0 about1 = true := code_word (m := ⟨12, 5⟩) (meth := k12m5) (c := k12c5) (by decide +kernel) rfl rfl rfl (by decide +kernel)
set_option maxRecDepth 65536 in
theorem w_c50 : (Jvm.Cond.code ({ cls := "java/lang/StringLatin1", name := "inflate", desc := "([BI[BII)V" } : Jvm.MethodName) jdk_43_method_50_code (5 : Nat) (Option.none : Option Jvm.ClassFile.FieldType)).before args0 about1 = true := code_word (m := ⟨17, 4⟩) (meth := k17m4) (c := k17c4) (by decide +kernel) rfl rfl rfl (by decide +kernel)
set_option maxRecDepth 65536 in
theorem w_c51 : (Jvm.Cond.code ({ cls := "java/lang/StringUTF16", name := "inflate", desc := "([BI[BII)V" } : Jvm.MethodName) jdk_52_method_86_code (6 : Nat) (Option.none : Option Jvm.ClassFile.FieldType)).before args0 about1 = true := code_word (m := ⟨19, 12⟩) (meth := k19m12) (c := k19c12) (by decide +kernel) rfl rfl rfl (by decide +kernel)
set_option maxRecDepth 65536 in
theorem w_c52 : (Jvm.Cond.code ({ cls := "java/lang/StringUTF16", name := "checkBoundsOffCount", desc := "(II[B)V" } : Jvm.MethodName) jdk_52_method_94_code (3 : Nat) (Option.none : Option Jvm.ClassFile.FieldType)).before args0 about1 = true := code_word (m := ⟨19, 14⟩) (meth := k19m14) (c := k19c14) (by decide +kernel) rfl rfl rfl (by decide +kernel)
set_option maxRecDepth 65536 in
theorem w_c53 : (Jvm.Cond.code ({ cls := "java/lang/StringUTF16", name := "length", desc := "([B)I" } : Jvm.MethodName) jdk_52_method_6_code (1 : Nat) (Option.some Jvm.ClassFile.FieldType.int)).before args0 about1 = true := code_word (m := ⟨19, 5⟩) (meth := k19m5) (c := k19c5) (by decide +kernel) rfl rfl rfl (by decide +kernel)
set_option maxRecDepth 65536 in
theorem w_c54 : (Jvm.Cond.code ({ cls := "java/lang/String", name := "checkBoundsOffCount", desc := "(III)I" } : Jvm.MethodName) jdk_42_method_157_code (3 : Nat) (Option.some Jvm.ClassFile.FieldType.int)).before args0 about1 = true := code_word (m := ⟨7, 13⟩) (meth := k7m13) (c := k7c13) (by decide +kernel) rfl rfl rfl (by decide +kernel)
set_option maxRecDepth 65536 in
theorem w_c55 : (Jvm.Cond.code ({ cls := "jdk/internal/util/Preconditions", name := "checkFromIndexSize", desc := "(IIILjava/util/function/BiFunction;)I" } : Jvm.MethodName) jdk_41_method_13_code (4 : Nat) (Option.some Jvm.ClassFile.FieldType.int)).before args0 about1 = true := code_word (m := ⟨18, 2⟩) (meth := k18m2) (c := k18c2) (by decide +kernel) rfl rfl rfl (by decide +kernel)
set_option maxRecDepth 65536 in
theorem w_c56 : (Jvm.Cond.code ({ cls := "java/lang/StringUTF16", name := "charAt", desc := "([BI)C" } : Jvm.MethodName) jdk_52_method_83_code (2 : Nat) (Option.some Jvm.ClassFile.FieldType.char)).before args0 about1 = true := code_word (m := ⟨19, 11⟩) (meth := k19m11) (c := k19c11) (by decide +kernel) rfl rfl rfl (by decide +kernel)
set_option maxRecDepth 65536 in
theorem w_c57 : (Jvm.Cond.code ({ cls := "java/lang/StringUTF16", name := "checkIndex", desc := "(I[B)V" } : Jvm.MethodName) jdk_52_method_91_code (2 : Nat) (Option.none : Option Jvm.ClassFile.FieldType)).before args0 about1 = true := code_word (m := ⟨19, 13⟩) (meth := k19m13) (c := k19c13) (by decide +kernel) rfl rfl rfl (by decide +kernel)
set_option maxRecDepth 65536 in
theorem w_c58 : (Jvm.Cond.code ({ cls := "java/lang/String", name := "valueOf", desc := "(C)Ljava/lang/String;" } : Jvm.MethodName) jdk_42_method_139_code (1 : Nat) (Option.some (Jvm.ClassFile.FieldType.object "java/lang/String"))).before args0 about1 = true := code_word (m := ⟨7, 5⟩) (meth := k7m5) (c := k7c5) (by decide +kernel) rfl rfl rfl (by decide +kernel)
set_option maxRecDepth 65536 in
theorem w_c59 : (Jvm.Cond.code ({ cls := "java/lang/StringLatin1", name := "canEncode", desc := "(C)Z" } : Jvm.MethodName) jdk_43_method_3_code (1 : Nat) (Option.some Jvm.ClassFile.FieldType.boolean)).before args0 about1 = true := code_word (m := ⟨17, 2⟩) (meth := k17m2) (c := k17c2) (by decide +kernel) rfl rfl rfl (by decide +kernel)
set_option maxRecDepth 65536 in
theorem w_c60 : (Jvm.Cond.code ({ cls := "java/lang/StringLatin1", name := "toBytes", desc := "(C)[B" } : Jvm.MethodName) jdk_43_method_46_code (1 : Nat) (Option.some (Jvm.ClassFile.FieldType.array Jvm.ClassFile.FieldType.byte))).before args0 about1 = true := code_word (m := ⟨17, 3⟩) (meth := k17m3) (c := k17c3) (by decide +kernel) rfl rfl rfl (by decide +kernel)
set_option maxRecDepth 65536 in
theorem w_c61 : (Jvm.Cond.code ({ cls := "java/lang/String", name := "<init>", desc := "([BB)V" } : Jvm.MethodName) jdk_42_method_151_code (3 : Nat) (Option.none : Option Jvm.ClassFile.FieldType)).before args0 about1 = true := code_word (m := ⟨7, 9⟩) (meth := k7m9) (c := k7c9) (by decide +kernel) rfl rfl rfl (by decide +kernel)
set_option maxRecDepth 65536 in
theorem w_c62 : (Jvm.Cond.code ({ cls := "java/lang/StringUTF16", name := "toBytes", desc := "(C)[B" } : Jvm.MethodName) jdk_52_method_24_code (2 : Nat) (Option.some (Jvm.ClassFile.FieldType.array Jvm.ClassFile.FieldType.byte))).before args0 about1 = true := code_word (m := ⟨19, 10⟩) (meth := k19m10) (c := k19c10) (by decide +kernel) rfl rfl rfl (by decide +kernel)
def codes1 : List Jvm.Cond := [Jvm.Cond.code x code maxLocals ret, Jvm.Cond.code ({ cls := "java/lang/String", name := "<init>", desc := "([C)V" } : Jvm.MethodName) jdk_42_method_3_code (2 : Nat) (Option.none : Option Jvm.ClassFile.FieldType), Jvm.Cond.code ({ cls := "java/lang/String", name := "<init>", desc := "([CIILjava/lang/Void;)V" } : Jvm.MethodName) jdk_42_method_149_code (6 : Nat) (Option.none : Option Jvm.ClassFile.FieldType), Jvm.Cond.code ({ cls := "java/lang/Object", name := "<init>", desc := "()V" } : Jvm.MethodName) object_method_1_code (1 : Nat) (Option.none : Option Jvm.ClassFile.FieldType), Jvm.Cond.code ({ cls := "com/example/congruent/congruent/io/UnreadableInputException", name := "notUtf8", desc := "(Ljava/lang/String;)Lcom/example/congruent/congruent/io/UnreadableInputException;" } : Jvm.MethodName) prog_13_method_2_code (1 : Nat) (Option.some (Jvm.ClassFile.FieldType.object "com/example/congruent/congruent/io/UnreadableInputException")), Jvm.Cond.code ({ cls := "java/lang/StringBuilder", name := "<init>", desc := "()V" } : Jvm.MethodName) jdk_67_method_1_code (1 : Nat) (Option.none : Option Jvm.ClassFile.FieldType), Jvm.Cond.code ({ cls := "java/lang/AbstractStringBuilder", name := "<init>", desc := "(I)V" } : Jvm.MethodName) jdk_68_method_2_code (2 : Nat) (Option.none : Option Jvm.ClassFile.FieldType), Jvm.Cond.code ({ cls := "java/lang/StringBuilder", name := "append", desc := "(Ljava/lang/String;)Ljava/lang/StringBuilder;" } : Jvm.MethodName) jdk_67_method_7_code (2 : Nat) (Option.some (Jvm.ClassFile.FieldType.object "java/lang/StringBuilder")), Jvm.Cond.code ({ cls := "java/lang/AbstractStringBuilder", name := "append", desc := "(Ljava/lang/String;)Ljava/lang/AbstractStringBuilder;" } : Jvm.MethodName) jdk_68_method_22_code (3 : Nat) (Option.some (Jvm.ClassFile.FieldType.object "java/lang/AbstractStringBuilder")), Jvm.Cond.code ({ cls := "java/lang/String", name := "length", desc := "()I" } : Jvm.MethodName) jdk_42_method_54_code (1 : Nat) (Option.some Jvm.ClassFile.FieldType.int), Jvm.Cond.code ({ cls := "java/lang/String", name := "coder", desc := "()B" } : Jvm.MethodName) jdk_42_method_152_code (1 : Nat) (Option.some Jvm.ClassFile.FieldType.byte), Jvm.Cond.code ({ cls := "java/lang/AbstractStringBuilder", name := "ensureCapacityInternal", desc := "(I)V" } : Jvm.MethodName) jdk_68_method_9_code (3 : Nat) (Option.none : Option Jvm.ClassFile.FieldType), Jvm.Cond.code ({ cls := "java/lang/AbstractStringBuilder", name := "putStringAt", desc := "(ILjava/lang/String;)V" } : Jvm.MethodName) jdk_68_method_73_code (3 : Nat) (Option.none : Option Jvm.ClassFile.FieldType), Jvm.Cond.code ({ cls := "java/lang/AbstractStringBuilder", name := "inflateIfNeededFor", desc := "(Ljava/lang/String;)V" } : Jvm.MethodName) jdk_68_method_71_code (2 : Nat) (Option.none : Option Jvm.ClassFile.FieldType), Jvm.Cond.code ({ cls := "java/lang/String", name := "getBytes", desc := "([BIB)V" } : Jvm.MethodName) jdk_42_method_147_code (4 : Nat) (Option.none : Option Jvm.ClassFile.FieldType), Jvm.Cond.code ({ cls := "java/lang/StringBuilder", name := "toString", desc := "()Ljava/lang/String;" } : Jvm.MethodName) jdk_67_method_42_code (1 : Nat) (Option.some (Jvm.ClassFile.FieldType.object "java/lang/String")), Jvm.Cond.code ({ cls := "java/lang/String", name := "<init>", desc := "(Ljava/lang/StringBuilder;)V" } : Jvm.MethodName) jdk_42_method_53_code (2 : Nat) (Option.none : Option Jvm.ClassFile.FieldType), Jvm.Cond.code ({ cls := "java/lang/String", name := "<init>", desc := "(Ljava/lang/AbstractStringBuilder;Ljava/lang/Void;)V" } : Jvm.MethodName) jdk_42_method_150_code (5 : Nat) (Option.none : Option Jvm.ClassFile.FieldType), Jvm.Cond.code ({ cls := "java/lang/AbstractStringBuilder", name := "getValue", desc := "()[B" } : Jvm.MethodName) jdk_68_method_64_code (1 : Nat) (Option.some (Jvm.ClassFile.FieldType.array Jvm.ClassFile.FieldType.byte)), Jvm.Cond.code ({ cls := "java/lang/StringBuilder", name := "length", desc := "()I" } : Jvm.MethodName) jdk_67_method_93_code (1 : Nat) (Option.some Jvm.ClassFile.FieldType.int), Jvm.Cond.code ({ cls := "java/lang/AbstractStringBuilder", name := "length", desc := "()I" } : Jvm.MethodName) jdk_68_method_6_code (1 : Nat) (Option.some Jvm.ClassFile.FieldType.int), Jvm.Cond.code ({ cls := "java/lang/AbstractStringBuilder", name := "isLatin1", desc := "()Z" } : Jvm.MethodName) jdk_68_method_68_code (1 : Nat) (Option.some Jvm.ClassFile.FieldType.boolean), Jvm.Cond.code ({ cls := "java/util/Arrays", name := "copyOfRange", desc := "([BII)[B" } : Jvm.MethodName) jdk_65_method_132_code (3 : Nat) (Option.some (Jvm.ClassFile.FieldType.array Jvm.ClassFile.FieldType.byte)), Jvm.Cond.code ({ cls := "com/example/congruent/congruent/io/UnreadableInputException", name := "<init>", desc := "(Ljava/lang/String;)V" } : Jvm.MethodName) prog_13_method_1_code (2 : Nat) (Option.none : Option Jvm.ClassFile.FieldType), Jvm.Cond.code ({ cls := "java/lang/Exception", name := "<init>", desc := "(Ljava/lang/String;)V" } : Jvm.MethodName) jdk_59_method_2_code (2 : Nat) (Option.none : Option Jvm.ClassFile.FieldType), Jvm.Cond.code ({ cls := "java/lang/Throwable", name := "<init>", desc := "(Ljava/lang/String;)V" } : Jvm.MethodName) jdk_78_method_2_code (2 : Nat) (Option.none : Option Jvm.ClassFile.FieldType), Jvm.Cond.code ({ cls := "java/lang/Throwable", name := "<init>", desc := "()V" } : Jvm.MethodName) jdk_78_method_1_code (1 : Nat) (Option.none : Option Jvm.ClassFile.FieldType), Jvm.Cond.code ({ cls := "java/lang/Throwable", name := "getMessage", desc := "()Ljava/lang/String;" } : Jvm.MethodName) jdk_78_method_6_code (1 : Nat) (Option.some (Jvm.ClassFile.FieldType.object "java/lang/String")), Jvm.Cond.code ({ cls := "com/example/congruent/congruent/io/UnreadableInputExceptionNotUtf8PinLaw", name := "suffixAt", desc := "(Ljava/lang/String;I)Z" } : Jvm.MethodName) method_3_code (2 : Nat) (Option.some Jvm.ClassFile.FieldType.boolean), Jvm.Cond.code ({ cls := "java/lang/String", name := "charAt", desc := "(I)C" } : Jvm.MethodName) jdk_42_method_56_code (2 : Nat) (Option.some Jvm.ClassFile.FieldType.char), Jvm.Cond.code ({ cls := "java/lang/String", name := "isLatin1", desc := "()Z" } : Jvm.MethodName) jdk_42_method_154_code (1 : Nat) (Option.some Jvm.ClassFile.FieldType.boolean), Jvm.Cond.code ({ cls := "java/lang/StringLatin1", name := "charAt", desc := "([BI)C" } : Jvm.MethodName) jdk_43_method_2_code (2 : Nat) (Option.some Jvm.ClassFile.FieldType.char), Jvm.Cond.code ({ cls := "java/lang/String", name := "checkIndex", desc := "(II)V" } : Jvm.MethodName) jdk_42_method_155_code (2 : Nat) (Option.none : Option Jvm.ClassFile.FieldType), Jvm.Cond.code ({ cls := "jdk/internal/util/Preconditions", name := "checkIndex", desc := "(IILjava/util/function/BiFunction;)I" } : Jvm.MethodName) jdk_41_method_11_code (3 : Nat) (Option.some Jvm.ClassFile.FieldType.int), Jvm.Cond.code ({ cls := "java/lang/StringUTF16", name := "compress", desc := "([CII)[B" } : Jvm.MethodName) jdk_52_method_16_code (6 : Nat) (Option.some (Jvm.ClassFile.FieldType.array Jvm.ClassFile.FieldType.byte)), Jvm.Cond.code ({ cls := "java/lang/StringUTF16", name := "compress", desc := "([CI[BII)I" } : Jvm.MethodName) jdk_52_method_21_code (7 : Nat) (Option.some Jvm.ClassFile.FieldType.int), Jvm.Cond.code ({ cls := "java/lang/StringUTF16", name := "coderFromArrayLen", desc := "([BI)B" } : Jvm.MethodName) jdk_52_method_15_code (2 : Nat) (Option.some Jvm.ClassFile.FieldType.byte), Jvm.Cond.code ({ cls := "java/lang/AbstractStringBuilder", name := "newCapacity", desc := "(I)I" } : Jvm.MethodName) jdk_68_method_10_code (6 : Nat) (Option.some Jvm.ClassFile.FieldType.int), Jvm.Cond.code ({ cls := "jdk/internal/util/ArraysSupport", name := "newLength", desc := "(III)I" } : Jvm.MethodName) jdk_48_method_27_code (4 : Nat) (Option.some Jvm.ClassFile.FieldType.int), Jvm.Cond.code ({ cls := "java/lang/Math", name := "max", desc := "(II)I" } : Jvm.MethodName) jdk_29_method_65_code (2 : Nat) (Option.some Jvm.ClassFile.FieldType.int), Jvm.Cond.code ({ cls := "java/util/Arrays", name := "copyOf", desc := "([BI)[B" } : Jvm.MethodName) jdk_65_method_121_code (3 : Nat) (Option.some (Jvm.ClassFile.FieldType.array Jvm.ClassFile.FieldType.byte)), Jvm.Cond.code ({ cls := "java/lang/Math", name := "min", desc := "(II)I" } : Jvm.MethodName) jdk_29_method_69_code (2 : Nat) (Option.some Jvm.ClassFile.FieldType.int), Jvm.Cond.code ({ cls := "java/util/Arrays", name := "copyOfRangeByte", desc := "([BII)[B" } : Jvm.MethodName) jdk_65_method_133_code (5 : Nat) (Option.some (Jvm.ClassFile.FieldType.array Jvm.ClassFile.FieldType.byte)), Jvm.Cond.code ({ cls := "java/util/Arrays", name := "checkLength", desc := "(II)V" } : Jvm.MethodName) jdk_65_method_131_code (2 : Nat) (Option.none : Option Jvm.ClassFile.FieldType), Jvm.Cond.code ({ cls := "java/lang/StringUTF16", name := "toBytes", desc := "([CII)[B" } : Jvm.MethodName) jdk_52_method_14_code (5 : Nat) (Option.some (Jvm.ClassFile.FieldType.array Jvm.ClassFile.FieldType.byte)), Jvm.Cond.code ({ cls := "java/lang/StringUTF16", name := "newBytesFor", desc := "(I)[B" } : Jvm.MethodName) jdk_52_method_2_code (1 : Nat) (Option.some (Jvm.ClassFile.FieldType.array Jvm.ClassFile.FieldType.byte)), Jvm.Cond.code ({ cls := "java/lang/StringUTF16", name := "newBytesLength", desc := "(I)I" } : Jvm.MethodName) jdk_52_method_3_code (1 : Nat) (Option.some Jvm.ClassFile.FieldType.int), Jvm.Cond.code ({ cls := "java/lang/StringUTF16", name := "putChar", desc := "([BII)V" } : Jvm.MethodName) jdk_52_method_4_code (3 : Nat) (Option.none : Option Jvm.ClassFile.FieldType), Jvm.Cond.code ({ cls := "java/lang/StringUTF16", name := "getChar", desc := "([BI)C" } : Jvm.MethodName) jdk_52_method_5_code (2 : Nat) (Option.some Jvm.ClassFile.FieldType.char), Jvm.Cond.code ({ cls := "java/lang/AbstractStringBuilder", name := "inflate", desc := "()V" } : Jvm.MethodName) jdk_68_method_11_code (2 : Nat) (Option.none : Option Jvm.ClassFile.FieldType), Jvm.Cond.code ({ cls := "java/lang/StringLatin1", name := "inflate", desc := "([BI[BII)V" } : Jvm.MethodName) jdk_43_method_50_code (5 : Nat) (Option.none : Option Jvm.ClassFile.FieldType), Jvm.Cond.code ({ cls := "java/lang/StringUTF16", name := "inflate", desc := "([BI[BII)V" } : Jvm.MethodName) jdk_52_method_86_code (6 : Nat) (Option.none : Option Jvm.ClassFile.FieldType), Jvm.Cond.code ({ cls := "java/lang/StringUTF16", name := "checkBoundsOffCount", desc := "(II[B)V" } : Jvm.MethodName) jdk_52_method_94_code (3 : Nat) (Option.none : Option Jvm.ClassFile.FieldType), Jvm.Cond.code ({ cls := "java/lang/StringUTF16", name := "length", desc := "([B)I" } : Jvm.MethodName) jdk_52_method_6_code (1 : Nat) (Option.some Jvm.ClassFile.FieldType.int), Jvm.Cond.code ({ cls := "java/lang/String", name := "checkBoundsOffCount", desc := "(III)I" } : Jvm.MethodName) jdk_42_method_157_code (3 : Nat) (Option.some Jvm.ClassFile.FieldType.int), Jvm.Cond.code ({ cls := "jdk/internal/util/Preconditions", name := "checkFromIndexSize", desc := "(IIILjava/util/function/BiFunction;)I" } : Jvm.MethodName) jdk_41_method_13_code (4 : Nat) (Option.some Jvm.ClassFile.FieldType.int), Jvm.Cond.code ({ cls := "java/lang/StringUTF16", name := "charAt", desc := "([BI)C" } : Jvm.MethodName) jdk_52_method_83_code (2 : Nat) (Option.some Jvm.ClassFile.FieldType.char), Jvm.Cond.code ({ cls := "java/lang/StringUTF16", name := "checkIndex", desc := "(I[B)V" } : Jvm.MethodName) jdk_52_method_91_code (2 : Nat) (Option.none : Option Jvm.ClassFile.FieldType), Jvm.Cond.code ({ cls := "java/lang/String", name := "valueOf", desc := "(C)Ljava/lang/String;" } : Jvm.MethodName) jdk_42_method_139_code (1 : Nat) (Option.some (Jvm.ClassFile.FieldType.object "java/lang/String")), Jvm.Cond.code ({ cls := "java/lang/StringLatin1", name := "canEncode", desc := "(C)Z" } : Jvm.MethodName) jdk_43_method_3_code (1 : Nat) (Option.some Jvm.ClassFile.FieldType.boolean), Jvm.Cond.code ({ cls := "java/lang/StringLatin1", name := "toBytes", desc := "(C)[B" } : Jvm.MethodName) jdk_43_method_46_code (1 : Nat) (Option.some (Jvm.ClassFile.FieldType.array Jvm.ClassFile.FieldType.byte)), Jvm.Cond.code ({ cls := "java/lang/String", name := "<init>", desc := "([BB)V" } : Jvm.MethodName) jdk_42_method_151_code (3 : Nat) (Option.none : Option Jvm.ClassFile.FieldType), Jvm.Cond.code ({ cls := "java/lang/StringUTF16", name := "toBytes", desc := "(C)[B" } : Jvm.MethodName) jdk_52_method_24_code (2 : Nat) (Option.some (Jvm.ClassFile.FieldType.array Jvm.ClassFile.FieldType.byte))]
set_option maxRecDepth 65536 in
theorem codes_eq : words1.filter isCode = codes1 := rfl
theorem w_codes : ∀ c ∈ words1.filter isCode, c.before args0 about1 = true := by
  rw [codes_eq]
  intro c hc
  simp only [codes1, List.mem_cons, List.not_mem_nil, or_false] at hc
  rcases hc with rfl | rfl | rfl | rfl | rfl | rfl | rfl | rfl | rfl | rfl | rfl | rfl | rfl | rfl | rfl | rfl | rfl | rfl | rfl | rfl | rfl | rfl | rfl | rfl | rfl | rfl | rfl | rfl | rfl | rfl | rfl | rfl | rfl | rfl | rfl | rfl | rfl | rfl | rfl | rfl | rfl | rfl | rfl | rfl | rfl | rfl | rfl | rfl | rfl | rfl | rfl | rfl | rfl | rfl | rfl | rfl | rfl | rfl | rfl | rfl | rfl | rfl | rfl
  · exact w_c0
  · exact w_c1
  · exact w_c2
  · exact w_c3
  · exact w_c4
  · exact w_c5
  · exact w_c6
  · exact w_c7
  · exact w_c8
  · exact w_c9
  · exact w_c10
  · exact w_c11
  · exact w_c12
  · exact w_c13
  · exact w_c14
  · exact w_c15
  · exact w_c16
  · exact w_c17
  · exact w_c18
  · exact w_c19
  · exact w_c20
  · exact w_c21
  · exact w_c22
  · exact w_c23
  · exact w_c24
  · exact w_c25
  · exact w_c26
  · exact w_c27
  · exact w_c28
  · exact w_c29
  · exact w_c30
  · exact w_c31
  · exact w_c32
  · exact w_c33
  · exact w_c34
  · exact w_c35
  · exact w_c36
  · exact w_c37
  · exact w_c38
  · exact w_c39
  · exact w_c40
  · exact w_c41
  · exact w_c42
  · exact w_c43
  · exact w_c44
  · exact w_c45
  · exact w_c46
  · exact w_c47
  · exact w_c48
  · exact w_c49
  · exact w_c50
  · exact w_c51
  · exact w_c52
  · exact w_c53
  · exact w_c54
  · exact w_c55
  · exact w_c56
  · exact w_c57
  · exact w_c58
  · exact w_c59
  · exact w_c60
  · exact w_c61
  · exact w_c62
set_option maxRecDepth 65536 in
theorem w_t1 : (words1.take 24).all (fun c => isCode c || c.before args0 about1) = true := by decide +kernel
set_option maxRecDepth 65536 in
theorem w_t2 : ((words1.drop 24).take 24).all (fun c => isCode c || c.before args0 about1) = true := by decide +kernel
set_option maxRecDepth 65536 in
theorem w_t3 : (((words1.drop 24).drop 24).take 24).all (fun c => isCode c || c.before args0 about1) = true := by decide +kernel
set_option maxRecDepth 65536 in
theorem w_t4 : ((((words1.drop 24).drop 24).drop 24).take 24).all (fun c => isCode c || c.before args0 about1) = true := by decide +kernel
set_option maxRecDepth 65536 in
theorem w_t5 : (((((words1.drop 24).drop 24).drop 24).drop 24).take 24).all (fun c => isCode c || c.before args0 about1) = true := by decide +kernel
set_option maxRecDepth 65536 in
theorem w_t6 : ((((((words1.drop 24).drop 24).drop 24).drop 24).drop 24).take 24).all (fun c => isCode c || c.before args0 about1) = true := by decide +kernel
set_option maxRecDepth 65536 in
theorem w_t7 : (((((((words1.drop 24).drop 24).drop 24).drop 24).drop 24).drop 24).take 24).all (fun c => isCode c || c.before args0 about1) = true := by decide +kernel
set_option maxRecDepth 65536 in
theorem w_t8 : ((((((((words1.drop 24).drop 24).drop 24).drop 24).drop 24).drop 24).drop 24).take 24).all (fun c => isCode c || c.before args0 about1) = true := by decide +kernel
set_option maxRecDepth 65536 in
theorem w_t9 : (((((((((words1.drop 24).drop 24).drop 24).drop 24).drop 24).drop 24).drop 24).drop 24).take 24).all (fun c => isCode c || c.before args0 about1) = true := by decide +kernel
set_option maxRecDepth 65536 in
theorem w_t10 : ((((((((((words1.drop 24).drop 24).drop 24).drop 24).drop 24).drop 24).drop 24).drop 24).drop 24).take 24).all (fun c => isCode c || c.before args0 about1) = true := by decide +kernel
set_option maxRecDepth 65536 in
theorem w_t11 : (((((((((((words1.drop 24).drop 24).drop 24).drop 24).drop 24).drop 24).drop 24).drop 24).drop 24).drop 24).take 24).all (fun c => isCode c || c.before args0 about1) = true := by decide +kernel
set_option maxRecDepth 65536 in
theorem w_t12 : ((((((((((((words1.drop 24).drop 24).drop 24).drop 24).drop 24).drop 24).drop 24).drop 24).drop 24).drop 24).drop 24).take 24).all (fun c => isCode c || c.before args0 about1) = true := by decide +kernel
set_option maxRecDepth 65536 in
theorem w_t13 : (((((((((((((words1.drop 24).drop 24).drop 24).drop 24).drop 24).drop 24).drop 24).drop 24).drop 24).drop 24).drop 24).drop 24).take 24).all (fun c => isCode c || c.before args0 about1) = true := by decide +kernel
set_option maxRecDepth 65536 in
theorem w_t14 : (((((((((((((words1.drop 24).drop 24).drop 24).drop 24).drop 24).drop 24).drop 24).drop 24).drop 24).drop 24).drop 24).drop 24).drop 24).all (fun c => isCode c || c.before args0 about1) = true := by decide +kernel
theorem w_tables : (allAtoms (Jvm.Cond.code x code maxLocals ret :: tables_1)).before args0 about1 = true := by
  rw [allAtoms_all]
  show words1.all (fun c => c.before args0 about1) = true
  refine all_split ?_ w_codes
  rw [← List.take_append_drop 24 words1, List.all_append, w_t1, ← List.take_append_drop 24 (words1.drop 24), List.all_append, w_t2, ← List.take_append_drop 24 ((words1.drop 24).drop 24), List.all_append, w_t3, ← List.take_append_drop 24 (((words1.drop 24).drop 24).drop 24), List.all_append, w_t4, ← List.take_append_drop 24 ((((words1.drop 24).drop 24).drop 24).drop 24), List.all_append, w_t5, ← List.take_append_drop 24 (((((words1.drop 24).drop 24).drop 24).drop 24).drop 24), List.all_append, w_t6, ← List.take_append_drop 24 ((((((words1.drop 24).drop 24).drop 24).drop 24).drop 24).drop 24), List.all_append, w_t7, ← List.take_append_drop 24 (((((((words1.drop 24).drop 24).drop 24).drop 24).drop 24).drop 24).drop 24), List.all_append, w_t8, ← List.take_append_drop 24 ((((((((words1.drop 24).drop 24).drop 24).drop 24).drop 24).drop 24).drop 24).drop 24), List.all_append, w_t9, ← List.take_append_drop 24 (((((((((words1.drop 24).drop 24).drop 24).drop 24).drop 24).drop 24).drop 24).drop 24).drop 24), List.all_append, w_t10, ← List.take_append_drop 24 ((((((((((words1.drop 24).drop 24).drop 24).drop 24).drop 24).drop 24).drop 24).drop 24).drop 24).drop 24), List.all_append, w_t11, ← List.take_append_drop 24 (((((((((((words1.drop 24).drop 24).drop 24).drop 24).drop 24).drop 24).drop 24).drop 24).drop 24).drop 24).drop 24), List.all_append, w_t12, ← List.take_append_drop 24 ((((((((((((words1.drop 24).drop 24).drop 24).drop 24).drop 24).drop 24).drop 24).drop 24).drop 24).drop 24).drop 24).drop 24), List.all_append, w_t13, w_t14]
  rfl
set_option maxRecDepth 65536 in
theorem w_rest : rest_1_c.before args0 about1 = true := by decide +kernel
set_option maxRecDepth 65536 in
theorem w_case : (Jvm.Cond.and given_1 narrow_1).before args0 about1 = true := by decide +kernel
set_option maxRecDepth 65536 in
theorem w_consts : constsHeld consts_1 about1 := Jvm.Lit.constsHeldB_iff.mp (by decide +kernel)
theorem w_applies : (headSpec (Jvm.Cond.code x code maxLocals ret :: tables_1) room_1).applies x e0.platform about1 = true :=
  (Spec.applies_iff w_frames).mpr ⟨w_running, w_runnable, w_alone, w_named, w_hears, w_ripe, w_room, w_tables⟩
theorem atStart : AtStart classFile x code maxLocals ret World_1 tables_1 room_1 Calls_1 rest_1 Pre_1 launch0 p0 e0 about1 theMethod args0 below0 :=
  ⟨lists_1, trivial, launch0.admits_env _ _ _, launch0.least_env, fairChoices_fair.cas, fairChoices_fair.clock, w_frames, w_args, w_heap, w_applies, ⟨(by decide +kernel : framesKnown about1 = true), ⟨(by decide +kernel : tablesKnown about1 = true), ⟨w_consts, trivial⟩⟩⟩, w_rest, w_case⟩
end start1
theorem witness_1 : WitnessClaimed_1 := ⟨start1.p0, start1.e0, start1.about1, start1.theMethod, start1.args0, start1.below0, start1.atStart⟩
end Jvm.Pilot.@@N@@
