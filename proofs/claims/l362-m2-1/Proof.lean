import JvmDerived
import JvmDerived.Pilot.@@N@@Statement
import JvmDerived.Pilot.@@N@@Code
set_option linter.unusedVariables false
set_option linter.unusedSimpArgs false
namespace Jvm.Ow
open Sem ClassFile Op Lib Bundle Jvm.Stand Jvm.Free Jvm.LawKit Jvm.RoadKit
/-- what may be written: made since the case's start, and no literal's cell -/
def Own (Z : State) (EL : List (String × Nat)) (vm : Vm) (h : Heap) (W : List Nat) : Prop := ∀ x ∈ W, Z.heap.size ≤ x ∧ x < h.size ∧ Safe Z EL vm h x
theorem Own.nil {Z : State} {EL : List (String × Nat)} {vm : Vm} {h : Heap} : Own Z EL vm h [] := fun _ q => nomatch q
theorem Own.sub {Z : State} {EL : List (String × Nat)} {vm : Vm} {h : Heap} {W V : List Nat} (O : Own Z EL vm h W) (q : ∀ x ∈ V, x ∈ W) : Own Z EL vm h V := fun x hx => O x (q x hx)
theorem Own.app {Z : State} {EL : List (String × Nat)} {vm : Vm} {h : Heap} {W V : List Nat} (O : Own Z EL vm h W) (P : Own Z EL vm h V) : Own Z EL vm h (W ++ V) := fun x hx => (List.mem_append.mp hx).elim (O x) (P x)
theorem Own.r {Z : State} {EL : List (String × Nat)} {vm vm1 : Vm} {h h' : Heap} {W : List Nat} (O : Own Z EL vm h W) (A : CHr Z EL vm h vm1 h') : Own Z EL vm1 h' W := fun x hx =>
  ⟨(O x hx).1, Nat.lt_of_lt_of_le (O x hx).2.1 A.2.1, A.safe (O x hx).2.1 (O x hx).2.2⟩
theorem Own.new {Z : State} {EL : List (String × Nat)} {vm : Vm} {h h' : Heap} {W : List Nat} (O : Own Z EL vm h W) (H : CHv Z EL vm h) (E : Ext h h') (hs : Z.heap.size ≤ h.size) (hl : h.size < h'.size) : Own Z EL vm h' (h.size :: W) := fun x hx => by
  rcases List.mem_cons.mp hx with rfl | hx
  · exact ⟨hs, hl, Safe.ext E H (Safe.new (Nat.le_refl _))⟩
  · exact (O.r (CHr.ext E H)) x hx
/-- the walk's own facts, which do not change: the code, the class, the tables at the case's start -/
def Cx (p : Program) (m : MethodId) (meth : Method) (c : Code) (s : State) (Z : State) (a0 : Array Value) (EL : List (String × Nat)) (b : Bool) (own nm : String) (bytes : ByteArray) (maxL : Nat) (ret : Option FieldType) : Prop :=
  p.tables.exec = Jvm.exec ∧ c.code = bytes ∧ c.maxLocals = maxL ∧ meth.sig.returnType = ret ∧ meth.locks = false ∧ s.vm.findClass own = some m.cls ∧ Z.Warmed39 s.vm ∧ EW Z a0 EL ∧ meth.name = nm ∧ (b = false → ∀ a ∈ Bundle.stringAtoms, a.before a0 Z = true) ∧ (b = true → EL = [])
/-- a good end -/
def EndQ (R : Room) (Z : State) (EL : List (String × Nat)) (b : Bool) (Q : Option Value → Heap → List Nat → Prop) (s : State) (below : List Frame) (s2 : State) (v : Option Value) : Prop :=
  s2.status = .running ∧ Ended s2 below (.returned v) ∧ ∃ (L : List Loc) (W' : List Nat), Q v s2.heap W' ∧ Own Z EL s2.vm s2.heap W' ∧ Old Z Z.heap.size s2.heap ∧ Fr Z.heap.size L ∧ CHr Z EL s.vm s.heap s2.vm s2.heap ∧ ReturnedEndW s (.returned v) s2 L R.cells R.slots ∧ (b = true → FrameEnd s (.returned v) s2 L R.cells R.slots)
/-- from this frame over any state with this heap, the run comes to a good end -/
def WP (p : Program) (l : Launch) (e : Env) (R : Room) (s : State) (m : MethodId) (args : Array Value) (below : List Frame) (meth : Method) (c : Code) (Z : State) (EL : List (String × Nat)) (b : Bool) (Q : Option Value → Heap → List Nat → Prop)
    (pc : Nat) (L : List Slot) (st : List Value) (h : Heap) (W : List Nat) (k n : Nat) : Prop :=
  ∀ (T : State) (vm0 : Vm) (k0 : Nat) (locs : List Loc) (cells slots : Nat),
    Stand p l e R (s.setVm vm0) m args below meth c T locs cells slots → T.heap = h → s.Since vm0 k0 → k0 ≤ h.size → (b = true → vm0 = s.vm) →
    CHr Z EL s.vm s.heap vm0 h → Old Z Z.heap.size h → Own Z EL vm0 h W → Fr Z.heap.size locs → cells ≤ k → slots ≤ n →
    ∃ s2 v, Steps p.tables e below (T.setTop (mkF m pc L.toArray st)) s2 ∧ EndQ R Z EL b Q s below s2 v
section Steps
variable {p : Program} {l : Launch} {e : Env} {R : Room} {s : State} {m : MethodId} {args : Array Value} {below : List Frame} {meth : Method} {c : Code} {Z : State} {a0 : Array Value} {EL : List (String × Nat)} {b : Bool} {own nm : String} {bytes : ByteArray} {maxL : Nat} {ret : Option FieldType} {Q : Option Value → Heap → List Nat → Prop}
  {pc : Nat} {L : List Slot} {st : List Value} {h : Heap} {W : List Nat} {k n : Nat}
theorem Cx.z (C : Cx p m meth c s Z a0 EL b own nm bytes maxL ret) {vm0 : Vm} {k0 : Nat} (hS : s.Since vm0 k0) : Z.Warmed39 vm0 := State.Warmed39.trans C.2.2.2.2.2.2.1 hS.1
theorem Cx.o (C : Cx p m meth c s Z a0 EL b own nm bytes maxL ret) {vm0 : Vm} {k0 : Nat} (hS : s.Since vm0 k0) : vm0.findClass own = some m.cls := (hS.1.alike.findClass _ _).trans C.2.2.2.2.2.1
theorem Cx.ew (C : Cx p m meth c s Z a0 EL b own nm bytes maxL ret) : EW Z a0 EL := C.2.2.2.2.2.2.2.1
theorem WP.go {pc' : Nat} {L' : List Slot} {st' : List Value} (q : ∀ {T : State} {vm0 : Vm} {locs : List Loc} {cells slots : Nat}, Stand p l e R (s.setVm vm0) m args below meth c T locs cells slots → ∀ t, Steps p.tables e below (T.setTop (mkF m pc' L'.toArray st')) t → Steps p.tables e below (T.setTop (mkF m pc L.toArray st)) t)
    (hr : WP p l e R s m args below meth c Z EL b Q pc' L' st' h W k n) : WP p l e R s m args below meth c Z EL b Q pc L st h W k n := by
  intro T vm0 k0 locs cells slots X eT hS hk hb hC hO hW hF hc hn
  obtain ⟨s2, v, st, r⟩ := hr T vm0 k0 locs cells slots X eT hS hk hb hC hO hW hF hc hn
  exact ⟨s2, v, q X _ st, r⟩
theorem WP.hop {pc' : Nat} {L' : List Slot} {st' : List Value} (C : Cx p m meth c s Z a0 EL b own nm bytes maxL ret)
    (q : ∀ {T : State} {vm0 : Vm} {locs : List Loc} {cells slots : Nat}, Stand p l e R (s.setVm vm0) m args below meth c T locs cells slots → T.heap = h → Old Z Z.heap.size h → Z.Warmed39 (s.setVm vm0).vm → (s.setVm vm0).vm.findClass own = some m.cls →
      ∃ T', Stand p l e R (s.setVm vm0) m args below meth c T' locs cells slots ∧ T'.heap = h ∧ ∀ t, Steps p.tables e below (T'.setTop (mkF m pc' L'.toArray st')) t → Steps p.tables e below (T.setTop (mkF m pc L.toArray st)) t)
    (hr : WP p l e R s m args below meth c Z EL b Q pc' L' st' h W k n) : WP p l e R s m args below meth c Z EL b Q pc L st h W k n := by
  intro T vm0 k0 locs cells slots X eT hS hk hb hC hO hW hF hc hn
  obtain ⟨T', X', e', q'⟩ := q X eT hO (C.z hS) (C.o hS)
  obtain ⟨s2, v, st, r⟩ := hr T' vm0 k0 locs cells slots X' e' hS hk hb hC hO hW hF hc hn
  exact ⟨s2, v, q' _ st, r⟩
/-- a step that lays new cells and writes none -/
theorem WP.grow {pc' : Nat} {L' : List Slot} {st' : Nat → List Value} {dk dn : Nat} {F : Heap → Nat → Prop} (C : Cx p m meth c s Z a0 EL b own nm bytes maxL ret) (hc0 : k + dk ≤ R.cells) (hn0 : n + dn ≤ R.slots)
    (q : ∀ {T : State} {vm0 : Vm} {locs : List Loc} {cells slots : Nat}, Stand p l e R (s.setVm vm0) m args below meth c T locs cells slots → T.heap = h → Z.Warmed39 (s.setVm vm0).vm → (s.setVm vm0).vm.findClass own = some m.cls → cells + dk ≤ R.cells → slots + dn ≤ R.slots →
      ∃ T' h', Stand p l e R (s.setVm vm0) m args below meth c T' locs (cells + dk) (slots + dn) ∧ T'.heap = h' ∧ Ext h h' ∧ h.size < h'.size ∧ F h' h.size ∧ ∀ t, Steps p.tables e below (T'.setTop (mkF m pc' L'.toArray (st' h.size))) t → Steps p.tables e below (T.setTop (mkF m pc L.toArray st)) t)
    (hr : ∀ h' a, a = h.size → Z.heap.size ≤ a → a < h'.size → Ext h h' → F h' a → WP p l e R s m args below meth c Z EL b Q pc' L' (st' a) h' (a :: W) (k + dk) (n + dn)) : WP p l e R s m args below meth c Z EL b Q pc L st h W k n := by
  intro T vm0 k0 locs cells slots X eT hS hk hb hC hO hW hF hc hn
  obtain ⟨T', h', X', e', E, hl, f, q'⟩ := q X eT (C.z hS) (C.o hS) (by omega) (by omega)
  obtain ⟨s2, v, st, r⟩ := hr h' h.size rfl hO.2.1 hl E f T' vm0 k0 locs _ _ X' e' hS (Nat.le_trans hk E.1) hb (hC.trans (CHr.ext E hC.1)) (hO.ext E) (hW.new hC.1 E hO.2.1 hl) hF (by omega) (by omega)
  exact ⟨s2, v, q' _ st, r⟩
/-- a step that writes one place of a cell of W -/
theorem WP.write {pc' : Nat} {L' : List Slot} {st' : List Value} {a : Nat} {sl : Nat} {v : Value} (C : Cx p m meth c s Z a0 EL b own nm bytes maxL ret) (ha : a ∈ W)
    (q : ∀ {T : State} {vm0 : Vm} {locs : List Loc} {cells slots : Nat}, Stand p l e R (s.setVm vm0) m args below meth c T locs cells slots → T.heap = h → Z.Warmed39 (s.setVm vm0).vm → (s.setVm vm0).vm.findClass own = some m.cls →
      ∃ T' h', Stand p l e R (s.setVm vm0) m args below meth c T' (locs ++ [⟨a, sl⟩]) cells slots ∧ T'.heap = h' ∧ Wr h h' a sl v ∧ ∀ t, Steps p.tables e below (T'.setTop (mkF m pc' L'.toArray st')) t → Steps p.tables e below (T.setTop (mkF m pc L.toArray st)) t)
    (hr : ∀ h', Wr h h' a sl v → Keep h h' [a] → WP p l e R s m args below meth c Z EL b Q pc' L' st' h' W k n) : WP p l e R s m args below meth c Z EL b Q pc L st h W k n := by
  intro T vm0 k0 locs cells slots X eT hS hk hb hC hO hW hF hc hn
  obtain ⟨T', h', X', e', Wr', q'⟩ := q X eT (C.z hS) (C.o hS)
  have A := CHr.wr Wr' (hW a ha).2.2 hC.1
  obtain ⟨s2, v, st, r⟩ := hr h' Wr' (Keep.of_wr Wr') T' vm0 k0 _ _ _ X' e' hS (Nat.le_trans hk A.2.1) hb (hC.trans A) (hO.wr Wr' (hW a ha).1) (hW.r A) (Fr.snoc X' hF (hW a ha).1) hc hn
  exact ⟨s2, v, q' _ st, r⟩
/-- a local that one word may overwrite -/
def okS : Option Slot → Bool
  | some .unset => true
  | some (.val v) => v.category == 1
  | _ => false
theorem stoL {i : Nat} {v : Value} (hok : okS L[i]? = true) (hv : v.category = 1) : storeLocals L.toArray i v = some (L.set i (.val v)).toArray := by
  have e : L.toArray.setIfInBounds i (.val v) = (L.set i (.val v)).toArray := by simp
  cases hq : L[i]? with
  | none => rw [hq] at hok; cases hok
  | some o =>
    rw [hq] at hok
    have h1 : L.toArray[i]? = some o := by simpa using hq
    rw [← e]
    refine XS.store1 h1 ?_ hv
    cases o with
    | unset => exact Or.inl rfl
    | second => cases hok
    | val w => exact Or.inr ⟨w, rfl, by simpa [okS] using hok⟩
theorem getL {i : Nat} {o : Slot} (hl : L[i]? = some o) : L.toArray[i]? = some o := by simpa using hl
theorem iloadN (C : Cx p m meth c s Z a0 EL b own nm bytes maxL ret) {pc' : Nat} {i : Fin 4} {v : Int32} (hd : decode bytes pc = .ok (.iload_n i, 1)) (hp : pc + 1 = pc') (hl : L[i.val]? = some (.val (.int v))) (hr : WP p l e R s m args below meth c Z EL b Q pc' L (.int v :: st) h W k n) : WP p l e R s m args below meth c Z EL b Q pc L (st) h W k n := by
  subst hp; exact hr.go fun X t q => XS.iloadN X.here C.1 rfl (hb C.2.1 hd) (getL hl) q
theorem iload (C : Cx p m meth c s Z a0 EL b own nm bytes maxL ret) {pc' : Nat} {i : Nat} {v : Int32} (hd : decode bytes pc = .ok (.iload i, 2)) (hp : pc + 2 = pc') (hl : L[i]? = some (.val (.int v))) (hr : WP p l e R s m args below meth c Z EL b Q pc' L (.int v :: st) h W k n) : WP p l e R s m args below meth c Z EL b Q pc L (st) h W k n := by
  subst hp; exact hr.go fun X t q => XS.iload X.here C.1 rfl (hb C.2.1 hd) (getL hl) q
theorem aloadN (C : Cx p m meth c s Z a0 EL b own nm bytes maxL ret) {pc' : Nat} {i : Fin 4} {v : Value} (hd : decode bytes pc = .ok (.aload_n i, 1)) (hp : pc + 1 = pc') (hl : L[i.val]? = some (.val v)) (hv : v.isRef = true) (hr : WP p l e R s m args below meth c Z EL b Q pc' L (v :: st) h W k n) : WP p l e R s m args below meth c Z EL b Q pc L (st) h W k n := by
  subst hp; exact hr.go fun X t q => XS.aloadN X.here C.1 rfl (hb C.2.1 hd) (getL hl) hv q
theorem aload (C : Cx p m meth c s Z a0 EL b own nm bytes maxL ret) {pc' : Nat} {i : Nat} {v : Value} (hd : decode bytes pc = .ok (.aload i, 2)) (hp : pc + 2 = pc') (hl : L[i]? = some (.val v)) (hv : v.isRef = true) (hr : WP p l e R s m args below meth c Z EL b Q pc' L (v :: st) h W k n) : WP p l e R s m args below meth c Z EL b Q pc L (st) h W k n := by
  subst hp; exact hr.go fun X t q => XS.aload X.here C.1 rfl (hb C.2.1 hd) (getL hl) hv q
theorem lloadN (C : Cx p m meth c s Z a0 EL b own nm bytes maxL ret) {pc' : Nat} {i : Fin 4} {v : Int64} (hd : decode bytes pc = .ok (.lload_n i, 1)) (hp : pc + 1 = pc') (hl : L[i.val]? = some (.val (.long v))) (hr : WP p l e R s m args below meth c Z EL b Q pc' L (.long v :: st) h W k n) : WP p l e R s m args below meth c Z EL b Q pc L (st) h W k n := by
  subst hp; exact hr.go fun X t q => XT.lloadN X.here C.1 rfl (hb C.2.1 hd) (getL hl) q
theorem lload (C : Cx p m meth c s Z a0 EL b own nm bytes maxL ret) {pc' : Nat} {i : Nat} {v : Int64} (hd : decode bytes pc = .ok (.lload i, 2)) (hp : pc + 2 = pc') (hl : L[i]? = some (.val (.long v))) (hr : WP p l e R s m args below meth c Z EL b Q pc' L (.long v :: st) h W k n) : WP p l e R s m args below meth c Z EL b Q pc L (st) h W k n := by
  subst hp; exact hr.go fun X t q => XT.lload X.here C.1 rfl (hb C.2.1 hd) (getL hl) q
theorem aconstNull (C : Cx p m meth c s Z a0 EL b own nm bytes maxL ret) {pc' : Nat}  (hd : decode bytes pc = .ok (.aconst_null, 1)) (hp : pc + 1 = pc')  (hr : WP p l e R s m args below meth c Z EL b Q pc' L (.null :: st) h W k n) : WP p l e R s m args below meth c Z EL b Q pc L (st) h W k n := by
  subst hp; exact hr.go fun X t q => XS.aconstNull X.here C.1 rfl (hb C.2.1 hd)  q
theorem iconst (C : Cx p m meth c s Z a0 EL b own nm bytes maxL ret) {pc' : Nat} {i : Int} (v : Int32) (hd : decode bytes pc = .ok (.iconst i, 1)) (hp : pc + 1 = pc') (hv : Int32.ofInt i = v) (hr : WP p l e R s m args below meth c Z EL b Q pc' L (.int v :: st) h W k n) : WP p l e R s m args below meth c Z EL b Q pc L st h W k n := by
  subst hp hv; exact hr.go fun X t q => XS.iconst X.here C.1 rfl (hb C.2.1 hd) q
theorem bipush (C : Cx p m meth c s Z a0 EL b own nm bytes maxL ret) {pc' : Nat} {i : Int} (v : Int32) (hd : decode bytes pc = .ok (.bipush i, 2)) (hp : pc + 2 = pc') (hv : (Int8.ofInt i).toInt32 = v) (hr : WP p l e R s m args below meth c Z EL b Q pc' L (.int v :: st) h W k n) : WP p l e R s m args below meth c Z EL b Q pc L st h W k n := by
  subst hp hv; exact hr.go fun X t q => XS.bipush X.here C.1 rfl (hb C.2.1 hd) q
theorem sipush (C : Cx p m meth c s Z a0 EL b own nm bytes maxL ret) {pc' : Nat} {i : Int} (v : Int32) (hd : decode bytes pc = .ok (.sipush i, 3)) (hp : pc + 3 = pc') (hv : (Int16.ofInt i).toInt32 = v) (hr : WP p l e R s m args below meth c Z EL b Q pc' L (.int v :: st) h W k n) : WP p l e R s m args below meth c Z EL b Q pc L st h W k n := by
  subst hp hv; exact hr.go fun X t q => XS.sipush X.here C.1 rfl (hb C.2.1 hd) q
theorem lconst (C : Cx p m meth c s Z a0 EL b own nm bytes maxL ret) {pc' : Nat} {i : Fin 2} (v : Int64) (hd : decode bytes pc = .ok (.lconst i, 1)) (hp : pc + 1 = pc') (hv : Int64.ofNat i = v) (hr : WP p l e R s m args below meth c Z EL b Q pc' L (.long v :: st) h W k n) : WP p l e R s m args below meth c Z EL b Q pc L st h W k n := by
  subst hp hv; exact hr.go fun X t q => XT.lconst X.here C.1 rfl (hb C.2.1 hd) q
theorem iadd (C : Cx p m meth c s Z a0 EL b own nm bytes maxL ret) {pc' : Nat} {x y : Int32} (hd : decode bytes pc = .ok (.iadd, 1)) (hp : pc + 1 = pc')  (hr : WP p l e R s m args below meth c Z EL b Q pc' L (.int (x + y) :: st) h W k n) : WP p l e R s m args below meth c Z EL b Q pc L (.int y :: .int x :: st) h W k n := by
  subst hp; exact hr.go fun X t q => XS.iadd X.here C.1 rfl (hb C.2.1 hd) rfl q
theorem isub (C : Cx p m meth c s Z a0 EL b own nm bytes maxL ret) {pc' : Nat} {x y : Int32} (hd : decode bytes pc = .ok (.isub, 1)) (hp : pc + 1 = pc')  (hr : WP p l e R s m args below meth c Z EL b Q pc' L (.int (x - y) :: st) h W k n) : WP p l e R s m args below meth c Z EL b Q pc L (.int y :: .int x :: st) h W k n := by
  subst hp; exact hr.go fun X t q => XS.isub X.here C.1 rfl (hb C.2.1 hd) rfl q
theorem iand (C : Cx p m meth c s Z a0 EL b own nm bytes maxL ret) {pc' : Nat} {x y : Int32} (hd : decode bytes pc = .ok (.iand, 1)) (hp : pc + 1 = pc')  (hr : WP p l e R s m args below meth c Z EL b Q pc' L (.int (x &&& y) :: st) h W k n) : WP p l e R s m args below meth c Z EL b Q pc L (.int y :: .int x :: st) h W k n := by
  subst hp; exact hr.go fun X t q => XS.iand X.here C.1 rfl (hb C.2.1 hd) rfl q
theorem imul (C : Cx p m meth c s Z a0 EL b own nm bytes maxL ret) {pc' : Nat} {x y : Int32} (hd : decode bytes pc = .ok (.imul, 1)) (hp : pc + 1 = pc')  (hr : WP p l e R s m args below meth c Z EL b Q pc' L (.int (x * y) :: st) h W k n) : WP p l e R s m args below meth c Z EL b Q pc L (.int y :: .int x :: st) h W k n := by
  subst hp; exact hr.go fun X t q => XS.imul X.here C.1 rfl (hb C.2.1 hd) rfl q
theorem ior (C : Cx p m meth c s Z a0 EL b own nm bytes maxL ret) {pc' : Nat} {x y : Int32} (hd : decode bytes pc = .ok (.ior, 1)) (hp : pc + 1 = pc')  (hr : WP p l e R s m args below meth c Z EL b Q pc' L (.int (x ||| y) :: st) h W k n) : WP p l e R s m args below meth c Z EL b Q pc L (.int y :: .int x :: st) h W k n := by
  subst hp; exact hr.go fun X t q => XT.ior X.here C.1 rfl (hb C.2.1 hd) rfl q
theorem ixor (C : Cx p m meth c s Z a0 EL b own nm bytes maxL ret) {pc' : Nat} {x y : Int32} (hd : decode bytes pc = .ok (.ixor, 1)) (hp : pc + 1 = pc')  (hr : WP p l e R s m args below meth c Z EL b Q pc' L (.int (x ^^^ y) :: st) h W k n) : WP p l e R s m args below meth c Z EL b Q pc L (.int y :: .int x :: st) h W k n := by
  subst hp; exact hr.go fun X t q => XT.ixor X.here C.1 rfl (hb C.2.1 hd) rfl q
theorem ishl (C : Cx p m meth c s Z a0 EL b own nm bytes maxL ret) {pc' : Nat} {x y : Int32} (hd : decode bytes pc = .ok (.ishl, 1)) (hp : pc + 1 = pc')  (hr : WP p l e R s m args below meth c Z EL b Q pc' L (.int (x <<< (y &&& 31)) :: st) h W k n) : WP p l e R s m args below meth c Z EL b Q pc L (.int y :: .int x :: st) h W k n := by
  subst hp; exact hr.go fun X t q => XT.ishl X.here C.1 rfl (hb C.2.1 hd) rfl q
theorem ishr (C : Cx p m meth c s Z a0 EL b own nm bytes maxL ret) {pc' : Nat} {x y : Int32} (hd : decode bytes pc = .ok (.ishr, 1)) (hp : pc + 1 = pc')  (hr : WP p l e R s m args below meth c Z EL b Q pc' L (.int (x >>> (y &&& 31)) :: st) h W k n) : WP p l e R s m args below meth c Z EL b Q pc L (.int y :: .int x :: st) h W k n := by
  subst hp; exact hr.go fun X t q => XT.ishr X.here C.1 rfl (hb C.2.1 hd) rfl q
theorem iushr (C : Cx p m meth c s Z a0 EL b own nm bytes maxL ret) {pc' : Nat} {x y : Int32} (hd : decode bytes pc = .ok (.iushr, 1)) (hp : pc + 1 = pc')  (hr : WP p l e R s m args below meth c Z EL b Q pc' L (.int ((x.toUInt32 >>> (y &&& 31).toUInt32).toInt32) :: st) h W k n) : WP p l e R s m args below meth c Z EL b Q pc L (.int y :: .int x :: st) h W k n := by
  subst hp; exact hr.go fun X t q => XT.iushr X.here C.1 rfl (hb C.2.1 hd) rfl q
theorem irem (C : Cx p m meth c s Z a0 EL b own nm bytes maxL ret) {pc' : Nat} {x y : Int32} (hd : decode bytes pc = .ok (.irem, 1)) (hp : pc + 1 = pc') (hy : y ≠ 0) (hr : WP p l e R s m args below meth c Z EL b Q pc' L (.int (x % y) :: st) h W k n) : WP p l e R s m args below meth c Z EL b Q pc L (.int y :: .int x :: st) h W k n := by
  subst hp; exact hr.go fun X t q => iremM X C.1 rfl (hb C.2.1 hd) rfl hy q
theorem ineg (C : Cx p m meth c s Z a0 EL b own nm bytes maxL ret) {pc' : Nat} {x : Int32} (hd : decode bytes pc = .ok (.ineg, 1)) (hp : pc + 1 = pc')  (hr : WP p l e R s m args below meth c Z EL b Q pc' L (.int (-x) :: st) h W k n) : WP p l e R s m args below meth c Z EL b Q pc L (.int x :: st) h W k n := by
  subst hp; exact hr.go fun X t q => XS.ineg X.here C.1 rfl (hb C.2.1 hd) rfl q
theorem i2c (C : Cx p m meth c s Z a0 EL b own nm bytes maxL ret) {pc' : Nat} {x : Int32} (hd : decode bytes pc = .ok (.i2c, 1)) (hp : pc + 1 = pc')  (hr : WP p l e R s m args below meth c Z EL b Q pc' L (.int (nar .char x) :: st) h W k n) : WP p l e R s m args below meth c Z EL b Q pc L (.int x :: st) h W k n := by
  subst hp; exact hr.go fun X t q => XT.i2c X.here C.1 rfl (hb C.2.1 hd) rfl q
theorem i2b (C : Cx p m meth c s Z a0 EL b own nm bytes maxL ret) {pc' : Nat} {x : Int32} (hd : decode bytes pc = .ok (.i2b, 1)) (hp : pc + 1 = pc')  (hr : WP p l e R s m args below meth c Z EL b Q pc' L (.int (nar .byte x) :: st) h W k n) : WP p l e R s m args below meth c Z EL b Q pc L (.int x :: st) h W k n := by
  subst hp; exact hr.go fun X t q => XT.i2b X.here C.1 rfl (hb C.2.1 hd) rfl q
theorem i2l (C : Cx p m meth c s Z a0 EL b own nm bytes maxL ret) {pc' : Nat} {x : Int32} (hd : decode bytes pc = .ok (.i2l, 1)) (hp : pc + 1 = pc')  (hr : WP p l e R s m args below meth c Z EL b Q pc' L (.long x.toInt64 :: st) h W k n) : WP p l e R s m args below meth c Z EL b Q pc L (.int x :: st) h W k n := by
  subst hp; exact hr.go fun X t q => XT.i2l X.here C.1 rfl (hb C.2.1 hd) rfl q
theorem l2i (C : Cx p m meth c s Z a0 EL b own nm bytes maxL ret) {pc' : Nat} {x : Int64} (hd : decode bytes pc = .ok (.l2i, 1)) (hp : pc + 1 = pc')  (hr : WP p l e R s m args below meth c Z EL b Q pc' L (.int x.toInt32 :: st) h W k n) : WP p l e R s m args below meth c Z EL b Q pc L (.long x :: st) h W k n := by
  subst hp; exact hr.go fun X t q => XT.l2i X.here C.1 rfl (hb C.2.1 hd) rfl q
theorem land (C : Cx p m meth c s Z a0 EL b own nm bytes maxL ret) {pc' : Nat} {x y : Int64} (hd : decode bytes pc = .ok (.land, 1)) (hp : pc + 1 = pc')  (hr : WP p l e R s m args below meth c Z EL b Q pc' L (.long (x &&& y) :: st) h W k n) : WP p l e R s m args below meth c Z EL b Q pc L (.long y :: .long x :: st) h W k n := by
  subst hp; exact hr.go fun X t q => XT.land X.here C.1 rfl (hb C.2.1 hd) rfl q
theorem lushr (C : Cx p m meth c s Z a0 EL b own nm bytes maxL ret) {pc' : Nat} {x : Int64} {y : Int32} (hd : decode bytes pc = .ok (.lushr, 1)) (hp : pc + 1 = pc')  (hr : WP p l e R s m args below meth c Z EL b Q pc' L (.long (XT.ushrL x y) :: st) h W k n) : WP p l e R s m args below meth c Z EL b Q pc L (.int y :: .long x :: st) h W k n := by
  subst hp; exact hr.go fun X t q => XT.lushr X.here C.1 rfl (hb C.2.1 hd) rfl q
theorem dup (C : Cx p m meth c s Z a0 EL b own nm bytes maxL ret) {pc' : Nat} {x : Value} (hd : decode bytes pc = .ok (.dup, 1)) (hp : pc + 1 = pc') (hc : x.category = 1) (hr : WP p l e R s m args below meth c Z EL b Q pc' L (x :: x :: st) h W k n) : WP p l e R s m args below meth c Z EL b Q pc L (x :: st) h W k n := by
  subst hp; exact hr.go fun X t q => XS.dup X.here C.1 rfl (hb C.2.1 hd) rfl hc q
theorem pop (C : Cx p m meth c s Z a0 EL b own nm bytes maxL ret) {pc' : Nat} {x : Value} (hd : decode bytes pc = .ok (.pop, 1)) (hp : pc + 1 = pc') (hc : x.category = 1) (hr : WP p l e R s m args below meth c Z EL b Q pc' L (st) h W k n) : WP p l e R s m args below meth c Z EL b Q pc L (x :: st) h W k n := by
  subst hp; exact hr.go fun X t q => XT.pop X.here C.1 rfl (hb C.2.1 hd) rfl hc q
theorem dupX1 (C : Cx p m meth c s Z a0 EL b own nm bytes maxL ret) {pc' : Nat} {x y : Value} (hd : decode bytes pc = .ok (.dup_x1, 1)) (hp : pc + 1 = pc') (hc : x.category = 1) (hc' : y.category = 1) (hr : WP p l e R s m args below meth c Z EL b Q pc' L (x :: y :: x :: st) h W k n) : WP p l e R s m args below meth c Z EL b Q pc L (x :: y :: st) h W k n := by
  subst hp; exact hr.go fun X t q => XT.dupX1 X.here C.1 rfl (hb C.2.1 hd) rfl hc hc' q
theorem dup2 (C : Cx p m meth c s Z a0 EL b own nm bytes maxL ret) {pc' : Nat} {x y : Value} (hd : decode bytes pc = .ok (.dup2, 1)) (hp : pc + 1 = pc') (hc : x.category = 1) (hc' : y.category = 1) (hr : WP p l e R s m args below meth c Z EL b Q pc' L (x :: y :: x :: y :: st) h W k n) : WP p l e R s m args below meth c Z EL b Q pc L (x :: y :: st) h W k n := by
  subst hp; exact hr.go fun X t q => XT.dup2 X.here C.1 rfl (hb C.2.1 hd) rfl hc hc' q
theorem istoreN (C : Cx p m meth c s Z a0 EL b own nm bytes maxL ret) {pc' : Nat} {i : Fin 4} {x : Int32} (hd : decode bytes pc = .ok (.istore_n i, 1)) (hp : pc + 1 = pc') (hok : okS L[i.val]? = true) (hr : WP p l e R s m args below meth c Z EL b Q pc' (L.set i.val (.val (.int x))) (st) h W k n) : WP p l e R s m args below meth c Z EL b Q pc L (.int x :: st) h W k n := by
  subst hp; exact hr.go fun X t q => XS.istoreN X.here C.1 rfl (hb C.2.1 hd) rfl (stoL hok rfl) q
theorem istoreNG (C : Cx p m meth c s Z a0 EL b own nm bytes maxL ret) {pc' : Nat} {i : Fin 4} {x : Int32} (hd : decode bytes pc = .ok (.istore_n i, 1)) (hp : pc + 1 = pc') (hok : okS L[i.val]? = true) (hr : ∀ y : Int32, y = x → WP p l e R s m args below meth c Z EL b Q pc' (L.set i.val (.val (.int y))) st h W k n) : WP p l e R s m args below meth c Z EL b Q pc L (.int x :: st) h W k n := istoreN C hd hp hok (hr x rfl)
theorem istore (C : Cx p m meth c s Z a0 EL b own nm bytes maxL ret) {pc' : Nat} {i : Nat} {x : Int32} (hd : decode bytes pc = .ok (.istore i, 2)) (hp : pc + 2 = pc') (hok : okS L[i]? = true) (hr : WP p l e R s m args below meth c Z EL b Q pc' (L.set i (.val (.int x))) (st) h W k n) : WP p l e R s m args below meth c Z EL b Q pc L (.int x :: st) h W k n := by
  subst hp; exact hr.go fun X t q => XS.istore X.here C.1 rfl (hb C.2.1 hd) rfl (stoL hok rfl) q
theorem istoreG (C : Cx p m meth c s Z a0 EL b own nm bytes maxL ret) {pc' : Nat} {i : Nat} {x : Int32} (hd : decode bytes pc = .ok (.istore i, 2)) (hp : pc + 2 = pc') (hok : okS L[i]? = true) (hr : ∀ y : Int32, y = x → WP p l e R s m args below meth c Z EL b Q pc' (L.set i (.val (.int y))) st h W k n) : WP p l e R s m args below meth c Z EL b Q pc L (.int x :: st) h W k n := istore C hd hp hok (hr x rfl)
theorem astoreN (C : Cx p m meth c s Z a0 EL b own nm bytes maxL ret) {pc' : Nat} {i : Fin 4} {x : Value} (hd : decode bytes pc = .ok (.astore_n i, 1)) (hp : pc + 1 = pc') (hv : x.isRef = true) (hok : okS L[i.val]? = true) (hr : WP p l e R s m args below meth c Z EL b Q pc' (L.set i.val (.val x)) (st) h W k n) : WP p l e R s m args below meth c Z EL b Q pc L (x :: st) h W k n := by
  subst hp; exact hr.go fun X t q => XS.astoreN X.here C.1 rfl (hb C.2.1 hd) rfl hv (stoL hok (XT.cat1 hv)) q
theorem astore (C : Cx p m meth c s Z a0 EL b own nm bytes maxL ret) {pc' : Nat} {i : Nat} {x : Value} (hd : decode bytes pc = .ok (.astore i, 2)) (hp : pc + 2 = pc') (hv : x.isRef = true) (hok : okS L[i]? = true) (hr : WP p l e R s m args below meth c Z EL b Q pc' (L.set i (.val x)) (st) h W k n) : WP p l e R s m args below meth c Z EL b Q pc L (x :: st) h W k n := by
  subst hp; exact hr.go fun X t q => XS.astore X.here C.1 rfl (hb C.2.1 hd) rfl hv (stoL hok (XT.cat1 hv)) q
theorem iinc (C : Cx p m meth c s Z a0 EL b own nm bytes maxL ret) {pc' : Nat} {i : Nat} {d : Int} {x : Int32} (v : Int32) (hd : decode bytes pc = .ok (.iinc i d, 3)) (hp : pc + 3 = pc') (hv : Int32.ofInt d = v) (hl : L[i]? = some (.val (.int x))) (hr : WP p l e R s m args below meth c Z EL b Q pc' (L.set i (.val (.int (x + v)))) st h W k n) : WP p l e R s m args below meth c Z EL b Q pc L st h W k n := by
  subst hp hv; exact hr.go fun X t q => XS.iinc X.here C.1 rfl (hb C.2.1 hd) (getL hl) (stoL (by rw [hl]; rfl) rfl) q
theorem goto (C : Cx p m meth c s Z a0 EL b own nm bytes maxL ret) (pc' : Nat) {o : Int} (hd : decode bytes pc = .ok (.goto o, 3)) (ho : 0 ≤ (pc : Int) + o) (hp : ((pc : Int) + o).toNat = pc') (hr : WP p l e R s m args below meth c Z EL b Q pc' L st h W k n) : WP p l e R s m args below meth c Z EL b Q pc L st h W k n := by
  exact hr.go fun X t q => XS.goto X.here C.1 rfl (pc0 := pc) (pc' := pc') rfl (hb C.2.1 hd) ho hp q
theorem ifCY (C : Cx p m meth c s Z a0 EL b own nm bytes maxL ret) (pc' : Nat) {cd : ClassFile.Cond} {x : Int32} {o : Int} (hd : decode bytes pc = .ok (.ifCond cd o, 3))  (hc : ifCond.holds cd x = true) (ho : 0 ≤ (pc : Int) + o) (hp : ((pc : Int) + o).toNat = pc') (hr : WP p l e R s m args below meth c Z EL b Q pc' L st h W k n) : WP p l e R s m args below meth c Z EL b Q pc L (.int x :: st) h W k n := by
  exact hr.go fun X t q => XS.ifYes X.here C.1 rfl (pc0 := pc) (pc' := pc') rfl (hb C.2.1 hd) rfl hc ho hp q
theorem ifCN (C : Cx p m meth c s Z a0 EL b own nm bytes maxL ret) {pc' : Nat} {cd : ClassFile.Cond} {x : Int32} {o : Int} (hd : decode bytes pc = .ok (.ifCond cd o, 3)) (hp : pc + 3 = pc')  (hc : ifCond.holds cd x = false) (hr : WP p l e R s m args below meth c Z EL b Q pc' L st h W k n) : WP p l e R s m args below meth c Z EL b Q pc L (.int x :: st) h W k n := by
  subst hp; exact hr.go fun X t q => XS.ifNo X.here C.1 rfl (hb C.2.1 hd) rfl hc q
theorem ifC (C : Cx p m meth c s Z a0 EL b own nm bytes maxL ret) (pc1 pc2 : Nat) {cd : ClassFile.Cond} {x : Int32} {o : Int} {P : Prop} [Decidable P] (hd : decode bytes pc = .ok (.ifCond cd o, 3))  (hc : ifCond.holds cd x = decide P) (ho : 0 ≤ (pc : Int) + o) (hp : ((pc : Int) + o).toNat = pc1) (hp2 : pc + 3 = pc2) (h1 : P → WP p l e R s m args below meth c Z EL b Q pc1 L st h W k n) (h2 : ¬ P → WP p l e R s m args below meth c Z EL b Q pc2 L st h W k n) : WP p l e R s m args below meth c Z EL b Q pc L (.int x :: st) h W k n := by
  by_cases q : P
  · exact ifCY C pc1 hd (by rw [hc]; exact decide_eq_true q) ho hp (h1 q)
  · exact ifCN C hd hp2 (by rw [hc]; exact decide_eq_false q) (h2 q)
theorem icmpY (C : Cx p m meth c s Z a0 EL b own nm bytes maxL ret) (pc' : Nat) {cd : ClassFile.Cond} {x y : Int32} {o : Int} (hd : decode bytes pc = .ok (.if_icmp cd o, 3))  (hc : if_icmp.holds cd x y = true) (ho : 0 ≤ (pc : Int) + o) (hp : ((pc : Int) + o).toNat = pc') (hr : WP p l e R s m args below meth c Z EL b Q pc' L st h W k n) : WP p l e R s m args below meth c Z EL b Q pc L (.int y :: .int x :: st) h W k n := by
  exact hr.go fun X t q => XS.icmpYes X.here C.1 rfl (pc0 := pc) (pc' := pc') rfl (hb C.2.1 hd) rfl hc ho hp q
theorem icmpN (C : Cx p m meth c s Z a0 EL b own nm bytes maxL ret) {pc' : Nat} {cd : ClassFile.Cond} {x y : Int32} {o : Int} (hd : decode bytes pc = .ok (.if_icmp cd o, 3)) (hp : pc + 3 = pc')  (hc : if_icmp.holds cd x y = false) (hr : WP p l e R s m args below meth c Z EL b Q pc' L st h W k n) : WP p l e R s m args below meth c Z EL b Q pc L (.int y :: .int x :: st) h W k n := by
  subst hp; exact hr.go fun X t q => XS.icmpNo X.here C.1 rfl (hb C.2.1 hd) rfl hc q
theorem icmp (C : Cx p m meth c s Z a0 EL b own nm bytes maxL ret) (pc1 pc2 : Nat) {cd : ClassFile.Cond} {x y : Int32} {o : Int} {P : Prop} [Decidable P] (hd : decode bytes pc = .ok (.if_icmp cd o, 3))  (hc : if_icmp.holds cd x y = decide P) (ho : 0 ≤ (pc : Int) + o) (hp : ((pc : Int) + o).toNat = pc1) (hp2 : pc + 3 = pc2) (h1 : P → WP p l e R s m args below meth c Z EL b Q pc1 L st h W k n) (h2 : ¬ P → WP p l e R s m args below meth c Z EL b Q pc2 L st h W k n) : WP p l e R s m args below meth c Z EL b Q pc L (.int y :: .int x :: st) h W k n := by
  by_cases q : P
  · exact icmpY C pc1 hd (by rw [hc]; exact decide_eq_true q) ho hp (h1 q)
  · exact icmpN C hd hp2 (by rw [hc]; exact decide_eq_false q) (h2 q)
theorem acmpY (C : Cx p m meth c s Z a0 EL b own nm bytes maxL ret) (pc' : Nat) {cd : ClassFile.ACond} {x y : Value} {o : Int} (hd : decode bytes pc = .ok (.if_acmp cd o, 3)) (hx : x.isRef = true) (hy : y.isRef = true) (hc : XT.acmp cd x y = true) (ho : 0 ≤ (pc : Int) + o) (hp : ((pc : Int) + o).toNat = pc') (hr : WP p l e R s m args below meth c Z EL b Q pc' L st h W k n) : WP p l e R s m args below meth c Z EL b Q pc L (y :: x :: st) h W k n := by
  exact hr.go fun X t q => XT.acmpYes X.here C.1 rfl (pc0 := pc) (pc' := pc') rfl (hb C.2.1 hd) rfl hx hy hc ho hp q
theorem acmpN (C : Cx p m meth c s Z a0 EL b own nm bytes maxL ret) {pc' : Nat} {cd : ClassFile.ACond} {x y : Value} {o : Int} (hd : decode bytes pc = .ok (.if_acmp cd o, 3)) (hp : pc + 3 = pc') (hx : x.isRef = true) (hy : y.isRef = true) (hc : XT.acmp cd x y = false) (hr : WP p l e R s m args below meth c Z EL b Q pc' L st h W k n) : WP p l e R s m args below meth c Z EL b Q pc L (y :: x :: st) h W k n := by
  subst hp; exact hr.go fun X t q => XT.acmpNo X.here C.1 rfl (hb C.2.1 hd) rfl hx hy hc q
theorem acmp (C : Cx p m meth c s Z a0 EL b own nm bytes maxL ret) (pc1 pc2 : Nat) {cd : ClassFile.ACond} {x y : Value} {o : Int} {P : Prop} [Decidable P] (hd : decode bytes pc = .ok (.if_acmp cd o, 3)) (hx : x.isRef = true) (hy : y.isRef = true) (hc : XT.acmp cd x y = decide P) (ho : 0 ≤ (pc : Int) + o) (hp : ((pc : Int) + o).toNat = pc1) (hp2 : pc + 3 = pc2) (h1 : P → WP p l e R s m args below meth c Z EL b Q pc1 L st h W k n) (h2 : ¬ P → WP p l e R s m args below meth c Z EL b Q pc2 L st h W k n) : WP p l e R s m args below meth c Z EL b Q pc L (y :: x :: st) h W k n := by
  by_cases q : P
  · exact acmpY C pc1 hd hx hy (by rw [hc]; exact decide_eq_true q) ho hp (h1 q)
  · exact acmpN C hd hp2 hx hy (by rw [hc]; exact decide_eq_false q) (h2 q)
theorem ifnullY (C : Cx p m meth c s Z a0 EL b own nm bytes maxL ret) (pc' : Nat) {o : Int} (hd : decode bytes pc = .ok (.ifnull o, 3)) (ho : 0 ≤ (pc : Int) + o) (hp : ((pc : Int) + o).toNat = pc') (hr : WP p l e R s m args below meth c Z EL b Q pc' L st h W k n) : WP p l e R s m args below meth c Z EL b Q pc L (.null :: st) h W k n := by
  exact hr.go fun X t q => XS.ifnullYes X.here C.1 rfl (pc0 := pc) (pc' := pc') rfl (hb C.2.1 hd) rfl ho hp q
theorem ifnullN (C : Cx p m meth c s Z a0 EL b own nm bytes maxL ret) {pc' : Nat} {o : Int} {a : Nat} (hd : decode bytes pc = .ok (.ifnull o, 3)) (hp : pc + 3 = pc') (hr : WP p l e R s m args below meth c Z EL b Q pc' L st h W k n) : WP p l e R s m args below meth c Z EL b Q pc L (.ref a :: st) h W k n := by
  subst hp; exact hr.go fun X t q => XS.ifnullNo X.here C.1 rfl (hb C.2.1 hd) rfl q
theorem ifnonnullY (C : Cx p m meth c s Z a0 EL b own nm bytes maxL ret) (pc' : Nat) {o : Int} {a : Nat} (hd : decode bytes pc = .ok (.ifnonnull o, 3)) (ho : 0 ≤ (pc : Int) + o) (hp : ((pc : Int) + o).toNat = pc') (hr : WP p l e R s m args below meth c Z EL b Q pc' L st h W k n) : WP p l e R s m args below meth c Z EL b Q pc L (.ref a :: st) h W k n := by
  exact hr.go fun X t q => XT.ifnonnullYes X.here C.1 rfl (pc0 := pc) (pc' := pc') rfl (hb C.2.1 hd) rfl ho hp q
theorem ifnonnullN (C : Cx p m meth c s Z a0 EL b own nm bytes maxL ret) {pc' : Nat} {o : Int} (hd : decode bytes pc = .ok (.ifnonnull o, 3)) (hp : pc + 3 = pc') (hr : WP p l e R s m args below meth c Z EL b Q pc' L st h W k n) : WP p l e R s m args below meth c Z EL b Q pc L (.null :: st) h W k n := by
  subst hp; exact hr.go fun X t q => XT.ifnonnullNo X.here C.1 rfl (hb C.2.1 hd) rfl q
theorem ldcI (C : Cx p m meth c s Z a0 EL b own nm bytes maxL ret) {pc' : Nat} {index : Nat} {v : Int32} (w : (Cond.constant own index v).before a0 Z = true) (hd : decode bytes pc = .ok (.ldc index, 2)) (hp : pc + 2 = pc') (hr : WP p l e R s m args below meth c Z EL b Q pc' L (.int v :: st) h W k n) : WP p l e R s m args below meth c Z EL b Q pc L st h W k n := by
  subst hp; exact hr.hop C fun X eT _ hZ ho => ⟨_, X, eT, fun t q => X.ldcI C.1 ho (mv hZ w) rfl (hb C.2.1 hd) q⟩
/-! fields, statics, casts -/
theorem getF (C : Cx p m meth c s Z a0 EL b own nm bytes maxL ret) {pc' : Nat} {f O d : String} {index : Nat} {a : Nat} {v : Value} (w : (Cond.fieldLink own index O f d).before a0 Z = true) (F : Fld Z h a O f d v) (hd : decode bytes pc = .ok (.getfield index, 3)) (hp : pc + 3 = pc')
    (hr : WP p l e R s m args below meth c Z EL b Q pc' L (v :: st) h W k n) : WP p l e R s m args below meth c Z EL b Q pc L (.ref a :: st) h W k n := by
  subst hp
  exact hr.hop C fun X eT _ hZ ho => RoadKit.getF X C.1 hZ ho (host := "") (Or.inl w) Via.refl eT F (g := mkF m pc L.toArray (.ref a :: st)) rfl rfl (hb C.2.1 hd)
theorem getFV (C : Cx p m meth c s Z a0 EL b own nm bytes maxL ret) {pc' : Nat} {f R0 O d : String} {index : Nat} {a : Nat} {v : Value} (w : (Cond.fieldLink own index R0 f d).before a0 Z = true) (via : Via Z R0 O f d) (F : Fld Z h a O f d v) (hd : decode bytes pc = .ok (.getfield index, 3)) (hp : pc + 3 = pc')
    (hr : WP p l e R s m args below meth c Z EL b Q pc' L (v :: st) h W k n) : WP p l e R s m args below meth c Z EL b Q pc L (.ref a :: st) h W k n := by
  subst hp
  exact hr.hop C fun X eT _ hZ ho => RoadKit.getF X C.1 hZ ho (host := "") (Or.inl w) via eT F (g := mkF m pc L.toArray (.ref a :: st)) rfl rfl (hb C.2.1 hd)
theorem getS (C : Cx p m meth c s Z a0 EL b own nm bytes maxL ret) {pc' : Nat} {f O d : String} {index : Nat} {v : Value} (w : (Cond.fieldLink own index O f d).before a0 Z = true) (F : Sta Z Z.heap O f d v) (hd : decode bytes pc = .ok (.getstatic index, 3)) (hp : pc + 3 = pc')
    (hr : WP p l e R s m args below meth c Z EL b Q pc' L (v :: st) h W k n) : WP p l e R s m args below meth c Z EL b Q pc L st h W k n := by
  subst hp
  exact hr.hop C fun X eT hO hZ ho => RoadKit.getS X C.1 hZ (host := "") ho w Via.refl eT (F.ext hO.2) (g := mkF m pc L.toArray st) rfl (hb C.2.1 hd)
theorem castY (C : Cx p m meth c s Z a0 EL b own nm bytes maxL ret) {pc' : Nat} {K : String} {index : Nat} {a : Nat} (w : (Cond.classLink own index K).before a0 Z = true) (F : Ins Z h a K true) (hd : decode bytes pc = .ok (.checkcast index, 3)) (hp : pc + 3 = pc')
    (hr : WP p l e R s m args below meth c Z EL b Q pc' L (.ref a :: st) h W k n) : WP p l e R s m args below meth c Z EL b Q pc L (.ref a :: st) h W k n := by
  subst hp
  exact hr.hop C fun X eT _ hZ ho => RoadKit.castY X C.1 hZ ho w eT F (g := mkF m pc L.toArray (.ref a :: st)) rfl rfl (hb C.2.1 hd)
theorem instY (C : Cx p m meth c s Z a0 EL b own nm bytes maxL ret) {pc' : Nat} {K : String} {index : Nat} {a : Nat} (w : (Cond.classLink own index K).before a0 Z = true) (F : Ins Z h a K true) (hd : decode bytes pc = .ok (.instanceof index, 3)) (hp : pc + 3 = pc')
    (hr : WP p l e R s m args below meth c Z EL b Q pc' L (.int 1 :: st) h W k n) : WP p l e R s m args below meth c Z EL b Q pc L (.ref a :: st) h W k n := by
  subst hp
  exact hr.hop C fun X eT _ hZ ho => RoadKit.instY X C.1 hZ ho w eT F (g := mkF m pc L.toArray (.ref a :: st)) rfl rfl (hb C.2.1 hd)
theorem initO (C : Cx p m meth c s Z a0 EL b own nm bytes maxL ret) {pc' : Nat} {index : Nat} {a : Nat} (w1 : (Cond.methodLink own index Lib.objectInit).before a0 Z = true) (w2 : (Cond.instanceMethod Lib.objectInit).before a0 Z = true) (w3 : (Cond.code Lib.objectInit ⟨#[0xb1]⟩ 1 none).before a0 Z = true)
    (hd : decode bytes pc = .ok (.invokespecial index, 3)) (hp : pc + 3 = pc') (hsz : L.length = maxL) (hf : 1 ≤ R.frames) (hl : (st.map fun v => v.category).sum + 12 ≤ R.locals)
    (hr : WP p l e R s m args below meth c Z EL b Q pc' L st h W k n) : WP p l e R s m args below meth c Z EL b Q pc L (.ref a :: st) h W k n := by
  subst hp
  exact hr.hop C fun X eT _ hZ ho => RoadKit.initO X C.1 hZ ho w1 w2 w3 eT (g := mkF m pc L.toArray (.ref a :: st)) rfl (by rw [C.2.2.1, ← hsz]; simp) rfl (hb C.2.1 hd) hf (W := (st.map fun v => v.category).sum) (by show 2 * 0 + _ ≤ _; omega) hl
/-! new -/
theorem newO (C : Cx p m meth c s Z a0 EL b own nm bytes maxL ret) {pc' : Nat} {K : String} {index sz : Nat} (w : (Cond.classLink own index K).before a0 Z = true) (wi : (Cond.instantiable K sz).before a0 Z = true) (wz : (Cond.initialized K).before a0 Z = true) (hd : decode bytes pc = .ok (.new index, 3)) (hp : pc + 3 = pc') (hc : k + 1 ≤ R.cells) (hn : n + sz ≤ R.slots)
    (hr : ∀ h' a, a = h.size → Z.heap.size ≤ a → a < h'.size → Ext h h' → (Exa Z h' a K ∧ ∀ {O f d : String} {ty : FieldType}, Laid Z a0 K O f d → parseFieldDescriptor d = some ty → Fld Z h' a O f d (defaultValue ty)) → WP p l e R s m args below meth c Z EL b Q pc' L (.ref a :: st) h' (a :: W) (k + 1) (n + sz)) :
    WP p l e R s m args below meth c Z EL b Q pc L st h W k n := by
  subst hp
  refine WP.grow (F := fun h' a => Exa Z h' a K ∧ ∀ {O f d : String} {ty : FieldType}, Laid Z a0 K O f d → parseFieldDescriptor d = some ty → Fld Z h' a O f d (defaultValue ty)) (st' := fun a => .ref a :: st) C hc hn (fun X eT hZ ho h1 h2 => ?_) hr
  obtain ⟨T', h', X', e', E, A, D, -, q⟩ := RoadKit.newO X C.1 hZ ho w wi wz eT (g := mkF m pc L.toArray st) rfl (hb C.2.1 hd) h1 h2
  exact ⟨T', h', X', e', E, A.lt, ⟨A, D⟩, q⟩
/-- an array of ints (or bytes, chars ..) with these components -/
def ArI (Z : State) (h : Heap) (a : Nat) (ty : FieldType) (xs : List Int32) : Prop := (∃ kc, Arv Z h a kc ty (Int32.ofNat xs.length) (xs.map Value.int) (.int 0)) ∧ xs.length < 2 ^ 31
theorem ArI.lt {h : Heap} {a : Nat} {ty : FieldType} {xs : List Int32} (A : ArI Z h a ty xs) : a < h.size := by obtain ⟨⟨_, A⟩, _⟩ := A; exact A.lt
theorem ArI.ext {h h' : Heap} {a : Nat} {ty : FieldType} {xs : List Int32} (A : ArI Z h a ty xs) (E : Ext h h') : ArI Z h' a ty xs := by obtain ⟨⟨k, A⟩, q⟩ := A; exact ⟨⟨k, A.ext E⟩, q⟩
theorem ArI.keep {h h' : Heap} {a : Nat} {ty : FieldType} {xs : List Int32} {ws : List Nat} (A : ArI Z h a ty xs) (K : Keep h h' ws) (hn : a ∉ ws) : ArI Z h' a ty xs := by obtain ⟨⟨k, A⟩, q⟩ := A; exact ⟨⟨k, A.keep K hn⟩, q⟩
theorem ofNat_clamp {i : Nat} (hi : i < 2 ^ 31) : (Int32.ofNat i).toNatClampNeg = i := clamp_of rfl hi
theorem idx_ok {j : Int32} {i : Nat} (hj : j.toInt = (i : Int)) : ¬ j < 0 ∧ j.toNatClampNeg = i := by
  refine ⟨fun q => ?_, ?_⟩
  · rw [Int32.lt_iff_toInt_lt, hj, Int32.toInt_zero] at q; omega
  · show j.toInt.toNat = i; rw [hj]; rfl
theorem ArI.fit {h : Heap} {a : Nat} {ty : FieldType} {xs : List Int32} (A : ArI Z h a ty xs) {i : Nat} (hi : i < xs.length) : fits ty (.int (xs.getD i 0)) = true := by
  obtain ⟨⟨k, cl, A, q1, S, q3, H, G⟩, q⟩ := A
  have := G i (by rw [S, ofNat_clamp q]; exact hi)
  simpa [List.getD_eq_getElem?_getD, hi] using this
theorem ArI.cell {h : Heap} {a : Nat} {ty : FieldType} {xs : List Int32} (A : ArI Z h a ty xs) : ∃ cl : Cell, Arr Z h a cl ty ∧ cl.slots.size = xs.length ∧ ∀ {j : Int32} {i : Nat}, j.toInt = (i : Int) → i < xs.length → ¬ (j < 0 ∨ cl.slots.size ≤ j.toNatClampNeg) ∧ cl.slots[j.toNatClampNeg]? = some (.int (xs.getD i 0)) := by
  obtain ⟨⟨k, cl, A, q1, S, q3, H, G⟩, q⟩ := A
  rw [ofNat_clamp q] at S
  refine ⟨cl, A, S, fun {j i} hj hi => ?_⟩
  obtain ⟨h1, h2⟩ := idx_ok hj
  refine ⟨fun q => q.elim h1 (fun q => by omega), ?_⟩
  rw [h2, H i (by omega)]
  simp [List.getD_eq_getElem?_getD, hi]
theorem newarr (C : Cx p m meth c s Z a0 EL b own nm bytes maxL ret) {pc' : Nat} {aty : ArrayType} {ty : FieldType} {z : Int32} {cap : Nat} (hty : newarray.typeOf aty = ty) (hdv : defaultValue ty = .int 0) (w : (Cond.arrayClass ty).before a0 Z = true) (hd : decode bytes pc = .ok (.newarray aty, 2)) (hp : pc + 2 = pc') (hz : z = Int32.ofNat cap) (hcap : cap * 8 ≤ 536870912) (hc : k + 1 ≤ R.cells) (hn : n + cap ≤ R.slots)
    (hr : ∀ h' a, a = h.size → Z.heap.size ≤ a → a < h'.size → Ext h h' → ArI Z h' a ty (List.replicate cap 0) → WP p l e R s m args below meth c Z EL b Q pc' L (.ref a :: st) h' (a :: W) (k + 1) (n + cap)) :
    WP p l e R s m args below meth c Z EL b Q pc L (.int z :: st) h W k n := by
  subst hp hz hty
  have hb31 : cap < 2 ^ 31 := by omega
  refine WP.grow (F := fun h' a => ArI Z h' a (newarray.typeOf aty) (List.replicate cap 0)) (st' := fun a => .ref a :: st) C hc hn (fun X eT hZ ho h1 h2 => ?_) hr
  have hneg : ¬ Int32.ofNat cap < 0 := fun q => by
    rw [Int32.lt_iff_toInt_lt, toInt_of rfl hb31, Int32.toInt_zero] at q; omega
  obtain ⟨T', h', kA, X', e', E, A, q⟩ := RoadKit.newP X C.1 hZ w eT (g := mkF m pc L.toArray (.int (Int32.ofNat cap) :: st)) rfl (hb C.2.1 hd) rfl hneg (cap := cap) (by rw [ofNat_clamp hb31]; exact Nat.le_refl _) hcap h1 h2
  refine ⟨T', h', X', e', E, A.lt, ?_, q⟩
  have A' := Arv.new A hneg
  rw [hdv] at A'
  have A2 := A'.pad (vs' := (List.replicate cap (0 : Int32)).map Value.int) (by
    intro i
    have := pad_rep [] (.int (0 : Int32)) cap i
    simpa [List.map_replicate] using this)
  exact ⟨⟨kA, by simpa using A2⟩, by simpa using hb31⟩
/-! arrays -/
theorem arrlen (C : Cx p m meth c s Z a0 EL b own nm bytes maxL ret) {pc' : Nat} {a : Nat} {ty : FieldType} {xs : List Int32} (A : ArI Z h a ty xs) (hd : decode bytes pc = .ok (.arraylength, 1)) (hp : pc + 1 = pc')
    (hr : WP p l e R s m args below meth c Z EL b Q pc' L (.int (Int32.ofNat xs.length) :: st) h W k n) : WP p l e R s m args below meth c Z EL b Q pc L (.ref a :: st) h W k n := by
  subst hp
  obtain ⟨cl, A, S, -⟩ := A.cell
  have e : cl.slots.size.toInt32 = Int32.ofNat xs.length := by rw [S]
  rw [← e] at hr
  exact hr.hop C fun X eT _ hZ ho => ⟨_, X, eT, fun t q => X.arraylength C.1 (by rw [eT]; exact A.1) (State.isArrayOf_alike hZ.alike A.2.1) (g := mkF m pc L.toArray (.ref a :: st)) rfl rfl (hb C.2.1 hd) t q⟩
theorem caload (C : Cx p m meth c s Z a0 EL b own nm bytes maxL ret) {pc' : Nat} {a : Nat} {xs : List Int32} {j : Int32} {i : Nat} (A : ArI Z h a .char xs) (hj : j.toInt = (i : Int)) (hi : i < xs.length) (hd : decode bytes pc = .ok (.caload, 1)) (hp : pc + 1 = pc')
    (hr : WP p l e R s m args below meth c Z EL b Q pc' L (.int (xs.getD i 0) :: st) h W k n) : WP p l e R s m args below meth c Z EL b Q pc L (.int j :: .ref a :: st) h W k n := by
  subst hp
  obtain ⟨cl, A, S, G⟩ := A.cell
  obtain ⟨h1, h2⟩ := G hj hi
  exact hr.hop C fun X eT _ hZ ho => ⟨_, X, eT, fun t q => X.caload C.1 (by rw [eT]; exact A.1) (State.isArrayOf_alike hZ.alike A.2.1) A.2.2 h1 h2 (g := mkF m pc L.toArray (.int j :: .ref a :: st)) rfl rfl (hb C.2.1 hd) t q⟩
theorem baload (C : Cx p m meth c s Z a0 EL b own nm bytes maxL ret) {pc' : Nat} {a : Nat} {xs : List Int32} {j : Int32} {i : Nat} (A : ArI Z h a .byte xs) (hj : j.toInt = (i : Int)) (hi : i < xs.length) (hd : decode bytes pc = .ok (.baload, 1)) (hp : pc + 1 = pc')
    (hr : WP p l e R s m args below meth c Z EL b Q pc' L (.int (xs.getD i 0) :: st) h W k n) : WP p l e R s m args below meth c Z EL b Q pc L (.int j :: .ref a :: st) h W k n := by
  subst hp
  obtain ⟨cl, A, S, G⟩ := A.cell
  obtain ⟨h1, h2⟩ := G hj hi
  exact hr.hop C fun X eT _ hZ ho => ⟨_, X, eT, fun t q => X.baloadBytes C.1 (by rw [eT]; exact A.1) (State.isArrayOf_alike hZ.alike A.2.1) A.2.2 h1 h2 (g := mkF m pc L.toArray (.int j :: .ref a :: st)) rfl rfl (hb C.2.1 hd) t q⟩
theorem iaload (C : Cx p m meth c s Z a0 EL b own nm bytes maxL ret) {pc' : Nat} {a : Nat} {xs : List Int32} {j : Int32} {i : Nat} (A : ArI Z h a .int xs) (hj : j.toInt = (i : Int)) (hi : i < xs.length) (hd : decode bytes pc = .ok (.iaload, 1)) (hp : pc + 1 = pc')
    (hr : WP p l e R s m args below meth c Z EL b Q pc' L (.int (xs.getD i 0) :: st) h W k n) : WP p l e R s m args below meth c Z EL b Q pc L (.int j :: .ref a :: st) h W k n := by
  subst hp
  obtain ⟨cl, A, S, G⟩ := A.cell
  obtain ⟨h1, h2⟩ := G hj hi
  exact hr.hop C fun X eT _ hZ ho => ⟨_, X, eT, fun t q => X.iaload C.1 (by rw [eT]; exact A.1) (State.isArrayOf_alike hZ.alike A.2.1) A.2.2 h1 h2 (g := mkF m pc L.toArray (.int j :: .ref a :: st)) rfl rfl (hb C.2.1 hd) t q⟩
theorem ArI.set {h h' : Heap} {a : Nat} {ty : FieldType} {xs : List Int32} {j : Int32} {i : Nat} {x : Int32} (A : ArI Z h a ty xs) (hj : j.toInt = (i : Int)) (hi : i < xs.length) (hx : fits ty (.int x) = true) (Wr' : Wr h h' a j.toNatClampNeg (.int x)) : ArI Z h' a ty (xs.set i x) := by
  obtain ⟨⟨kc, cl, A, q1, S, q3, H, G⟩, q⟩ := A
  obtain ⟨h1, h2⟩ := idx_ok hj
  have := Arv.set A q1 S q3 H G hx Wr' i h2 (by simpa using hi)
  exact ⟨⟨kc, by simpa [List.map_set] using this⟩, by simpa using q⟩
theorem castore (C : Cx p m meth c s Z a0 EL b own nm bytes maxL ret) {pc' : Nat} {a : Nat} {xs : List Int32} {j x : Int32} {i : Nat} (A : ArI Z h a .char xs) (hj : j.toInt = (i : Int)) (hi : i < xs.length) (ha : a ∈ W) (hd : decode bytes pc = .ok (.castore, 1)) (hp : pc + 1 = pc')
    (hr : ∀ h', Keep h h' [a] → ArI Z h' a .char (xs.set i (nar .char x)) → WP p l e R s m args below meth c Z EL b Q pc' L st h' W k n) : WP p l e R s m args below meth c Z EL b Q pc L (.int x :: .int j :: .ref a :: st) h W k n := by
  subst hp
  obtain ⟨cl, B, S, G⟩ := A.cell
  refine WP.write C ha (fun X eT hZ ho => RoadKit.stC X C.1 hZ eT B (G hj hi).1 (g := mkF m pc L.toArray (.int x :: .int j :: .ref a :: st)) rfl rfl (hb C.2.1 hd)) fun h' w K => hr h' K (A.set hj hi (fits_nar_char _) w)
theorem bastore (C : Cx p m meth c s Z a0 EL b own nm bytes maxL ret) {pc' : Nat} {a : Nat} {xs : List Int32} {j x : Int32} {i : Nat} (A : ArI Z h a .byte xs) (hj : j.toInt = (i : Int)) (hi : i < xs.length) (ha : a ∈ W) (hd : decode bytes pc = .ok (.bastore, 1)) (hp : pc + 1 = pc')
    (hr : ∀ h', Keep h h' [a] → ArI Z h' a .byte (xs.set i (nar .byte x)) → WP p l e R s m args below meth c Z EL b Q pc' L st h' W k n) : WP p l e R s m args below meth c Z EL b Q pc L (.int x :: .int j :: .ref a :: st) h W k n := by
  subst hp
  obtain ⟨cl, B, S, G⟩ := A.cell
  refine WP.write C ha (fun X eT hZ ho => RoadKit.stB X C.1 hZ eT B (G hj hi).1 (g := mkF m pc L.toArray (.int x :: .int j :: .ref a :: st)) rfl rfl (hb C.2.1 hd)) fun h' w K => hr h' K (A.set hj hi (fits_nar_byte _) w)
theorem putF (C : Cx p m meth c s Z a0 EL b own nm bytes maxL ret) {pc' : Nat} {f O d K : String} {index kk : Nat} {ty : FieldType} {a : Nat} {v old : Value} (w : (Cond.fieldLink own index O f d).before a0 Z = true) (F : Fld Z h a O f d old) (E : Exa Z h a K) (ly : (Cond.lays K O f d).before a0 Z = true ∨ ((Cond.laysFinal K O f d).before a0 Z = true ∧ own = O ∧ nm = "<init>")) (wi : (Cond.instantiable K kk).before a0 Z = true)
    (hty : parseFieldDescriptor d = some ty) (hnr : narrow ty v = v) (hft : fits ty v = true) (ha : a ∈ W) (hd : decode bytes pc = .ok (.putfield index, 3)) (hp : pc + 3 = pc')
    (hr : ∀ h', Wr h h' a (Jvm.RoadKit.slotOf Z O f d) v → Keep h h' [a] → Fld Z h' a O f d v → WP p l e R s m args below meth c Z EL b Q pc' L st h' W k n) : WP p l e R s m args below meth c Z EL b Q pc L (v :: .ref a :: st) h W k n := by
  subst hp
  refine WP.write C ha (fun X eT hZ ho => RoadKit.putF X C.1 hZ ho (host := "") (Or.inl w) Via.refl eT F E (ly.imp id fun q => ⟨q.1, q.2.1, by rw [C.2.2.2.2.2.2.2.2.1]; exact q.2.2⟩) wi hty hnr hft (g := mkF m pc L.toArray (v :: .ref a :: st)) rfl rfl (hb C.2.1 hd)) fun h' w' K' => hr h' w' K' (F.same w')
/-! ldc of a String constant of EL -/
theorem ldcS (C : Cx p m meth c s Z a0 EL b own nm bytes maxL ret) (hbf : b = false) {pc' : Nat} {text : String} {index N : Nat} {xs : List Int32} (w : (Cond.stringLink own index text).before a0 Z = true) (hmem : (own, index) ∈ EL)
    (ht : (∀ ch ∈ text.toList, ch.toNat < 256) ∧ text.toList.map (fun ch => Value.int (Jvm.Lit.byteI ch.toNat.toUInt16)) = xs.map Value.int) (hlen : xs.length < 2 ^ 31)
    (hd : decode bytes pc = .ok (.ldc index, 2)) (hp : pc + 2 = pc') (hN : 4 * text.toList.length ≤ N) (hbig : N ≤ 536870912) (hc0 : k + 2 ≤ R.cells) (hn0 : n + (N + 4) ≤ R.slots)
    (hr : ∀ h' a d, Ext h h' → Exa Z h' a "java/lang/String" → Fld Z h' a "java/lang/String" "coder" "B" (.int 0) → Fld Z h' a "java/lang/String" "value" "[B" (.ref d) → ArI Z h' d .byte xs → (∀ x ∈ W, x ≠ a ∧ x ≠ d) → WP p l e R s m args below meth c Z EL b Q pc' L (.ref a :: st) h' W (k + 2) (n + (N + 4))) :
    WP p l e R s m args below meth c Z EL b Q pc L st h W k n := by
  subst hp
  intro T vm0 k0 locs cells slots X eT hS hk hb' hC hO hW hF hc hn
  obtain ⟨a, T', h', k1, d, kd, X', e', E, hS', hk', hZ', ho', A, Fc, Fv, V, -, -, hCH, -, hne, q⟩ := ldcCH (z := Int32.ofNat xs.length) X C.1 (C.z hS) (C.o hS) w (C.2.2.2.2.2.2.2.2.2.1 hbf) eT hS hk C.ew hmem hC.1 ht
    (fun q => by rw [Int32.lt_iff_toInt_lt, toInt_of rfl hlen, Int32.toInt_zero] at q; omega) (by rw [ofNat_clamp hlen]; simp) (g := mkF m pc L.toArray st) rfl (hb C.2.1 hd) hN hbig (by omega) (by omega)
  have hW' := hW.r hCH
  obtain ⟨s2, v, st, r⟩ := hr h' a d E A Fc Fv ⟨⟨kd, V⟩, hlen⟩ (fun x hx => hne x (hW' x hx).2.2) T' T'.vm k1 locs _ _ X' e' hS' hk' (fun q => by rw [hbf] at q; cases q) (hC.trans hCH) (hO.ext E) hW' hF (by omega) (by omega)
  exact ⟨s2, v, q _ st, r⟩
/-- ldc of any String constant: which object, not what it says -/
theorem ldcO (C : Cx p m meth c s Z a0 EL b own nm bytes maxL ret) (hbf : b = false) {pc' : Nat} {text : String} {index N : Nat} (w : (Cond.stringLink own index text).before a0 Z = true)
    (hd : decode bytes pc = .ok (.ldc index, 2)) (hp : pc + 2 = pc') (hN : 4 * text.toList.length ≤ N) (hbig : N ≤ 536870912) (hc0 : k + 2 ≤ R.cells) (hn0 : n + (N + 4) ≤ R.slots)
    (hr : ∀ h' a, Ext h h' → WP p l e R s m args below meth c Z EL b Q pc' L (.ref a :: st) h' W (k + 2) (n + (N + 4))) :
    WP p l e R s m args below meth c Z EL b Q pc L st h W k n := by
  subst hp
  intro T vm0 k0 locs cells slots X eT hS hk hb' hC hO hW hF hc hn
  obtain ⟨a, T', h', k1, X', e', E, hS', hk', hZ', ho', hCH, -, q⟩ := ldcOH X C.1 (C.z hS) (C.o hS) w (C.2.2.2.2.2.2.2.2.2.1 hbf) eT hS hk C.ew hC.1 (g := mkF m pc L.toArray st) rfl (hb C.2.1 hd) hN hbig (by omega) (by omega)
  obtain ⟨s2, v, st, r⟩ := hr h' a E T' T'.vm k1 locs _ _ X' e' hS' hk' (fun q => by rw [hbf] at q; cases q) (hC.trans hCH) (hO.ext E) (hW.r hCH) hF (by omega) (by omega)
  exact ⟨s2, v, q _ st, r⟩
/-! returns -/
theorem retW (C : Cx p m meth c s Z a0 EL b own nm bytes maxL ret) {v : Option Value} (hv : ret = none → v = none) (hk : k ≤ R.cells) (hn : n ≤ R.slots) {W' : List Nat} (hsub : ∀ x ∈ W', x ∈ W) (hQ : Q v h W')
    (q : ∀ {T : State} {vm0 : Vm} {locs : List Loc} {cells slots : Nat}, Stand p l e R (s.setVm vm0) m args below meth c T locs cells slots → ∀ {fs : List Frame}, (∀ (f : JFrame) (acts : List Action), f.method = m → f.locked = none → f.entered = [] → (doReturn e (T.setTop f) acts v).1 = T.setFrames fs) → Steps p.tables e below (T.setTop (mkF m pc L.toArray st)) (T.setFrames fs)) :
    WP p l e R s m args below meth c Z EL b Q pc L st h W k n := by
  intro T vm0 k0 locs cells slots X eT hS hk0 hb' hC hO hW hF hc hn'
  obtain ⟨fs, h1, h2, h3, hW1, hs⟩ := X.leave (v := v) (fun q => hv (by rw [← C.2.2.2.1]; exact q)) C.2.2.2.2.1
  obtain ⟨x1, x2, x3⟩ := hS.ended (U := T.setFrames fs) hW1 (by show k0 ≤ T.heap.size; rw [eT]; exact hk0) hs
  have hA := CHv.at X (C.z hS) C.ew hC.1
  refine ⟨T.setFrames fs, v, q X h1, h2, h3, locs, W', ?_, ?_, ?_, hF, ?_, ⟨⟨v, rfl⟩, x1, x2, x3.mono (by omega) (by omega)⟩, fun hbt => ?_⟩
  · show Q v T.heap W'; rw [eT]; exact hQ
  · show Own Z EL T.vm T.heap W'; rw [eT]; exact (hW.sub hsub).r hA
  · show Old Z Z.heap.size T.heap; rw [eT]; exact hO
  · show CHr Z EL s.vm s.heap T.vm T.heap; rw [eT]; exact hC.trans hA
  · obtain rfl := hb' hbt
    exact ⟨⟨v, rfl⟩, hW1, State.sameButNew.mono hs (by omega) (by omega)⟩
theorem retN (C : Cx p m meth c s Z a0 EL b own nm bytes maxL ret) {t : FieldType} {z : Int32} (hret : ret = some t) (ht : t = .boolean ∨ t = .byte ∨ t = .char ∨ t = .short) (hd : decode bytes pc = .ok (.ireturn, 1)) (hk : k ≤ R.cells) (hn : n ≤ R.slots) (W' : List Nat) (hsub : ∀ x ∈ W', x ∈ W) (hQ : Q (some (.int (nar t z))) h W') :
    WP p l e R s m args below meth c Z EL b Q pc L (.int z :: st) h W k n := by
  subst hret
  exact retW C (fun q => nomatch q) hk hn hsub hQ fun X _ h1 => RoadKit.retN X C.1 C.2.2.2.1 ht (hb C.2.1 hd) h1
theorem retV (C : Cx p m meth c s Z a0 EL b own nm bytes maxL ret) (hret : ret = none) (hd : decode bytes pc = .ok (.return_, 1)) (hk : k ≤ R.cells) (hn : n ≤ R.slots) (W' : List Nat) (hsub : ∀ x ∈ W', x ∈ W) (hQ : Q none h W') :
    WP p l e R s m args below meth c Z EL b Q pc L [] h W k n := by
  subst hret
  exact retW C (fun _ => rfl) hk hn hsub hQ fun X _ h1 => X.returnOut C.1 C.2.2.2.1 (hb C.2.1 hd) h1
theorem retI (C : Cx p m meth c s Z a0 EL b own nm bytes maxL ret) {z : Int32} (hret : ret = some .int) (hd : decode bytes pc = .ok (.ireturn, 1)) (hk : k ≤ R.cells) (hn : n ≤ R.slots) (W' : List Nat) (hsub : ∀ x ∈ W', x ∈ W) (hQ : Q (some (.int z)) h W') :
    WP p l e R s m args below meth c Z EL b Q pc L (.int z :: st) h W k n := by
  subst hret
  exact retW C (fun q => nomatch q) hk hn hsub hQ fun X _ h1 => RoadKit.retOut X C.1 (t := .int) C.2.2.2.1 rfl (Or.inl ⟨rfl, Or.inl rfl, z, rfl⟩) (hb C.2.1 hd) h1
theorem retA (C : Cx p m meth c s Z a0 EL b own nm bytes maxL ret) {t : FieldType} {v : Value} (hret : ret = some t) (ht : t.isReference = true) (hv : v.isRef = true) (hd : decode bytes pc = .ok (.areturn, 1)) (hk : k ≤ R.cells) (hn : n ≤ R.slots) (W' : List Nat) (hsub : ∀ x ∈ W', x ∈ W) (hQ : Q (some v) h W') :
    WP p l e R s m args below meth c Z EL b Q pc L (v :: st) h W k n := by
  subst hret
  exact retW C (fun q => nomatch q) hk hn hsub hQ fun X _ h1 => RoadKit.retOut X C.1 (t := t) C.2.2.2.1 (by cases t <;> cases v <;> first | rfl | (cases ht; done) | (cases hv; done)) (Or.inr (Or.inr (Or.inr (Or.inr ⟨rfl, ht, hv⟩)))) (hb C.2.1 hd) h1
end Steps
/-! contracts and calls -/
section Calls
variable {p : Program} {l : Launch} {e : Env} {R : Room} {s : State} {m : MethodId} {args : Array Value} {below : List Frame} {meth : Method} {c : Code} {Z : State} {a0 : Array Value} {EL : List (String × Nat)} {b : Bool} {own nm : String} {bytes : ByteArray} {maxL : Nat} {ret : Option FieldType} {Q : Option Value → Heap → List Nat → Prop}
  {pc : Nat} {L : List Slot} {st : List Value} {h : Heap} {W : List Nat} {k n : Nat}
/-- a method's contract: called with these arguments over this heap it returns, and Q says what it returned, the heap it left, and which cells may be written besides -/
def Con (l : Launch) (Z : State) (EL : List (String × Nat)) (b : Bool) (y : MethodName) (bytes : ByteArray) (maxL : Nat) (ret : Option FieldType) (ws : List Jvm.Cond) (rm : Room) (as' : Array Value) (h : Heap) (W : List Nat) (Q : Option Value → Heap → List Nat → Prop) : Prop :=
  MetFree l y (head1 (Cond.code y bytes maxL ret :: ws) rm) (fun a U => a = as' ∧ Z.Warmed39 U.vm ∧ U.heap = h ∧ CHv Z EL U.vm h ∧ Old Z Z.heap.size h ∧ Own Z EL U.vm h W) (fun _ _ _ _ _ => True)
    (fun _ U o U' => ∃ v L, o = .returned v ∧ (∃ W', Q v U'.heap W' ∧ Own Z EL U'.vm U'.heap W' ∧ Old Z Z.heap.size U'.heap ∧ Fr Z.heap.size L) ∧ CHr Z EL U.vm U.heap U'.vm U'.heap ∧ ReturnedEndW U o U' L rm.cells rm.slots ∧ (b = true → FrameEnd U o U' L rm.cells rm.slots))
theorem Con.intro {y : MethodName} {ws : List Jvm.Cond} {rm : Room} {as' : Array Value} (hpn : plainFor y = true) (hEL : EW Z a0 EL) (hS : b = false → ∀ a ∈ Bundle.stringAtoms, a.before a0 Z = true) (hB : b = true → EL = []) (L : List Slot) (hE : argsToLocals as' maxL = L.toArray)
    (H : ∀ (p : Program) (e : Env) (s : State) (m : MethodId) (below : List Frame) (meth : Method) (c : Code), Cx p m meth c s Z a0 EL b y.cls y.name bytes maxL ret → Old Z Z.heap.size h → WP p l e rm s m as' below meth c Z EL b Q 0 L [] h W 0 0) :
    Con l Z EL b y bytes maxL ret ws rm as' h W Q := by
  refine MetFree.of_bodySF hpn hisR ?_
  intro p e s m args below meth c s₁ Bd hml hP hK
  obtain ⟨rfl, hZ, hh, hC, hO, hW⟩ := hP
  have hnm := (name_of_methodNamed Bd.named Bd.method).1
  have X0 : Stand p l e rm s m args below meth c s₁ [] 0 0 := Stand.of_body Bd
  have e0 : s₁.heap = h := by rw [← hh, Bd.state]; rfl
  obtain ⟨s2, v, q, r1, r2, L', W', r3, r4, r5, r6, r7, r8, r9⟩ := H p e s m below meth c ⟨Bd.exec, Bd.bytes, hml, Bd.returns, Bd.notSynchronized, findClass_of_methodNamed Bd.named, hZ, hEL, hnm, hS, hB⟩ hO s₁ s.vm 0 [] 0 0 X0 e0 ((State.WarmedH.refl s).since 0) (Nat.zero_le _) (fun _ => rfl)
    (by rw [hh]; exact CHr.refl hC) hO hW (Fr.nil _) (Nat.le_refl _) (Nat.le_refl _)
  have he : entryFrame m args maxL = mkF m 0 L.toArray [] := by unfold entryFrame; rw [hE]
  exact ⟨s2, _, castTop he q, r1, r2, v, L', rfl, ⟨W', r3, r4, r5, r6⟩, r7, r8, r9⟩
/-- a contract used where less is asked, or more is known -/
theorem Con.mono {y : MethodName} {ws : List Jvm.Cond} {rm : Room} {as' : Array Value} {Q' : Option Value → Heap → List Nat → Prop} (M : Con l Z EL b y bytes maxL ret ws rm as' h W Q) (q : ∀ v h' W', Q v h' W' → Q' v h' W') : Con l Z EL b y bytes maxL ret ws rm as' h W Q' := by
  intro p e h1 h2 h3 s m args below hf ha hP hK
  obtain ⟨n, o, x1, x2, x3, v, L, x4, ⟨W', x5, x6⟩, x7⟩ := M p e h1 h2 h3 s m args below hf ha hP hK
  exact ⟨n, o, x1, x2, x3, v, L, x4, ⟨W', q _ _ _ x5, x6⟩, x7⟩
/-- what stands behind a call -/
def Post (Z : State) (EL : List (String × Nat)) (vm0 : Vm) (h : Heap) (rm : Room) (Q : Option Value → Heap → List Nat → Prop) (A : Pt) (v : Option Value) (B : Pt) : Prop :=
  ∃ (L : List Loc) (W' : List Nat), Q v B.U.heap W' ∧ Own Z EL B.U.vm B.U.heap W' ∧ Old Z Z.heap.size B.U.heap ∧ Fr Z.heap.size L ∧ B.locs = A.locs ++ L ∧ B.cells = A.cells + rm.cells ∧ B.slots = A.slots + rm.slots ∧ CHr Z EL vm0 h B.U.vm B.U.heap
theorem Con.backS {y : MethodName} {rm : Room} {as' : Array Value} {len Wt : Nat} {vm0 : Vm} (M : Con l Z EL b y bytes maxL ret [] rm as' h W Q) (hZ : Z.Warmed39 vm0) (wc : (Cond.code y bytes maxL ret).before a0 Z = true) (wz : (Cond.initialized y.cls).before a0 Z = true) (hf : rm.frames + 1 ≤ R.frames) (hl : Wt + (maxL + 11) + rm.locals ≤ R.locals)
    (hEL : EW Z a0 EL) (H : CHv Z EL vm0 h) (hO : Old Z Z.heap.size h) (hW : Own Z EL vm0 h W) :
    BackS l R p e below (s.setVm vm0) args y len Wt (fun A a => a = as' ∧ A.U.heap = h ∧ A.cells + rm.cells ≤ R.cells ∧ A.slots + rm.slots ≤ R.slots) (fun A _ v B => Post Z EL vm0 h rm Q A v B) :=
  BackS.of_freeW (bytes := bytes) (maxL := maxL) (ret := ret) (E := fun _ first o t L kk nn => kk = rm.cells ∧ nn = rm.slots ∧ (∃ v, o = .returned v ∧ ∃ W', Q v t.heap W' ∧ Own Z EL t.vm t.heap W' ∧ Old Z Z.heap.size t.heap ∧ Fr Z.heap.size L) ∧ CHr Z EL first.vm first.heap t.vm t.heap) M hf hl
    (fun m meth c A a Y hp => have hU : Z.Warmed39 A.U.vm := wtrans (s := s.setVm vm0) hZ Y.warmed
      ⟨by show (Cond.and _ .tt).before a A.U = true; rw [Cond.before_and, mv hU wc]; rfl, mv hU wc, mv hU wz, hp.2.2.1, hp.2.2.2⟩)
    (fun m meth c A a g mk Y hp => ⟨hp.1, wtrans (s := s.setVm vm0) hZ Y.warmed, hp.2.1, (CHv.at Y hZ hEL H).1, hO, (show Own Z EL A.U.vm h W from hW.r (CHv.at Y hZ hEL H))⟩) (fun _ _ _ _ _ _ _ _ _ => trivial)
    (fun _ _ _ _ ⟨v, L, h1, ⟨W', h2⟩, h3, h4, _⟩ => ⟨L, _, _, h4, rfl, rfl, ⟨v, h1, W', h2⟩, h3⟩)
    (fun m meth c A a g mk v t L kk nn Y hp _ _ ⟨e1, e2, ⟨v', e3, W', e4, e5, e6, e7⟩, e8⟩ => by
      cases e3; subst e1 e2
      refine ⟨L, W', e4, e5, e6, e7, rfl, rfl, rfl, ?_⟩
      have e9 : CHr Z EL A.U.vm A.U.heap t.vm t.heap := e8
      rw [hp.2.1] at e9
      exact (CHv.at Y hZ hEL H).trans e9)
theorem Con.back {y : MethodName} {rm : Room} {as' : Array Value} {len Wt : Nat} {vm0 : Vm} (M : Con l Z [] true y bytes maxL ret [] rm as' h W Q) (hZ : Z.Warmed39 vm0) (wc : (Cond.code y bytes maxL ret).before a0 Z = true) (wz : (Cond.initialized y.cls).before a0 Z = true) (hf : rm.frames + 1 ≤ R.frames) (hl : Wt + (maxL + 11) + rm.locals ≤ R.locals)
    (H : CHv Z [] vm0 h) (hO : Old Z Z.heap.size h) (hW : Own Z [] vm0 h W) :
    Back l R p e below (s.setVm vm0) args y len Wt (fun A a => a = as' ∧ A.U.heap = h ∧ A.cells + rm.cells ≤ R.cells ∧ A.slots + rm.slots ≤ R.slots) (fun A _ v B => Post Z [] vm0 h rm Q A v B) :=
  Back.of_free (bytes := bytes) (maxL := maxL) (ret := ret) (E := fun _ first o t L kk nn => kk = rm.cells ∧ nn = rm.slots ∧ (∃ v, o = .returned v ∧ ∃ W', Q v t.heap W' ∧ Own Z [] t.vm t.heap W' ∧ Old Z Z.heap.size t.heap ∧ Fr Z.heap.size L) ∧ CHr Z [] first.vm first.heap t.vm t.heap) M hf hl
    (fun m meth c A a Y hp => have hU : Z.Warmed39 A.U.vm := wtrans (s := s.setVm vm0) hZ Y.warmed
      ⟨by show (Cond.and _ .tt).before a A.U = true; rw [Cond.before_and, mv hU wc]; rfl, mv hU wc, mv hU wz, hp.2.2.1, hp.2.2.2⟩)
    (fun m meth c A a g mk Y hp => ⟨hp.1, wtrans (s := s.setVm vm0) hZ Y.warmed, hp.2.1, (CHv.at Y hZ (EW.nil (a0 := a0)) H).1, hO, (show Own Z [] A.U.vm h W from hW.r (CHv.at Y hZ (EW.nil (a0 := a0)) H))⟩) (fun _ _ _ _ _ _ _ _ _ => trivial)
    (fun _ _ _ _ ⟨v, L, h1, ⟨W', h2⟩, h3, _, h5⟩ => ⟨L, _, _, h5 rfl, rfl, rfl, ⟨v, h1, W', h2⟩, h3⟩)
    (fun m meth c A a g mk v t L kk nn Y hp _ _ ⟨e1, e2, ⟨v', e3, W', e4, e5, e6, e7⟩, e8⟩ => by
      cases e3; subst e1 e2
      refine ⟨L, W', e4, e5, e6, e7, rfl, rfl, rfl, ?_⟩
      have e9 : CHr Z [] A.U.vm A.U.heap t.vm t.heap := e8
      rw [hp.2.1] at e9
      exact (CHv.at Y hZ (EW.nil (a0 := a0)) H).trans e9)
theorem chr_nil {vm vm1 vm2 : Vm} {h h' : Heap} (A : CHr Z [] vm h vm1 h') : CHr Z [] vm h vm2 h' := ⟨(fun _ hp => nomatch hp), A.2.1, fun y q => by obtain ⟨_, hp, _⟩ := q; cases hp⟩
theorem own_nil {vm vm2 : Vm} {h : Heap} (A : Own Z [] vm h W) : Own Z [] vm2 h W := fun x hx => ⟨(A x hx).1, (A x hx).2.1, fun q => by obtain ⟨_, hp, _⟩ := q; cases hp⟩
theorem WP.wk {V : List Nat} (hsub : ∀ x ∈ V, x ∈ W) (hr : WP p l e R s m args below meth c Z EL b Q pc L st h V k n) : WP p l e R s m args below meth c Z EL b Q pc L st h W k n :=
  fun T vm0 k0 locs cells slots X eT hS hk hb' hC hO hW hF hc hn => hr T vm0 k0 locs cells slots X eT hS hk hb' hC hO (hW.sub hsub) hF hc hn
theorem WP.room {k' n' : Nat} (hk' : k ≤ k') (hn' : n ≤ n') (hr : WP p l e R s m args below meth c Z EL b Q pc L st h W k' n') : WP p l e R s m args below meth c Z EL b Q pc L st h W k n :=
  fun T vm0 k0 locs cells slots X eT hS hk hb' hC hO hW hF hc hn => hr T vm0 k0 locs cells slots X eT hS hk hb' hC hO hW hF (Nat.le_trans hc hk') (Nat.le_trans hn hn')
/-- the way on behind a call -/
theorem WP.after {rm : Room} {Q' : Option Value → Heap → List Nat → Prop} {pc' : Nat} {rest : List Value} {V : List Nat} (C : Cx p m meth c s Z a0 EL b own nm bytes maxL ret) (hc0 : k + rm.cells ≤ R.cells) (hn0 : n + rm.slots ≤ R.slots)
    (hr : ∀ v h' W', Q' v h' W' → h.size ≤ h'.size → WP p l e R s m args below meth c Z EL b Q pc' L (v.toList ++ rest) h' (W' ++ W) (k + rm.cells) (n + rm.slots))
    {T : State} {vm0 : Vm} {k0 : Nat} {locs : List Loc} {cells slots : Nat} (eT : T.heap = h) (hS : s.Since vm0 k0) (hk : k0 ≤ h.size) (hb' : b = true → vm0 = s.vm) (hC : CHr Z EL s.vm s.heap vm0 h) (hW : Own Z EL vm0 h W) (hF : Fr Z.heap.size locs) (hc : cells ≤ k) (hn : slots ≤ n)
    {v : Option Value} {vm1 vm2 : Vm} {B : Pt} (X' : Stand p l e R (s.setVm vm2) m args below meth c B.U B.locs B.cells B.slots) (hS' : (s.setVm vm0).Since vm2 B.U.heap.size) (hv : (b = false ∧ vm2 = B.U.vm) ∨ (b = true ∧ vm2 = vm0)) (hg : T.heap.size ≤ B.U.heap.size)
    (P : Post Z EL vm0 h rm Q' ⟨T.setVm vm1, locs, cells, slots⟩ v B) :
    ∃ s2 v2, Steps p.tables e below (B.U.setTop (mkF m pc' L.toArray (v.toList ++ rest))) s2 ∧ EndQ R Z EL b Q s below s2 v2 := by
  obtain ⟨L1, W', q1, q2, q3, q4, q5, q6, q7, q8⟩ := P
  rw [eT] at hg
  have hF' : Fr Z.heap.size B.locs := by rw [q5]; exact hF.app q4
  have hcc : B.cells ≤ k + rm.cells := by rw [q6]; show cells + rm.cells ≤ _; omega
  have hnn : B.slots ≤ n + rm.slots := by rw [q7]; show slots + rm.slots ≤ _; omega
  rcases hv with ⟨rfl, rfl⟩ | ⟨rfl, rfl⟩
  · exact hr v _ W' q1 hg B.U B.U.vm B.U.heap.size _ _ _ X' rfl (hS.trans hS' (Nat.le_trans hk hg)) (Nat.le_refl _) (fun q => nomatch q) (hC.trans q8) q3 (q2.app (hW.r q8)) hF' hcc hnn
  · obtain rfl := C.2.2.2.2.2.2.2.2.2.2 rfl
    exact hr v _ W' q1 hg B.U vm2 k0 _ _ _ X' rfl hS (Nat.le_trans hk hg) hb' (chr_nil (hC.trans q8)) q3 (own_nil (q2.app (hW.r q8))) hF' hcc hnn
theorem callSW (C : Cx p m meth c s Z a0 EL b own nm bytes maxL ret) {pc' index : Nat} {y : MethodName} {ybytes : ByteArray} {ymax : Nat} {yret : Option FieldType} {rm : Room} {V : List Nat} {Q' : Option Value → Heap → List Nat → Prop} {argsL rest : List Value} {ps : List FieldType} {pr : Option FieldType} {Wt : Nat}
    (w1 : (Cond.methodLink own index y).before a0 Z = true) (w2 : (Cond.static y).before a0 Z = true) (w3 : (Cond.initialized y.cls).before a0 Z = true) (w4 : (Cond.code y ybytes ymax yret).before a0 Z = true) (hy : y.cls ≠ "java/lang/invoke/MethodHandle" ∧ y.cls ≠ "java/lang/invoke/VarHandle")
    (M : Con l Z EL b y ybytes ymax yret [] rm argsL.toArray h V Q') (hV : ∀ x ∈ V, x ∈ W) (hpd : parseMethodDescriptor y.desc = some ⟨ps, pr⟩) (hal : argsL.length = ps.length) (hst : st = argsL.reverse ++ rest) (hsz : L.length = maxL)
    (hd : decode bytes pc = .ok (.invokestatic index, 3)) (hp : pc + 3 = pc') (hWt : (rest.map fun v => v.category).sum ≤ Wt) (hf : rm.frames + 1 ≤ R.frames) (hl : Wt + (ymax + 11) + rm.locals ≤ R.locals) (hc0 : k + rm.cells ≤ R.cells) (hn0 : n + rm.slots ≤ R.slots)
    (hr : ∀ v h' W', Q' v h' W' → h.size ≤ h'.size → WP p l e R s m args below meth c Z EL b Q pc' L (v.toList ++ rest) h' (W' ++ W) (k + rm.cells) (n + rm.slots)) :
    WP p l e R s m args below meth c Z EL b Q pc L st h W k n := by
  subst hp hst
  intro T vm0 k0 locs cells slots X eT hS hk hb' hC hO hW hF hc hn
  have hZ0 : Z.Warmed39 (s.setVm vm0).vm := C.z hS
  have hsz' : (mkF m pc L.toArray (argsL.reverse ++ rest)).locals.size = c.maxLocals := by rw [C.2.2.1, ← hsz]; simp
  cases b with
  | false =>
    obtain ⟨v, vm1, B, -, X', hS', hg, P, q⟩ := callSS X C.1 (C.o hS) (mv hZ0 w1) (mv hZ0 w2) (mv hZ0 w3) (mv hZ0 w4) hy (M.backS (W := V) hZ0 w4 w3 hf hl C.ew hC.1 hO (hW.sub hV)) (g := mkF m pc L.toArray (argsL.reverse ++ rest)) rfl hsz' (lenOf hpd hal) rfl (by show 2 * 0 + _ ≤ _; omega) (hb C.2.1 hd) (fun _ _ => ⟨rfl, eT, by show cells + _ ≤ _; omega, by show slots + _ ≤ _; omega⟩)
    obtain ⟨s2, v2, q2, r⟩ := WP.after (V := V) C hc0 hn0 hr eT hS hk hb' hC hW hF hc hn X' hS' (Or.inl ⟨rfl, rfl⟩) hg P
    exact ⟨s2, v2, q.trans q2, r⟩
  | true =>
    obtain rfl := C.2.2.2.2.2.2.2.2.2.2 rfl
    obtain ⟨v, vm1, B, -, X', P, q⟩ := LawKit.callS X C.1 (C.o hS) (mv hZ0 w1) (mv hZ0 w2) (mv hZ0 w3) (mv hZ0 w4) hy (M.back (W := V) hZ0 w4 w3 hf hl hC.1 hO (hW.sub hV)) (g := mkF m pc L.toArray (argsL.reverse ++ rest)) rfl hsz' (lenOf hpd hal) rfl (by show 2 * 0 + _ ≤ _; omega) (hb C.2.1 hd) (fun _ _ => ⟨rfl, eT, by show cells + _ ≤ _; omega, by show slots + _ ≤ _; omega⟩)
    have hg : T.heap.size ≤ B.U.heap.size := by obtain ⟨_, _, _, _, _, _, _, _, _, q8⟩ := P; rw [eT]; exact q8.2.1
    obtain ⟨s2, v2, q2, r⟩ := WP.after (V := V) C hc0 hn0 hr eT hS hk hb' hC hW hF hc hn X' ((State.WarmedH.refl _).since _) (Or.inr ⟨rfl, rfl⟩) hg P
    exact ⟨s2, v2, q _ q2, r⟩
theorem callS (C : Cx p m meth c s Z a0 EL b own nm bytes maxL ret) {pc' index : Nat} {y : MethodName} {ybytes : ByteArray} {ymax : Nat} {yret : Option FieldType} {rm : Room} {V : List Nat} {Q' : Option Value → Heap → List Nat → Prop} {argsL rest : List Value} {ps : List FieldType} {pr : Option FieldType} {Wt : Nat}
    (w1 : (Cond.methodLink own index y).before a0 Z = true) (w2 : (Cond.static y).before a0 Z = true) (w3 : (Cond.initialized y.cls).before a0 Z = true) (w4 : (Cond.code y ybytes ymax yret).before a0 Z = true) (hy : y.cls ≠ "java/lang/invoke/MethodHandle" ∧ y.cls ≠ "java/lang/invoke/VarHandle")
    (M : Con l Z EL b y ybytes ymax yret [] rm argsL.toArray h V Q') (hV : ∀ x ∈ V, x ∈ W) (hpd : parseMethodDescriptor y.desc = some ⟨ps, pr⟩) (hal : argsL.length = ps.length) (hst : st = argsL.reverse ++ rest) (hsz : L.length = maxL)
    (hd : decode bytes pc = .ok (.invokestatic index, 3)) (hp : pc + 3 = pc') (hWt : (rest.map fun v => v.category).sum ≤ Wt) (hf : rm.frames + 1 ≤ R.frames) (hl : Wt + (ymax + 11) + rm.locals ≤ R.locals) (hc0 : k + rm.cells ≤ R.cells) (hn0 : n + rm.slots ≤ R.slots)
    (hr : ∀ v h' W', Q' v h' W' → h.size ≤ h'.size → WP p l e R s m args below meth c Z EL b Q pc' L (v.toList ++ rest) h' W (k + rm.cells) (n + rm.slots)) :
    WP p l e R s m args below meth c Z EL b Q pc L st h W k n :=
  callSW C w1 w2 w3 w4 hy M hV hpd hal hst hsz hd hp hWt hf hl hc0 hn0 fun v h' W' q g => (hr v h' W' q g).wk fun x hx => List.mem_append_right _ hx
theorem callIW (C : Cx p m meth c s Z a0 EL b own nm bytes maxL ret) {pc' index : Nat} {y : MethodName} {ybytes : ByteArray} {ymax : Nat} {rm : Room} {V : List Nat} {Q' : Option Value → Heap → List Nat → Prop} {a : Nat} {argsL rest : List Value} {ps : List FieldType} {pr : Option FieldType} {Wt : Nat} (hy1 : y.name = "<init>")
    (w1 : (Cond.methodLink own index y).before a0 Z = true) (w2 : (Cond.instanceMethod y).before a0 Z = true) (w3 : (Cond.initialized y.cls).before a0 Z = true) (w4 : (Cond.code y ybytes ymax none).before a0 Z = true) (hy : y.cls ≠ "java/lang/invoke/MethodHandle" ∧ y.cls ≠ "java/lang/invoke/VarHandle")
    (M : Con l Z EL b y ybytes ymax none [] rm (.ref a :: argsL).toArray h V Q') (hV : ∀ x ∈ V, x ∈ W) (hpd : parseMethodDescriptor y.desc = some ⟨ps, pr⟩) (hal : argsL.length = ps.length) (hst : st = argsL.reverse ++ .ref a :: rest) (hsz : L.length = maxL)
    (hd : decode bytes pc = .ok (.invokespecial index, 3)) (hp : pc + 3 = pc') (hWt : (rest.map fun v => v.category).sum ≤ Wt) (hf : rm.frames + 1 ≤ R.frames) (hl : Wt + (ymax + 11) + rm.locals ≤ R.locals) (hc0 : k + rm.cells ≤ R.cells) (hn0 : n + rm.slots ≤ R.slots)
    (hr : ∀ v h' W', Q' v h' W' → h.size ≤ h'.size → WP p l e R s m args below meth c Z EL b Q pc' L (v.toList ++ rest) h' (W' ++ W) (k + rm.cells) (n + rm.slots)) :
    WP p l e R s m args below meth c Z EL b Q pc L st h W k n := by
  subst hp hst
  intro T vm0 k0 locs cells slots X eT hS hk hb' hC hO hW hF hc hn
  have hZ0 : Z.Warmed39 (s.setVm vm0).vm := C.z hS
  have hsz' : (mkF m pc L.toArray (argsL.reverse ++ .ref a :: rest)).locals.size = c.maxLocals := by rw [C.2.2.1, ← hsz]; simp
  cases b with
  | false =>
    obtain ⟨v, vm1, B, -, X', hS', hg, P, q⟩ := X.specialBackS C.1 hy1 (C.o hS) (mv hZ0 w1) (mv hZ0 w2) (mv hZ0 w4) hy (M.backS (W := V) hZ0 w4 w3 hf hl C.ew hC.1 hO (hW.sub hV)) (g := mkF m pc L.toArray (argsL.reverse ++ .ref a :: rest)) rfl hsz' (Steps.refl _) (lenOf hpd hal) rfl (by show 2 * 0 + _ ≤ _; omega) (hb C.2.1 hd) (fun _ _ => ⟨rfl, eT, by show cells + _ ≤ _; omega, by show slots + _ ≤ _; omega⟩)
    obtain ⟨s2, v2, q2, r⟩ := WP.after (V := V) C hc0 hn0 hr eT hS hk hb' hC hW hF hc hn X' hS' (Or.inl ⟨rfl, rfl⟩) hg P
    exact ⟨s2, v2, q.trans q2, r⟩
  | true =>
    obtain rfl := C.2.2.2.2.2.2.2.2.2.2 rfl
    obtain ⟨v, vm1, B, -, X', P, q⟩ := X.specialBack C.1 hy1 (C.o hS) (mv hZ0 w1) (mv hZ0 w2) (mv hZ0 w4) hy (M.back (W := V) hZ0 w4 w3 hf hl hC.1 hO (hW.sub hV)) (g := mkF m pc L.toArray (argsL.reverse ++ .ref a :: rest)) rfl hsz' (Steps.refl _) (lenOf hpd hal) rfl (by show 2 * 0 + _ ≤ _; omega) (hb C.2.1 hd) (fun _ _ => ⟨rfl, eT, by show cells + _ ≤ _; omega, by show slots + _ ≤ _; omega⟩)
    have hg : T.heap.size ≤ B.U.heap.size := by obtain ⟨_, _, _, _, _, _, _, _, _, q8⟩ := P; rw [eT]; exact q8.2.1
    obtain ⟨s2, v2, q2, r⟩ := WP.after (V := V) C hc0 hn0 hr eT hS hk hb' hC hW hF hc hn X' ((State.WarmedH.refl _).since _) (Or.inr ⟨rfl, rfl⟩) hg P
    exact ⟨s2, v2, q.trans q2, r⟩
theorem callI (C : Cx p m meth c s Z a0 EL b own nm bytes maxL ret) {pc' index : Nat} {y : MethodName} {ybytes : ByteArray} {ymax : Nat} {rm : Room} {V : List Nat} {Q' : Option Value → Heap → List Nat → Prop} {a : Nat} {argsL rest : List Value} {ps : List FieldType} {pr : Option FieldType} {Wt : Nat} (hy1 : y.name = "<init>")
    (w1 : (Cond.methodLink own index y).before a0 Z = true) (w2 : (Cond.instanceMethod y).before a0 Z = true) (w3 : (Cond.initialized y.cls).before a0 Z = true) (w4 : (Cond.code y ybytes ymax none).before a0 Z = true) (hy : y.cls ≠ "java/lang/invoke/MethodHandle" ∧ y.cls ≠ "java/lang/invoke/VarHandle")
    (M : Con l Z EL b y ybytes ymax none [] rm (.ref a :: argsL).toArray h V Q') (hV : ∀ x ∈ V, x ∈ W) (hpd : parseMethodDescriptor y.desc = some ⟨ps, pr⟩) (hal : argsL.length = ps.length) (hst : st = argsL.reverse ++ .ref a :: rest) (hsz : L.length = maxL)
    (hd : decode bytes pc = .ok (.invokespecial index, 3)) (hp : pc + 3 = pc') (hWt : (rest.map fun v => v.category).sum ≤ Wt) (hf : rm.frames + 1 ≤ R.frames) (hl : Wt + (ymax + 11) + rm.locals ≤ R.locals) (hc0 : k + rm.cells ≤ R.cells) (hn0 : n + rm.slots ≤ R.slots)
    (hr : ∀ v h' W', Q' v h' W' → h.size ≤ h'.size → WP p l e R s m args below meth c Z EL b Q pc' L (v.toList ++ rest) h' W (k + rm.cells) (n + rm.slots)) :
    WP p l e R s m args below meth c Z EL b Q pc L st h W k n :=
  callIW C hy1 w1 w2 w3 w4 hy M hV hpd hal hst hsz hd hp hWt hf hl hc0 hn0 fun v h' W' q g => (hr v h' W' q g).wk fun x hx => List.mem_append_right _ hx
theorem callVW (C : Cx p m meth c s Z a0 EL b own nm bytes maxL ret) {pc' index : Nat} {K : String} {y z : MethodName} {ybytes : ByteArray} {ymax : Nat} {yret : Option FieldType} {rm : Room} {V : List Nat} {Q' : Option Value → Heap → List Nat → Prop} {a : Nat} {argsL rest : List Value} {ps : List FieldType} {pr : Option FieldType} {Wt : Nat}
    (w1 : (Cond.methodLink own index y).before a0 Z = true) (w2 : (Cond.declares y).before a0 Z = true) (wf : (Cond.selects y.cls y y).before a0 Z = true) (w5 : (Cond.selects K y z).before a0 Z = true) (w6 : (Cond.instanceMethod z).before a0 Z = true) (w3 : (Cond.initialized z.cls).before a0 Z = true) (w4 : (Cond.code z ybytes ymax yret).before a0 Z = true) (hy : y.cls ≠ "java/lang/invoke/MethodHandle" ∧ y.cls ≠ "java/lang/invoke/VarHandle")
    (E : Exa Z h a K) (M : Con l Z EL b z ybytes ymax yret [] rm (.ref a :: argsL).toArray h V Q') (hV : ∀ x ∈ V, x ∈ W) (hpd : parseMethodDescriptor y.desc = some ⟨ps, pr⟩) (hal : argsL.length = ps.length) (hst : st = argsL.reverse ++ .ref a :: rest) (hsz : L.length = maxL)
    (hd : decode bytes pc = .ok (.invokevirtual index, 3)) (hp : pc + 3 = pc') (hWt : (rest.map fun v => v.category).sum ≤ Wt) (hf : rm.frames + 1 ≤ R.frames) (hl : Wt + (ymax + 11) + rm.locals ≤ R.locals) (hc0 : k + rm.cells ≤ R.cells) (hn0 : n + rm.slots ≤ R.slots)
    (hr : ∀ v h' W', Q' v h' W' → h.size ≤ h'.size → WP p l e R s m args below meth c Z EL b Q pc' L (v.toList ++ rest) h' (W' ++ W) (k + rm.cells) (n + rm.slots)) :
    WP p l e R s m args below meth c Z EL b Q pc L st h W k n := by
  subst hp hst
  intro T vm0 k0 locs cells slots X eT hS hk hb' hC hO hW hF hc hn
  have hZ0 : Z.Warmed39 (s.setVm vm0).vm := C.z hS
  have hsz' : (mkF m pc L.toArray (argsL.reverse ++ .ref a :: rest)).locals.size = c.maxLocals := by rw [C.2.2.1, ← hsz]; simp
  obtain ⟨cB, kB, qa, qb, qc⟩ := isOf hZ0 eT E
  have hnf : NotFace (s.setVm vm0) y := notFace_of_selects (args := #[]) (mv hZ0 wf)
  cases b with
  | false =>
    obtain ⟨v, vm1, B, -, X', hS', hg, P, q⟩ := X.virtualBackS C.1 (C.o hS) (mv hZ0 w1) (mv hZ0 w2) hnf (mv hZ0 w5) (mv hZ0 w6) hy (M.backS (W := V) hZ0 w4 w3 hf hl C.ew hC.1 hO (hW.sub hV)) qa qc (g := mkF m pc L.toArray (argsL.reverse ++ .ref a :: rest)) rfl hsz' (Steps.refl _) (lenOf hpd hal) rfl (by show 2 * 0 + _ ≤ _; omega) (hb C.2.1 hd) (fun _ _ => ⟨rfl, eT, by show cells + _ ≤ _; omega, by show slots + _ ≤ _; omega⟩)
    obtain ⟨s2, v2, q2, r⟩ := WP.after (V := V) C hc0 hn0 hr eT hS hk hb' hC hW hF hc hn X' hS' (Or.inl ⟨rfl, rfl⟩) hg P
    exact ⟨s2, v2, q.trans q2, r⟩
  | true =>
    obtain rfl := C.2.2.2.2.2.2.2.2.2.2 rfl
    obtain ⟨v, vm1, B, -, X', P, q⟩ := X.virtualBack C.1 (C.o hS) (mv hZ0 w1) (mv hZ0 w2) hnf (mv hZ0 w5) (mv hZ0 w6) hy (M.back (W := V) hZ0 w4 w3 hf hl hC.1 hO (hW.sub hV)) qa qc (g := mkF m pc L.toArray (argsL.reverse ++ .ref a :: rest)) rfl hsz' (Steps.refl _) (lenOf hpd hal) rfl (by show 2 * 0 + _ ≤ _; omega) (hb C.2.1 hd) (fun _ _ => ⟨rfl, eT, by show cells + _ ≤ _; omega, by show slots + _ ≤ _; omega⟩)
    have hg : T.heap.size ≤ B.U.heap.size := by obtain ⟨_, _, _, _, _, _, _, _, _, q8⟩ := P; rw [eT]; exact q8.2.1
    obtain ⟨s2, v2, q2, r⟩ := WP.after (V := V) C hc0 hn0 hr eT hS hk hb' hC hW hF hc hn X' ((State.WarmedH.refl _).since _) (Or.inr ⟨rfl, rfl⟩) hg P
    exact ⟨s2, v2, q.trans q2, r⟩
theorem callV (C : Cx p m meth c s Z a0 EL b own nm bytes maxL ret) {pc' index : Nat} {K : String} {y z : MethodName} {ybytes : ByteArray} {ymax : Nat} {yret : Option FieldType} {rm : Room} {V : List Nat} {Q' : Option Value → Heap → List Nat → Prop} {a : Nat} {argsL rest : List Value} {ps : List FieldType} {pr : Option FieldType} {Wt : Nat}
    (w1 : (Cond.methodLink own index y).before a0 Z = true) (w2 : (Cond.declares y).before a0 Z = true) (wf : (Cond.selects y.cls y y).before a0 Z = true) (w5 : (Cond.selects K y z).before a0 Z = true) (w6 : (Cond.instanceMethod z).before a0 Z = true) (w3 : (Cond.initialized z.cls).before a0 Z = true) (w4 : (Cond.code z ybytes ymax yret).before a0 Z = true) (hy : y.cls ≠ "java/lang/invoke/MethodHandle" ∧ y.cls ≠ "java/lang/invoke/VarHandle")
    (E : Exa Z h a K) (M : Con l Z EL b z ybytes ymax yret [] rm (.ref a :: argsL).toArray h V Q') (hV : ∀ x ∈ V, x ∈ W) (hpd : parseMethodDescriptor y.desc = some ⟨ps, pr⟩) (hal : argsL.length = ps.length) (hst : st = argsL.reverse ++ .ref a :: rest) (hsz : L.length = maxL)
    (hd : decode bytes pc = .ok (.invokevirtual index, 3)) (hp : pc + 3 = pc') (hWt : (rest.map fun v => v.category).sum ≤ Wt) (hf : rm.frames + 1 ≤ R.frames) (hl : Wt + (ymax + 11) + rm.locals ≤ R.locals) (hc0 : k + rm.cells ≤ R.cells) (hn0 : n + rm.slots ≤ R.slots)
    (hr : ∀ v h' W', Q' v h' W' → h.size ≤ h'.size → WP p l e R s m args below meth c Z EL b Q pc' L (v.toList ++ rest) h' W (k + rm.cells) (n + rm.slots)) :
    WP p l e R s m args below meth c Z EL b Q pc L st h W k n :=
  callVW C w1 w2 wf w5 w6 w3 w4 hy E M hV hpd hal hst hsz hd hp hWt hf hl hc0 hn0 fun v h' W' q g => (hr v h' W' q g).wk fun x hx => List.mem_append_right _ hx
end Calls
end Jvm.Ow
namespace Jvm.Ow
open Sem ClassFile Op Lib Bundle Jvm.Stand Jvm.Free Jvm.LawKit Jvm.RoadKit
theorem room_le {s : State} {pl : Platform} {r r' : Room} (h : s.hasRoom pl r' = true) (h1 : r.frames ≤ r'.frames) (h2 : r.cells ≤ r'.cells) (h3 : r.slots ≤ r'.slots) (h4 : r.locals ≤ r'.locals) : s.hasRoom pl r = true := by
  exact State.hasRoom_ride (by omega) (by omega) rfl rfl (by omega) (by omega) (State.hasRoom_slotsTrue h) h
/-- a contract with more room than it asks -/
theorem Con.rm {l : Launch} {Z : State} {EL : List (String × Nat)} {b : Bool} {y : MethodName} {bytes : ByteArray} {maxL : Nat} {ret : Option FieldType} {ws : List Jvm.Cond} {rm rm' : Room} {as' : Array Value} {h : Heap} {W : List Nat} {Q : Option Value → Heap → List Nat → Prop}
    (M : Con l Z EL b y bytes maxL ret ws rm as' h W Q) (h1 : rm.frames ≤ rm'.frames) (h2 : rm.cells ≤ rm'.cells) (h3 : rm.slots ≤ rm'.slots) (h4 : rm.locals ≤ rm'.locals) : Con l Z EL b y bytes maxL ret ws rm' as' h W Q := by
  intro p e a1 a2 a3 s m args below hf ha hP hK
  obtain ⟨q1, q2, q3, q4, q5, q6, q7, q8⟩ := (Spec.appliesLoose_iff hf).mp ha
  obtain ⟨n, o, x1, x2, x3, v, L, x4, x5, x6, x7, x8⟩ := M p e a1 a2 a3 s m args below hf ((Spec.appliesLoose_iff hf).mpr ⟨q1, q2, q3, q4, q5, q6, room_le q7 h1 h2 h3 h4, q8⟩) hP hK
  exact ⟨n, o, x1, x2, x3, v, L, x4, x5, x6, ⟨x7.1, x7.2.1, x7.2.2.1, State.sameButNew.mono x7.2.2.2 h2 h3⟩, fun hb => ⟨(x8 hb).1, (x8 hb).2.1, State.sameButNew.mono (x8 hb).2.2 h2 h3⟩⟩
end Jvm.Ow
namespace Jvm.Ow
open Sem ClassFile Op Lib
theorem locals_all {vs : List Value} {n : Nat} {L : List Slot} (hc : ∀ v ∈ vs, ¬ v.category = 2) (hL : vs.map Slot.val ++ List.replicate (n - vs.length) .unset = L) : argsToLocals vs.toArray n = L.toArray := by
  subst hL
  have f : ∀ (ws : List Value) (acc : Array Slot), (∀ v ∈ ws, ¬ v.category = 2) → ws.foldl (fun acc v => if v.category = 2 then (acc.push (.val v)).push .second else acc.push (.val v)) acc = acc ++ (ws.map Slot.val).toArray := by
    intro ws
    induction ws with
    | nil => intro acc _; simp
    | cons w ws ih => intro acc h; rw [List.foldl_cons, if_neg (h w (by simp)), ih _ (fun v hv => h v (by simp [hv]))]; simp
  unfold argsToLocals
  have e := f vs #[] hc
  simp only [List.size_toArray, List.foldl_toArray']
  rw [e]
  simp
end Jvm.Ow
namespace Jvm.Ow
open Sem ClassFile Op Lib Bundle Jvm.Stand Jvm.Free Jvm.LawKit Jvm.RoadKit
/-! branches, said as plain propositions -/
theorem dec_of {P : Prop} [Decidable P] {x : Bool} (h1 : P → x = true) (h2 : ¬ P → x = false) : x = decide P := by
  by_cases q : P
  · rw [h1 q, decide_eq_true q]
  · rw [h2 q, decide_eq_false q]
theorem hEq (x : Int32) : ifCond.holds .eq x = decide (x = 0) := dec_of XT.i0_eq_t XT.i0_eq_f
theorem hNe (x : Int32) : ifCond.holds .ne x = decide (¬ x = 0) := dec_of XT.i0_ne_t (fun q => XT.i0_ne_f (Decidable.not_not.mp q))
theorem hLt (x : Int32) : ifCond.holds .lt x = decide (x < 0) := dec_of XT.i0_lt_t XT.i0_lt_f
theorem hGe (x : Int32) : ifCond.holds .ge x = decide (¬ x < 0) := dec_of XT.i0_ge_t (fun q => XT.i0_ge_f (Decidable.not_not.mp q))
theorem hGt (x : Int32) : ifCond.holds .gt x = decide (0 < x) := dec_of XT.i0_gt_t XT.i0_gt_f
theorem hLe (x : Int32) : ifCond.holds .le x = decide (¬ 0 < x) := dec_of XT.i0_le_t (fun q => XT.i0_le_f (Decidable.not_not.mp q))
theorem kEq (x y : Int32) : if_icmp.holds .eq x y = decide (x = y) := dec_of XT.ii_eq_t XT.ii_eq_f
theorem kNe (x y : Int32) : if_icmp.holds .ne x y = decide (¬ x = y) := dec_of XT.ii_ne_t (fun q => XT.ii_ne_f (Decidable.not_not.mp q))
theorem kLt (x y : Int32) : if_icmp.holds .lt x y = decide (x < y) := dec_of XT.ii_lt_t XT.ii_lt_f
theorem kGe (x y : Int32) : if_icmp.holds .ge x y = decide (¬ x < y) := dec_of XT.ii_ge_t (fun q => XT.ii_ge_f (Decidable.not_not.mp q))
theorem kGt (x y : Int32) : if_icmp.holds .gt x y = decide (y < x) := dec_of XT.ii_gt_t XT.ii_gt_f
theorem kLe (x y : Int32) : if_icmp.holds .le x y = decide (¬ y < x) := dec_of XT.ii_le_t (fun q => XT.ii_le_f (Decidable.not_not.mp q))
theorem aEq (x y : Value) : XT.acmp .eq x y = decide (x = y) := rfl
theorem aNe (x y : Value) : XT.acmp .ne x y = decide (¬ x = y) := rfl
/-! numbers -/
theorem nar_char (x : Int32) : (nar .char x).toInt = x.toInt % 65536 := by
  have := c_i2c x
  show x.toUInt32.toUInt16.toUInt32.toInt32.toInt = _
  omega
theorem nar_byte (x : Int32) : ((nar .byte x).toInt - x.toInt) % 256 = 0 ∧ -128 ≤ (nar .byte x).toInt ∧ (nar .byte x).toInt < 128 := c_i2b x
theorem i32_ext {x y : Int32} (q : x.toInt = y.toInt) : x = y := Int32.toInt_inj.mp q
theorem nar_char_id {x : Int32} (h0 : 0 ≤ x.toInt) (h1 : x.toInt < 65536) : nar .char x = x := i32_ext (by rw [nar_char]; omega)
theorem nar_byte_inj {x y : Int32} (hx : 0 ≤ x.toInt ∧ x.toInt < 256) (hy : 0 ≤ y.toInt ∧ y.toInt < 256) (q : nar .byte x = nar .byte y) : x = y := by
  have h1 := nar_byte x; have h2 := nar_byte y; rw [q] at h1
  exact i32_ext (by omega)
theorem lt32 {x y : Int32} : x < y ↔ x.toInt < y.toInt := Int32.lt_iff_toInt_lt
theorem ofNat_toInt {i : Nat} (hi : i < 2 ^ 31) : (Int32.ofNat i).toInt = (i : Int) := toInt_of rfl hi
theorem ofNat_inj {i j : Nat} (hi : i < 2 ^ 31) (hj : j < 2 ^ 31) (q : Int32.ofNat i = Int32.ofNat j) : i = j := by
  have h1 := ofNat_toInt hi; have h2 := ofNat_toInt hj; rw [q] at h1; omega
/-- the part of a heap fact that a later heap keeps -/
theorem nin1 {x y : Nat} (q : x ≠ y) : x ∉ [y] := fun z => q (List.mem_singleton.mp z)
theorem Keep.z {h h' : Heap} (E : Ext h h') : Keep h h' [] := (Keep.refl h []).ext E
/-! a String of Latin-1 signs -/
def StrL (Z : State) (h : Heap) (a d : Nat) (cs : List Int32) : Prop :=
  Exa Z h a "java/lang/String" ∧ Fld Z h a "java/lang/String" "value" "[B" (.ref d) ∧ Fld Z h a "java/lang/String" "coder" "B" (.int 0) ∧ ArI Z h d .byte (cs.map (nar .byte)) ∧ ∀ c ∈ cs, 0 ≤ c.toInt ∧ c.toInt < 256
theorem StrL.keep {Z : State} {h h' : Heap} {a d : Nat} {cs : List Int32} {ws : List Nat} (S : StrL Z h a d cs) (K : Keep h h' ws) (ha : a ∉ ws) (hd : d ∉ ws) : StrL Z h' a d cs :=
  ⟨S.1.keep K, S.2.1.keep K ha, S.2.2.1.keep K ha, S.2.2.2.1.keep K hd, S.2.2.2.2⟩
theorem StrL.ext {Z : State} {h h' : Heap} {a d : Nat} {cs : List Int32} (S : StrL Z h a d cs) (E : Ext h h') : StrL Z h' a d cs := S.keep (Keep.z E) nin0 nin0
theorem StrL.lt {Z : State} {h : Heap} {a d : Nat} {cs : List Int32} (S : StrL Z h a d cs) : a < h.size ∧ d < h.size := ⟨S.1.lt, S.2.2.2.1.lt⟩
theorem StrL.len {Z : State} {h : Heap} {a d : Nat} {cs : List Int32} (S : StrL Z h a d cs) : cs.length < 2 ^ 31 := by simpa using S.2.2.2.1.2
/-- how many signs from the left are Latin-1 -/
def lead (xs : List Int32) : Nat := (xs.takeWhile fun x => decide (x.toInt < 256)).length
theorem lead_le (xs : List Int32) : lead xs ≤ xs.length := by
  induction xs with
  | nil => simp [lead]
  | cons x xs ih =>
    unfold lead at ih ⊢
    by_cases q : x.toInt < 256
    · simp [q]; exact ih
    · simp [q]
theorem lead_all {xs : List Int32} (q : ∀ x ∈ xs, x.toInt < 256) : lead xs = xs.length := by
  induction xs with
  | nil => rfl
  | cons x xs ih =>
    unfold lead at ih ⊢
    have h1 := q x (by simp)
    have h2 := ih fun y hy => q y (by simp [hy])
    simp [h1, h2]
theorem lead_at {xs : List Int32} {i : Nat} (hi : i < xs.length) (q : ∀ j, j < i → (xs.getD j 0).toInt < 256) (r : ¬ (xs.getD i 0).toInt < 256) : lead xs = i := by
  induction xs generalizing i with
  | nil => simp at hi
  | cons x xs ih =>
    unfold lead at ih ⊢
    cases i with
    | zero => simp at r ⊢; simp [show ¬ x.toInt < 256 by omega]
    | succ i =>
      have h0 := q 0 (by omega)
      simp at h0 hi r
      have := ih hi (fun j hj => by have := q (j + 1) (by omega); simpa using this) (by simpa using r)
      simp [h0, this]
theorem take_snoc {xs : List Int32} {i : Nat} (hi : i < xs.length) : xs.take (i + 1) = xs.take i ++ [xs.getD i 0] := by rw [List.take_add_one]; simp [hi]
theorem take_step {xs : List Int32} {i r : Nat} (hi : i < xs.length) (f : Int32 → Int32) : (((xs.take i).map f) ++ List.replicate (r + 1) (0 : Int32)).set i (f (xs.getD i 0)) = ((xs.take (i + 1)).map f) ++ List.replicate r 0 := by
  have h1 : ((xs.take i).map f).length = i := by simp; omega
  rw [List.set_append_right _ _ (by omega), h1, Nat.sub_self, List.replicate_succ, List.set_cons_zero, take_snoc hi, List.map_append, List.append_assoc]
  rfl
end Jvm.Ow
namespace Jvm.Ow
open Sem ClassFile Op Lib Bundle Jvm.Stand Jvm.Free Jvm.LawKit Jvm.RoadKit
theorem cat_ref (a : Nat) : (Value.ref a).category = 1 := rfl
theorem cat_int (x : Int32) : (Value.int x).category = 1 := rfl
theorem cat_null : Value.null.category = 1 := rfl
theorem narO {v : Value} (hv : v.isRef = true) {t : String} : narrow (.object t) v = v := by cases v <;> first | rfl | (cases hv; done)
theorem fitO {v : Value} (hv : v.isRef = true) {t : String} : fits (.object t) v = true := by cases v <;> first | rfl | (cases hv; done)
theorem narZ {x : Int32} (hx : x = 0 ∨ x = 1) : narrow .boolean (.int x) = .int x := by rcases hx with rfl | rfl <;> rfl
theorem fitZ {x : Int32} (hx : x = 0 ∨ x = 1) : fits .boolean (.int x) = true := by rcases hx with rfl | rfl <;> rfl
theorem nar01 {x : Int32} (hx : x = 0 ∨ x = 1) : nar .boolean x = x := by rcases hx with rfl | rfl <;> rfl
end Jvm.Ow
namespace Jvm.Ow
open Sem ClassFile Op Lib Bundle Jvm.Stand Jvm.Free Jvm.LawKit Jvm.RoadKit
/-- what indexOf says: the first place at or behind i that holds ch, or -1 -/
def Idx (cs : List Int32) (ch : Int32) (i : Nat) (v : Int32) : Prop :=
  (∃ j, i ≤ j ∧ j < cs.length ∧ cs.getD j 0 = ch ∧ (∀ k, i ≤ k → k < j → ¬ cs.getD k 0 = ch) ∧ v = Int32.ofNat j) ∨ ((∀ k, i ≤ k → k < cs.length → ¬ cs.getD k 0 = ch) ∧ v = -1)
theorem getD_mem {cs : List Int32} {i : Nat} (hi : i < cs.length) : cs.getD i 0 ∈ cs := by
  rw [List.getD_eq_getElem?_getD, List.getElem?_eq_getElem hi]; exact List.getElem_mem hi
theorem map_getD {cs : List Int32} {i : Nat} {f : Int32 → Int32} (hi : i < cs.length) : (cs.map f).getD i 0 = f (cs.getD i 0) := by
  simp [List.getD_eq_getElem?_getD, hi]
theorem zero_toInt : ((0 : Int32)).toInt = 0 := rfl
end Jvm.Ow
namespace Jvm.Ow
open Sem ClassFile Op Lib Bundle Jvm.Stand Jvm.Free Jvm.LawKit Jvm.RoadKit
theorem Idx.one {cs : List Int32} {ch : Int32} {i : Nat} {v w : Int32} (A : Idx cs ch i v) (B : Idx cs ch i w) : v = w := by
  rcases A with ⟨j, a1, a2, a3, a4, rfl⟩ | ⟨a1, rfl⟩ <;> rcases B with ⟨k, b1, b2, b3, b4, rfl⟩ | ⟨b1, rfl⟩
  · rcases Nat.lt_trichotomy j k with q | q | q
    · exact absurd a3 (b4 j a1 q)
    · rw [q]
    · exact absurd b3 (a4 k b1 q)
  · exact absurd a3 (b1 j a1 a2)
  · exact absurd b3 (a1 k b1 b2)
  · rfl
theorem charR (x : Int32) : 0 ≤ (nar .char x).toInt ∧ (nar .char x).toInt < 65536 := by rw [nar_char]; omega
end Jvm.Ow
namespace Jvm.Ow
open Sem ClassFile Op Lib Bundle Jvm.Stand Jvm.Free Jvm.LawKit Jvm.RoadKit
/-- a static that the sheet's words give a value -/
theorem staEq {s : State} {args : Array Value} {C n d : String} {x : Int32} (w1 : (Cond.initializedFor C n d).before args s = true) (w2 : (Cond.eq (Term.static C n d) (Term.int x)).before args s = true) : Sta s s.heap C n d (.int x) := by
  have q := Cond.before_iff.mp w2
  obtain ⟨u, v, h1, h2, k1, k2⟩ := cmp_v (Or.inl q)
  have h3 : (Term.int x).eval args s none [] s = some (.int x) := Term.int_eval x
  obtain rfl : v = .int x := Option.some.inj (h2.symm.trans h3)
  obtain ⟨z, rfl⟩ := k2
  obtain rfl := gotT (Cond.eq_ints h1 h3) q
  exact Sta.start h1 (Or.inl w1)
end Jvm.Ow
namespace Jvm.Ow
open Sem ClassFile Op Lib Bundle Jvm.Stand Jvm.Free Jvm.LawKit Jvm.RoadKit
theorem eq32 {x y : Int32} : x = y ↔ x.toInt = y.toInt := ⟨fun q => by rw [q], i32_ext⟩
theorem ArI.same_len {Z : State} {h : Heap} {a : Nat} {ty ty' : FieldType} {xs ys : List Int32} (A : ArI Z h a ty xs) (B : ArI Z h a ty' ys) : xs.length = ys.length := by
  obtain ⟨c1, A1, s1, -⟩ := A.cell
  obtain ⟨c2, A2, s2, -⟩ := B.cell
  have := A1.1.symm.trans A2.1
  cases this
  omega
/-- the capital letters of Latin-1 -/
def upp (c : Int32) : Prop := (65 ≤ c.toInt ∧ c.toInt ≤ 90) ∨ (192 ≤ c.toInt ∧ c.toInt ≤ 222 ∧ ¬ c.toInt = 215)
instance (c : Int32) : Decidable (upp c) := by unfold upp; infer_instance
def low (c : Int32) : Int32 := if upp c then c + 32 else c
/-- CharacterDataLatin1.toLowerCase, as its body reckons -/
def clo (c : Int32) : Int32 := if ¬ c < 65 then (if ¬ 122 < (c ||| 32) then (c ||| 32) else if (c ||| 32) < 224 then c else if 254 < (c ||| 32) then c else if (c ||| 32) = 247 then c else (c ||| 32)) else c
theorem clo_low0 : ∀ n : Fin 256, clo (Int32.ofNat n.val) = low (Int32.ofNat n.val) := by decide +kernel
theorem of_range {c : Int32} (h0 : 0 ≤ c.toInt) (h1 : c.toInt < 256) : ∃ n : Fin 256, c = Int32.ofNat n.val := by
  refine ⟨⟨c.toInt.toNat, by omega⟩, i32_ext ?_⟩
  rw [ofNat_toInt (by show c.toInt.toNat < 2 ^ 31; omega)]
  show c.toInt = ((c.toInt.toNat : Nat) : Int)
  omega
theorem clo_low {c : Int32} (h0 : 0 ≤ c.toInt) (h1 : c.toInt < 256) : clo c = low c := by
  obtain ⟨n, rfl⟩ := of_range h0 h1; exact clo_low0 n
theorem add32v {c : Int32} (h0 : 0 ≤ c.toInt) (h1 : c.toInt < 256) : (c + 32).toInt = c.toInt + 32 := by
  have h := c_iadd c 32
  have r := rng32 (c + 32)
  have e : ((32 : Int32)).toInt = 32 := rfl
  rw [e] at h; omega
theorem low_rng {c : Int32} (h0 : 0 ≤ c.toInt) (h1 : c.toInt < 256) : 0 ≤ (low c).toInt ∧ (low c).toInt < 256 := by
  unfold low
  by_cases q : upp c
  · rw [if_pos q, add32v h0 h1]; unfold upp at q; omega
  · rw [if_neg q]; exact ⟨h0, h1⟩
theorem byte_back {c : Int32} (h0 : 0 ≤ c.toInt) (h1 : c.toInt < 256) : nar .byte c &&& 255 = c := by
  apply i32_ext
  have h := c_mask (nar .byte c) 255 8 (by decide) (by decide)
  have b := nar_byte c
  have e : ((2 ^ 8 : Nat) : Int) = 256 := rfl
  rw [h, e]; omega
theorem getD_rng {cs : List Int32} {i : Nat} {P : Int32 → Prop} (h : ∀ c ∈ cs, P c) (hi : i < cs.length) : P (cs.getD i 0) := h _ (by rw [List.getD_eq_getElem?_getD, List.getElem?_eq_getElem hi]; exact List.getElem_mem hi)
theorem map_id_of {cs : List Int32} {f : Int32 → Int32} (h : ∀ j, j < cs.length → f (cs.getD j 0) = cs.getD j 0) : cs.map f = cs := by
  apply List.ext_getElem (by simp)
  intro j h1 h2
  have := h j h2
  simpa [List.getD_eq_getElem?_getD, h2] using this
theorem take_map_id {cs : List Int32} {f : Int32 → Int32} {i : Nat} (hi : i ≤ cs.length) (h : ∀ j, j < i → f (cs.getD j 0) = cs.getD j 0) : (cs.map f).take i = cs.take i := by
  apply List.ext_getElem (by simp)
  intro j h1 h2
  simp at h1 h2
  have := h j (by omega)
  simpa [List.getD_eq_getElem?_getD, show j < cs.length by omega] using this
theorem nar_byte_nar' (x : Int32) : nar .byte (nar .byte x) = nar .byte x := i32_ext (by have h1 := nar_byte (nar .byte x); have h2 := nar_byte x; omega)
theorem mask255 (x : Int32) : 0 ≤ (nar .char (x &&& 255)).toInt ∧ (nar .char (x &&& 255)).toInt < 256 := by
  have h := c_mask x 255 8 (by decide) (by decide)
  rw [nar_char, h]
  omega
theorem and3 (x : Int32) : ∃ i : Nat, i ≤ 3 ∧ x &&& 3 = Int32.ofNat i := by
  have h := c_mask x 3 2 (by decide) (by decide)
  refine ⟨(x.toInt % 4).toNat, by omega, i32_ext ?_⟩
  rw [h, ofNat_toInt (by omega)]
  have : ((2 ^ 2 : Nat) : Int) = 4 := by decide
  omega
theorem ArI.ne0 {Z : State} {h : Heap} {a b : Nat} {ty ty' : FieldType} {xs : List Int32} {c : Cell} (A : Arr Z h a c ty) (h0 : c.slots.size = 0) (B : ArI Z h b ty' xs) (hx : 0 < xs.length) : a ≠ b := fun q => by
  subst q
  obtain ⟨c2, A2, s2, -⟩ := B.cell
  have := A.1.symm.trans A2.1
  cases this
  omega
end Jvm.Ow
namespace Jvm.Ow
open Sem ClassFile Op Lib Bundle Jvm.Stand Jvm.Free Jvm.LawKit Jvm.RoadKit
theorem sub_ofNat {i j : Nat} (h : i ≤ j) (hj : j < 2 ^ 31) : Int32.ofNat j - Int32.ofNat i = Int32.ofNat (j - i) := by
  apply i32_ext
  have h1 := c_isub (Int32.ofNat j) (Int32.ofNat i)
  have h2 := rng32 (Int32.ofNat j - Int32.ofNat i)
  rw [ofNat_toInt hj, ofNat_toInt (by omega)] at h1
  rw [ofNat_toInt (by omega)]
  omega
theorem add_ofNat {i j : Nat} (h : i + j < 2 ^ 31) : Int32.ofNat i + Int32.ofNat j = Int32.ofNat (i + j) := by
  apply i32_ext
  have h1 := c_iadd (Int32.ofNat i) (Int32.ofNat j)
  have h2 := rng32 (Int32.ofNat i + Int32.ofNat j)
  rw [ofNat_toInt (by omega), ofNat_toInt (by omega)] at h1
  rw [ofNat_toInt (by omega)]
  omega
theorem dec_ofNat {i : Nat} (h : i + 1 < 2 ^ 31) : Int32.ofNat (i + 1) + (-1) = Int32.ofNat i := by
  apply i32_ext
  have h1 := c_iadd (Int32.ofNat (i + 1)) (-1)
  have h2 := rng32 (Int32.ofNat (i + 1) + (-1))
  have h3 : ((-1 : Int32)).toInt = -1 := rfl
  rw [ofNat_toInt (by omega), h3] at h1
  rw [ofNat_toInt (by omega)]
  omega
theorem pred_ofNat {i : Nat} (h : i + 1 < 2 ^ 31) : Int32.ofNat (i + 1) - 1 = Int32.ofNat i := sub_ofNat (i := 1) (j := i + 1) (by omega) h
/-- Java's white space among the Latin-1 signs -/
def wsp (c : Int32) : Prop := (9 ≤ c.toInt ∧ c.toInt ≤ 13) ∨ (28 ≤ c.toInt ∧ c.toInt ≤ 32)
instance (c : Int32) : Decidable (wsp c) := by unfold wsp; infer_instance
/-- the places where the stripped text begins and ends -/
def Str0 (cs : List Int32) (s e : Nat) : Prop := s ≤ cs.length ∧ e ≤ cs.length ∧ (∀ k, k < s → wsp (cs.getD k 0)) ∧ (s = cs.length ∨ ¬ wsp (cs.getD s 0)) ∧ (∀ k, e ≤ k → k < cs.length → wsp (cs.getD k 0)) ∧ (e = 0 ∨ ¬ wsp (cs.getD (e - 1) 0))
theorem StrL.uniq {Z : State} {h : Heap} {a d d' : Nat} {cs ds : List Int32} (S : StrL Z h a d cs) (T : StrL Z h a d' ds) : cs = ds := by
  have hd : d = d' := by
    rcases Nat.decEq d d' with q | q
    · exact absurd rfl (Fld.ne S.2.1 T.2.1 (fun e => q (Value.ref.inj e)))
    · exact q
  subst hd
  have hl := S.2.2.2.1.same_len T.2.2.2.1
  simp at hl
  obtain ⟨c1, A1, s1, g1⟩ := S.2.2.2.1.cell
  obtain ⟨c2, A2, s2, g2⟩ := T.2.2.2.1.cell
  have := A1.1.symm.trans A2.1
  cases this
  apply List.ext_getElem hl
  intro i h1 h2
  have hN : cs.length < 2 ^ 31 := S.len
  have e1 := (g1 (j := Int32.ofNat i) (i := i) (ofNat_toInt (by omega)) (by simpa using h1)).2
  have e2 := (g2 (j := Int32.ofNat i) (i := i) (ofNat_toInt (by omega)) (by simpa using h2)).2
  have e3 := e1.symm.trans e2
  simp [List.getD_eq_getElem?_getD, h1, h2] at e3
  exact nar_byte_inj (S.2.2.2.2 _ (List.getElem_mem h1)) (T.2.2.2.2 _ (List.getElem_mem h2)) e3
/-- an array of ints that the sheet's words list -/
theorem ArI.table {Z : State} {a0 : Array Value} {t : Term} {ty : FieldType} {xs : List Int32} (hf : Fit Z) (hx : xs.length < 2 ^ 31) (w1 : (Cond.arrayOf t ty).before a0 Z = true) (w2 : (Cond.eq (Term.length t) (Term.int (Int32.ofNat xs.length))).before a0 Z = true)
    (w3 : ∀ j, j < xs.length → (Cond.eq (Term.elem t (Term.int (Int32.ofNat j))) (Term.int (xs.getD j 0))).before a0 Z = true) : ∃ a : Nat, t.eval a0 Z none [] Z = some (.ref a) ∧ ArI Z Z.heap a ty xs := by
  obtain ⟨a, e1⟩ := arr_v (Cond.before_iff.mp w1)
  obtain ⟨c, A⟩ := Arr.start e1 (Cond.before_iff.mp w1)
  have e5 := eqv_i (Term.int_eval _) (Cond.before_iff.mp w2)
  have e6 := A.fin (Vm.Alike.refl _)
  have e7 : (if c.slots.size < 2 ^ 31 then some (Value.int c.slots.size.toInt32) else none) = some (.int (Int32.ofNat xs.length)) := by
    have q : (Term.length t).eval a0 Z none [] Z = (if c.slots.size < 2 ^ 31 then some (.int c.slots.size.toInt32) else none) := by simp [Term.eval, e1, e6]
    exact q.symm.trans e5
  split at e7
  · rename_i hl
    have e8 : c.slots.size.toInt32 = Int32.ofNat xs.length := by injection e7 with e7; injection e7
    have e9 : c.slots.size = xs.length := ofNat_inj hl hx e8
    have e10 : ∀ j, j < xs.length → c.slots[j]? = some (.int (xs.getD j 0)) := fun j hj => by
      have q := eqv_i (Term.int_eval _) (Cond.before_iff.mp (w3 j hj))
      have hn : ¬ (Int32.ofNat j) < 0 := by rw [lt32, ofNat_toInt (by omega)]; show ¬ ((j : Int) < 0); omega
      rw [elem_f e1 (Term.int_eval _) e6 hn, ofNat_clamp (by omega)] at q
      exact q
    have hL : ∀ (ys : List Int32) (i : Nat), (∀ j, j < ys.length → c.slots[i + j]? = some (.int (ys.getD j 0))) → HasL c i (ys.map Value.int) := by
      intro ys
      induction ys with
      | nil => intro i _; trivial
      | cons y ys ih => intro i hq; exact ⟨by simpa using hq 0 (by simp), ih (i + 1) (fun j hj => by have := hq (j + 1) (by simp; omega); simpa [Nat.add_assoc, Nat.add_comm 1] using this)⟩
    refine ⟨a, e1, ⟨c.cls, Arv.start hf A hl e8 (by rw [lt32, ofNat_toInt hx]; show ¬ ((xs.length : Int) < 0); omega) (by rw [ofNat_clamp hx]; simp) (hL xs 0 (fun j hj => by simpa using e10 j hj))⟩, hx⟩
  · cases e7
end Jvm.Ow
namespace Jvm.Ow
open Sem ClassFile Op Lib Bundle Jvm.Stand Jvm.Free Jvm.LawKit Jvm.RoadKit
theorem ifd {C : Prop} [Decidable C] {a b r : Nat} (h : r = if C then a else b) : (C ∧ r = a) ∨ (¬ C ∧ r = b) := by
  by_cases q : C
  · rw [if_pos q] at h; exact Or.inl ⟨q, h⟩
  · rw [if_neg q] at h; exact Or.inr ⟨q, h⟩
theorem bit (P : Prop) [Decidable P] : ∃ b : Nat, (P ↔ b = 1) ∧ b ≤ 1 := by
  by_cases q : P
  · exact ⟨1, by simp [q], by omega⟩
  · exact ⟨0, by simp [q], by omega⟩
theorem getD_take {L : List Int32} {p k : Nat} (hk : k < p) : (L.take p).getD k 0 = L.getD k 0 := by
  simp [List.getD_eq_getElem?_getD, hk]
theorem chainP {c0 c1 c2 c3 : Int32} {n p r3 r2 r1 r0 : Nat} (hn : n ≤ 4) (Q1 : p ≤ n) (Q2 : ∀ k, k < p → ¬ ([c0, c1, c2, c3].take n).getD k 0 = 59) (Q3 : p = n ∨ ([c0, c1, c2, c3].take n).getD p 0 = 59)
    (e3 : r3 = if 3 < n ∧ c3 = 59 then 3 else n) (e2 : r2 = if 2 < n ∧ c2 = 59 then 2 else r3) (e1 : r1 = if 1 < n ∧ c1 = 59 then 1 else r2) (e0 : r0 = if 0 < n ∧ c0 = 59 then 0 else r1) : r0 = p := by
  obtain ⟨b0, B0, -⟩ := bit (c0 = 59)
  obtain ⟨b1, B1, -⟩ := bit (c1 = 59)
  obtain ⟨b2, B2, -⟩ := bit (c2 = 59)
  obtain ⟨b3, B3, -⟩ := bit (c3 = 59)
  have a0 : 0 < p → ¬ b0 = 1 := fun q z => Q2 0 q (by rw [getD_take (by omega)]; exact B0.mpr z)
  have a1 : 1 < p → ¬ b1 = 1 := fun q z => Q2 1 q (by rw [getD_take (by omega)]; exact B1.mpr z)
  have a2 : 2 < p → ¬ b2 = 1 := fun q z => Q2 2 q (by rw [getD_take (by omega)]; exact B2.mpr z)
  have a3 : 3 < p → ¬ b3 = 1 := fun q z => Q2 3 q (by rw [getD_take (by omega)]; exact B3.mpr z)
  have a4 : p = n ∨ (p = 0 ∧ b0 = 1) ∨ (p = 1 ∧ b1 = 1) ∨ (p = 2 ∧ b2 = 1) ∨ (p = 3 ∧ b3 = 1) := by
    by_cases hs : p = n
    · exact Or.inl hs
    · have q := Q3.resolve_left hs
      rw [getD_take (by omega)] at q
      obtain rfl | rfl | rfl | rfl : p = 0 ∨ p = 1 ∨ p = 2 ∨ p = 3 := by omega
      · exact Or.inr (Or.inl ⟨rfl, B0.mp q⟩)
      · exact Or.inr (Or.inr (Or.inl ⟨rfl, B1.mp q⟩))
      · exact Or.inr (Or.inr (Or.inr (Or.inl ⟨rfl, B2.mp q⟩)))
      · exact Or.inr (Or.inr (Or.inr (Or.inr ⟨rfl, B3.mp q⟩)))
  have d3 := ifd e3
  have d2 := ifd e2
  have d1 := ifd e1
  have d0 := ifd e0
  rw [B3] at d3; rw [B2] at d2; rw [B1] at d1; rw [B0] at d0
  clear e3 e2 e1 e0 Q2 Q3 B0 B1 B2 B3
  omega
theorem chainS {c0 c1 c2 c3 : Int32} {p s e r3 r2 r1 r0 f0 f1 f2 f3 : Nat} (hp : p ≤ 4) (Q : Str0 ([c0, c1, c2, c3].take p) s e)
    (e3 : r3 = if 3 < p ∧ ¬ wsp c3 then 3 else p) (e2 : r2 = if 2 < p ∧ ¬ wsp c2 then 2 else r3) (e1 : r1 = if 1 < p ∧ ¬ wsp c1 then 1 else r2) (e0 : r0 = if 0 < p ∧ ¬ wsp c0 then 0 else r1)
    (g0 : f0 = if 0 < p ∧ ¬ wsp c0 then 1 else 0) (g1 : f1 = if 1 < p ∧ ¬ wsp c1 then 2 else f0) (g2 : f2 = if 2 < p ∧ ¬ wsp c2 then 3 else f1) (g3 : f3 = if 3 < p ∧ ¬ wsp c3 then 4 else f2) : r0 = s ∧ f3 = e := by
  obtain ⟨q1, q2, q3, q4, q5, q6⟩ := Q
  have hl : ([c0, c1, c2, c3].take p).length = p := by simp; omega
  rw [hl] at q1 q2 q4 q5
  obtain ⟨b0, B0, -⟩ := bit (wsp c0)
  obtain ⟨b1, B1, -⟩ := bit (wsp c1)
  obtain ⟨b2, B2, -⟩ := bit (wsp c2)
  obtain ⟨b3, B3, -⟩ := bit (wsp c3)
  have a0 : 0 < s → b0 = 1 := fun q => B0.mp (by have := q3 0 q; rwa [getD_take (by omega)] at this)
  have a1 : 1 < s → b1 = 1 := fun q => B1.mp (by have := q3 1 q; rwa [getD_take (by omega)] at this)
  have a2 : 2 < s → b2 = 1 := fun q => B2.mp (by have := q3 2 q; rwa [getD_take (by omega)] at this)
  have a3 : 3 < s → b3 = 1 := fun q => B3.mp (by have := q3 3 q; rwa [getD_take (by omega)] at this)
  have a4 : s = p ∨ (s = 0 ∧ ¬ b0 = 1) ∨ (s = 1 ∧ ¬ b1 = 1) ∨ (s = 2 ∧ ¬ b2 = 1) ∨ (s = 3 ∧ ¬ b3 = 1) := by
    by_cases hs : s = p
    · exact Or.inl hs
    · have q := q4.resolve_left hs
      rw [getD_take (by omega)] at q
      obtain rfl | rfl | rfl | rfl : s = 0 ∨ s = 1 ∨ s = 2 ∨ s = 3 := by omega
      · exact Or.inr (Or.inl ⟨rfl, fun z => q (B0.mpr z)⟩)
      · exact Or.inr (Or.inr (Or.inl ⟨rfl, fun z => q (B1.mpr z)⟩))
      · exact Or.inr (Or.inr (Or.inr (Or.inl ⟨rfl, fun z => q (B2.mpr z)⟩)))
      · exact Or.inr (Or.inr (Or.inr (Or.inr ⟨rfl, fun z => q (B3.mpr z)⟩)))
  have t0 : e ≤ 0 → 0 < p → b0 = 1 := fun q z => B0.mp (by have := q5 0 q z; rwa [getD_take (by omega)] at this)
  have t1 : e ≤ 1 → 1 < p → b1 = 1 := fun q z => B1.mp (by have := q5 1 q z; rwa [getD_take (by omega)] at this)
  have t2 : e ≤ 2 → 2 < p → b2 = 1 := fun q z => B2.mp (by have := q5 2 q z; rwa [getD_take (by omega)] at this)
  have t3 : e ≤ 3 → 3 < p → b3 = 1 := fun q z => B3.mp (by have := q5 3 q z; rwa [getD_take (by omega)] at this)
  have t4 : e = 0 ∨ (e = 1 ∧ ¬ b0 = 1) ∨ (e = 2 ∧ ¬ b1 = 1) ∨ (e = 3 ∧ ¬ b2 = 1) ∨ (e = 4 ∧ ¬ b3 = 1) := by
    by_cases hs : e = 0
    · exact Or.inl hs
    · have q := q6.resolve_left hs
      rw [getD_take (by omega)] at q
      obtain rfl | rfl | rfl | rfl : e = 1 ∨ e = 2 ∨ e = 3 ∨ e = 4 := by omega
      · exact Or.inr (Or.inl ⟨rfl, fun z => q (B0.mpr z)⟩)
      · exact Or.inr (Or.inr (Or.inl ⟨rfl, fun z => q (B1.mpr z)⟩))
      · exact Or.inr (Or.inr (Or.inr (Or.inl ⟨rfl, fun z => q (B2.mpr z)⟩)))
      · exact Or.inr (Or.inr (Or.inr (Or.inr ⟨rfl, fun z => q (B3.mpr z)⟩)))
  have d3 := ifd e3
  have d2 := ifd e2
  have d1 := ifd e1
  have d0 := ifd e0
  have v3 := ifd g3
  have v2 := ifd g2
  have v1 := ifd g1
  have v0 := ifd g0
  rw [B3] at d3 v3; rw [B2] at d2 v2; rw [B1] at d1 v1; rw [B0] at d0 v0
  clear e3 e2 e1 e0 g0 g1 g2 g3 q3 q4 q5 q6 B0 B1 B2 B3
  constructor
  · clear t0 t1 t2 t3 t4 v0 v1 v2 v3; omega
  · clear a0 a1 a2 a3 a4 d0 d1 d2 d3; omega
theorem rem_small (x : Int32) (k : Nat) (hk : 0 < k) (hk2 : k < 2 ^ 31) : ∃ i : Nat, i < k ∧ (x &&& 2147483647) % Int32.ofNat k = Int32.ofNat i := by
  have h := c_mask x 2147483647 31 (by decide) (by decide)
  have e : ((2 ^ 31 : Nat) : Int) = 2147483648 := by decide
  rw [e] at h
  have h0 : 0 ≤ (x &&& 2147483647).toInt := by omega
  have hm : ((x &&& 2147483647) % Int32.ofNat k).toInt = (x &&& 2147483647).toInt % (k : Int) := by
    rw [Int32.toInt_mod, ofNat_toInt hk2, Int.tmod_eq_emod_of_nonneg h0]
  have r0 : 0 ≤ (x &&& 2147483647).toInt % (k : Int) := Int.emod_nonneg _ (by omega)
  have r1 : (x &&& 2147483647).toInt % (k : Int) < k := Int.emod_lt_of_pos _ (by omega)
  exact ⟨((x &&& 2147483647).toInt % (k : Int)).toNat, by omega, i32_ext (by rw [hm, ofNat_toInt (by omega)]; omega)⟩
theorem max0 {s e : Nat} (hs : s < 2 ^ 31) (he : e < 2 ^ 31) : (if (0 : Int32) < Int32.ofNat e - Int32.ofNat s then Int32.ofNat e - Int32.ofNat s else 0) = Int32.ofNat (e - s) := by
  by_cases q : s ≤ e
  · rw [sub_ofNat q he]
    by_cases z : e - s = 0
    · rw [z]; rfl
    · rw [if_pos (by rw [lt32, ofNat_toInt (by omega)]; show (0 : Int) < _; omega)]
  · have h1 := c_isub (Int32.ofNat e) (Int32.ofNat s)
    have h2 := rng32 (Int32.ofNat e - Int32.ofNat s)
    rw [ofNat_toInt hs, ofNat_toInt he] at h1
    rw [if_neg (by rw [lt32]; show ¬ ((0 : Int) < _); omega), show e - s = 0 by omega]; rfl
theorem outAt {L : List Int32} {s e k : Nat} (he : e ≤ L.length) (hk : k < e - s) : (((L.take e).drop s).map low).getD k 0 = low (L.getD (s + k) 0) := by
  rw [map_getD (by simp; omega)]
  congr 1
  simp [List.getD_eq_getElem?_getD, List.getElem?_take, show s + k < e by omega]
end Jvm.Ow
namespace Jvm.Ow
open Sem ClassFile Op Lib Bundle Jvm.Stand Jvm.Free Jvm.LawKit Jvm.RoadKit
/-- an array of references, by its values -/
def ArR (Z : State) (h : Heap) (a : Nat) (ty : FieldType) (vs : List Value) : Prop := (∃ kc, Arv Z h a kc ty (Int32.ofNat vs.length) vs .null) ∧ vs.length < 2 ^ 31
section Refs
variable {p : Program} {l : Launch} {e : Env} {R : Room} {s : State} {m : MethodId} {args : Array Value} {below : List Frame} {meth : Method} {c : Code} {Z : State} {a0 : Array Value} {EL : List (String × Nat)} {b : Bool} {own nm : String} {bytes : ByteArray} {maxL : Nat} {ret : Option FieldType} {Q : Option Value → Heap → List Nat → Prop}
  {pc : Nat} {L : List Slot} {st : List Value} {h : Heap} {W : List Nat} {k n : Nat}
theorem ArR.lt {h : Heap} {a : Nat} {ty : FieldType} {vs : List Value} (A : ArR Z h a ty vs) : a < h.size := by obtain ⟨⟨_, A⟩, _⟩ := A; exact A.lt
theorem ArR.ext {h h' : Heap} {a : Nat} {ty : FieldType} {vs : List Value} (A : ArR Z h a ty vs) (E : Ext h h') : ArR Z h' a ty vs := by obtain ⟨⟨k, A⟩, q⟩ := A; exact ⟨⟨k, A.ext E⟩, q⟩
theorem ArR.keep {h h' : Heap} {a : Nat} {ty : FieldType} {vs : List Value} {ws : List Nat} (A : ArR Z h a ty vs) (K : Keep h h' ws) (hn : a ∉ ws) : ArR Z h' a ty vs := by obtain ⟨⟨k, A⟩, q⟩ := A; exact ⟨⟨k, A.keep K hn⟩, q⟩
theorem ArR.cell {h : Heap} {a : Nat} {ty : FieldType} {vs : List Value} (A : ArR Z h a ty vs) : ∃ cl : Cell, Arr Z h a cl ty ∧ cl.slots.size = vs.length ∧ ∀ {j : Int32} {i : Nat}, j.toInt = (i : Int) → i < vs.length → ¬ (j < 0 ∨ cl.slots.size ≤ j.toNatClampNeg) ∧ cl.slots[j.toNatClampNeg]? = some (vs.getD i .null) := by
  obtain ⟨⟨k, cl, A, q1, S, q3, H, G⟩, q⟩ := A
  rw [ofNat_clamp q] at S
  refine ⟨cl, A, S, fun {j i} hj hi => ?_⟩
  obtain ⟨h1, h2⟩ := idx_ok hj
  refine ⟨fun q => q.elim h1 (fun q => by omega), ?_⟩
  rw [h2, H i (by omega)]
theorem arrlenR (C : Cx p m meth c s Z a0 EL b own nm bytes maxL ret) {pc' : Nat} {a : Nat} {ty : FieldType} {vs : List Value} (A : ArR Z h a ty vs) (hd : decode bytes pc = .ok (.arraylength, 1)) (hp : pc + 1 = pc')
    (hr : WP p l e R s m args below meth c Z EL b Q pc' L (.int (Int32.ofNat vs.length) :: st) h W k n) : WP p l e R s m args below meth c Z EL b Q pc L (.ref a :: st) h W k n := by
  subst hp
  obtain ⟨cl, A, S, -⟩ := A.cell
  have e : cl.slots.size.toInt32 = Int32.ofNat vs.length := by rw [S]
  rw [← e] at hr
  exact hr.hop C fun X eT _ hZ ho => ⟨_, X, eT, fun t q => X.arraylength C.1 (by rw [eT]; exact A.1) (State.isArrayOf_alike hZ.alike A.2.1) (g := mkF m pc L.toArray (.ref a :: st)) rfl rfl (hb C.2.1 hd) t q⟩
theorem aaload (C : Cx p m meth c s Z a0 EL b own nm bytes maxL ret) {pc' : Nat} {a : Nat} {ty : FieldType} {vs : List Value} {j : Int32} {i : Nat} (A : ArR Z h a ty vs) (hty : ty.isReference = true) (hj : j.toInt = (i : Int)) (hi : i < vs.length) (hd : decode bytes pc = .ok (.aaload, 1)) (hp : pc + 1 = pc')
    (hr : WP p l e R s m args below meth c Z EL b Q pc' L (vs.getD i .null :: st) h W k n) : WP p l e R s m args below meth c Z EL b Q pc L (.int j :: .ref a :: st) h W k n := by
  subst hp
  obtain ⟨cl, A, S, G⟩ := A.cell
  obtain ⟨h1, h2⟩ := G hj hi
  exact hr.hop C fun X eT _ hZ ho => ⟨_, X, eT, fun t q => X.aaload C.1 (by rw [eT]; exact A.1) (State.isArrayOf_alike hZ.alike A.2.1) hty A.2.2 h1 h2 (g := mkF m pc L.toArray (.int j :: .ref a :: st)) rfl rfl (hb C.2.1 hd) t q⟩
theorem cloneR (C : Cx p m meth c s Z a0 EL b own nm bytes maxL ret) {pc' index : Nat} {a : Nat} {ty : FieldType} {ad : String} {vs : List Value}
    (w1 : (Cond.methodLink own index ⟨ad, "clone", "()Ljava/lang/Object;"⟩).before a0 Z = true) (w2 : (Cond.sameMethod ad "java/lang/Object" "clone" "()Ljava/lang/Object;").before a0 Z = true) (w3 : (Cond.native ⟨"java/lang/Object", "clone", "()Ljava/lang/Object;"⟩).before a0 Z = true)
    (w4 : (Cond.instanceMethod ⟨"java/lang/Object", "clone", "()Ljava/lang/Object;"⟩).before a0 Z = true) (w5 : (Cond.selects ad ⟨ad, "clone", "()Ljava/lang/Object;"⟩ ⟨"java/lang/Object", "clone", "()Ljava/lang/Object;"⟩).before a0 Z = true) (w6 : (Cond.castable ad "java/lang/Cloneable").before a0 Z = true)
    (A : ArR Z h a ty vs) (E : Exa Z h a ad) (hd : decode bytes pc = .ok (.invokevirtual index, 3)) (hp : pc + 3 = pc') (hsz : L.length = maxL) (hf : 1 ≤ R.frames) {Wt : Nat} (hWt : (st.map fun v => v.category).sum ≤ Wt) (hlo : Wt + 14 ≤ R.locals) (hc : k + 1 ≤ R.cells) (hn : n + vs.length ≤ R.slots)
    (hr : ∀ h' a', a' = h.size → Z.heap.size ≤ a' → a' < h'.size → Ext h h' → (ArR Z h' a' ty vs ∧ Exa Z h' a' ad) → WP p l e R s m args below meth c Z EL b Q pc' L (.ref a' :: st) h' (a' :: W) (k + 1) (n + vs.length)) :
    WP p l e R s m args below meth c Z EL b Q pc L (.ref a :: st) h W k n := by
  subst hp
  obtain ⟨⟨kc, Av⟩, q⟩ := A
  refine WP.grow (F := fun h' a' => ArR Z h' a' ty vs ∧ Exa Z h' a' ad) (st' := fun a => .ref a :: st) C hc hn (fun X eT hZ ho h1 h2 => ?_) hr
  have hsz' : (mkF m pc L.toArray (.ref a :: st)).locals.size = c.maxLocals := by rw [C.2.2.1, ← hsz]; simp
  obtain ⟨T', h', X', e', E', A', Ex', go⟩ := RoadKit.cloneH X C.1 hZ ho w1 w2 w3 w4 w5 w6 eT Av.arh E (g := mkF m pc L.toArray (.ref a :: st)) rfl hsz' rfl (hb C.2.1 hd) hf (W := Wt) (cap := vs.length) (by show 2 * 0 + _ ≤ _; omega) hlo (by rw [ofNat_clamp q]; exact Nat.le_refl _) h1 h2
  exact ⟨T', h', X', e', E', Ex'.lt, ⟨⟨⟨kc, A'⟩, q⟩, Ex'⟩, go⟩
end Refs
theorem eqv_r {Z : State} {a0 : Array Value} {X Y : Term} {y : Nat} (hY : Y.eval a0 Z none [] Z = some (.ref y)) (h : (Cond.eq X Y).before a0 Z = true) : X.eval a0 Z none [] Z = some (.ref y) := by
  have q := Cond.before_iff.mp h
  obtain ⟨u, v, h1, h2, k1, k2⟩ := cmp_v (Or.inl q)
  obtain rfl : v = .ref y := Option.some.inj (h2.symm.trans hY)
  have hu : u.isRef = true := by
    have := k2
    simp only [Kin] at this
    exact this.2
  obtain rfl := gotT (eq_R h1 h2 hu rfl) q
  exact h1
/-- an array of references that the sheet's words list -/
theorem ArR.table {Z : State} {a0 : Array Value} {t : Term} {ty : FieldType} {vs : List Value} (hf : Fit Z) (hx : vs.length < 2 ^ 31) (w1 : (Cond.arrayOf t ty).before a0 Z = true) (w2 : (Cond.eq (Term.length t) (Term.int (Int32.ofNat vs.length))).before a0 Z = true)
    (w3 : ∀ j, j < vs.length → (Term.elem t (Term.int (Int32.ofNat j))).eval a0 Z none [] Z = some (vs.getD j .null)) : ∃ a : Nat, t.eval a0 Z none [] Z = some (.ref a) ∧ ArR Z Z.heap a ty vs := by
  obtain ⟨a, e1⟩ := arr_v (Cond.before_iff.mp w1)
  obtain ⟨c, A⟩ := Arr.start e1 (Cond.before_iff.mp w1)
  have e5 := eqv_i (Term.int_eval _) (Cond.before_iff.mp w2)
  have e6 := A.fin (Vm.Alike.refl _)
  have e7 : (if c.slots.size < 2 ^ 31 then some (Value.int c.slots.size.toInt32) else none) = some (.int (Int32.ofNat vs.length)) := by
    have q : (Term.length t).eval a0 Z none [] Z = (if c.slots.size < 2 ^ 31 then some (.int c.slots.size.toInt32) else none) := by simp [Term.eval, e1, e6]
    exact q.symm.trans e5
  split at e7
  · rename_i hl
    have e8 : c.slots.size.toInt32 = Int32.ofNat vs.length := by injection e7 with e7; injection e7
    have e10 : ∀ j, j < vs.length → c.slots[j]? = some (vs.getD j .null) := fun j hj => by
      have q := w3 j hj
      have hn : ¬ (Int32.ofNat j) < 0 := by rw [lt32, ofNat_toInt (by omega)]; show ¬ ((j : Int) < 0); omega
      rw [elem_f e1 (Term.int_eval _) e6 hn, ofNat_clamp (by omega)] at q
      exact q
    have hL : ∀ (ys : List Value) (i : Nat), (∀ j, j < ys.length → c.slots[i + j]? = some (ys.getD j .null)) → HasL c i ys := by
      intro ys
      induction ys with
      | nil => intro i _; trivial
      | cons y ys ih => intro i hq; exact ⟨by simpa using hq 0 (by simp), ih (i + 1) (fun j hj => by have := hq (j + 1) (by simp; omega); simpa [Nat.add_assoc, Nat.add_comm 1] using this)⟩
    exact ⟨a, e1, ⟨c.cls, Arv.start hf A hl e8 (by rw [lt32, ofNat_toInt hx]; show ¬ ((vs.length : Int) < 0); omega) (by rw [ofNat_clamp hx]) (hL vs 0 (fun j hj => by simpa using e10 j hj))⟩, hx⟩
  · cases e7
end Jvm.Ow
namespace Jvm.Pilot.@@N@@
open Jvm Jvm.ClassFile Sem Op Lib Jvm.Free Jvm.Stand Jvm.LawKit Jvm.RoadKit Bundle Jvm.Pilot.@@N@@.Jvm.D
theorem pd_0 : parseMethodDescriptor "([CI[BII)I" = some ⟨[(.array .char), .int, (.array .byte), .int, .int], (some .int)⟩ := by decide +kernel
theorem pd_1 : parseMethodDescriptor "([CII)[B" = some ⟨[(.array .char), .int, .int], (some (.array .byte))⟩ := by decide +kernel
theorem pd_2 : parseMethodDescriptor "([BI)B" = some ⟨[(.array .byte), .int], (some .byte)⟩ := by decide +kernel
theorem pd_3 : parseMethodDescriptor "([CIILjava/lang/Void;)V" = some ⟨[(.array .char), .int, .int, (.object "java/lang/Void")], none⟩ := by decide +kernel
theorem pd_4 : parseMethodDescriptor "()B" = some ⟨[], (some .byte)⟩ := by decide +kernel
theorem pd_5 : parseMethodDescriptor "(IILjava/util/function/BiFunction;)I" = some ⟨[.int, .int, (.object "java/util/function/BiFunction")], (some .int)⟩ := by decide +kernel
theorem pd_6 : parseMethodDescriptor "(II)V" = some ⟨[.int, .int], none⟩ := by decide +kernel
theorem pd_7 : parseMethodDescriptor "()Z" = some ⟨[], (some .boolean)⟩ := by decide +kernel
theorem pd_8 : parseMethodDescriptor "([BI)C" = some ⟨[(.array .byte), .int], (some .char)⟩ := by decide +kernel
theorem pd_9 : parseMethodDescriptor "([B[B)Z" = some ⟨[(.array .byte), (.array .byte)], (some .boolean)⟩ := by decide +kernel
theorem pd_10 : parseMethodDescriptor "([C)V" = some ⟨[(.array .char)], none⟩ := by decide +kernel
theorem pd_11 : parseMethodDescriptor "()I" = some ⟨[], (some .int)⟩ := by decide +kernel
theorem pd_12 : parseMethodDescriptor "(I)C" = some ⟨[.int], (some .char)⟩ := by decide +kernel
theorem pd_13 : parseMethodDescriptor "(Ljava/lang/Object;)Ljava/lang/Object;" = some ⟨[(.object "java/lang/Object")], (some (.object "java/lang/Object"))⟩ := by decide +kernel
theorem pd_14 : parseMethodDescriptor "(Ljava/lang/Object;)V" = some ⟨[(.object "java/lang/Object")], none⟩ := by decide +kernel
theorem pd_15 : parseMethodDescriptor "()[Lcom/example/coretally/coretally/Metric;" = some ⟨[], (some (.array (.object "com/example/coretally/coretally/Metric")))⟩ := by decide +kernel
theorem pd_16 : parseMethodDescriptor "(Ljava/lang/Object;)Z" = some ⟨[(.object "java/lang/Object")], (some .boolean)⟩ := by decide +kernel
theorem pd_17 : parseMethodDescriptor "(Ljava/lang/Object;)Ljava/util/Optional;" = some ⟨[(.object "java/lang/Object")], (some (.object "java/util/Optional"))⟩ := by decide +kernel
theorem pd_18 : parseMethodDescriptor "()Ljava/util/Optional;" = some ⟨[], (some (.object "java/util/Optional"))⟩ := by decide +kernel
theorem pd_19 : parseMethodDescriptor "(Ljava/lang/String;I)C" = some ⟨[(.object "java/lang/String"), .int], (some .char)⟩ := by decide +kernel
theorem pd_20 : parseMethodDescriptor "([CI)Ljava/lang/String;" = some ⟨[(.array .char), .int], (some (.object "java/lang/String"))⟩ := by decide +kernel
theorem pd_21 : parseMethodDescriptor "(Ljava/lang/String;)Ljava/util/Optional;" = some ⟨[(.object "java/lang/String")], (some (.object "java/util/Optional"))⟩ := by decide +kernel
theorem pd_22 : parseMethodDescriptor "()Ljava/lang/Object;" = some ⟨[], (some (.object "java/lang/Object"))⟩ := by decide +kernel
theorem pn_0 : plainFor (⟨"java/lang/StringUTF16", "compress", "([CI[BII)I"⟩ : MethodName) = true := by decide +kernel
theorem pn_1 : plainFor (⟨"java/lang/StringUTF16", "compress", "([CII)[B"⟩ : MethodName) = true := by decide +kernel
theorem pn_2 : plainFor (⟨"java/lang/StringUTF16", "coderFromArrayLen", "([BI)B"⟩ : MethodName) = true := by decide +kernel
theorem pn_3 : plainFor (⟨"java/lang/String", "<init>", "([CIILjava/lang/Void;)V"⟩ : MethodName) = true := by decide +kernel
theorem pn_4 : plainFor (⟨"java/lang/String", "<init>", "([C)V"⟩ : MethodName) = true := by decide +kernel
theorem pn_5 : plainFor (⟨"java/lang/String", "coder", "()B"⟩ : MethodName) = true := by decide +kernel
theorem pn_6 : plainFor (⟨"java/lang/String", "length", "()I"⟩ : MethodName) = true := by decide +kernel
theorem pn_7 : plainFor (⟨"java/lang/String", "isLatin1", "()Z"⟩ : MethodName) = true := by decide +kernel
theorem pn_8 : plainFor (⟨"jdk/internal/util/Preconditions", "checkIndex", "(IILjava/util/function/BiFunction;)I"⟩ : MethodName) = true := by decide +kernel
theorem pn_9 : plainFor (⟨"java/lang/String", "checkIndex", "(II)V"⟩ : MethodName) = true := by decide +kernel
theorem pn_10 : plainFor (⟨"java/lang/StringLatin1", "charAt", "([BI)C"⟩ : MethodName) = true := by decide +kernel
theorem pn_11 : plainFor (⟨"java/lang/String", "charAt", "(I)C"⟩ : MethodName) = true := by decide +kernel
theorem pn_12 : plainFor (⟨"java/lang/StringLatin1", "equals", "([B[B)Z"⟩ : MethodName) = true := by decide +kernel
theorem pn_13 : plainFor (⟨"java/lang/String", "equals", "(Ljava/lang/Object;)Z"⟩ : MethodName) = true := by decide +kernel
theorem pn_14 : plainFor (⟨"com/example/coretally/coretally/MetricLabelledPinLaw", "str", "([CI)Ljava/lang/String;"⟩ : MethodName) = true := by decide +kernel
theorem pn_15 : plainFor (⟨"com/example/coretally/coretally/MetricLabelledPinLaw", "at", "(Ljava/lang/String;I)C"⟩ : MethodName) = true := by decide +kernel
theorem pn_16 : plainFor (⟨"com/example/coretally/coretally/Metric", "values", "()[Lcom/example/coretally/coretally/Metric;"⟩ : MethodName) = true := by decide +kernel
theorem pn_17 : plainFor (⟨"java/util/Objects", "requireNonNull", "(Ljava/lang/Object;)Ljava/lang/Object;"⟩ : MethodName) = true := by decide +kernel
theorem pn_18 : plainFor (⟨"java/util/Optional", "<init>", "(Ljava/lang/Object;)V"⟩ : MethodName) = true := by decide +kernel
theorem pn_19 : plainFor (⟨"java/util/Optional", "of", "(Ljava/lang/Object;)Ljava/util/Optional;"⟩ : MethodName) = true := by decide +kernel
theorem pn_20 : plainFor (⟨"java/util/Optional", "empty", "()Ljava/util/Optional;"⟩ : MethodName) = true := by decide +kernel
theorem pn_21 : plainFor (⟨"com/example/coretally/coretally/Metric", "labelled", "(Ljava/lang/String;)Ljava/util/Optional;"⟩ : MethodName) = true := by decide +kernel
theorem pn_22 : plainFor (⟨"java/util/Optional", "isPresent", "()Z"⟩ : MethodName) = true := by decide +kernel
theorem pn_23 : plainFor (⟨"java/util/Optional", "get", "()Ljava/lang/Object;"⟩ : MethodName) = true := by decide +kernel
theorem pn_24 : plainFor (⟨"com/example/coretally/coretally/MetricLabelledPinLaw", "law", "(III)Z"⟩ : MethodName) = true := by decide +kernel
theorem dCL_3 : decode jdk_52_method_21_code 3 = .ok (.iload 5, 2) := by decide +kernel
theorem dCL_5 : decode jdk_52_method_21_code 5 = .ok (.iload 4, 2) := by decide +kernel
theorem dCL_7 : decode jdk_52_method_21_code 7 = .ok (.if_icmp .ge 37, 3) := by decide +kernel
theorem dCL_44 : decode jdk_52_method_21_code 44 = .ok (.iload 4, 2) := by decide +kernel
theorem dCL_46 : decode jdk_52_method_21_code 46 = .ok (.ireturn, 1) := by decide +kernel
theorem dCL_10 : decode jdk_52_method_21_code 10 = .ok (.aload_n 0, 1) := by decide +kernel
theorem dCL_11 : decode jdk_52_method_21_code 11 = .ok (.iload_n 1, 1) := by decide +kernel
theorem dCL_12 : decode jdk_52_method_21_code 12 = .ok (.caload, 1) := by decide +kernel
theorem dCL_13 : decode jdk_52_method_21_code 13 = .ok (.istore 6, 2) := by decide +kernel
theorem dCL_15 : decode jdk_52_method_21_code 15 = .ok (.iload 6, 2) := by decide +kernel
theorem dCL_17 : decode jdk_52_method_21_code 17 = .ok (.sipush 255, 3) := by decide +kernel
theorem dCL_20 : decode jdk_52_method_21_code 20 = .ok (.if_icmp .le 6, 3) := by decide +kernel
theorem dCL_26 : decode jdk_52_method_21_code 26 = .ok (.aload_n 2, 1) := by decide +kernel
theorem dCL_27 : decode jdk_52_method_21_code 27 = .ok (.iload_n 3, 1) := by decide +kernel
theorem dCL_28 : decode jdk_52_method_21_code 28 = .ok (.iload 6, 2) := by decide +kernel
theorem dCL_30 : decode jdk_52_method_21_code 30 = .ok (.i2b, 1) := by decide +kernel
theorem dCL_31 : decode jdk_52_method_21_code 31 = .ok (.bastore, 1) := by decide +kernel
theorem dCL_32 : decode jdk_52_method_21_code 32 = .ok (.iinc 1 1, 3) := by decide +kernel
theorem dCL_35 : decode jdk_52_method_21_code 35 = .ok (.iinc 3 1, 3) := by decide +kernel
theorem dCL_38 : decode jdk_52_method_21_code 38 = .ok (.iinc 5 1, 3) := by decide +kernel
theorem dCL_41 : decode jdk_52_method_21_code 41 = .ok (.goto (-38), 3) := by decide +kernel
theorem dCL_23 : decode jdk_52_method_21_code 23 = .ok (.iload 5, 2) := by decide +kernel
theorem dCL_25 : decode jdk_52_method_21_code 25 = .ok (.ireturn, 1) := by decide +kernel
theorem dCL_0 : decode jdk_52_method_21_code 0 = .ok (.iconst 0, 1) := by decide +kernel
theorem dCL_1 : decode jdk_52_method_21_code 1 = .ok (.istore 5, 2) := by decide +kernel
theorem dCM_0 : decode jdk_52_method_16_code 0 = .ok (.iload_n 2, 1) := by decide +kernel
theorem dCM_1 : decode jdk_52_method_16_code 1 = .ok (.newarray .byte, 2) := by decide +kernel
theorem dCM_3 : decode jdk_52_method_16_code 3 = .ok (.astore_n 3, 1) := by decide +kernel
theorem dCM_4 : decode jdk_52_method_16_code 4 = .ok (.aload_n 0, 1) := by decide +kernel
theorem dCM_5 : decode jdk_52_method_16_code 5 = .ok (.iload_n 1, 1) := by decide +kernel
theorem dCM_6 : decode jdk_52_method_16_code 6 = .ok (.aload_n 3, 1) := by decide +kernel
theorem dCM_7 : decode jdk_52_method_16_code 7 = .ok (.iconst 0, 1) := by decide +kernel
theorem dCM_8 : decode jdk_52_method_16_code 8 = .ok (.iload_n 2, 1) := by decide +kernel
theorem dCM_9 : decode jdk_52_method_16_code 9 = .ok (.invokestatic 115, 3) := by decide +kernel
theorem dCM_12 : decode jdk_52_method_16_code 12 = .ok (.istore 4, 2) := by decide +kernel
theorem dCM_14 : decode jdk_52_method_16_code 14 = .ok (.iload 4, 2) := by decide +kernel
theorem dCM_16 : decode jdk_52_method_16_code 16 = .ok (.iload_n 2, 1) := by decide +kernel
theorem dCM_17 : decode jdk_52_method_16_code 17 = .ok (.if_icmp .eq 40, 3) := by decide +kernel
theorem dCM_57 : decode jdk_52_method_16_code 57 = .ok (.aload_n 3, 1) := by decide +kernel
theorem dCM_58 : decode jdk_52_method_16_code 58 = .ok (.areturn, 1) := by decide +kernel
theorem dCF_0 : decode jdk_52_method_15_code 0 = .ok (.iload_n 1, 1) := by decide +kernel
theorem dCF_1 : decode jdk_52_method_15_code 1 = .ok (.aload_n 0, 1) := by decide +kernel
theorem dCF_2 : decode jdk_52_method_15_code 2 = .ok (.arraylength, 1) := by decide +kernel
theorem dCF_3 : decode jdk_52_method_15_code 3 = .ok (.isub, 1) := by decide +kernel
theorem dCF_4 : decode jdk_52_method_15_code 4 = .ok (.bipush 31, 2) := by decide +kernel
theorem dCF_6 : decode jdk_52_method_15_code 6 = .ok (.iushr, 1) := by decide +kernel
theorem dCF_7 : decode jdk_52_method_15_code 7 = .ok (.i2b, 1) := by decide +kernel
theorem dCF_8 : decode jdk_52_method_15_code 8 = .ok (.ireturn, 1) := by decide +kernel
theorem dI1_0 : decode jdk_42_method_149_code 0 = .ok (.aload_n 0, 1) := by decide +kernel
theorem dI1_1 : decode jdk_42_method_149_code 1 = .ok (.invokespecial 1, 3) := by decide +kernel
theorem dI1_4 : decode jdk_42_method_149_code 4 = .ok (.iload_n 3, 1) := by decide +kernel
theorem dI1_5 : decode jdk_42_method_149_code 5 = .ok (.ifCond .ne 22, 3) := by decide +kernel
theorem dI1_27 : decode jdk_42_method_149_code 27 = .ok (.getstatic 38, 3) := by decide +kernel
theorem dI1_30 : decode jdk_42_method_149_code 30 = .ok (.ifCond .eq 28, 3) := by decide +kernel
theorem dI1_33 : decode jdk_42_method_149_code 33 = .ok (.aload_n 1, 1) := by decide +kernel
theorem dI1_34 : decode jdk_42_method_149_code 34 = .ok (.iload_n 2, 1) := by decide +kernel
theorem dI1_35 : decode jdk_42_method_149_code 35 = .ok (.iload_n 3, 1) := by decide +kernel
theorem dI1_36 : decode jdk_42_method_149_code 36 = .ok (.invokestatic 177, 3) := by decide +kernel
theorem dI1_39 : decode jdk_42_method_149_code 39 = .ok (.astore 5, 2) := by decide +kernel
theorem dI1_41 : decode jdk_42_method_149_code 41 = .ok (.aload_n 0, 1) := by decide +kernel
theorem dI1_42 : decode jdk_42_method_149_code 42 = .ok (.aload 5, 2) := by decide +kernel
theorem dI1_44 : decode jdk_42_method_149_code 44 = .ok (.iload_n 3, 1) := by decide +kernel
theorem dI1_45 : decode jdk_42_method_149_code 45 = .ok (.invokestatic 47, 3) := by decide +kernel
theorem dI1_48 : decode jdk_42_method_149_code 48 = .ok (.putfield 15, 3) := by decide +kernel
theorem dI1_51 : decode jdk_42_method_149_code 51 = .ok (.aload_n 0, 1) := by decide +kernel
theorem dI1_52 : decode jdk_42_method_149_code 52 = .ok (.aload 5, 2) := by decide +kernel
theorem dI1_54 : decode jdk_42_method_149_code 54 = .ok (.putfield 9, 3) := by decide +kernel
theorem dI1_57 : decode jdk_42_method_149_code 57 = .ok (.return_, 1) := by decide +kernel
theorem dI0_0 : decode jdk_42_method_3_code 0 = .ok (.aload_n 0, 1) := by decide +kernel
theorem dI0_1 : decode jdk_42_method_3_code 1 = .ok (.aload_n 1, 1) := by decide +kernel
theorem dI0_2 : decode jdk_42_method_3_code 2 = .ok (.iconst 0, 1) := by decide +kernel
theorem dI0_3 : decode jdk_42_method_3_code 3 = .ok (.aload_n 1, 1) := by decide +kernel
theorem dI0_4 : decode jdk_42_method_3_code 4 = .ok (.arraylength, 1) := by decide +kernel
theorem dI0_5 : decode jdk_42_method_3_code 5 = .ok (.aconst_null, 1) := by decide +kernel
theorem dI0_6 : decode jdk_42_method_3_code 6 = .ok (.invokespecial 27, 3) := by decide +kernel
theorem dI0_9 : decode jdk_42_method_3_code 9 = .ok (.return_, 1) := by decide +kernel
theorem dI1_8 : decode jdk_42_method_149_code 8 = .ok (.aload_n 0, 1) := by decide +kernel
theorem dI1_9 : decode jdk_42_method_149_code 9 = .ok (.ldc 7, 2) := by decide +kernel
theorem dI1_11 : decode jdk_42_method_149_code 11 = .ok (.getfield 9, 3) := by decide +kernel
theorem dI1_14 : decode jdk_42_method_149_code 14 = .ok (.putfield 9, 3) := by decide +kernel
theorem dI1_17 : decode jdk_42_method_149_code 17 = .ok (.aload_n 0, 1) := by decide +kernel
theorem dI1_18 : decode jdk_42_method_149_code 18 = .ok (.ldc 7, 2) := by decide +kernel
theorem dI1_20 : decode jdk_42_method_149_code 20 = .ok (.getfield 15, 3) := by decide +kernel
theorem dI1_23 : decode jdk_42_method_149_code 23 = .ok (.putfield 15, 3) := by decide +kernel
theorem dI1_26 : decode jdk_42_method_149_code 26 = .ok (.return_, 1) := by decide +kernel
theorem dCO_0 : decode jdk_42_method_152_code 0 = .ok (.getstatic 38, 3) := by decide +kernel
theorem dCO_3 : decode jdk_42_method_152_code 3 = .ok (.ifCond .eq 10, 3) := by decide +kernel
theorem dCO_6 : decode jdk_42_method_152_code 6 = .ok (.aload_n 0, 1) := by decide +kernel
theorem dCO_7 : decode jdk_42_method_152_code 7 = .ok (.getfield 15, 3) := by decide +kernel
theorem dCO_10 : decode jdk_42_method_152_code 10 = .ok (.goto 4, 3) := by decide +kernel
theorem dCO_14 : decode jdk_42_method_152_code 14 = .ok (.ireturn, 1) := by decide +kernel
theorem dLN_0 : decode jdk_42_method_54_code 0 = .ok (.aload_n 0, 1) := by decide +kernel
theorem dLN_1 : decode jdk_42_method_54_code 1 = .ok (.getfield 9, 3) := by decide +kernel
theorem dLN_4 : decode jdk_42_method_54_code 4 = .ok (.arraylength, 1) := by decide +kernel
theorem dLN_5 : decode jdk_42_method_54_code 5 = .ok (.aload_n 0, 1) := by decide +kernel
theorem dLN_6 : decode jdk_42_method_54_code 6 = .ok (.invokevirtual 335, 3) := by decide +kernel
theorem dLN_9 : decode jdk_42_method_54_code 9 = .ok (.ishr, 1) := by decide +kernel
theorem dLN_10 : decode jdk_42_method_54_code 10 = .ok (.ireturn, 1) := by decide +kernel
theorem dIL_0 : decode jdk_42_method_154_code 0 = .ok (.getstatic 38, 3) := by decide +kernel
theorem dIL_3 : decode jdk_42_method_154_code 3 = .ok (.ifCond .eq 14, 3) := by decide +kernel
theorem dIL_6 : decode jdk_42_method_154_code 6 = .ok (.aload_n 0, 1) := by decide +kernel
theorem dIL_7 : decode jdk_42_method_154_code 7 = .ok (.getfield 15, 3) := by decide +kernel
theorem dIL_10 : decode jdk_42_method_154_code 10 = .ok (.ifCond .ne 7, 3) := by decide +kernel
theorem dIL_17 : decode jdk_42_method_154_code 17 = .ok (.iconst 0, 1) := by decide +kernel
theorem dIL_18 : decode jdk_42_method_154_code 18 = .ok (.ireturn, 1) := by decide +kernel
theorem dIL_13 : decode jdk_42_method_154_code 13 = .ok (.iconst 1, 1) := by decide +kernel
theorem dIL_14 : decode jdk_42_method_154_code 14 = .ok (.goto 4, 3) := by decide +kernel
theorem dPI_0 : decode jdk_41_method_11_code 0 = .ok (.iload_n 0, 1) := by decide +kernel
theorem dPI_1 : decode jdk_41_method_11_code 1 = .ok (.ifCond .lt 8, 3) := by decide +kernel
theorem dPI_4 : decode jdk_41_method_11_code 4 = .ok (.iload_n 0, 1) := by decide +kernel
theorem dPI_5 : decode jdk_41_method_11_code 5 = .ok (.iload_n 1, 1) := by decide +kernel
theorem dPI_6 : decode jdk_41_method_11_code 6 = .ok (.if_icmp .lt 10, 3) := by decide +kernel
theorem dPI_16 : decode jdk_41_method_11_code 16 = .ok (.iload_n 0, 1) := by decide +kernel
theorem dPI_17 : decode jdk_41_method_11_code 17 = .ok (.ireturn, 1) := by decide +kernel
theorem dCI_0 : decode jdk_42_method_155_code 0 = .ok (.iload_n 0, 1) := by decide +kernel
theorem dCI_1 : decode jdk_42_method_155_code 1 = .ok (.iload_n 1, 1) := by decide +kernel
theorem dCI_2 : decode jdk_42_method_155_code 2 = .ok (.getstatic 1053, 3) := by decide +kernel
theorem dCI_5 : decode jdk_42_method_155_code 5 = .ok (.invokestatic 1059, 3) := by decide +kernel
theorem dCI_8 : decode jdk_42_method_155_code 8 = .ok (.pop, 1) := by decide +kernel
theorem dCI_9 : decode jdk_42_method_155_code 9 = .ok (.return_, 1) := by decide +kernel
theorem dLA_0 : decode jdk_43_method_2_code 0 = .ok (.iload_n 1, 1) := by decide +kernel
theorem dLA_1 : decode jdk_43_method_2_code 1 = .ok (.aload_n 0, 1) := by decide +kernel
theorem dLA_2 : decode jdk_43_method_2_code 2 = .ok (.arraylength, 1) := by decide +kernel
theorem dLA_3 : decode jdk_43_method_2_code 3 = .ok (.invokestatic 9, 3) := by decide +kernel
theorem dLA_6 : decode jdk_43_method_2_code 6 = .ok (.aload_n 0, 1) := by decide +kernel
theorem dLA_7 : decode jdk_43_method_2_code 7 = .ok (.iload_n 1, 1) := by decide +kernel
theorem dLA_8 : decode jdk_43_method_2_code 8 = .ok (.baload, 1) := by decide +kernel
theorem dLA_9 : decode jdk_43_method_2_code 9 = .ok (.sipush 255, 3) := by decide +kernel
theorem dLA_12 : decode jdk_43_method_2_code 12 = .ok (.iand, 1) := by decide +kernel
theorem dLA_13 : decode jdk_43_method_2_code 13 = .ok (.i2c, 1) := by decide +kernel
theorem dLA_14 : decode jdk_43_method_2_code 14 = .ok (.ireturn, 1) := by decide +kernel
theorem dCA_0 : decode jdk_42_method_56_code 0 = .ok (.aload_n 0, 1) := by decide +kernel
theorem dCA_1 : decode jdk_42_method_56_code 1 = .ok (.invokevirtual 492, 3) := by decide +kernel
theorem dCA_4 : decode jdk_42_method_56_code 4 = .ok (.ifCond .eq 12, 3) := by decide +kernel
theorem dCA_7 : decode jdk_42_method_56_code 7 = .ok (.aload_n 0, 1) := by decide +kernel
theorem dCA_8 : decode jdk_42_method_56_code 8 = .ok (.getfield 9, 3) := by decide +kernel
theorem dCA_11 : decode jdk_42_method_56_code 11 = .ok (.iload_n 1, 1) := by decide +kernel
theorem dCA_12 : decode jdk_42_method_56_code 12 = .ok (.invokestatic 495, 3) := by decide +kernel
theorem dCA_15 : decode jdk_42_method_56_code 15 = .ok (.ireturn, 1) := by decide +kernel
theorem dLE_0 : decode jdk_43_method_13_code 0 = .ok (.aload_n 0, 1) := by decide +kernel
theorem dLE_1 : decode jdk_43_method_13_code 1 = .ok (.arraylength, 1) := by decide +kernel
theorem dLE_2 : decode jdk_43_method_13_code 2 = .ok (.aload_n 1, 1) := by decide +kernel
theorem dLE_3 : decode jdk_43_method_13_code 3 = .ok (.arraylength, 1) := by decide +kernel
theorem dLE_4 : decode jdk_43_method_13_code 4 = .ok (.if_icmp .ne 30, 3) := by decide +kernel
theorem dLE_34 : decode jdk_43_method_13_code 34 = .ok (.iconst 0, 1) := by decide +kernel
theorem dLE_35 : decode jdk_43_method_13_code 35 = .ok (.ireturn, 1) := by decide +kernel
theorem dLE_7 : decode jdk_43_method_13_code 7 = .ok (.iconst 0, 1) := by decide +kernel
theorem dLE_8 : decode jdk_43_method_13_code 8 = .ok (.istore_n 2, 1) := by decide +kernel
theorem dLE_9 : decode jdk_43_method_13_code 9 = .ok (.iload_n 2, 1) := by decide +kernel
theorem dLE_10 : decode jdk_43_method_13_code 10 = .ok (.aload_n 0, 1) := by decide +kernel
theorem dLE_11 : decode jdk_43_method_13_code 11 = .ok (.arraylength, 1) := by decide +kernel
theorem dLE_12 : decode jdk_43_method_13_code 12 = .ok (.if_icmp .ge 20, 3) := by decide +kernel
theorem dLE_32 : decode jdk_43_method_13_code 32 = .ok (.iconst 1, 1) := by decide +kernel
theorem dLE_33 : decode jdk_43_method_13_code 33 = .ok (.ireturn, 1) := by decide +kernel
theorem dLE_15 : decode jdk_43_method_13_code 15 = .ok (.aload_n 0, 1) := by decide +kernel
theorem dLE_16 : decode jdk_43_method_13_code 16 = .ok (.iload_n 2, 1) := by decide +kernel
theorem dLE_17 : decode jdk_43_method_13_code 17 = .ok (.baload, 1) := by decide +kernel
theorem dLE_18 : decode jdk_43_method_13_code 18 = .ok (.aload_n 1, 1) := by decide +kernel
theorem dLE_19 : decode jdk_43_method_13_code 19 = .ok (.iload_n 2, 1) := by decide +kernel
theorem dLE_20 : decode jdk_43_method_13_code 20 = .ok (.baload, 1) := by decide +kernel
theorem dLE_21 : decode jdk_43_method_13_code 21 = .ok (.if_icmp .eq 5, 3) := by decide +kernel
theorem dLE_26 : decode jdk_43_method_13_code 26 = .ok (.iinc 2 1, 3) := by decide +kernel
theorem dLE_29 : decode jdk_43_method_13_code 29 = .ok (.goto (-20), 3) := by decide +kernel
theorem dLE_24 : decode jdk_43_method_13_code 24 = .ok (.iconst 0, 1) := by decide +kernel
theorem dLE_25 : decode jdk_43_method_13_code 25 = .ok (.ireturn, 1) := by decide +kernel
theorem dEQ_0 : decode jdk_42_method_66_code 0 = .ok (.aload_n 0, 1) := by decide +kernel
theorem dEQ_1 : decode jdk_42_method_66_code 1 = .ok (.aload_n 1, 1) := by decide +kernel
theorem dEQ_2 : decode jdk_42_method_66_code 2 = .ok (.if_acmp .ne 5, 3) := by decide +kernel
theorem dEQ_7 : decode jdk_42_method_66_code 7 = .ok (.aload_n 1, 1) := by decide +kernel
theorem dEQ_8 : decode jdk_42_method_66_code 8 = .ok (.instanceof 10, 3) := by decide +kernel
theorem dEQ_11 : decode jdk_42_method_66_code 11 = .ok (.ifCond .eq 43, 3) := by decide +kernel
theorem dEQ_14 : decode jdk_42_method_66_code 14 = .ok (.aload_n 1, 1) := by decide +kernel
theorem dEQ_15 : decode jdk_42_method_66_code 15 = .ok (.checkcast 10, 3) := by decide +kernel
theorem dEQ_18 : decode jdk_42_method_66_code 18 = .ok (.astore_n 2, 1) := by decide +kernel
theorem dEQ_19 : decode jdk_42_method_66_code 19 = .ok (.getstatic 38, 3) := by decide +kernel
theorem dEQ_22 : decode jdk_42_method_66_code 22 = .ok (.ifCond .eq 14, 3) := by decide +kernel
theorem dEQ_25 : decode jdk_42_method_66_code 25 = .ok (.aload_n 0, 1) := by decide +kernel
theorem dEQ_26 : decode jdk_42_method_66_code 26 = .ok (.getfield 15, 3) := by decide +kernel
theorem dEQ_29 : decode jdk_42_method_66_code 29 = .ok (.aload_n 2, 1) := by decide +kernel
theorem dEQ_30 : decode jdk_42_method_66_code 30 = .ok (.getfield 15, 3) := by decide +kernel
theorem dEQ_33 : decode jdk_42_method_66_code 33 = .ok (.if_icmp .ne 21, 3) := by decide +kernel
theorem dEQ_36 : decode jdk_42_method_66_code 36 = .ok (.aload_n 0, 1) := by decide +kernel
theorem dEQ_37 : decode jdk_42_method_66_code 37 = .ok (.getfield 9, 3) := by decide +kernel
theorem dEQ_40 : decode jdk_42_method_66_code 40 = .ok (.aload_n 2, 1) := by decide +kernel
theorem dEQ_41 : decode jdk_42_method_66_code 41 = .ok (.getfield 9, 3) := by decide +kernel
theorem dEQ_44 : decode jdk_42_method_66_code 44 = .ok (.invokestatic 541, 3) := by decide +kernel
theorem dEQ_47 : decode jdk_42_method_66_code 47 = .ok (.ifCond .eq 7, 3) := by decide +kernel
theorem dEQ_50 : decode jdk_42_method_66_code 50 = .ok (.iconst 1, 1) := by decide +kernel
theorem dEQ_51 : decode jdk_42_method_66_code 51 = .ok (.goto 4, 3) := by decide +kernel
theorem dEQ_55 : decode jdk_42_method_66_code 55 = .ok (.ireturn, 1) := by decide +kernel
theorem dEQ_54 : decode jdk_42_method_66_code 54 = .ok (.iconst 0, 1) := by decide +kernel
theorem dEQ_5 : decode jdk_42_method_66_code 5 = .ok (.iconst 1, 1) := by decide +kernel
theorem dEQ_6 : decode jdk_42_method_66_code 6 = .ok (.ireturn, 1) := by decide +kernel
theorem dST_0 : decode method_3_code 0 = .ok (.iload_n 1, 1) := by decide +kernel
theorem dST_1 : decode method_3_code 1 = .ok (.ifCond .ne 14, 3) := by decide +kernel
theorem dST_4 : decode method_3_code 4 = .ok (.new 8, 3) := by decide +kernel
theorem dST_7 : decode method_3_code 7 = .ok (.dup, 1) := by decide +kernel
theorem dST_8 : decode method_3_code 8 = .ok (.iconst 0, 1) := by decide +kernel
theorem dST_9 : decode method_3_code 9 = .ok (.newarray .char, 2) := by decide +kernel
theorem dST_11 : decode method_3_code 11 = .ok (.invokespecial 17, 3) := by decide +kernel
theorem dST_14 : decode method_3_code 14 = .ok (.areturn, 1) := by decide +kernel
theorem dST_15 : decode method_3_code 15 = .ok (.iload_n 1, 1) := by decide +kernel
theorem dST_16 : decode method_3_code 16 = .ok (.iconst 1, 1) := by decide +kernel
theorem dST_17 : decode method_3_code 17 = .ok (.if_icmp .ne 20, 3) := by decide +kernel
theorem dST_20 : decode method_3_code 20 = .ok (.new 8, 3) := by decide +kernel
theorem dST_23 : decode method_3_code 23 = .ok (.dup, 1) := by decide +kernel
theorem dST_24 : decode method_3_code 24 = .ok (.iconst 1, 1) := by decide +kernel
theorem dST_25 : decode method_3_code 25 = .ok (.newarray .char, 2) := by decide +kernel
theorem dST_27 : decode method_3_code 27 = .ok (.dup, 1) := by decide +kernel
theorem dST_28 : decode method_3_code 28 = .ok (.iconst 0, 1) := by decide +kernel
theorem dST_29 : decode method_3_code 29 = .ok (.aload_n 0, 1) := by decide +kernel
theorem dST_30 : decode method_3_code 30 = .ok (.iconst 0, 1) := by decide +kernel
theorem dST_31 : decode method_3_code 31 = .ok (.caload, 1) := by decide +kernel
theorem dST_32 : decode method_3_code 32 = .ok (.castore, 1) := by decide +kernel
theorem dST_33 : decode method_3_code 33 = .ok (.invokespecial 17, 3) := by decide +kernel
theorem dST_36 : decode method_3_code 36 = .ok (.areturn, 1) := by decide +kernel
theorem dST_37 : decode method_3_code 37 = .ok (.iload_n 1, 1) := by decide +kernel
theorem dST_38 : decode method_3_code 38 = .ok (.iconst 2, 1) := by decide +kernel
theorem dST_39 : decode method_3_code 39 = .ok (.if_icmp .ne 26, 3) := by decide +kernel
theorem dST_42 : decode method_3_code 42 = .ok (.new 8, 3) := by decide +kernel
theorem dST_45 : decode method_3_code 45 = .ok (.dup, 1) := by decide +kernel
theorem dST_46 : decode method_3_code 46 = .ok (.iconst 2, 1) := by decide +kernel
theorem dST_47 : decode method_3_code 47 = .ok (.newarray .char, 2) := by decide +kernel
theorem dST_49 : decode method_3_code 49 = .ok (.dup, 1) := by decide +kernel
theorem dST_50 : decode method_3_code 50 = .ok (.iconst 0, 1) := by decide +kernel
theorem dST_51 : decode method_3_code 51 = .ok (.aload_n 0, 1) := by decide +kernel
theorem dST_52 : decode method_3_code 52 = .ok (.iconst 0, 1) := by decide +kernel
theorem dST_53 : decode method_3_code 53 = .ok (.caload, 1) := by decide +kernel
theorem dST_54 : decode method_3_code 54 = .ok (.castore, 1) := by decide +kernel
theorem dST_55 : decode method_3_code 55 = .ok (.dup, 1) := by decide +kernel
theorem dST_56 : decode method_3_code 56 = .ok (.iconst 1, 1) := by decide +kernel
theorem dST_57 : decode method_3_code 57 = .ok (.aload_n 0, 1) := by decide +kernel
theorem dST_58 : decode method_3_code 58 = .ok (.iconst 1, 1) := by decide +kernel
theorem dST_59 : decode method_3_code 59 = .ok (.caload, 1) := by decide +kernel
theorem dST_60 : decode method_3_code 60 = .ok (.castore, 1) := by decide +kernel
theorem dST_61 : decode method_3_code 61 = .ok (.invokespecial 17, 3) := by decide +kernel
theorem dST_64 : decode method_3_code 64 = .ok (.areturn, 1) := by decide +kernel
theorem dST_65 : decode method_3_code 65 = .ok (.iload_n 1, 1) := by decide +kernel
theorem dST_66 : decode method_3_code 66 = .ok (.iconst 3, 1) := by decide +kernel
theorem dST_67 : decode method_3_code 67 = .ok (.if_icmp .ne 32, 3) := by decide +kernel
theorem dST_70 : decode method_3_code 70 = .ok (.new 8, 3) := by decide +kernel
theorem dST_73 : decode method_3_code 73 = .ok (.dup, 1) := by decide +kernel
theorem dST_74 : decode method_3_code 74 = .ok (.iconst 3, 1) := by decide +kernel
theorem dST_75 : decode method_3_code 75 = .ok (.newarray .char, 2) := by decide +kernel
theorem dST_77 : decode method_3_code 77 = .ok (.dup, 1) := by decide +kernel
theorem dST_78 : decode method_3_code 78 = .ok (.iconst 0, 1) := by decide +kernel
theorem dST_79 : decode method_3_code 79 = .ok (.aload_n 0, 1) := by decide +kernel
theorem dST_80 : decode method_3_code 80 = .ok (.iconst 0, 1) := by decide +kernel
theorem dST_81 : decode method_3_code 81 = .ok (.caload, 1) := by decide +kernel
theorem dST_82 : decode method_3_code 82 = .ok (.castore, 1) := by decide +kernel
theorem dST_83 : decode method_3_code 83 = .ok (.dup, 1) := by decide +kernel
theorem dST_84 : decode method_3_code 84 = .ok (.iconst 1, 1) := by decide +kernel
theorem dST_85 : decode method_3_code 85 = .ok (.aload_n 0, 1) := by decide +kernel
theorem dST_86 : decode method_3_code 86 = .ok (.iconst 1, 1) := by decide +kernel
theorem dST_87 : decode method_3_code 87 = .ok (.caload, 1) := by decide +kernel
theorem dST_88 : decode method_3_code 88 = .ok (.castore, 1) := by decide +kernel
theorem dST_89 : decode method_3_code 89 = .ok (.dup, 1) := by decide +kernel
theorem dST_90 : decode method_3_code 90 = .ok (.iconst 2, 1) := by decide +kernel
theorem dST_91 : decode method_3_code 91 = .ok (.aload_n 0, 1) := by decide +kernel
theorem dST_92 : decode method_3_code 92 = .ok (.iconst 2, 1) := by decide +kernel
theorem dST_93 : decode method_3_code 93 = .ok (.caload, 1) := by decide +kernel
theorem dST_94 : decode method_3_code 94 = .ok (.castore, 1) := by decide +kernel
theorem dST_95 : decode method_3_code 95 = .ok (.invokespecial 17, 3) := by decide +kernel
theorem dST_98 : decode method_3_code 98 = .ok (.areturn, 1) := by decide +kernel
theorem dST_99 : decode method_3_code 99 = .ok (.iload_n 1, 1) := by decide +kernel
theorem dST_100 : decode method_3_code 100 = .ok (.iconst 4, 1) := by decide +kernel
theorem dST_101 : decode method_3_code 101 = .ok (.if_icmp .ne 38, 3) := by decide +kernel
theorem dST_104 : decode method_3_code 104 = .ok (.new 8, 3) := by decide +kernel
theorem dST_107 : decode method_3_code 107 = .ok (.dup, 1) := by decide +kernel
theorem dST_108 : decode method_3_code 108 = .ok (.iconst 4, 1) := by decide +kernel
theorem dST_109 : decode method_3_code 109 = .ok (.newarray .char, 2) := by decide +kernel
theorem dST_111 : decode method_3_code 111 = .ok (.dup, 1) := by decide +kernel
theorem dST_112 : decode method_3_code 112 = .ok (.iconst 0, 1) := by decide +kernel
theorem dST_113 : decode method_3_code 113 = .ok (.aload_n 0, 1) := by decide +kernel
theorem dST_114 : decode method_3_code 114 = .ok (.iconst 0, 1) := by decide +kernel
theorem dST_115 : decode method_3_code 115 = .ok (.caload, 1) := by decide +kernel
theorem dST_116 : decode method_3_code 116 = .ok (.castore, 1) := by decide +kernel
theorem dST_117 : decode method_3_code 117 = .ok (.dup, 1) := by decide +kernel
theorem dST_118 : decode method_3_code 118 = .ok (.iconst 1, 1) := by decide +kernel
theorem dST_119 : decode method_3_code 119 = .ok (.aload_n 0, 1) := by decide +kernel
theorem dST_120 : decode method_3_code 120 = .ok (.iconst 1, 1) := by decide +kernel
theorem dST_121 : decode method_3_code 121 = .ok (.caload, 1) := by decide +kernel
theorem dST_122 : decode method_3_code 122 = .ok (.castore, 1) := by decide +kernel
theorem dST_123 : decode method_3_code 123 = .ok (.dup, 1) := by decide +kernel
theorem dST_124 : decode method_3_code 124 = .ok (.iconst 2, 1) := by decide +kernel
theorem dST_125 : decode method_3_code 125 = .ok (.aload_n 0, 1) := by decide +kernel
theorem dST_126 : decode method_3_code 126 = .ok (.iconst 2, 1) := by decide +kernel
theorem dST_127 : decode method_3_code 127 = .ok (.caload, 1) := by decide +kernel
theorem dST_128 : decode method_3_code 128 = .ok (.castore, 1) := by decide +kernel
theorem dST_129 : decode method_3_code 129 = .ok (.dup, 1) := by decide +kernel
theorem dST_130 : decode method_3_code 130 = .ok (.iconst 3, 1) := by decide +kernel
theorem dST_131 : decode method_3_code 131 = .ok (.aload_n 0, 1) := by decide +kernel
theorem dST_132 : decode method_3_code 132 = .ok (.iconst 3, 1) := by decide +kernel
theorem dST_133 : decode method_3_code 133 = .ok (.caload, 1) := by decide +kernel
theorem dST_134 : decode method_3_code 134 = .ok (.castore, 1) := by decide +kernel
theorem dST_135 : decode method_3_code 135 = .ok (.invokespecial 17, 3) := by decide +kernel
theorem dST_138 : decode method_3_code 138 = .ok (.areturn, 1) := by decide +kernel
theorem dST_139 : decode method_3_code 139 = .ok (.iload_n 1, 1) := by decide +kernel
theorem dST_140 : decode method_3_code 140 = .ok (.iconst 5, 1) := by decide +kernel
theorem dST_141 : decode method_3_code 141 = .ok (.if_icmp .ne 44, 3) := by decide +kernel
theorem dST_144 : decode method_3_code 144 = .ok (.new 8, 3) := by decide +kernel
theorem dST_147 : decode method_3_code 147 = .ok (.dup, 1) := by decide +kernel
theorem dST_148 : decode method_3_code 148 = .ok (.iconst 5, 1) := by decide +kernel
theorem dST_149 : decode method_3_code 149 = .ok (.newarray .char, 2) := by decide +kernel
theorem dST_151 : decode method_3_code 151 = .ok (.dup, 1) := by decide +kernel
theorem dST_152 : decode method_3_code 152 = .ok (.iconst 0, 1) := by decide +kernel
theorem dST_153 : decode method_3_code 153 = .ok (.aload_n 0, 1) := by decide +kernel
theorem dST_154 : decode method_3_code 154 = .ok (.iconst 0, 1) := by decide +kernel
theorem dST_155 : decode method_3_code 155 = .ok (.caload, 1) := by decide +kernel
theorem dST_156 : decode method_3_code 156 = .ok (.castore, 1) := by decide +kernel
theorem dST_157 : decode method_3_code 157 = .ok (.dup, 1) := by decide +kernel
theorem dST_158 : decode method_3_code 158 = .ok (.iconst 1, 1) := by decide +kernel
theorem dST_159 : decode method_3_code 159 = .ok (.aload_n 0, 1) := by decide +kernel
theorem dST_160 : decode method_3_code 160 = .ok (.iconst 1, 1) := by decide +kernel
theorem dST_161 : decode method_3_code 161 = .ok (.caload, 1) := by decide +kernel
theorem dST_162 : decode method_3_code 162 = .ok (.castore, 1) := by decide +kernel
theorem dST_163 : decode method_3_code 163 = .ok (.dup, 1) := by decide +kernel
theorem dST_164 : decode method_3_code 164 = .ok (.iconst 2, 1) := by decide +kernel
theorem dST_165 : decode method_3_code 165 = .ok (.aload_n 0, 1) := by decide +kernel
theorem dST_166 : decode method_3_code 166 = .ok (.iconst 2, 1) := by decide +kernel
theorem dST_167 : decode method_3_code 167 = .ok (.caload, 1) := by decide +kernel
theorem dST_168 : decode method_3_code 168 = .ok (.castore, 1) := by decide +kernel
theorem dST_169 : decode method_3_code 169 = .ok (.dup, 1) := by decide +kernel
theorem dST_170 : decode method_3_code 170 = .ok (.iconst 3, 1) := by decide +kernel
theorem dST_171 : decode method_3_code 171 = .ok (.aload_n 0, 1) := by decide +kernel
theorem dST_172 : decode method_3_code 172 = .ok (.iconst 3, 1) := by decide +kernel
theorem dST_173 : decode method_3_code 173 = .ok (.caload, 1) := by decide +kernel
theorem dST_174 : decode method_3_code 174 = .ok (.castore, 1) := by decide +kernel
theorem dST_175 : decode method_3_code 175 = .ok (.dup, 1) := by decide +kernel
theorem dST_176 : decode method_3_code 176 = .ok (.iconst 4, 1) := by decide +kernel
theorem dST_177 : decode method_3_code 177 = .ok (.aload_n 0, 1) := by decide +kernel
theorem dST_178 : decode method_3_code 178 = .ok (.iconst 4, 1) := by decide +kernel
theorem dST_179 : decode method_3_code 179 = .ok (.caload, 1) := by decide +kernel
theorem dST_180 : decode method_3_code 180 = .ok (.castore, 1) := by decide +kernel
theorem dST_181 : decode method_3_code 181 = .ok (.invokespecial 17, 3) := by decide +kernel
theorem dST_184 : decode method_3_code 184 = .ok (.areturn, 1) := by decide +kernel
theorem dST_185 : decode method_3_code 185 = .ok (.iload_n 1, 1) := by decide +kernel
theorem dST_186 : decode method_3_code 186 = .ok (.bipush 6, 2) := by decide +kernel
theorem dST_188 : decode method_3_code 188 = .ok (.if_icmp .ne 51, 3) := by decide +kernel
theorem dST_191 : decode method_3_code 191 = .ok (.new 8, 3) := by decide +kernel
theorem dST_194 : decode method_3_code 194 = .ok (.dup, 1) := by decide +kernel
theorem dST_195 : decode method_3_code 195 = .ok (.bipush 6, 2) := by decide +kernel
theorem dST_197 : decode method_3_code 197 = .ok (.newarray .char, 2) := by decide +kernel
theorem dST_199 : decode method_3_code 199 = .ok (.dup, 1) := by decide +kernel
theorem dST_200 : decode method_3_code 200 = .ok (.iconst 0, 1) := by decide +kernel
theorem dST_201 : decode method_3_code 201 = .ok (.aload_n 0, 1) := by decide +kernel
theorem dST_202 : decode method_3_code 202 = .ok (.iconst 0, 1) := by decide +kernel
theorem dST_203 : decode method_3_code 203 = .ok (.caload, 1) := by decide +kernel
theorem dST_204 : decode method_3_code 204 = .ok (.castore, 1) := by decide +kernel
theorem dST_205 : decode method_3_code 205 = .ok (.dup, 1) := by decide +kernel
theorem dST_206 : decode method_3_code 206 = .ok (.iconst 1, 1) := by decide +kernel
theorem dST_207 : decode method_3_code 207 = .ok (.aload_n 0, 1) := by decide +kernel
theorem dST_208 : decode method_3_code 208 = .ok (.iconst 1, 1) := by decide +kernel
theorem dST_209 : decode method_3_code 209 = .ok (.caload, 1) := by decide +kernel
theorem dST_210 : decode method_3_code 210 = .ok (.castore, 1) := by decide +kernel
theorem dST_211 : decode method_3_code 211 = .ok (.dup, 1) := by decide +kernel
theorem dST_212 : decode method_3_code 212 = .ok (.iconst 2, 1) := by decide +kernel
theorem dST_213 : decode method_3_code 213 = .ok (.aload_n 0, 1) := by decide +kernel
theorem dST_214 : decode method_3_code 214 = .ok (.iconst 2, 1) := by decide +kernel
theorem dST_215 : decode method_3_code 215 = .ok (.caload, 1) := by decide +kernel
theorem dST_216 : decode method_3_code 216 = .ok (.castore, 1) := by decide +kernel
theorem dST_217 : decode method_3_code 217 = .ok (.dup, 1) := by decide +kernel
theorem dST_218 : decode method_3_code 218 = .ok (.iconst 3, 1) := by decide +kernel
theorem dST_219 : decode method_3_code 219 = .ok (.aload_n 0, 1) := by decide +kernel
theorem dST_220 : decode method_3_code 220 = .ok (.iconst 3, 1) := by decide +kernel
theorem dST_221 : decode method_3_code 221 = .ok (.caload, 1) := by decide +kernel
theorem dST_222 : decode method_3_code 222 = .ok (.castore, 1) := by decide +kernel
theorem dST_223 : decode method_3_code 223 = .ok (.dup, 1) := by decide +kernel
theorem dST_224 : decode method_3_code 224 = .ok (.iconst 4, 1) := by decide +kernel
theorem dST_225 : decode method_3_code 225 = .ok (.aload_n 0, 1) := by decide +kernel
theorem dST_226 : decode method_3_code 226 = .ok (.iconst 4, 1) := by decide +kernel
theorem dST_227 : decode method_3_code 227 = .ok (.caload, 1) := by decide +kernel
theorem dST_228 : decode method_3_code 228 = .ok (.castore, 1) := by decide +kernel
theorem dST_229 : decode method_3_code 229 = .ok (.dup, 1) := by decide +kernel
theorem dST_230 : decode method_3_code 230 = .ok (.iconst 5, 1) := by decide +kernel
theorem dST_231 : decode method_3_code 231 = .ok (.aload_n 0, 1) := by decide +kernel
theorem dST_232 : decode method_3_code 232 = .ok (.iconst 5, 1) := by decide +kernel
theorem dST_233 : decode method_3_code 233 = .ok (.caload, 1) := by decide +kernel
theorem dST_234 : decode method_3_code 234 = .ok (.castore, 1) := by decide +kernel
theorem dST_235 : decode method_3_code 235 = .ok (.invokespecial 17, 3) := by decide +kernel
theorem dST_238 : decode method_3_code 238 = .ok (.areturn, 1) := by decide +kernel
theorem dST_239 : decode method_3_code 239 = .ok (.iload_n 1, 1) := by decide +kernel
theorem dST_240 : decode method_3_code 240 = .ok (.bipush 7, 2) := by decide +kernel
theorem dST_242 : decode method_3_code 242 = .ok (.if_icmp .ne 59, 3) := by decide +kernel
theorem dST_245 : decode method_3_code 245 = .ok (.new 8, 3) := by decide +kernel
theorem dST_248 : decode method_3_code 248 = .ok (.dup, 1) := by decide +kernel
theorem dST_249 : decode method_3_code 249 = .ok (.bipush 7, 2) := by decide +kernel
theorem dST_251 : decode method_3_code 251 = .ok (.newarray .char, 2) := by decide +kernel
theorem dST_253 : decode method_3_code 253 = .ok (.dup, 1) := by decide +kernel
theorem dST_254 : decode method_3_code 254 = .ok (.iconst 0, 1) := by decide +kernel
theorem dST_255 : decode method_3_code 255 = .ok (.aload_n 0, 1) := by decide +kernel
theorem dST_256 : decode method_3_code 256 = .ok (.iconst 0, 1) := by decide +kernel
theorem dST_257 : decode method_3_code 257 = .ok (.caload, 1) := by decide +kernel
theorem dST_258 : decode method_3_code 258 = .ok (.castore, 1) := by decide +kernel
theorem dST_259 : decode method_3_code 259 = .ok (.dup, 1) := by decide +kernel
theorem dST_260 : decode method_3_code 260 = .ok (.iconst 1, 1) := by decide +kernel
theorem dST_261 : decode method_3_code 261 = .ok (.aload_n 0, 1) := by decide +kernel
theorem dST_262 : decode method_3_code 262 = .ok (.iconst 1, 1) := by decide +kernel
theorem dST_263 : decode method_3_code 263 = .ok (.caload, 1) := by decide +kernel
theorem dST_264 : decode method_3_code 264 = .ok (.castore, 1) := by decide +kernel
theorem dST_265 : decode method_3_code 265 = .ok (.dup, 1) := by decide +kernel
theorem dST_266 : decode method_3_code 266 = .ok (.iconst 2, 1) := by decide +kernel
theorem dST_267 : decode method_3_code 267 = .ok (.aload_n 0, 1) := by decide +kernel
theorem dST_268 : decode method_3_code 268 = .ok (.iconst 2, 1) := by decide +kernel
theorem dST_269 : decode method_3_code 269 = .ok (.caload, 1) := by decide +kernel
theorem dST_270 : decode method_3_code 270 = .ok (.castore, 1) := by decide +kernel
theorem dST_271 : decode method_3_code 271 = .ok (.dup, 1) := by decide +kernel
theorem dST_272 : decode method_3_code 272 = .ok (.iconst 3, 1) := by decide +kernel
theorem dST_273 : decode method_3_code 273 = .ok (.aload_n 0, 1) := by decide +kernel
theorem dST_274 : decode method_3_code 274 = .ok (.iconst 3, 1) := by decide +kernel
theorem dST_275 : decode method_3_code 275 = .ok (.caload, 1) := by decide +kernel
theorem dST_276 : decode method_3_code 276 = .ok (.castore, 1) := by decide +kernel
theorem dST_277 : decode method_3_code 277 = .ok (.dup, 1) := by decide +kernel
theorem dST_278 : decode method_3_code 278 = .ok (.iconst 4, 1) := by decide +kernel
theorem dST_279 : decode method_3_code 279 = .ok (.aload_n 0, 1) := by decide +kernel
theorem dST_280 : decode method_3_code 280 = .ok (.iconst 4, 1) := by decide +kernel
theorem dST_281 : decode method_3_code 281 = .ok (.caload, 1) := by decide +kernel
theorem dST_282 : decode method_3_code 282 = .ok (.castore, 1) := by decide +kernel
theorem dST_283 : decode method_3_code 283 = .ok (.dup, 1) := by decide +kernel
theorem dST_284 : decode method_3_code 284 = .ok (.iconst 5, 1) := by decide +kernel
theorem dST_285 : decode method_3_code 285 = .ok (.aload_n 0, 1) := by decide +kernel
theorem dST_286 : decode method_3_code 286 = .ok (.iconst 5, 1) := by decide +kernel
theorem dST_287 : decode method_3_code 287 = .ok (.caload, 1) := by decide +kernel
theorem dST_288 : decode method_3_code 288 = .ok (.castore, 1) := by decide +kernel
theorem dST_289 : decode method_3_code 289 = .ok (.dup, 1) := by decide +kernel
theorem dST_290 : decode method_3_code 290 = .ok (.bipush 6, 2) := by decide +kernel
theorem dST_292 : decode method_3_code 292 = .ok (.aload_n 0, 1) := by decide +kernel
theorem dST_293 : decode method_3_code 293 = .ok (.bipush 6, 2) := by decide +kernel
theorem dST_295 : decode method_3_code 295 = .ok (.caload, 1) := by decide +kernel
theorem dST_296 : decode method_3_code 296 = .ok (.castore, 1) := by decide +kernel
theorem dST_297 : decode method_3_code 297 = .ok (.invokespecial 17, 3) := by decide +kernel
theorem dST_300 : decode method_3_code 300 = .ok (.areturn, 1) := by decide +kernel
theorem dST_301 : decode method_3_code 301 = .ok (.iload_n 1, 1) := by decide +kernel
theorem dST_302 : decode method_3_code 302 = .ok (.bipush 8, 2) := by decide +kernel
theorem dST_304 : decode method_3_code 304 = .ok (.if_icmp .ne 67, 3) := by decide +kernel
theorem dST_307 : decode method_3_code 307 = .ok (.new 8, 3) := by decide +kernel
theorem dST_310 : decode method_3_code 310 = .ok (.dup, 1) := by decide +kernel
theorem dST_311 : decode method_3_code 311 = .ok (.bipush 8, 2) := by decide +kernel
theorem dST_313 : decode method_3_code 313 = .ok (.newarray .char, 2) := by decide +kernel
theorem dST_315 : decode method_3_code 315 = .ok (.dup, 1) := by decide +kernel
theorem dST_316 : decode method_3_code 316 = .ok (.iconst 0, 1) := by decide +kernel
theorem dST_317 : decode method_3_code 317 = .ok (.aload_n 0, 1) := by decide +kernel
theorem dST_318 : decode method_3_code 318 = .ok (.iconst 0, 1) := by decide +kernel
theorem dST_319 : decode method_3_code 319 = .ok (.caload, 1) := by decide +kernel
theorem dST_320 : decode method_3_code 320 = .ok (.castore, 1) := by decide +kernel
theorem dST_321 : decode method_3_code 321 = .ok (.dup, 1) := by decide +kernel
theorem dST_322 : decode method_3_code 322 = .ok (.iconst 1, 1) := by decide +kernel
theorem dST_323 : decode method_3_code 323 = .ok (.aload_n 0, 1) := by decide +kernel
theorem dST_324 : decode method_3_code 324 = .ok (.iconst 1, 1) := by decide +kernel
theorem dST_325 : decode method_3_code 325 = .ok (.caload, 1) := by decide +kernel
theorem dST_326 : decode method_3_code 326 = .ok (.castore, 1) := by decide +kernel
theorem dST_327 : decode method_3_code 327 = .ok (.dup, 1) := by decide +kernel
theorem dST_328 : decode method_3_code 328 = .ok (.iconst 2, 1) := by decide +kernel
theorem dST_329 : decode method_3_code 329 = .ok (.aload_n 0, 1) := by decide +kernel
theorem dST_330 : decode method_3_code 330 = .ok (.iconst 2, 1) := by decide +kernel
theorem dST_331 : decode method_3_code 331 = .ok (.caload, 1) := by decide +kernel
theorem dST_332 : decode method_3_code 332 = .ok (.castore, 1) := by decide +kernel
theorem dST_333 : decode method_3_code 333 = .ok (.dup, 1) := by decide +kernel
theorem dST_334 : decode method_3_code 334 = .ok (.iconst 3, 1) := by decide +kernel
theorem dST_335 : decode method_3_code 335 = .ok (.aload_n 0, 1) := by decide +kernel
theorem dST_336 : decode method_3_code 336 = .ok (.iconst 3, 1) := by decide +kernel
theorem dST_337 : decode method_3_code 337 = .ok (.caload, 1) := by decide +kernel
theorem dST_338 : decode method_3_code 338 = .ok (.castore, 1) := by decide +kernel
theorem dST_339 : decode method_3_code 339 = .ok (.dup, 1) := by decide +kernel
theorem dST_340 : decode method_3_code 340 = .ok (.iconst 4, 1) := by decide +kernel
theorem dST_341 : decode method_3_code 341 = .ok (.aload_n 0, 1) := by decide +kernel
theorem dST_342 : decode method_3_code 342 = .ok (.iconst 4, 1) := by decide +kernel
theorem dST_343 : decode method_3_code 343 = .ok (.caload, 1) := by decide +kernel
theorem dST_344 : decode method_3_code 344 = .ok (.castore, 1) := by decide +kernel
theorem dST_345 : decode method_3_code 345 = .ok (.dup, 1) := by decide +kernel
theorem dST_346 : decode method_3_code 346 = .ok (.iconst 5, 1) := by decide +kernel
theorem dST_347 : decode method_3_code 347 = .ok (.aload_n 0, 1) := by decide +kernel
theorem dST_348 : decode method_3_code 348 = .ok (.iconst 5, 1) := by decide +kernel
theorem dST_349 : decode method_3_code 349 = .ok (.caload, 1) := by decide +kernel
theorem dST_350 : decode method_3_code 350 = .ok (.castore, 1) := by decide +kernel
theorem dST_351 : decode method_3_code 351 = .ok (.dup, 1) := by decide +kernel
theorem dST_352 : decode method_3_code 352 = .ok (.bipush 6, 2) := by decide +kernel
theorem dST_354 : decode method_3_code 354 = .ok (.aload_n 0, 1) := by decide +kernel
theorem dST_355 : decode method_3_code 355 = .ok (.bipush 6, 2) := by decide +kernel
theorem dST_357 : decode method_3_code 357 = .ok (.caload, 1) := by decide +kernel
theorem dST_358 : decode method_3_code 358 = .ok (.castore, 1) := by decide +kernel
theorem dST_359 : decode method_3_code 359 = .ok (.dup, 1) := by decide +kernel
theorem dST_360 : decode method_3_code 360 = .ok (.bipush 7, 2) := by decide +kernel
theorem dST_362 : decode method_3_code 362 = .ok (.aload_n 0, 1) := by decide +kernel
theorem dST_363 : decode method_3_code 363 = .ok (.bipush 7, 2) := by decide +kernel
theorem dST_365 : decode method_3_code 365 = .ok (.caload, 1) := by decide +kernel
theorem dST_366 : decode method_3_code 366 = .ok (.castore, 1) := by decide +kernel
theorem dST_367 : decode method_3_code 367 = .ok (.invokespecial 17, 3) := by decide +kernel
theorem dST_370 : decode method_3_code 370 = .ok (.areturn, 1) := by decide +kernel
theorem dST_371 : decode method_3_code 371 = .ok (.iload_n 1, 1) := by decide +kernel
theorem dST_372 : decode method_3_code 372 = .ok (.bipush 9, 2) := by decide +kernel
theorem dST_374 : decode method_3_code 374 = .ok (.if_icmp .ne 75, 3) := by decide +kernel
theorem dST_377 : decode method_3_code 377 = .ok (.new 8, 3) := by decide +kernel
theorem dST_380 : decode method_3_code 380 = .ok (.dup, 1) := by decide +kernel
theorem dST_381 : decode method_3_code 381 = .ok (.bipush 9, 2) := by decide +kernel
theorem dST_383 : decode method_3_code 383 = .ok (.newarray .char, 2) := by decide +kernel
theorem dST_385 : decode method_3_code 385 = .ok (.dup, 1) := by decide +kernel
theorem dST_386 : decode method_3_code 386 = .ok (.iconst 0, 1) := by decide +kernel
theorem dST_387 : decode method_3_code 387 = .ok (.aload_n 0, 1) := by decide +kernel
theorem dST_388 : decode method_3_code 388 = .ok (.iconst 0, 1) := by decide +kernel
theorem dST_389 : decode method_3_code 389 = .ok (.caload, 1) := by decide +kernel
theorem dST_390 : decode method_3_code 390 = .ok (.castore, 1) := by decide +kernel
theorem dST_391 : decode method_3_code 391 = .ok (.dup, 1) := by decide +kernel
theorem dST_392 : decode method_3_code 392 = .ok (.iconst 1, 1) := by decide +kernel
theorem dST_393 : decode method_3_code 393 = .ok (.aload_n 0, 1) := by decide +kernel
theorem dST_394 : decode method_3_code 394 = .ok (.iconst 1, 1) := by decide +kernel
theorem dST_395 : decode method_3_code 395 = .ok (.caload, 1) := by decide +kernel
theorem dST_396 : decode method_3_code 396 = .ok (.castore, 1) := by decide +kernel
theorem dST_397 : decode method_3_code 397 = .ok (.dup, 1) := by decide +kernel
theorem dST_398 : decode method_3_code 398 = .ok (.iconst 2, 1) := by decide +kernel
theorem dST_399 : decode method_3_code 399 = .ok (.aload_n 0, 1) := by decide +kernel
theorem dST_400 : decode method_3_code 400 = .ok (.iconst 2, 1) := by decide +kernel
theorem dST_401 : decode method_3_code 401 = .ok (.caload, 1) := by decide +kernel
theorem dST_402 : decode method_3_code 402 = .ok (.castore, 1) := by decide +kernel
theorem dST_403 : decode method_3_code 403 = .ok (.dup, 1) := by decide +kernel
theorem dST_404 : decode method_3_code 404 = .ok (.iconst 3, 1) := by decide +kernel
theorem dST_405 : decode method_3_code 405 = .ok (.aload_n 0, 1) := by decide +kernel
theorem dST_406 : decode method_3_code 406 = .ok (.iconst 3, 1) := by decide +kernel
theorem dST_407 : decode method_3_code 407 = .ok (.caload, 1) := by decide +kernel
theorem dST_408 : decode method_3_code 408 = .ok (.castore, 1) := by decide +kernel
theorem dST_409 : decode method_3_code 409 = .ok (.dup, 1) := by decide +kernel
theorem dST_410 : decode method_3_code 410 = .ok (.iconst 4, 1) := by decide +kernel
theorem dST_411 : decode method_3_code 411 = .ok (.aload_n 0, 1) := by decide +kernel
theorem dST_412 : decode method_3_code 412 = .ok (.iconst 4, 1) := by decide +kernel
theorem dST_413 : decode method_3_code 413 = .ok (.caload, 1) := by decide +kernel
theorem dST_414 : decode method_3_code 414 = .ok (.castore, 1) := by decide +kernel
theorem dST_415 : decode method_3_code 415 = .ok (.dup, 1) := by decide +kernel
theorem dST_416 : decode method_3_code 416 = .ok (.iconst 5, 1) := by decide +kernel
theorem dST_417 : decode method_3_code 417 = .ok (.aload_n 0, 1) := by decide +kernel
theorem dST_418 : decode method_3_code 418 = .ok (.iconst 5, 1) := by decide +kernel
theorem dST_419 : decode method_3_code 419 = .ok (.caload, 1) := by decide +kernel
theorem dST_420 : decode method_3_code 420 = .ok (.castore, 1) := by decide +kernel
theorem dST_421 : decode method_3_code 421 = .ok (.dup, 1) := by decide +kernel
theorem dST_422 : decode method_3_code 422 = .ok (.bipush 6, 2) := by decide +kernel
theorem dST_424 : decode method_3_code 424 = .ok (.aload_n 0, 1) := by decide +kernel
theorem dST_425 : decode method_3_code 425 = .ok (.bipush 6, 2) := by decide +kernel
theorem dST_427 : decode method_3_code 427 = .ok (.caload, 1) := by decide +kernel
theorem dST_428 : decode method_3_code 428 = .ok (.castore, 1) := by decide +kernel
theorem dST_429 : decode method_3_code 429 = .ok (.dup, 1) := by decide +kernel
theorem dST_430 : decode method_3_code 430 = .ok (.bipush 7, 2) := by decide +kernel
theorem dST_432 : decode method_3_code 432 = .ok (.aload_n 0, 1) := by decide +kernel
theorem dST_433 : decode method_3_code 433 = .ok (.bipush 7, 2) := by decide +kernel
theorem dST_435 : decode method_3_code 435 = .ok (.caload, 1) := by decide +kernel
theorem dST_436 : decode method_3_code 436 = .ok (.castore, 1) := by decide +kernel
theorem dST_437 : decode method_3_code 437 = .ok (.dup, 1) := by decide +kernel
theorem dST_438 : decode method_3_code 438 = .ok (.bipush 8, 2) := by decide +kernel
theorem dST_440 : decode method_3_code 440 = .ok (.aload_n 0, 1) := by decide +kernel
theorem dST_441 : decode method_3_code 441 = .ok (.bipush 8, 2) := by decide +kernel
theorem dST_443 : decode method_3_code 443 = .ok (.caload, 1) := by decide +kernel
theorem dST_444 : decode method_3_code 444 = .ok (.castore, 1) := by decide +kernel
theorem dST_445 : decode method_3_code 445 = .ok (.invokespecial 17, 3) := by decide +kernel
theorem dST_448 : decode method_3_code 448 = .ok (.areturn, 1) := by decide +kernel
theorem dST_449 : decode method_3_code 449 = .ok (.new 8, 3) := by decide +kernel
theorem dST_452 : decode method_3_code 452 = .ok (.dup, 1) := by decide +kernel
theorem dST_453 : decode method_3_code 453 = .ok (.bipush 10, 2) := by decide +kernel
theorem dST_455 : decode method_3_code 455 = .ok (.newarray .char, 2) := by decide +kernel
theorem dST_457 : decode method_3_code 457 = .ok (.dup, 1) := by decide +kernel
theorem dST_458 : decode method_3_code 458 = .ok (.iconst 0, 1) := by decide +kernel
theorem dST_459 : decode method_3_code 459 = .ok (.aload_n 0, 1) := by decide +kernel
theorem dST_460 : decode method_3_code 460 = .ok (.iconst 0, 1) := by decide +kernel
theorem dST_461 : decode method_3_code 461 = .ok (.caload, 1) := by decide +kernel
theorem dST_462 : decode method_3_code 462 = .ok (.castore, 1) := by decide +kernel
theorem dST_463 : decode method_3_code 463 = .ok (.dup, 1) := by decide +kernel
theorem dST_464 : decode method_3_code 464 = .ok (.iconst 1, 1) := by decide +kernel
theorem dST_465 : decode method_3_code 465 = .ok (.aload_n 0, 1) := by decide +kernel
theorem dST_466 : decode method_3_code 466 = .ok (.iconst 1, 1) := by decide +kernel
theorem dST_467 : decode method_3_code 467 = .ok (.caload, 1) := by decide +kernel
theorem dST_468 : decode method_3_code 468 = .ok (.castore, 1) := by decide +kernel
theorem dST_469 : decode method_3_code 469 = .ok (.dup, 1) := by decide +kernel
theorem dST_470 : decode method_3_code 470 = .ok (.iconst 2, 1) := by decide +kernel
theorem dST_471 : decode method_3_code 471 = .ok (.aload_n 0, 1) := by decide +kernel
theorem dST_472 : decode method_3_code 472 = .ok (.iconst 2, 1) := by decide +kernel
theorem dST_473 : decode method_3_code 473 = .ok (.caload, 1) := by decide +kernel
theorem dST_474 : decode method_3_code 474 = .ok (.castore, 1) := by decide +kernel
theorem dST_475 : decode method_3_code 475 = .ok (.dup, 1) := by decide +kernel
theorem dST_476 : decode method_3_code 476 = .ok (.iconst 3, 1) := by decide +kernel
theorem dST_477 : decode method_3_code 477 = .ok (.aload_n 0, 1) := by decide +kernel
theorem dST_478 : decode method_3_code 478 = .ok (.iconst 3, 1) := by decide +kernel
theorem dST_479 : decode method_3_code 479 = .ok (.caload, 1) := by decide +kernel
theorem dST_480 : decode method_3_code 480 = .ok (.castore, 1) := by decide +kernel
theorem dST_481 : decode method_3_code 481 = .ok (.dup, 1) := by decide +kernel
theorem dST_482 : decode method_3_code 482 = .ok (.iconst 4, 1) := by decide +kernel
theorem dST_483 : decode method_3_code 483 = .ok (.aload_n 0, 1) := by decide +kernel
theorem dST_484 : decode method_3_code 484 = .ok (.iconst 4, 1) := by decide +kernel
theorem dST_485 : decode method_3_code 485 = .ok (.caload, 1) := by decide +kernel
theorem dST_486 : decode method_3_code 486 = .ok (.castore, 1) := by decide +kernel
theorem dST_487 : decode method_3_code 487 = .ok (.dup, 1) := by decide +kernel
theorem dST_488 : decode method_3_code 488 = .ok (.iconst 5, 1) := by decide +kernel
theorem dST_489 : decode method_3_code 489 = .ok (.aload_n 0, 1) := by decide +kernel
theorem dST_490 : decode method_3_code 490 = .ok (.iconst 5, 1) := by decide +kernel
theorem dST_491 : decode method_3_code 491 = .ok (.caload, 1) := by decide +kernel
theorem dST_492 : decode method_3_code 492 = .ok (.castore, 1) := by decide +kernel
theorem dST_493 : decode method_3_code 493 = .ok (.dup, 1) := by decide +kernel
theorem dST_494 : decode method_3_code 494 = .ok (.bipush 6, 2) := by decide +kernel
theorem dST_496 : decode method_3_code 496 = .ok (.aload_n 0, 1) := by decide +kernel
theorem dST_497 : decode method_3_code 497 = .ok (.bipush 6, 2) := by decide +kernel
theorem dST_499 : decode method_3_code 499 = .ok (.caload, 1) := by decide +kernel
theorem dST_500 : decode method_3_code 500 = .ok (.castore, 1) := by decide +kernel
theorem dST_501 : decode method_3_code 501 = .ok (.dup, 1) := by decide +kernel
theorem dST_502 : decode method_3_code 502 = .ok (.bipush 7, 2) := by decide +kernel
theorem dST_504 : decode method_3_code 504 = .ok (.aload_n 0, 1) := by decide +kernel
theorem dST_505 : decode method_3_code 505 = .ok (.bipush 7, 2) := by decide +kernel
theorem dST_507 : decode method_3_code 507 = .ok (.caload, 1) := by decide +kernel
theorem dST_508 : decode method_3_code 508 = .ok (.castore, 1) := by decide +kernel
theorem dST_509 : decode method_3_code 509 = .ok (.dup, 1) := by decide +kernel
theorem dST_510 : decode method_3_code 510 = .ok (.bipush 8, 2) := by decide +kernel
theorem dST_512 : decode method_3_code 512 = .ok (.aload_n 0, 1) := by decide +kernel
theorem dST_513 : decode method_3_code 513 = .ok (.bipush 8, 2) := by decide +kernel
theorem dST_515 : decode method_3_code 515 = .ok (.caload, 1) := by decide +kernel
theorem dST_516 : decode method_3_code 516 = .ok (.castore, 1) := by decide +kernel
theorem dST_517 : decode method_3_code 517 = .ok (.dup, 1) := by decide +kernel
theorem dST_518 : decode method_3_code 518 = .ok (.bipush 9, 2) := by decide +kernel
theorem dST_520 : decode method_3_code 520 = .ok (.aload_n 0, 1) := by decide +kernel
theorem dST_521 : decode method_3_code 521 = .ok (.bipush 9, 2) := by decide +kernel
theorem dST_523 : decode method_3_code 523 = .ok (.caload, 1) := by decide +kernel
theorem dST_524 : decode method_3_code 524 = .ok (.castore, 1) := by decide +kernel
theorem dST_525 : decode method_3_code 525 = .ok (.invokespecial 17, 3) := by decide +kernel
theorem dST_528 : decode method_3_code 528 = .ok (.areturn, 1) := by decide +kernel
theorem dAC_0 : decode method_2_code 0 = .ok (.iload_n 1, 1) := by decide +kernel
theorem dAC_1 : decode method_2_code 1 = .ok (.aload_n 0, 1) := by decide +kernel
theorem dAC_2 : decode method_2_code 2 = .ok (.invokevirtual 7, 3) := by decide +kernel
theorem dAC_5 : decode method_2_code 5 = .ok (.if_icmp .ge 11, 3) := by decide +kernel
theorem dAC_8 : decode method_2_code 8 = .ok (.aload_n 0, 1) := by decide +kernel
theorem dAC_9 : decode method_2_code 9 = .ok (.iload_n 1, 1) := by decide +kernel
theorem dAC_10 : decode method_2_code 10 = .ok (.invokevirtual 13, 3) := by decide +kernel
theorem dAC_13 : decode method_2_code 13 = .ok (.goto 5, 3) := by decide +kernel
theorem dAC_18 : decode method_2_code 18 = .ok (.ireturn, 1) := by decide +kernel
theorem dAC_16 : decode method_2_code 16 = .ok (.bipush 120, 2) := by decide +kernel
theorem dVS_0 : decode prog_8_method_1_code 0 = .ok (.getstatic 10, 3) := by decide +kernel
theorem dVS_3 : decode prog_8_method_1_code 3 = .ok (.invokevirtual 14, 3) := by decide +kernel
theorem dVS_6 : decode prog_8_method_1_code 6 = .ok (.checkcast 15, 3) := by decide +kernel
theorem dVS_9 : decode prog_8_method_1_code 9 = .ok (.areturn, 1) := by decide +kernel
theorem dRN_0 : decode jdk_31_method_10_code 0 = .ok (.aload_n 0, 1) := by decide +kernel
theorem dRN_1 : decode jdk_31_method_10_code 1 = .ok (.ifnonnull 11, 3) := by decide +kernel
theorem dRN_12 : decode jdk_31_method_10_code 12 = .ok (.aload_n 0, 1) := by decide +kernel
theorem dRN_13 : decode jdk_31_method_10_code 13 = .ok (.areturn, 1) := by decide +kernel
theorem dOI_0 : decode jdk_32_method_2_code 0 = .ok (.aload_n 0, 1) := by decide +kernel
theorem dOI_1 : decode jdk_32_method_2_code 1 = .ok (.invokespecial 7, 3) := by decide +kernel
theorem dOI_4 : decode jdk_32_method_2_code 4 = .ok (.aload_n 0, 1) := by decide +kernel
theorem dOI_5 : decode jdk_32_method_2_code 5 = .ok (.aload_n 1, 1) := by decide +kernel
theorem dOI_6 : decode jdk_32_method_2_code 6 = .ok (.putfield 13, 3) := by decide +kernel
theorem dOI_9 : decode jdk_32_method_2_code 9 = .ok (.return_, 1) := by decide +kernel
theorem dOF_0 : decode jdk_32_method_3_code 0 = .ok (.new 2, 3) := by decide +kernel
theorem dOF_3 : decode jdk_32_method_3_code 3 = .ok (.dup, 1) := by decide +kernel
theorem dOF_4 : decode jdk_32_method_3_code 4 = .ok (.aload_n 0, 1) := by decide +kernel
theorem dOF_5 : decode jdk_32_method_3_code 5 = .ok (.invokestatic 17, 3) := by decide +kernel
theorem dOF_8 : decode jdk_32_method_3_code 8 = .ok (.invokespecial 23, 3) := by decide +kernel
theorem dOF_11 : decode jdk_32_method_3_code 11 = .ok (.areturn, 1) := by decide +kernel
theorem dOE_0 : decode jdk_32_method_1_code 0 = .ok (.getstatic 1, 3) := by decide +kernel
theorem dOE_3 : decode jdk_32_method_1_code 3 = .ok (.astore_n 0, 1) := by decide +kernel
theorem dOE_4 : decode jdk_32_method_1_code 4 = .ok (.aload_n 0, 1) := by decide +kernel
theorem dOE_5 : decode jdk_32_method_1_code 5 = .ok (.areturn, 1) := by decide +kernel
theorem dLB_0 : decode prog_8_method_5_code 0 = .ok (.invokestatic 33, 3) := by decide +kernel
theorem dLB_3 : decode prog_8_method_5_code 3 = .ok (.astore_n 1, 1) := by decide +kernel
theorem dLB_4 : decode prog_8_method_5_code 4 = .ok (.aload_n 1, 1) := by decide +kernel
theorem dLB_5 : decode prog_8_method_5_code 5 = .ok (.arraylength, 1) := by decide +kernel
theorem dLB_6 : decode prog_8_method_5_code 6 = .ok (.istore_n 2, 1) := by decide +kernel
theorem dLB_7 : decode prog_8_method_5_code 7 = .ok (.iconst 0, 1) := by decide +kernel
theorem dLB_8 : decode prog_8_method_5_code 8 = .ok (.istore_n 3, 1) := by decide +kernel
theorem dLB_9 : decode prog_8_method_5_code 9 = .ok (.iload_n 3, 1) := by decide +kernel
theorem dLB_10 : decode prog_8_method_5_code 10 = .ok (.iload_n 2, 1) := by decide +kernel
theorem dLB_11 : decode prog_8_method_5_code 11 = .ok (.if_icmp .ge 32, 3) := by decide +kernel
theorem dLB_14 : decode prog_8_method_5_code 14 = .ok (.aload_n 1, 1) := by decide +kernel
theorem dLB_15 : decode prog_8_method_5_code 15 = .ok (.iload_n 3, 1) := by decide +kernel
theorem dLB_16 : decode prog_8_method_5_code 16 = .ok (.aaload, 1) := by decide +kernel
theorem dLB_17 : decode prog_8_method_5_code 17 = .ok (.astore 4, 2) := by decide +kernel
theorem dLB_19 : decode prog_8_method_5_code 19 = .ok (.aload 4, 2) := by decide +kernel
theorem dLB_21 : decode prog_8_method_5_code 21 = .ok (.getfield 29, 3) := by decide +kernel
theorem dLB_24 : decode prog_8_method_5_code 24 = .ok (.aload_n 0, 1) := by decide +kernel
theorem dLB_25 : decode prog_8_method_5_code 25 = .ok (.invokevirtual 37, 3) := by decide +kernel
theorem dLB_28 : decode prog_8_method_5_code 28 = .ok (.ifCond .eq 9, 3) := by decide +kernel
theorem dLB_31 : decode prog_8_method_5_code 31 = .ok (.aload 4, 2) := by decide +kernel
theorem dLB_33 : decode prog_8_method_5_code 33 = .ok (.invokestatic 43, 3) := by decide +kernel
theorem dLB_36 : decode prog_8_method_5_code 36 = .ok (.areturn, 1) := by decide +kernel
theorem dLB_37 : decode prog_8_method_5_code 37 = .ok (.iinc 3 1, 3) := by decide +kernel
theorem dLB_40 : decode prog_8_method_5_code 40 = .ok (.goto (-31), 3) := by decide +kernel
theorem dLB_43 : decode prog_8_method_5_code 43 = .ok (.invokestatic 49, 3) := by decide +kernel
theorem dLB_46 : decode prog_8_method_5_code 46 = .ok (.areturn, 1) := by decide +kernel
theorem dIP_0 : decode jdk_32_method_6_code 0 = .ok (.aload_n 0, 1) := by decide +kernel
theorem dIP_1 : decode jdk_32_method_6_code 1 = .ok (.getfield 13, 3) := by decide +kernel
theorem dIP_4 : decode jdk_32_method_6_code 4 = .ok (.ifnull 7, 3) := by decide +kernel
theorem dIP_7 : decode jdk_32_method_6_code 7 = .ok (.iconst 1, 1) := by decide +kernel
theorem dIP_8 : decode jdk_32_method_6_code 8 = .ok (.goto 4, 3) := by decide +kernel
theorem dIP_12 : decode jdk_32_method_6_code 12 = .ok (.ireturn, 1) := by decide +kernel
theorem dIP_11 : decode jdk_32_method_6_code 11 = .ok (.iconst 0, 1) := by decide +kernel
theorem dOG_0 : decode jdk_32_method_5_code 0 = .ok (.aload_n 0, 1) := by decide +kernel
theorem dOG_1 : decode jdk_32_method_5_code 1 = .ok (.getfield 13, 3) := by decide +kernel
theorem dOG_4 : decode jdk_32_method_5_code 4 = .ok (.ifnonnull 13, 3) := by decide +kernel
theorem dOG_17 : decode jdk_32_method_5_code 17 = .ok (.aload_n 0, 1) := by decide +kernel
theorem dOG_18 : decode jdk_32_method_5_code 18 = .ok (.getfield 13, 3) := by decide +kernel
theorem dOG_21 : decode jdk_32_method_5_code 21 = .ok (.areturn, 1) := by decide +kernel
theorem tw0 {Z : State} {a0 : Array Value} (hw : ∀ d ∈ tables_1, d.before a0 Z = true) : (Jvm.Cond.stringLink "com/example/coretally/coretally/MetricLabelledPinLaw" (22 : Nat) "processor").before a0 Z = true := hw _ (List.mem_of_getElem? (i := 0) rfl)
theorem tw1 {Z : State} {a0 : Array Value} (hw : ∀ d ∈ tables_1, d.before a0 Z = true) : (Jvm.Cond.initialized "java/lang/String").before a0 Z = true := hw _ (List.mem_of_getElem? (i := 1) rfl)
theorem tw2 {Z : State} {a0 : Array Value} (hw : ∀ d ∈ tables_1, d.before a0 Z = true) : (Jvm.Cond.instantiable "java/lang/String" (4 : Nat)).before a0 Z = true := hw _ (List.mem_of_getElem? (i := 2) rfl)
theorem tw3 {Z : State} {a0 : Array Value} (hw : ∀ d ∈ tables_1, d.before a0 Z = true) : (Jvm.Cond.arrayClass Jvm.ClassFile.FieldType.byte).before a0 Z = true := hw _ (List.mem_of_getElem? (i := 3) rfl)
theorem tw4 {Z : State} {a0 : Array Value} (hw : ∀ d ∈ tables_1, d.before a0 Z = true) : (Jvm.Cond.laysFinal "java/lang/String" "java/lang/String" "value" "[B").before a0 Z = true := hw _ (List.mem_of_getElem? (i := 4) rfl)
theorem tw5 {Z : State} {a0 : Array Value} (hw : ∀ d ∈ tables_1, d.before a0 Z = true) : (Jvm.Cond.laysFinal "java/lang/String" "java/lang/String" "coder" "B").before a0 Z = true := hw _ (List.mem_of_getElem? (i := 5) rfl)
theorem tw8 {Z : State} {a0 : Array Value} (hw : ∀ d ∈ tables_1, d.before a0 Z = true) : (Jvm.Cond.methodLink "com/example/coretally/coretally/MetricLabelledPinLaw" (7 : Nat) ({ cls := "java/lang/String", name := "length", desc := "()I" } : Jvm.MethodName)).before a0 Z = true := hw _ (List.mem_of_getElem? (i := 8) rfl)
theorem tw9 {Z : State} {a0 : Array Value} (hw : ∀ d ∈ tables_1, d.before a0 Z = true) : (Jvm.Cond.declares ({ cls := "java/lang/String", name := "length", desc := "()I" } : Jvm.MethodName)).before a0 Z = true := hw _ (List.mem_of_getElem? (i := 9) rfl)
theorem tw10 {Z : State} {a0 : Array Value} (hw : ∀ d ∈ tables_1, d.before a0 Z = true) : (Jvm.Cond.instanceMethod ({ cls := "java/lang/String", name := "length", desc := "()I" } : Jvm.MethodName)).before a0 Z = true := hw _ (List.mem_of_getElem? (i := 10) rfl)
theorem tw11 {Z : State} {a0 : Array Value} (hw : ∀ d ∈ tables_1, d.before a0 Z = true) : (Jvm.Cond.selects "java/lang/String" ({ cls := "java/lang/String", name := "length", desc := "()I" } : Jvm.MethodName) ({ cls := "java/lang/String", name := "length", desc := "()I" } : Jvm.MethodName)).before a0 Z = true := hw _ (List.mem_of_getElem? (i := 11) rfl)
theorem tw12 {Z : State} {a0 : Array Value} (hw : ∀ d ∈ tables_1, d.before a0 Z = true) : (Jvm.Cond.code ({ cls := "java/lang/String", name := "length", desc := "()I" } : Jvm.MethodName) jdk_42_method_54_code (1 : Nat) (Option.some Jvm.ClassFile.FieldType.int)).before a0 Z = true := hw _ (List.mem_of_getElem? (i := 12) rfl)
theorem tw13 {Z : State} {a0 : Array Value} (hw : ∀ d ∈ tables_1, d.before a0 Z = true) : (Jvm.Cond.fieldLink "java/lang/String" (9 : Nat) "java/lang/String" "value" "[B").before a0 Z = true := hw _ (List.mem_of_getElem? (i := 13) rfl)
theorem tw14 {Z : State} {a0 : Array Value} (hw : ∀ d ∈ tables_1, d.before a0 Z = true) : (Jvm.Cond.methodLink "java/lang/String" (335 : Nat) ({ cls := "java/lang/String", name := "coder", desc := "()B" } : Jvm.MethodName)).before a0 Z = true := hw _ (List.mem_of_getElem? (i := 14) rfl)
theorem tw15 {Z : State} {a0 : Array Value} (hw : ∀ d ∈ tables_1, d.before a0 Z = true) : (Jvm.Cond.declares ({ cls := "java/lang/String", name := "coder", desc := "()B" } : Jvm.MethodName)).before a0 Z = true := hw _ (List.mem_of_getElem? (i := 15) rfl)
theorem tw16 {Z : State} {a0 : Array Value} (hw : ∀ d ∈ tables_1, d.before a0 Z = true) : (Jvm.Cond.instanceMethod ({ cls := "java/lang/String", name := "coder", desc := "()B" } : Jvm.MethodName)).before a0 Z = true := hw _ (List.mem_of_getElem? (i := 16) rfl)
theorem tw17 {Z : State} {a0 : Array Value} (hw : ∀ d ∈ tables_1, d.before a0 Z = true) : (Jvm.Cond.selects "java/lang/String" ({ cls := "java/lang/String", name := "coder", desc := "()B" } : Jvm.MethodName) ({ cls := "java/lang/String", name := "coder", desc := "()B" } : Jvm.MethodName)).before a0 Z = true := hw _ (List.mem_of_getElem? (i := 17) rfl)
theorem tw18 {Z : State} {a0 : Array Value} (hw : ∀ d ∈ tables_1, d.before a0 Z = true) : (Jvm.Cond.code ({ cls := "java/lang/String", name := "coder", desc := "()B" } : Jvm.MethodName) jdk_42_method_152_code (1 : Nat) (Option.some Jvm.ClassFile.FieldType.byte)).before a0 Z = true := hw _ (List.mem_of_getElem? (i := 18) rfl)
theorem tw19 {Z : State} {a0 : Array Value} (hw : ∀ d ∈ tables_1, d.before a0 Z = true) : (Jvm.Cond.fieldLink "java/lang/String" (38 : Nat) "java/lang/String" "COMPACT_STRINGS" "Z").before a0 Z = true := hw _ (List.mem_of_getElem? (i := 19) rfl)
theorem tw20 {Z : State} {a0 : Array Value} (hw : ∀ d ∈ tables_1, d.before a0 Z = true) : (Jvm.Cond.fieldLink "java/lang/String" (15 : Nat) "java/lang/String" "coder" "B").before a0 Z = true := hw _ (List.mem_of_getElem? (i := 20) rfl)
theorem tw21 {Z : State} {a0 : Array Value} (hw : ∀ d ∈ tables_1, d.before a0 Z = true) : (Jvm.Cond.arrayClass Jvm.ClassFile.FieldType.char).before a0 Z = true := hw _ (List.mem_of_getElem? (i := 21) rfl)
theorem tw22 {Z : State} {a0 : Array Value} (hw : ∀ d ∈ tables_1, d.before a0 Z = true) : (Jvm.Cond.methodLink "com/example/coretally/coretally/MetricLabelledPinLaw" (24 : Nat) ({ cls := "com/example/coretally/coretally/MetricLabelledPinLaw", name := "at", desc := "(Ljava/lang/String;I)C" } : Jvm.MethodName)).before a0 Z = true := hw _ (List.mem_of_getElem? (i := 22) rfl)
theorem tw23 {Z : State} {a0 : Array Value} (hw : ∀ d ∈ tables_1, d.before a0 Z = true) : (Jvm.Cond.static ({ cls := "com/example/coretally/coretally/MetricLabelledPinLaw", name := "at", desc := "(Ljava/lang/String;I)C" } : Jvm.MethodName)).before a0 Z = true := hw _ (List.mem_of_getElem? (i := 23) rfl)
theorem tw24 {Z : State} {a0 : Array Value} (hw : ∀ d ∈ tables_1, d.before a0 Z = true) : (Jvm.Cond.initialized "com/example/coretally/coretally/MetricLabelledPinLaw").before a0 Z = true := hw _ (List.mem_of_getElem? (i := 24) rfl)
theorem tw25 {Z : State} {a0 : Array Value} (hw : ∀ d ∈ tables_1, d.before a0 Z = true) : (Jvm.Cond.code ({ cls := "com/example/coretally/coretally/MetricLabelledPinLaw", name := "at", desc := "(Ljava/lang/String;I)C" } : Jvm.MethodName) method_2_code (2 : Nat) (Option.some Jvm.ClassFile.FieldType.char)).before a0 Z = true := hw _ (List.mem_of_getElem? (i := 25) rfl)
theorem tw26 {Z : State} {a0 : Array Value} (hw : ∀ d ∈ tables_1, d.before a0 Z = true) : (Jvm.Cond.methodLink "com/example/coretally/coretally/MetricLabelledPinLaw" (13 : Nat) ({ cls := "java/lang/String", name := "charAt", desc := "(I)C" } : Jvm.MethodName)).before a0 Z = true := hw _ (List.mem_of_getElem? (i := 26) rfl)
theorem tw27 {Z : State} {a0 : Array Value} (hw : ∀ d ∈ tables_1, d.before a0 Z = true) : (Jvm.Cond.declares ({ cls := "java/lang/String", name := "charAt", desc := "(I)C" } : Jvm.MethodName)).before a0 Z = true := hw _ (List.mem_of_getElem? (i := 27) rfl)
theorem tw28 {Z : State} {a0 : Array Value} (hw : ∀ d ∈ tables_1, d.before a0 Z = true) : (Jvm.Cond.instanceMethod ({ cls := "java/lang/String", name := "charAt", desc := "(I)C" } : Jvm.MethodName)).before a0 Z = true := hw _ (List.mem_of_getElem? (i := 28) rfl)
theorem tw29 {Z : State} {a0 : Array Value} (hw : ∀ d ∈ tables_1, d.before a0 Z = true) : (Jvm.Cond.selects "java/lang/String" ({ cls := "java/lang/String", name := "charAt", desc := "(I)C" } : Jvm.MethodName) ({ cls := "java/lang/String", name := "charAt", desc := "(I)C" } : Jvm.MethodName)).before a0 Z = true := hw _ (List.mem_of_getElem? (i := 29) rfl)
theorem tw30 {Z : State} {a0 : Array Value} (hw : ∀ d ∈ tables_1, d.before a0 Z = true) : (Jvm.Cond.code ({ cls := "java/lang/String", name := "charAt", desc := "(I)C" } : Jvm.MethodName) jdk_42_method_56_code (2 : Nat) (Option.some Jvm.ClassFile.FieldType.char)).before a0 Z = true := hw _ (List.mem_of_getElem? (i := 30) rfl)
theorem tw31 {Z : State} {a0 : Array Value} (hw : ∀ d ∈ tables_1, d.before a0 Z = true) : (Jvm.Cond.methodLink "java/lang/String" (492 : Nat) ({ cls := "java/lang/String", name := "isLatin1", desc := "()Z" } : Jvm.MethodName)).before a0 Z = true := hw _ (List.mem_of_getElem? (i := 31) rfl)
theorem tw32 {Z : State} {a0 : Array Value} (hw : ∀ d ∈ tables_1, d.before a0 Z = true) : (Jvm.Cond.declares ({ cls := "java/lang/String", name := "isLatin1", desc := "()Z" } : Jvm.MethodName)).before a0 Z = true := hw _ (List.mem_of_getElem? (i := 32) rfl)
theorem tw33 {Z : State} {a0 : Array Value} (hw : ∀ d ∈ tables_1, d.before a0 Z = true) : (Jvm.Cond.instanceMethod ({ cls := "java/lang/String", name := "isLatin1", desc := "()Z" } : Jvm.MethodName)).before a0 Z = true := hw _ (List.mem_of_getElem? (i := 33) rfl)
theorem tw34 {Z : State} {a0 : Array Value} (hw : ∀ d ∈ tables_1, d.before a0 Z = true) : (Jvm.Cond.selects "java/lang/String" ({ cls := "java/lang/String", name := "isLatin1", desc := "()Z" } : Jvm.MethodName) ({ cls := "java/lang/String", name := "isLatin1", desc := "()Z" } : Jvm.MethodName)).before a0 Z = true := hw _ (List.mem_of_getElem? (i := 34) rfl)
theorem tw35 {Z : State} {a0 : Array Value} (hw : ∀ d ∈ tables_1, d.before a0 Z = true) : (Jvm.Cond.code ({ cls := "java/lang/String", name := "isLatin1", desc := "()Z" } : Jvm.MethodName) jdk_42_method_154_code (1 : Nat) (Option.some Jvm.ClassFile.FieldType.boolean)).before a0 Z = true := hw _ (List.mem_of_getElem? (i := 35) rfl)
theorem tw36 {Z : State} {a0 : Array Value} (hw : ∀ d ∈ tables_1, d.before a0 Z = true) : (Jvm.Cond.methodLink "java/lang/String" (495 : Nat) ({ cls := "java/lang/StringLatin1", name := "charAt", desc := "([BI)C" } : Jvm.MethodName)).before a0 Z = true := hw _ (List.mem_of_getElem? (i := 36) rfl)
theorem tw37 {Z : State} {a0 : Array Value} (hw : ∀ d ∈ tables_1, d.before a0 Z = true) : (Jvm.Cond.static ({ cls := "java/lang/StringLatin1", name := "charAt", desc := "([BI)C" } : Jvm.MethodName)).before a0 Z = true := hw _ (List.mem_of_getElem? (i := 37) rfl)
theorem tw38 {Z : State} {a0 : Array Value} (hw : ∀ d ∈ tables_1, d.before a0 Z = true) : (Jvm.Cond.initialized "java/lang/StringLatin1").before a0 Z = true := hw _ (List.mem_of_getElem? (i := 38) rfl)
theorem tw39 {Z : State} {a0 : Array Value} (hw : ∀ d ∈ tables_1, d.before a0 Z = true) : (Jvm.Cond.code ({ cls := "java/lang/StringLatin1", name := "charAt", desc := "([BI)C" } : Jvm.MethodName) jdk_43_method_2_code (2 : Nat) (Option.some Jvm.ClassFile.FieldType.char)).before a0 Z = true := hw _ (List.mem_of_getElem? (i := 39) rfl)
theorem tw40 {Z : State} {a0 : Array Value} (hw : ∀ d ∈ tables_1, d.before a0 Z = true) : (Jvm.Cond.methodLink "java/lang/StringLatin1" (9 : Nat) ({ cls := "java/lang/String", name := "checkIndex", desc := "(II)V" } : Jvm.MethodName)).before a0 Z = true := hw _ (List.mem_of_getElem? (i := 40) rfl)
theorem tw41 {Z : State} {a0 : Array Value} (hw : ∀ d ∈ tables_1, d.before a0 Z = true) : (Jvm.Cond.static ({ cls := "java/lang/String", name := "checkIndex", desc := "(II)V" } : Jvm.MethodName)).before a0 Z = true := hw _ (List.mem_of_getElem? (i := 41) rfl)
theorem tw42 {Z : State} {a0 : Array Value} (hw : ∀ d ∈ tables_1, d.before a0 Z = true) : (Jvm.Cond.code ({ cls := "java/lang/String", name := "checkIndex", desc := "(II)V" } : Jvm.MethodName) jdk_42_method_155_code (2 : Nat) (Option.none : Option Jvm.ClassFile.FieldType)).before a0 Z = true := hw _ (List.mem_of_getElem? (i := 42) rfl)
theorem tw43 {Z : State} {a0 : Array Value} (hw : ∀ d ∈ tables_1, d.before a0 Z = true) : (Jvm.Cond.fieldLink "java/lang/String" (1053 : Nat) "jdk/internal/util/Preconditions" "SIOOBE_FORMATTER" "Ljava/util/function/BiFunction;").before a0 Z = true := hw _ (List.mem_of_getElem? (i := 43) rfl)
theorem tw44 {Z : State} {a0 : Array Value} (hw : ∀ d ∈ tables_1, d.before a0 Z = true) : (Jvm.Cond.initialized "jdk/internal/util/Preconditions").before a0 Z = true := hw _ (List.mem_of_getElem? (i := 44) rfl)
theorem tw45 {Z : State} {a0 : Array Value} (hw : ∀ d ∈ tables_1, d.before a0 Z = true) : (Jvm.Cond.methodLink "java/lang/String" (1059 : Nat) ({ cls := "jdk/internal/util/Preconditions", name := "checkIndex", desc := "(IILjava/util/function/BiFunction;)I" } : Jvm.MethodName)).before a0 Z = true := hw _ (List.mem_of_getElem? (i := 45) rfl)
theorem tw46 {Z : State} {a0 : Array Value} (hw : ∀ d ∈ tables_1, d.before a0 Z = true) : (Jvm.Cond.static ({ cls := "jdk/internal/util/Preconditions", name := "checkIndex", desc := "(IILjava/util/function/BiFunction;)I" } : Jvm.MethodName)).before a0 Z = true := hw _ (List.mem_of_getElem? (i := 46) rfl)
theorem tw47 {Z : State} {a0 : Array Value} (hw : ∀ d ∈ tables_1, d.before a0 Z = true) : (Jvm.Cond.code ({ cls := "jdk/internal/util/Preconditions", name := "checkIndex", desc := "(IILjava/util/function/BiFunction;)I" } : Jvm.MethodName) jdk_41_method_11_code (3 : Nat) (Option.some Jvm.ClassFile.FieldType.int)).before a0 Z = true := hw _ (List.mem_of_getElem? (i := 47) rfl)
theorem tw48 {Z : State} {a0 : Array Value} (hw : ∀ d ∈ tables_1, d.before a0 Z = true) : (Jvm.Cond.constant "com/example/coretally/coretally/MetricLabelledPinLaw" (30 : Nat) (2147483647 : Int32)).before a0 Z = true := hw _ (List.mem_of_getElem? (i := 48) rfl)
theorem tw49 {Z : State} {a0 : Array Value} (hw : ∀ d ∈ tables_1, d.before a0 Z = true) : (Jvm.Cond.methodLink "com/example/coretally/coretally/MetricLabelledPinLaw" (31 : Nat) ({ cls := "com/example/coretally/coretally/MetricLabelledPinLaw", name := "str", desc := "([CI)Ljava/lang/String;" } : Jvm.MethodName)).before a0 Z = true := hw _ (List.mem_of_getElem? (i := 49) rfl)
theorem tw50 {Z : State} {a0 : Array Value} (hw : ∀ d ∈ tables_1, d.before a0 Z = true) : (Jvm.Cond.static ({ cls := "com/example/coretally/coretally/MetricLabelledPinLaw", name := "str", desc := "([CI)Ljava/lang/String;" } : Jvm.MethodName)).before a0 Z = true := hw _ (List.mem_of_getElem? (i := 50) rfl)
theorem tw51 {Z : State} {a0 : Array Value} (hw : ∀ d ∈ tables_1, d.before a0 Z = true) : (Jvm.Cond.code ({ cls := "com/example/coretally/coretally/MetricLabelledPinLaw", name := "str", desc := "([CI)Ljava/lang/String;" } : Jvm.MethodName) method_3_code (2 : Nat) (Option.some (Jvm.ClassFile.FieldType.object "java/lang/String"))).before a0 Z = true := hw _ (List.mem_of_getElem? (i := 51) rfl)
theorem tw52 {Z : State} {a0 : Array Value} (hw : ∀ d ∈ tables_1, d.before a0 Z = true) : (Jvm.Cond.classLink "com/example/coretally/coretally/MetricLabelledPinLaw" (8 : Nat) "java/lang/String").before a0 Z = true := hw _ (List.mem_of_getElem? (i := 52) rfl)
theorem tw53 {Z : State} {a0 : Array Value} (hw : ∀ d ∈ tables_1, d.before a0 Z = true) : (Jvm.Cond.methodLink "com/example/coretally/coretally/MetricLabelledPinLaw" (17 : Nat) ({ cls := "java/lang/String", name := "<init>", desc := "([C)V" } : Jvm.MethodName)).before a0 Z = true := hw _ (List.mem_of_getElem? (i := 53) rfl)
theorem tw54 {Z : State} {a0 : Array Value} (hw : ∀ d ∈ tables_1, d.before a0 Z = true) : (Jvm.Cond.instanceMethod ({ cls := "java/lang/String", name := "<init>", desc := "([C)V" } : Jvm.MethodName)).before a0 Z = true := hw _ (List.mem_of_getElem? (i := 54) rfl)
theorem tw55 {Z : State} {a0 : Array Value} (hw : ∀ d ∈ tables_1, d.before a0 Z = true) : (Jvm.Cond.code ({ cls := "java/lang/String", name := "<init>", desc := "([C)V" } : Jvm.MethodName) jdk_42_method_3_code (2 : Nat) (Option.none : Option Jvm.ClassFile.FieldType)).before a0 Z = true := hw _ (List.mem_of_getElem? (i := 55) rfl)
theorem tw56 {Z : State} {a0 : Array Value} (hw : ∀ d ∈ tables_1, d.before a0 Z = true) : (Jvm.Cond.methodLink "java/lang/String" (27 : Nat) ({ cls := "java/lang/String", name := "<init>", desc := "([CIILjava/lang/Void;)V" } : Jvm.MethodName)).before a0 Z = true := hw _ (List.mem_of_getElem? (i := 56) rfl)
theorem tw57 {Z : State} {a0 : Array Value} (hw : ∀ d ∈ tables_1, d.before a0 Z = true) : (Jvm.Cond.instanceMethod ({ cls := "java/lang/String", name := "<init>", desc := "([CIILjava/lang/Void;)V" } : Jvm.MethodName)).before a0 Z = true := hw _ (List.mem_of_getElem? (i := 57) rfl)
theorem tw59 {Z : State} {a0 : Array Value} (hw : ∀ d ∈ tables_1, d.before a0 Z = true) : (Jvm.Cond.code ({ cls := "java/lang/String", name := "<init>", desc := "([CIILjava/lang/Void;)V" } : Jvm.MethodName) jdk_42_method_149_code (6 : Nat) (Option.none : Option Jvm.ClassFile.FieldType)).before a0 Z = true := hw _ (List.mem_of_getElem? (i := 59) rfl)
theorem tw60 {Z : State} {a0 : Array Value} (hw : ∀ d ∈ tables_1, d.before a0 Z = true) : (Jvm.Cond.methodLink "java/lang/String" (1 : Nat) ({ cls := "java/lang/Object", name := "<init>", desc := "()V" } : Jvm.MethodName)).before a0 Z = true := hw _ (List.mem_of_getElem? (i := 60) rfl)
theorem tw61 {Z : State} {a0 : Array Value} (hw : ∀ d ∈ tables_1, d.before a0 Z = true) : (Jvm.Cond.instanceMethod ({ cls := "java/lang/Object", name := "<init>", desc := "()V" } : Jvm.MethodName)).before a0 Z = true := hw _ (List.mem_of_getElem? (i := 61) rfl)
theorem tw62 {Z : State} {a0 : Array Value} (hw : ∀ d ∈ tables_1, d.before a0 Z = true) : (Jvm.Cond.code ({ cls := "java/lang/Object", name := "<init>", desc := "()V" } : Jvm.MethodName) object_method_1_code (1 : Nat) (Option.none : Option Jvm.ClassFile.FieldType)).before a0 Z = true := hw _ (List.mem_of_getElem? (i := 62) rfl)
theorem tw63 {Z : State} {a0 : Array Value} (hw : ∀ d ∈ tables_1, d.before a0 Z = true) : (Jvm.Cond.methodLink "java/lang/String" (177 : Nat) ({ cls := "java/lang/StringUTF16", name := "compress", desc := "([CII)[B" } : Jvm.MethodName)).before a0 Z = true := hw _ (List.mem_of_getElem? (i := 63) rfl)
theorem tw64 {Z : State} {a0 : Array Value} (hw : ∀ d ∈ tables_1, d.before a0 Z = true) : (Jvm.Cond.static ({ cls := "java/lang/StringUTF16", name := "compress", desc := "([CII)[B" } : Jvm.MethodName)).before a0 Z = true := hw _ (List.mem_of_getElem? (i := 64) rfl)
theorem tw65 {Z : State} {a0 : Array Value} (hw : ∀ d ∈ tables_1, d.before a0 Z = true) : (Jvm.Cond.initialized "java/lang/StringUTF16").before a0 Z = true := hw _ (List.mem_of_getElem? (i := 65) rfl)
theorem tw66 {Z : State} {a0 : Array Value} (hw : ∀ d ∈ tables_1, d.before a0 Z = true) : (Jvm.Cond.code ({ cls := "java/lang/StringUTF16", name := "compress", desc := "([CII)[B" } : Jvm.MethodName) jdk_52_method_16_code (6 : Nat) (Option.some (Jvm.ClassFile.FieldType.array Jvm.ClassFile.FieldType.byte))).before a0 Z = true := hw _ (List.mem_of_getElem? (i := 66) rfl)
theorem tw67 {Z : State} {a0 : Array Value} (hw : ∀ d ∈ tables_1, d.before a0 Z = true) : (Jvm.Cond.methodLink "java/lang/StringUTF16" (115 : Nat) ({ cls := "java/lang/StringUTF16", name := "compress", desc := "([CI[BII)I" } : Jvm.MethodName)).before a0 Z = true := hw _ (List.mem_of_getElem? (i := 67) rfl)
theorem tw68 {Z : State} {a0 : Array Value} (hw : ∀ d ∈ tables_1, d.before a0 Z = true) : (Jvm.Cond.static ({ cls := "java/lang/StringUTF16", name := "compress", desc := "([CI[BII)I" } : Jvm.MethodName)).before a0 Z = true := hw _ (List.mem_of_getElem? (i := 68) rfl)
theorem tw69 {Z : State} {a0 : Array Value} (hw : ∀ d ∈ tables_1, d.before a0 Z = true) : (Jvm.Cond.code ({ cls := "java/lang/StringUTF16", name := "compress", desc := "([CI[BII)I" } : Jvm.MethodName) jdk_52_method_21_code (7 : Nat) (Option.some Jvm.ClassFile.FieldType.int)).before a0 Z = true := hw _ (List.mem_of_getElem? (i := 69) rfl)
theorem tw70 {Z : State} {a0 : Array Value} (hw : ∀ d ∈ tables_1, d.before a0 Z = true) : (Jvm.Cond.methodLink "java/lang/String" (47 : Nat) ({ cls := "java/lang/StringUTF16", name := "coderFromArrayLen", desc := "([BI)B" } : Jvm.MethodName)).before a0 Z = true := hw _ (List.mem_of_getElem? (i := 70) rfl)
theorem tw71 {Z : State} {a0 : Array Value} (hw : ∀ d ∈ tables_1, d.before a0 Z = true) : (Jvm.Cond.static ({ cls := "java/lang/StringUTF16", name := "coderFromArrayLen", desc := "([BI)B" } : Jvm.MethodName)).before a0 Z = true := hw _ (List.mem_of_getElem? (i := 71) rfl)
theorem tw72 {Z : State} {a0 : Array Value} (hw : ∀ d ∈ tables_1, d.before a0 Z = true) : (Jvm.Cond.code ({ cls := "java/lang/StringUTF16", name := "coderFromArrayLen", desc := "([BI)B" } : Jvm.MethodName) jdk_52_method_15_code (2 : Nat) (Option.some Jvm.ClassFile.FieldType.byte)).before a0 Z = true := hw _ (List.mem_of_getElem? (i := 72) rfl)
theorem tw73 {Z : State} {a0 : Array Value} (hw : ∀ d ∈ tables_1, d.before a0 Z = true) : (Jvm.Cond.methodLink "com/example/coretally/coretally/MetricLabelledPinLaw" (35 : Nat) ({ cls := "com/example/coretally/coretally/Metric", name := "labelled", desc := "(Ljava/lang/String;)Ljava/util/Optional;" } : Jvm.MethodName)).before a0 Z = true := hw _ (List.mem_of_getElem? (i := 73) rfl)
theorem tw74 {Z : State} {a0 : Array Value} (hw : ∀ d ∈ tables_1, d.before a0 Z = true) : (Jvm.Cond.static ({ cls := "com/example/coretally/coretally/Metric", name := "labelled", desc := "(Ljava/lang/String;)Ljava/util/Optional;" } : Jvm.MethodName)).before a0 Z = true := hw _ (List.mem_of_getElem? (i := 74) rfl)
theorem tw75 {Z : State} {a0 : Array Value} (hw : ∀ d ∈ tables_1, d.before a0 Z = true) : (Jvm.Cond.initialized "com/example/coretally/coretally/Metric").before a0 Z = true := hw _ (List.mem_of_getElem? (i := 75) rfl)
theorem tw76 {Z : State} {a0 : Array Value} (hw : ∀ d ∈ tables_1, d.before a0 Z = true) : (Jvm.Cond.code ({ cls := "com/example/coretally/coretally/Metric", name := "labelled", desc := "(Ljava/lang/String;)Ljava/util/Optional;" } : Jvm.MethodName) prog_8_method_5_code (5 : Nat) (Option.some (Jvm.ClassFile.FieldType.object "java/util/Optional"))).before a0 Z = true := hw _ (List.mem_of_getElem? (i := 76) rfl)
theorem tw77 {Z : State} {a0 : Array Value} (hw : ∀ d ∈ tables_1, d.before a0 Z = true) : (Jvm.Cond.methodLink "com/example/coretally/coretally/Metric" (33 : Nat) ({ cls := "com/example/coretally/coretally/Metric", name := "values", desc := "()[Lcom/example/coretally/coretally/Metric;" } : Jvm.MethodName)).before a0 Z = true := hw _ (List.mem_of_getElem? (i := 77) rfl)
theorem tw78 {Z : State} {a0 : Array Value} (hw : ∀ d ∈ tables_1, d.before a0 Z = true) : (Jvm.Cond.static ({ cls := "com/example/coretally/coretally/Metric", name := "values", desc := "()[Lcom/example/coretally/coretally/Metric;" } : Jvm.MethodName)).before a0 Z = true := hw _ (List.mem_of_getElem? (i := 78) rfl)
theorem tw79 {Z : State} {a0 : Array Value} (hw : ∀ d ∈ tables_1, d.before a0 Z = true) : (Jvm.Cond.code ({ cls := "com/example/coretally/coretally/Metric", name := "values", desc := "()[Lcom/example/coretally/coretally/Metric;" } : Jvm.MethodName) prog_8_method_1_code (0 : Nat) (Option.some (Jvm.ClassFile.FieldType.array (Jvm.ClassFile.FieldType.object "com/example/coretally/coretally/Metric")))).before a0 Z = true := hw _ (List.mem_of_getElem? (i := 79) rfl)
theorem tw80 {Z : State} {a0 : Array Value} (hw : ∀ d ∈ tables_1, d.before a0 Z = true) : (Jvm.Cond.fieldLink "com/example/coretally/coretally/Metric" (10 : Nat) "com/example/coretally/coretally/Metric" "$VALUES" "[Lcom/example/coretally/coretally/Metric;").before a0 Z = true := hw _ (List.mem_of_getElem? (i := 80) rfl)
theorem tw82 {Z : State} {a0 : Array Value} (hw : ∀ d ∈ tables_1, d.before a0 Z = true) : (Jvm.Cond.methodLink "com/example/coretally/coretally/Metric" (14 : Nat) ({ cls := "[Lcom/example/coretally/coretally/Metric;", name := "clone", desc := "()Ljava/lang/Object;" } : Jvm.MethodName)).before a0 Z = true := hw _ (List.mem_of_getElem? (i := 82) rfl)
theorem tw83 {Z : State} {a0 : Array Value} (hw : ∀ d ∈ tables_1, d.before a0 Z = true) : (Jvm.Cond.sameMethod "[Lcom/example/coretally/coretally/Metric;" "java/lang/Object" "clone" "()Ljava/lang/Object;").before a0 Z = true := hw _ (List.mem_of_getElem? (i := 83) rfl)
theorem tw85 {Z : State} {a0 : Array Value} (hw : ∀ d ∈ tables_1, d.before a0 Z = true) : (Jvm.Cond.instanceMethod ({ cls := "java/lang/Object", name := "clone", desc := "()Ljava/lang/Object;" } : Jvm.MethodName)).before a0 Z = true := hw _ (List.mem_of_getElem? (i := 85) rfl)
theorem tw86 {Z : State} {a0 : Array Value} (hw : ∀ d ∈ tables_1, d.before a0 Z = true) : (Jvm.Cond.selects "[Lcom/example/coretally/coretally/Metric;" ({ cls := "[Lcom/example/coretally/coretally/Metric;", name := "clone", desc := "()Ljava/lang/Object;" } : Jvm.MethodName) ({ cls := "java/lang/Object", name := "clone", desc := "()Ljava/lang/Object;" } : Jvm.MethodName)).before a0 Z = true := hw _ (List.mem_of_getElem? (i := 86) rfl)
theorem tw87 {Z : State} {a0 : Array Value} (hw : ∀ d ∈ tables_1, d.before a0 Z = true) : (Jvm.Cond.native ({ cls := "java/lang/Object", name := "clone", desc := "()Ljava/lang/Object;" } : Jvm.MethodName)).before a0 Z = true := hw _ (List.mem_of_getElem? (i := 87) rfl)
theorem tw88 {Z : State} {a0 : Array Value} (hw : ∀ d ∈ tables_1, d.before a0 Z = true) : (Jvm.Cond.castable "[Lcom/example/coretally/coretally/Metric;" "java/lang/Cloneable").before a0 Z = true := hw _ (List.mem_of_getElem? (i := 88) rfl)
theorem tw92 {Z : State} {a0 : Array Value} (hw : ∀ d ∈ tables_1, d.before a0 Z = true) : (Jvm.Cond.classLink "com/example/coretally/coretally/Metric" (15 : Nat) "[Lcom/example/coretally/coretally/Metric;").before a0 Z = true := hw _ (List.mem_of_getElem? (i := 92) rfl)
theorem tw94 {Z : State} {a0 : Array Value} (hw : ∀ d ∈ tables_1, d.before a0 Z = true) : (Jvm.Cond.fieldLink "com/example/coretally/coretally/Metric" (29 : Nat) "com/example/coretally/coretally/Metric" "label" "Ljava/lang/String;").before a0 Z = true := hw _ (List.mem_of_getElem? (i := 94) rfl)
theorem tw96 {Z : State} {a0 : Array Value} (hw : ∀ d ∈ tables_1, d.before a0 Z = true) : (Jvm.Cond.methodLink "com/example/coretally/coretally/Metric" (37 : Nat) ({ cls := "java/lang/String", name := "equals", desc := "(Ljava/lang/Object;)Z" } : Jvm.MethodName)).before a0 Z = true := hw _ (List.mem_of_getElem? (i := 96) rfl)
theorem tw97 {Z : State} {a0 : Array Value} (hw : ∀ d ∈ tables_1, d.before a0 Z = true) : (Jvm.Cond.declares ({ cls := "java/lang/String", name := "equals", desc := "(Ljava/lang/Object;)Z" } : Jvm.MethodName)).before a0 Z = true := hw _ (List.mem_of_getElem? (i := 97) rfl)
theorem tw98 {Z : State} {a0 : Array Value} (hw : ∀ d ∈ tables_1, d.before a0 Z = true) : (Jvm.Cond.instanceMethod ({ cls := "java/lang/String", name := "equals", desc := "(Ljava/lang/Object;)Z" } : Jvm.MethodName)).before a0 Z = true := hw _ (List.mem_of_getElem? (i := 98) rfl)
theorem tw99 {Z : State} {a0 : Array Value} (hw : ∀ d ∈ tables_1, d.before a0 Z = true) : (Jvm.Cond.selects "java/lang/String" ({ cls := "java/lang/String", name := "equals", desc := "(Ljava/lang/Object;)Z" } : Jvm.MethodName) ({ cls := "java/lang/String", name := "equals", desc := "(Ljava/lang/Object;)Z" } : Jvm.MethodName)).before a0 Z = true := hw _ (List.mem_of_getElem? (i := 99) rfl)
theorem tw100 {Z : State} {a0 : Array Value} (hw : ∀ d ∈ tables_1, d.before a0 Z = true) : (Jvm.Cond.code ({ cls := "java/lang/String", name := "equals", desc := "(Ljava/lang/Object;)Z" } : Jvm.MethodName) jdk_42_method_66_code (3 : Nat) (Option.some Jvm.ClassFile.FieldType.boolean)).before a0 Z = true := hw _ (List.mem_of_getElem? (i := 100) rfl)
theorem tw101 {Z : State} {a0 : Array Value} (hw : ∀ d ∈ tables_1, d.before a0 Z = true) : (Jvm.Cond.classLink "java/lang/String" (10 : Nat) "java/lang/String").before a0 Z = true := hw _ (List.mem_of_getElem? (i := 101) rfl)
theorem tw102 {Z : State} {a0 : Array Value} (hw : ∀ d ∈ tables_1, d.before a0 Z = true) : (Jvm.Cond.methodLink "java/lang/String" (541 : Nat) ({ cls := "java/lang/StringLatin1", name := "equals", desc := "([B[B)Z" } : Jvm.MethodName)).before a0 Z = true := hw _ (List.mem_of_getElem? (i := 102) rfl)
theorem tw103 {Z : State} {a0 : Array Value} (hw : ∀ d ∈ tables_1, d.before a0 Z = true) : (Jvm.Cond.static ({ cls := "java/lang/StringLatin1", name := "equals", desc := "([B[B)Z" } : Jvm.MethodName)).before a0 Z = true := hw _ (List.mem_of_getElem? (i := 103) rfl)
theorem tw104 {Z : State} {a0 : Array Value} (hw : ∀ d ∈ tables_1, d.before a0 Z = true) : (Jvm.Cond.code ({ cls := "java/lang/StringLatin1", name := "equals", desc := "([B[B)Z" } : Jvm.MethodName) jdk_43_method_13_code (3 : Nat) (Option.some Jvm.ClassFile.FieldType.boolean)).before a0 Z = true := hw _ (List.mem_of_getElem? (i := 104) rfl)
theorem tw105 {Z : State} {a0 : Array Value} (hw : ∀ d ∈ tables_1, d.before a0 Z = true) : (Jvm.Cond.methodLink "com/example/coretally/coretally/Metric" (43 : Nat) ({ cls := "java/util/Optional", name := "of", desc := "(Ljava/lang/Object;)Ljava/util/Optional;" } : Jvm.MethodName)).before a0 Z = true := hw _ (List.mem_of_getElem? (i := 105) rfl)
theorem tw106 {Z : State} {a0 : Array Value} (hw : ∀ d ∈ tables_1, d.before a0 Z = true) : (Jvm.Cond.static ({ cls := "java/util/Optional", name := "of", desc := "(Ljava/lang/Object;)Ljava/util/Optional;" } : Jvm.MethodName)).before a0 Z = true := hw _ (List.mem_of_getElem? (i := 106) rfl)
theorem tw107 {Z : State} {a0 : Array Value} (hw : ∀ d ∈ tables_1, d.before a0 Z = true) : (Jvm.Cond.initialized "java/util/Optional").before a0 Z = true := hw _ (List.mem_of_getElem? (i := 107) rfl)
theorem tw108 {Z : State} {a0 : Array Value} (hw : ∀ d ∈ tables_1, d.before a0 Z = true) : (Jvm.Cond.code ({ cls := "java/util/Optional", name := "of", desc := "(Ljava/lang/Object;)Ljava/util/Optional;" } : Jvm.MethodName) jdk_32_method_3_code (1 : Nat) (Option.some (Jvm.ClassFile.FieldType.object "java/util/Optional"))).before a0 Z = true := hw _ (List.mem_of_getElem? (i := 108) rfl)
theorem tw109 {Z : State} {a0 : Array Value} (hw : ∀ d ∈ tables_1, d.before a0 Z = true) : (Jvm.Cond.classLink "java/util/Optional" (2 : Nat) "java/util/Optional").before a0 Z = true := hw _ (List.mem_of_getElem? (i := 109) rfl)
theorem tw110 {Z : State} {a0 : Array Value} (hw : ∀ d ∈ tables_1, d.before a0 Z = true) : (Jvm.Cond.instantiable "java/util/Optional" (1 : Nat)).before a0 Z = true := hw _ (List.mem_of_getElem? (i := 110) rfl)
theorem tw111 {Z : State} {a0 : Array Value} (hw : ∀ d ∈ tables_1, d.before a0 Z = true) : (Jvm.Cond.methodLink "java/util/Optional" (17 : Nat) ({ cls := "java/util/Objects", name := "requireNonNull", desc := "(Ljava/lang/Object;)Ljava/lang/Object;" } : Jvm.MethodName)).before a0 Z = true := hw _ (List.mem_of_getElem? (i := 111) rfl)
theorem tw112 {Z : State} {a0 : Array Value} (hw : ∀ d ∈ tables_1, d.before a0 Z = true) : (Jvm.Cond.static ({ cls := "java/util/Objects", name := "requireNonNull", desc := "(Ljava/lang/Object;)Ljava/lang/Object;" } : Jvm.MethodName)).before a0 Z = true := hw _ (List.mem_of_getElem? (i := 112) rfl)
theorem tw113 {Z : State} {a0 : Array Value} (hw : ∀ d ∈ tables_1, d.before a0 Z = true) : (Jvm.Cond.initialized "java/util/Objects").before a0 Z = true := hw _ (List.mem_of_getElem? (i := 113) rfl)
theorem tw114 {Z : State} {a0 : Array Value} (hw : ∀ d ∈ tables_1, d.before a0 Z = true) : (Jvm.Cond.code ({ cls := "java/util/Objects", name := "requireNonNull", desc := "(Ljava/lang/Object;)Ljava/lang/Object;" } : Jvm.MethodName) jdk_31_method_10_code (1 : Nat) (Option.some (Jvm.ClassFile.FieldType.object "java/lang/Object"))).before a0 Z = true := hw _ (List.mem_of_getElem? (i := 114) rfl)
theorem tw115 {Z : State} {a0 : Array Value} (hw : ∀ d ∈ tables_1, d.before a0 Z = true) : (Jvm.Cond.methodLink "java/util/Optional" (23 : Nat) ({ cls := "java/util/Optional", name := "<init>", desc := "(Ljava/lang/Object;)V" } : Jvm.MethodName)).before a0 Z = true := hw _ (List.mem_of_getElem? (i := 115) rfl)
theorem tw116 {Z : State} {a0 : Array Value} (hw : ∀ d ∈ tables_1, d.before a0 Z = true) : (Jvm.Cond.instanceMethod ({ cls := "java/util/Optional", name := "<init>", desc := "(Ljava/lang/Object;)V" } : Jvm.MethodName)).before a0 Z = true := hw _ (List.mem_of_getElem? (i := 116) rfl)
theorem tw118 {Z : State} {a0 : Array Value} (hw : ∀ d ∈ tables_1, d.before a0 Z = true) : (Jvm.Cond.code ({ cls := "java/util/Optional", name := "<init>", desc := "(Ljava/lang/Object;)V" } : Jvm.MethodName) jdk_32_method_2_code (2 : Nat) (Option.none : Option Jvm.ClassFile.FieldType)).before a0 Z = true := hw _ (List.mem_of_getElem? (i := 118) rfl)
theorem tw119 {Z : State} {a0 : Array Value} (hw : ∀ d ∈ tables_1, d.before a0 Z = true) : (Jvm.Cond.methodLink "java/util/Optional" (7 : Nat) ({ cls := "java/lang/Object", name := "<init>", desc := "()V" } : Jvm.MethodName)).before a0 Z = true := hw _ (List.mem_of_getElem? (i := 119) rfl)
theorem tw120 {Z : State} {a0 : Array Value} (hw : ∀ d ∈ tables_1, d.before a0 Z = true) : (Jvm.Cond.fieldLink "java/util/Optional" (13 : Nat) "java/util/Optional" "value" "Ljava/lang/Object;").before a0 Z = true := hw _ (List.mem_of_getElem? (i := 120) rfl)
theorem tw121 {Z : State} {a0 : Array Value} (hw : ∀ d ∈ tables_1, d.before a0 Z = true) : (Jvm.Cond.laysFinal "java/util/Optional" "java/util/Optional" "value" "Ljava/lang/Object;").before a0 Z = true := hw _ (List.mem_of_getElem? (i := 121) rfl)
theorem tw122 {Z : State} {a0 : Array Value} (hw : ∀ d ∈ tables_1, d.before a0 Z = true) : (Jvm.Cond.fieldLink "com/example/coretally/coretally/MetricLabelledPinLaw" (45 : Nat) "com/example/coretally/coretally/Metric" "PROCESSOR" "Lcom/example/coretally/coretally/Metric;").before a0 Z = true := hw _ (List.mem_of_getElem? (i := 122) rfl)
theorem tw123 {Z : State} {a0 : Array Value} (hw : ∀ d ∈ tables_1, d.before a0 Z = true) : (Jvm.Cond.methodLink "com/example/coretally/coretally/MetricLabelledPinLaw" (48 : Nat) ({ cls := "java/util/Optional", name := "isPresent", desc := "()Z" } : Jvm.MethodName)).before a0 Z = true := hw _ (List.mem_of_getElem? (i := 123) rfl)
theorem tw124 {Z : State} {a0 : Array Value} (hw : ∀ d ∈ tables_1, d.before a0 Z = true) : (Jvm.Cond.declares ({ cls := "java/util/Optional", name := "isPresent", desc := "()Z" } : Jvm.MethodName)).before a0 Z = true := hw _ (List.mem_of_getElem? (i := 124) rfl)
theorem tw125 {Z : State} {a0 : Array Value} (hw : ∀ d ∈ tables_1, d.before a0 Z = true) : (Jvm.Cond.instanceMethod ({ cls := "java/util/Optional", name := "isPresent", desc := "()Z" } : Jvm.MethodName)).before a0 Z = true := hw _ (List.mem_of_getElem? (i := 125) rfl)
theorem tw126 {Z : State} {a0 : Array Value} (hw : ∀ d ∈ tables_1, d.before a0 Z = true) : (Jvm.Cond.selects "java/util/Optional" ({ cls := "java/util/Optional", name := "isPresent", desc := "()Z" } : Jvm.MethodName) ({ cls := "java/util/Optional", name := "isPresent", desc := "()Z" } : Jvm.MethodName)).before a0 Z = true := hw _ (List.mem_of_getElem? (i := 126) rfl)
theorem tw127 {Z : State} {a0 : Array Value} (hw : ∀ d ∈ tables_1, d.before a0 Z = true) : (Jvm.Cond.code ({ cls := "java/util/Optional", name := "isPresent", desc := "()Z" } : Jvm.MethodName) jdk_32_method_6_code (1 : Nat) (Option.some Jvm.ClassFile.FieldType.boolean)).before a0 Z = true := hw _ (List.mem_of_getElem? (i := 127) rfl)
theorem tw128 {Z : State} {a0 : Array Value} (hw : ∀ d ∈ tables_1, d.before a0 Z = true) : (Jvm.Cond.methodLink "com/example/coretally/coretally/MetricLabelledPinLaw" (54 : Nat) ({ cls := "java/util/Optional", name := "get", desc := "()Ljava/lang/Object;" } : Jvm.MethodName)).before a0 Z = true := hw _ (List.mem_of_getElem? (i := 128) rfl)
theorem tw129 {Z : State} {a0 : Array Value} (hw : ∀ d ∈ tables_1, d.before a0 Z = true) : (Jvm.Cond.declares ({ cls := "java/util/Optional", name := "get", desc := "()Ljava/lang/Object;" } : Jvm.MethodName)).before a0 Z = true := hw _ (List.mem_of_getElem? (i := 129) rfl)
theorem tw130 {Z : State} {a0 : Array Value} (hw : ∀ d ∈ tables_1, d.before a0 Z = true) : (Jvm.Cond.instanceMethod ({ cls := "java/util/Optional", name := "get", desc := "()Ljava/lang/Object;" } : Jvm.MethodName)).before a0 Z = true := hw _ (List.mem_of_getElem? (i := 130) rfl)
theorem tw131 {Z : State} {a0 : Array Value} (hw : ∀ d ∈ tables_1, d.before a0 Z = true) : (Jvm.Cond.selects "java/util/Optional" ({ cls := "java/util/Optional", name := "get", desc := "()Ljava/lang/Object;" } : Jvm.MethodName) ({ cls := "java/util/Optional", name := "get", desc := "()Ljava/lang/Object;" } : Jvm.MethodName)).before a0 Z = true := hw _ (List.mem_of_getElem? (i := 131) rfl)
theorem tw132 {Z : State} {a0 : Array Value} (hw : ∀ d ∈ tables_1, d.before a0 Z = true) : (Jvm.Cond.code ({ cls := "java/util/Optional", name := "get", desc := "()Ljava/lang/Object;" } : Jvm.MethodName) jdk_32_method_5_code (1 : Nat) (Option.some (Jvm.ClassFile.FieldType.object "java/lang/Object"))).before a0 Z = true := hw _ (List.mem_of_getElem? (i := 132) rfl)
theorem tw133 {Z : State} {a0 : Array Value} (hw : ∀ d ∈ tables_1, d.before a0 Z = true) : (Jvm.Cond.stringLink "com/example/coretally/coretally/MetricLabelledPinLaw" (20 : Nat) "socket").before a0 Z = true := hw _ (List.mem_of_getElem? (i := 133) rfl)
theorem tw134 {Z : State} {a0 : Array Value} (hw : ∀ d ∈ tables_1, d.before a0 Z = true) : (Jvm.Cond.fieldLink "com/example/coretally/coretally/MetricLabelledPinLaw" (41 : Nat) "com/example/coretally/coretally/Metric" "SOCKET" "Lcom/example/coretally/coretally/Metric;").before a0 Z = true := hw _ (List.mem_of_getElem? (i := 134) rfl)
theorem tw135 {Z : State} {a0 : Array Value} (hw : ∀ d ∈ tables_1, d.before a0 Z = true) : (Jvm.Cond.methodLink "com/example/coretally/coretally/Metric" (49 : Nat) ({ cls := "java/util/Optional", name := "empty", desc := "()Ljava/util/Optional;" } : Jvm.MethodName)).before a0 Z = true := hw _ (List.mem_of_getElem? (i := 135) rfl)
theorem tw136 {Z : State} {a0 : Array Value} (hw : ∀ d ∈ tables_1, d.before a0 Z = true) : (Jvm.Cond.static ({ cls := "java/util/Optional", name := "empty", desc := "()Ljava/util/Optional;" } : Jvm.MethodName)).before a0 Z = true := hw _ (List.mem_of_getElem? (i := 136) rfl)
theorem tw137 {Z : State} {a0 : Array Value} (hw : ∀ d ∈ tables_1, d.before a0 Z = true) : (Jvm.Cond.code ({ cls := "java/util/Optional", name := "empty", desc := "()Ljava/util/Optional;" } : Jvm.MethodName) jdk_32_method_1_code (1 : Nat) (Option.some (Jvm.ClassFile.FieldType.object "java/util/Optional"))).before a0 Z = true := hw _ (List.mem_of_getElem? (i := 137) rfl)
theorem tw138 {Z : State} {a0 : Array Value} (hw : ∀ d ∈ tables_1, d.before a0 Z = true) : (Jvm.Cond.fieldLink "java/util/Optional" (1 : Nat) "java/util/Optional" "EMPTY" "Ljava/util/Optional;").before a0 Z = true := hw _ (List.mem_of_getElem? (i := 138) rfl)
theorem tw139 {Z : State} {a0 : Array Value} (hw : ∀ d ∈ tables_1, d.before a0 Z = true) : (Jvm.Cond.stringLink "java/lang/String" (7 : Nat) "").before a0 Z = true := hw _ (List.mem_of_getElem? (i := 139) rfl)
open Jvm.Ow (ArI ArR WP Con)
abbrev EL1 : List (String × Nat) := consts_1
abbrev bb : Bool := false
abbrev MC : String := "com/example/coretally/coretally/Metric"
abbrev MD : String := "Lcom/example/coretally/coretally/Metric;"
abbrev MA : String := "[Lcom/example/coretally/coretally/Metric;"
abbrev OC : String := "java/util/Optional"
def proc9 : List Int32 := [112, 114, 111, 99, 101, 115, 115, 111, 114]
def sock6 : List Int32 := [115, 111, 99, 107, 101, 116]
/-- the enum's constants, their labels, and the empty Optional -/
def MetOk (Z : State) (va P S lp dp ls ds eo : Nat) : Prop := Sta Z Z.heap MC "$VALUES" MA (.ref va) ∧ ArR Z Z.heap va (.object MC) [.ref P, .ref S] ∧ Exa Z Z.heap va MA ∧ Sta Z Z.heap MC "PROCESSOR" MD (.ref P) ∧ Sta Z Z.heap MC "SOCKET" MD (.ref S) ∧ Fld Z Z.heap P MC "label" "Ljava/lang/String;" (.ref lp) ∧ Fld Z Z.heap S MC "label" "Ljava/lang/String;" (.ref ls) ∧ Ow.StrL Z Z.heap lp dp proc9 ∧ Ow.StrL Z Z.heap ls ds sock6 ∧ Sta Z Z.heap OC "EMPTY" "Ljava/util/Optional;" (.ref eo) ∧ Exa Z Z.heap eo OC ∧ Fld Z Z.heap eo OC "value" "Ljava/lang/Object;" .null
def Glob (Z : State) (a0 : Array Value) : Prop := (∀ d ∈ tables_1, d.before a0 Z = true) ∧ (∃ cv : Int32, ¬ cv = 0 ∧ Sta Z Z.heap "java/lang/String" "COMPACT_STRINGS" "Z" (.int cv)) ∧ (∃ va P S lp dp ls ds eo : Nat, MetOk Z va P S lp dp ls ds eo) ∧ (∃ w : Value, Sta Z Z.heap "jdk/internal/util/Preconditions" "SIOOBE_FORMATTER" "Ljava/util/function/BiFunction;" w ∧ w.isRef = true)
theorem sioG {Z : State} {a0 : Array Value} (G : Glob Z a0) : ∃ w : Value, Sta Z Z.heap "jdk/internal/util/Preconditions" "SIOOBE_FORMATTER" "Ljava/util/function/BiFunction;" w ∧ w.isRef = true := G.2.2.2
theorem ewG {Z : State} {a0 : Array Value} (G : Glob Z a0) : EW Z a0 EL1 := EW.cons (tw133 G.1) (by decide) (EW.cons (tw0 G.1) (by decide) (EW.cons (tw139 G.1) (by decide) EW.nil))
theorem saG {Z : State} {a0 : Array Value} (G : Glob Z a0) : bb = false → ∀ a ∈ Bundle.stringAtoms, a.before a0 Z = true := fun _ a ha => G.1 a ((by decide +kernel : ∀ a ∈ Bundle.stringAtoms, a ∈ tables_1) a ha)
theorem bbG : bb = true → EL1 = [] := fun q => nomatch q
section StrL
variable {l : Launch} {Z : State} {a0 : Array Value}
abbrev rm0 : Room := { frames := 0, cells := 0, slots := 0, locals := 0 }
set_option maxHeartbeats 4000000 in
theorem con_CL (G : Glob Z a0) (x y : Nat) (xs : List Int32) (h : Heap) (W : List Nat) (X : ArI Z h x .char xs) (Y : ArI Z h y .byte (List.replicate xs.length 0)) (hy : y ∈ W) (hxy : x ≠ y) :
    Ow.Con l Z EL1 bb (⟨"java/lang/StringUTF16", "compress", "([CI[BII)I"⟩ : MethodName) jdk_52_method_21_code 7 (Option.some Jvm.ClassFile.FieldType.int) [] rm0 #[.ref x, .int 0, .ref y, .int 0, .int (Int32.ofNat xs.length)] h W
      (fun v h' W' => v = some (.int (Int32.ofNat (Ow.lead xs))) ∧ Keep h h' [y] ∧ (Ow.lead xs = xs.length → ArI Z h' y .byte (xs.map (nar .byte)))) := by
  refine Ow.Con.intro (a0 := a0) pn_0 (ewG G) (saG G) bbG [.val (.ref x), .val (.int 0), .val (.ref y), .val (.int 0), .val (.int (Int32.ofNat xs.length)), .unset, .unset] (by first | exact Ow.locals_all (by simp [Value.category]) rfl | rfl | (simp [argsToLocals, Value.category]; done)) ?_
  intro p e s m below meth c C hO
  have hN : xs.length < 2 ^ 31 := X.2
  have loop : ∀ (r i : Nat) (h1 : Heap) (o6 : Slot), i + r = xs.length → (∀ j, j < i → (xs.getD j 0).toInt < 256) → Keep h h1 [y] → ArI Z h1 y .byte ((xs.take i).map (nar .byte) ++ List.replicate r 0) → Ow.okS (some o6) = true →
      Ow.WP p l e rm0 s m #[.ref x, .int 0, .ref y, .int 0, .int (Int32.ofNat xs.length)] below meth c Z EL1 bb (fun v h' W' => v = some (.int (Int32.ofNat (Ow.lead xs))) ∧ Keep h h' [y] ∧ (Ow.lead xs = xs.length → ArI Z h' y .byte (xs.map (nar .byte))))
        3 [.val (.ref x), .val (.int (Int32.ofNat i)), .val (.ref y), .val (.int (Int32.ofNat i)), .val (.int (Int32.ofNat xs.length)), .val (.int (Int32.ofNat i)), o6] [] h1 W 0 0 := by
    intro r
    induction r with
    | zero =>
      intro i h1 o6 hi hq K V ho6
      obtain rfl : i = xs.length := by omega
      refine Ow.iload C dCL_3 (pc' := 5) rfl rfl ?_
      refine Ow.iload C dCL_5 (pc' := 7) rfl rfl ?_
      refine Ow.icmpY C 44 dCL_7 (XT.ii_ge_t (by rw [Ow.lt32]; omega)) (by decide) (by decide) ?_
      refine Ow.iload C dCL_44 (pc' := 46) rfl rfl ?_
      have hl : Ow.lead xs = xs.length := Ow.lead_all fun z hz => by
        obtain ⟨j, hj, rfl⟩ := List.mem_iff_getElem.mp hz
        have := hq j hj
        simpa [List.getD_eq_getElem?_getD, hj] using this
      refine Ow.retI C rfl dCL_46 (by first | decide | (dsimp only; omega) | (simp [Value.category]; done) | (simp [Value.category]; omega)) (by first | decide | (dsimp only; omega) | (simp [Value.category]; done) | (simp [Value.category]; omega)) [] (by first | (simp; done) | (intro x hx; simp [hx]; done)) ⟨by rw [hl], K, fun _ => by simpa using V⟩
    | succ r ih =>
      intro i h1 o6 hi hq K V ho6
      have hlt : i < xs.length := by omega
      have X1 := X.keep K (Ow.nin1 hxy)
      refine Ow.iload C dCL_3 (pc' := 5) rfl rfl ?_
      refine Ow.iload C dCL_5 (pc' := 7) rfl rfl ?_
      refine Ow.icmpN C dCL_7 (pc' := 10) rfl (XT.ii_ge_f (by rw [Ow.lt32, Ow.ofNat_toInt (by omega), Ow.ofNat_toInt hN]; omega)) ?_
      refine Ow.aloadN C dCL_10 (pc' := 11) rfl rfl rfl ?_
      refine Ow.iloadN C dCL_11 (pc' := 12) rfl rfl ?_
      refine Ow.caload C X1 (i := i) (Ow.ofNat_toInt (by omega)) hlt dCL_12 (pc' := 13) rfl ?_
      refine Ow.istore C dCL_13 (pc' := 15) rfl ho6 ?_
      dsimp only [List.set]
      refine Ow.iload C dCL_15 (pc' := 17) rfl rfl ?_
      refine Ow.sipush C (255 : Int32) dCL_17 (pc' := 20) rfl rfl ?_
      refine Ow.icmp C 26 23 dCL_20 (Ow.kLe _ _) (by decide) (by decide) rfl (fun hc => ?_) (fun hc => ?_)
      · have hc' : (xs.getD i 0).toInt < 256 := by rw [Ow.lt32] at hc; have : ((255 : Int32)).toInt = 255 := rfl; omega
        refine Ow.aloadN C dCL_26 (pc' := 27) rfl rfl rfl ?_
        refine Ow.iloadN C dCL_27 (pc' := 28) rfl rfl ?_
        refine Ow.iload C dCL_28 (pc' := 30) rfl rfl ?_
        refine Ow.i2b C dCL_30 (pc' := 31) rfl ?_
        refine Ow.bastore C V (i := i) (Ow.ofNat_toInt (by omega)) (by simp; omega) hy dCL_31 (pc' := 32) rfl (fun h2 K2 V2 => ?_)
        rw [show nar .byte (nar .byte (xs.getD i 0)) = nar .byte (xs.getD i 0) from Ow.i32_ext (by have h1 := Ow.nar_byte (nar .byte (xs.getD i 0)); have h2 := Ow.nar_byte (xs.getD i 0); omega)] at V2
        rw [Ow.take_step hlt] at V2
        refine Ow.iinc C (1 : Int32) dCL_32 (pc' := 35) rfl rfl rfl ?_
        dsimp only [List.set]
        refine Ow.iinc C (1 : Int32) dCL_35 (pc' := 38) rfl rfl rfl ?_
        dsimp only [List.set]
        refine Ow.iinc C (1 : Int32) dCL_38 (pc' := 41) rfl rfl rfl ?_
        dsimp only [List.set]
        refine Ow.goto C 3 dCL_41 (by decide) (by decide) ?_
        rw [← inc_ofNat]
        exact ih (i + 1) h2 _ (by omega) (fun j hj => by
          rcases Nat.lt_succ_iff_lt_or_eq.mp hj with q | rfl
          · exact hq j q
          · exact hc') (K.trans K2 (fun x hx => Or.inl hx)) V2 rfl
      · have hc' : ¬ (xs.getD i 0).toInt < 256 := by rw [Ow.lt32] at hc; have : ((255 : Int32)).toInt = 255 := rfl; omega
        refine Ow.iload C dCL_23 (pc' := 25) rfl rfl ?_
        have hl := Ow.lead_at hlt hq hc'
        refine Ow.retI C rfl dCL_25 (by first | decide | (dsimp only; omega) | (simp [Value.category]; done) | (simp [Value.category]; omega)) (by first | decide | (dsimp only; omega) | (simp [Value.category]; done) | (simp [Value.category]; omega)) [] (by first | (simp; done) | (intro x hx; simp [hx]; done)) ⟨by rw [hl], K, fun q => by omega⟩
  refine Ow.iconst C (0 : Int32) dCL_0 (pc' := 1) rfl rfl ?_
  refine Ow.istore C dCL_1 (pc' := 3) rfl rfl ?_
  dsimp only [List.set]
  exact loop xs.length 0 h .unset (by omega) (fun j hj => by omega) (Keep.refl _ _) (by simpa using Y) rfl
abbrev rmCM (B : Nat) : Room := { frames := 1, cells := 1, slots := B, locals := 18 }
set_option maxHeartbeats 4000000 in
theorem con_CM (G : Glob Z a0) (B : Nat) (x : Nat) (xs : List Int32) (h : Heap) (W : List Nat) (X : ArI Z h x .char xs) (hL : ∀ z ∈ xs, 0 ≤ z.toInt ∧ z.toInt < 256) (hB : xs.length ≤ B) (hB2 : B ≤ 4000) :
    Ow.Con l Z EL1 bb (⟨"java/lang/StringUTF16", "compress", "([CII)[B"⟩ : MethodName) jdk_52_method_16_code 6 (Option.some (Jvm.ClassFile.FieldType.array Jvm.ClassFile.FieldType.byte)) [] (rmCM B) #[.ref x, .int 0, .int (Int32.ofNat xs.length)] h W
      (fun v h' W' => ∃ y : Nat, v = some (.ref y) ∧ h.size ≤ y ∧ Keep h h' [] ∧ ArI Z h' y .byte (xs.map (nar .byte))) := by
  refine Ow.Con.intro (a0 := a0) pn_1 (ewG G) (saG G) bbG [.val (.ref x), .val (.int 0), .val (.int (Int32.ofNat xs.length)), .unset, .unset, .unset] (by first | exact Ow.locals_all (by simp [Value.category]) rfl | rfl | (simp [argsToLocals, Value.category]; done)) ?_
  intro p e s m below meth c C hO
  have hx : x < h.size := X.lt
  refine Ow.iloadN C dCM_0 (pc' := 1) rfl rfl ?_
  refine Ow.newarr C (ty := .byte) (cap := xs.length) rfl rfl (tw3 G.1) dCM_1 (pc' := 3) rfl rfl (by omega) (by dsimp only; omega) (by dsimp only; omega) (fun h1 a1 s1 z1 l1 E1 V1 => ?_)
  refine Ow.astoreN C dCM_3 (pc' := 4) rfl rfl rfl ?_
  dsimp only [List.set]
  refine Ow.aloadN C dCM_4 (pc' := 5) rfl rfl rfl ?_
  refine Ow.iloadN C dCM_5 (pc' := 6) rfl rfl ?_
  refine Ow.aloadN C dCM_6 (pc' := 7) rfl rfl rfl ?_
  refine Ow.iconst C (0 : Int32) dCM_7 (pc' := 8) rfl rfl ?_
  refine Ow.iloadN C dCM_8 (pc' := 9) rfl rfl ?_
  refine Ow.callS C (tw67 G.1) (tw68 G.1) (tw65 G.1) (tw69 G.1) (by decide) (con_CL G x a1 xs h1 (a1 :: W) (X.ext E1) V1 (by simp) (by omega)) (fun _ q => q) pd_0 rfl rfl rfl dCM_9 (pc' := 12) rfl (Wt := 0) (Nat.le_refl _) (by first | decide | (dsimp only; omega) | (simp [Value.category]; done) | (simp [Value.category]; omega)) (by first | decide | (dsimp only; omega) | (simp [Value.category]; done) | (simp [Value.category]; omega)) (by first | decide | (dsimp only; omega) | (simp [Value.category]; done) | (simp [Value.category]; omega)) (by first | decide | (dsimp only; omega) | (simp [Value.category]; done) | (simp [Value.category]; omega)) (fun v2 h2 W2 ⟨e2, K2, V2⟩ s2 => ?_)
  subst e2
  have hl : Ow.lead xs = xs.length := Ow.lead_all fun z hz => (hL z hz).2
  rw [hl]
  dsimp only [Option.toList, List.cons_append, List.nil_append]
  refine Ow.istore C dCM_12 (pc' := 14) rfl rfl ?_
  dsimp only [List.set]
  refine Ow.iload C dCM_14 (pc' := 16) rfl rfl ?_
  refine Ow.iloadN C dCM_16 (pc' := 17) rfl rfl ?_
  refine Ow.icmpY C 57 dCM_17 (XT.ii_eq_t rfl) (by decide) (by decide) ?_
  refine Ow.aloadN C dCM_57 (pc' := 58) rfl rfl rfl ?_
  refine Ow.retA C rfl rfl rfl dCM_58 (by first | decide | (dsimp only; omega) | (simp [Value.category]; done) | (simp [Value.category]; omega)) (by first | decide | (dsimp only; omega) | (simp [Value.category]; done) | (simp [Value.category]; omega)) [] (by first | (simp; done) | (intro x hx; simp [hx]; done)) ⟨a1, rfl, by omega, (Ow.Keep.z E1).trans K2 (fun z hz => Or.inr (by rw [List.mem_singleton.mp hz]; omega)), V2 hl⟩
theorem con_CF (G : Glob Z a0) (y : Nat) (ty : FieldType) (ys : List Int32) (N : Nat) (h : Heap) (W : List Nat) (Y : ArI Z h y ty ys) :
    Ow.Con l Z EL1 bb (⟨"java/lang/StringUTF16", "coderFromArrayLen", "([BI)B"⟩ : MethodName) jdk_52_method_15_code 2 (Option.some Jvm.ClassFile.FieldType.byte) [] rm0 #[.ref y, .int (Int32.ofNat N)] h W
      (fun v h' W' => v = some (.int (nar .byte (nar .byte (((Int32.ofNat N - Int32.ofNat ys.length).toUInt32 >>> ((31 : Int32) &&& 31).toUInt32).toInt32)))) ∧ h' = h) := by
  refine Ow.Con.intro (a0 := a0) pn_2 (ewG G) (saG G) bbG [.val (.ref y), .val (.int (Int32.ofNat N))] (by first | exact Ow.locals_all (by simp [Value.category]) rfl | rfl | (simp [argsToLocals, Value.category]; done)) ?_
  intro p e s m below meth c C hO
  refine Ow.iloadN C dCF_0 (pc' := 1) rfl rfl ?_
  refine Ow.aloadN C dCF_1 (pc' := 2) rfl rfl rfl ?_
  refine Ow.arrlen C Y dCF_2 (pc' := 3) rfl ?_
  refine Ow.isub C dCF_3 (pc' := 4) rfl ?_
  refine Ow.bipush C (31 : Int32) dCF_4 (pc' := 6) rfl rfl ?_
  refine Ow.iushr C dCF_6 (pc' := 7) rfl ?_
  refine Ow.i2b C dCF_7 (pc' := 8) rfl ?_
  refine Ow.retN C (t := .byte) rfl (by simp) dCF_8 (by first | decide | (dsimp only; omega) | (simp [Value.category]; done) | (simp [Value.category]; omega)) (by first | decide | (dsimp only; omega) | (simp [Value.category]; done) | (simp [Value.category]; omega)) [] (by first | (simp; done) | (intro x hx; simp [hx]; done)) ⟨rfl, rfl⟩
theorem cf_lat (N : Nat) : nar .byte (nar .byte (((Int32.ofNat N - Int32.ofNat N).toUInt32 >>> ((31 : Int32) &&& 31).toUInt32).toInt32)) = 0 := by
  rw [Int32.sub_self]; decide
abbrev rmI1 (B : Nat) : Room := { frames := 2, cells := 1, slots := B, locals := 35 }
set_option maxHeartbeats 4000000 in
theorem con_I1 (G : Glob Z a0) (B : Nat) (a x : Nat) (xs : List Int32) (h : Heap) (W : List Nat) (ov oc : Value) (A : Exa Z h a "java/lang/String") (Fv : Fld Z h a "java/lang/String" "value" "[B" ov) (Fc : Fld Z h a "java/lang/String" "coder" "B" oc) (ha : a ∈ W) (X : ArI Z h x .char xs) (h0 : 0 < xs.length) (hL : ∀ z ∈ xs, 0 ≤ z.toInt ∧ z.toInt < 256) (hB : xs.length ≤ B) (hB2 : B ≤ 4000) :
    Ow.Con l Z EL1 bb (⟨"java/lang/String", "<init>", "([CIILjava/lang/Void;)V"⟩ : MethodName) jdk_42_method_149_code 6 (Option.none : Option Jvm.ClassFile.FieldType) [] (rmI1 B) #[.ref a, .ref x, .int 0, .int (Int32.ofNat xs.length), .null] h W
      (fun v h' W' => v = none ∧ ∃ d : Nat, Ow.StrL Z h' a d xs ∧ Keep h h' [a] ∧ h.size ≤ d) := by
  obtain ⟨cv, hcv, hst⟩ := G.2.1
  refine Ow.Con.intro (a0 := a0) pn_3 (ewG G) (saG G) bbG [.val (.ref a), .val (.ref x), .val (.int 0), .val (.int (Int32.ofNat xs.length)), .val .null, .unset] (by first | exact Ow.locals_all (by simp [Value.category]) rfl | rfl | (simp [argsToLocals, Value.category]; done)) ?_
  intro p e s m below meth c C hO
  have hN : xs.length < 2 ^ 31 := X.2
  have haL : a < h.size := A.lt
  refine Ow.aloadN C dI1_0 (pc' := 1) rfl rfl rfl ?_
  refine Ow.initO C (tw60 G.1) (tw61 G.1) (tw62 G.1) dI1_1 (pc' := 4) rfl rfl (by first | decide | (dsimp only; omega) | (simp [Value.category]; done) | (simp [Value.category]; omega)) (by first | decide | (dsimp only; omega) | (simp [Value.category]; done) | (simp [Value.category]; omega)) ?_
  refine Ow.iloadN C dI1_4 (pc' := 5) rfl rfl ?_
  refine Ow.ifCY C 27 dI1_5 (XT.i0_ne_t (fun q => by have := Ow.ofNat_toInt hN; rw [q] at this; have e0 : ((0 : Int32)).toInt = 0 := rfl; omega)) (by decide) (by decide) ?_
  refine Ow.getS C (tw19 G.1) hst dI1_27 (pc' := 30) rfl ?_
  refine Ow.ifCN C dI1_30 (pc' := 33) rfl (XT.i0_eq_f hcv) ?_
  refine Ow.aloadN C dI1_33 (pc' := 34) rfl rfl rfl ?_
  refine Ow.iloadN C dI1_34 (pc' := 35) rfl rfl ?_
  refine Ow.iloadN C dI1_35 (pc' := 36) rfl rfl ?_
  refine Ow.callS C (tw63 G.1) (tw64 G.1) (tw65 G.1) (tw66 G.1) (by decide) (con_CM G B x xs h W X hL hB hB2) (fun _ q => q) pd_1 rfl rfl rfl dI1_36 (pc' := 39) rfl (Wt := 0) (Nat.le_refl _) (by first | decide | (dsimp only; omega) | (simp [Value.category]; done) | (simp [Value.category]; omega)) (by first | decide | (dsimp only; omega) | (simp [Value.category]; done) | (simp [Value.category]; omega)) (by first | decide | (dsimp only; omega) | (simp [Value.category]; done) | (simp [Value.category]; omega)) (by first | decide | (dsimp only; omega) | (simp [Value.category]; done) | (simp [Value.category]; omega)) (fun v2 h2 W2 ⟨d, e2, hd, K2, V2⟩ s2 => ?_)
  subst e2
  dsimp only [Option.toList, List.cons_append, List.nil_append]
  refine Ow.astore C dI1_39 (pc' := 41) rfl rfl rfl ?_
  dsimp only [List.set]
  refine Ow.aloadN C dI1_41 (pc' := 42) rfl rfl rfl ?_
  refine Ow.aload C dI1_42 (pc' := 44) rfl rfl rfl ?_
  refine Ow.iloadN C dI1_44 (pc' := 45) rfl rfl ?_
  refine Ow.callS C (tw70 G.1) (tw71 G.1) (tw65 G.1) (tw72 G.1) (by decide) (con_CF G d .byte (xs.map (nar .byte)) xs.length h2 W V2) (fun _ q => q) pd_2 rfl rfl rfl dI1_45 (pc' := 48) rfl (Wt := 1) (Nat.le_refl _) (by first | decide | (dsimp only; omega) | (simp [Value.category]; done) | (simp [Value.category]; omega)) (by first | decide | (dsimp only; omega) | (simp [Value.category]; done) | (simp [Value.category]; omega)) (by first | decide | (dsimp only; omega) | (simp [Value.category]; done) | (simp [Value.category]; omega)) (by first | decide | (dsimp only; omega) | (simp [Value.category]; done) | (simp [Value.category]; omega)) (fun v3 h3 W3 ⟨e3, e3'⟩ s3 => ?_)
  subst e3 e3'
  rw [List.length_map, cf_lat]
  dsimp only [Option.toList, List.cons_append, List.nil_append]
  have A2 := A.keep K2
  have Fc2 := Fc.keep K2 nin0
  have Fv2 := Fv.keep K2 nin0
  refine Ow.putF C (tw20 G.1) Fc2 A2 (Or.inr ⟨(tw5 G.1), rfl, rfl⟩) (tw2 G.1) (ty := .byte) (by decide) rfl rfl (by first | assumption | (simp; done) | (simp [*]; done)) dI1_48 (pc' := 51) rfl (fun h4 w4 K4 Fc4 => ?_)
  have Fv4 := Fv2.other w4 (Or.inr (slot_ne (Or.inr (tw4 G.1)) (Or.inr (tw5 G.1)) (by decide) (t := .array .byte) (t' := .byte) (by decide) (by decide)))
  have A4 := A2.keep K4
  have V4 := V2.keep K4 (Ow.nin1 (by omega))
  refine Ow.aloadN C dI1_51 (pc' := 52) rfl rfl rfl ?_
  refine Ow.aload C dI1_52 (pc' := 54) rfl rfl rfl ?_
  refine Ow.putF C (tw13 G.1) Fv4 A4 (Or.inr ⟨(tw4 G.1), rfl, rfl⟩) (tw2 G.1) (ty := (.array .byte)) (by decide) rfl rfl (by first | assumption | (simp; done) | (simp [*]; done)) dI1_54 (pc' := 57) rfl (fun h5 w5 K5 Fv5 => ?_)
  have Fc5 := Fc4.other w5 (Or.inr (slot_ne (Or.inr (tw5 G.1)) (Or.inr (tw4 G.1)) (by decide) (t := .byte) (t' := .array .byte) (by decide) (by decide)))
  have V5 := V4.keep K5 (Ow.nin1 (by omega))
  refine Ow.retV C rfl dI1_57 (by first | decide | (dsimp only; omega) | (simp [Value.category]; done) | (simp [Value.category]; omega)) (by first | decide | (dsimp only; omega) | (simp [Value.category]; done) | (simp [Value.category]; omega)) [] (by first | (simp; done) | (intro x hx; simp [hx]; done)) ⟨rfl, d, ⟨A4.keep K5, Fv5, Fc5, V5, hL⟩, (((Keep.refl h [a]).trans K2 (fun z hz => by cases hz)).trans K4 (fun z hz => Or.inl hz)).trans K5 (fun z hz => Or.inl hz), hd⟩
abbrev rmI0 (B : Nat) : Room := { frames := 3, cells := 1, slots := B, locals := 52 }
set_option maxHeartbeats 4000000 in
theorem con_I0 (G : Glob Z a0) (B : Nat) (a x : Nat) (xs : List Int32) (h : Heap) (W : List Nat) (ov oc : Value) (A : Exa Z h a "java/lang/String") (Fv : Fld Z h a "java/lang/String" "value" "[B" ov) (Fc : Fld Z h a "java/lang/String" "coder" "B" oc) (ha : a ∈ W) (X : ArI Z h x .char xs) (h0 : 0 < xs.length) (hL : ∀ z ∈ xs, 0 ≤ z.toInt ∧ z.toInt < 256) (hB : xs.length ≤ B) (hB2 : B ≤ 4000) :
    Ow.Con l Z EL1 bb (⟨"java/lang/String", "<init>", "([C)V"⟩ : MethodName) jdk_42_method_3_code 2 (Option.none : Option Jvm.ClassFile.FieldType) [] (rmI0 B) #[.ref a, .ref x] h W
      (fun v h' W' => v = none ∧ ∃ d : Nat, Ow.StrL Z h' a d xs ∧ Keep h h' [a] ∧ h.size ≤ d) := by
  refine Ow.Con.intro (a0 := a0) pn_4 (ewG G) (saG G) bbG [.val (.ref a), .val (.ref x)] (by first | exact Ow.locals_all (by simp [Value.category]) rfl | rfl | (simp [argsToLocals, Value.category]; done)) ?_
  intro p e s m below meth c C hO
  refine Ow.aloadN C dI0_0 (pc' := 1) rfl rfl rfl ?_
  refine Ow.aloadN C dI0_1 (pc' := 2) rfl rfl rfl ?_
  refine Ow.iconst C (0 : Int32) dI0_2 (pc' := 3) rfl rfl ?_
  refine Ow.aloadN C dI0_3 (pc' := 4) rfl rfl rfl ?_
  refine Ow.arrlen C X dI0_4 (pc' := 5) rfl ?_
  refine Ow.aconstNull C dI0_5 (pc' := 6) rfl ?_
  refine Ow.callI C rfl (tw56 G.1) (tw57 G.1) (tw1 G.1) (tw59 G.1) (by decide) (con_I1 G B a x xs h W ov oc A Fv Fc ha X h0 hL hB hB2) (fun _ q => q) pd_3 rfl rfl rfl dI0_6 (pc' := 9) rfl (Wt := 0) (Nat.le_refl _) (by first | decide | (dsimp only; omega) | (simp [Value.category]; done) | (simp [Value.category]; omega)) (by first | decide | (dsimp only; omega) | (simp [Value.category]; done) | (simp [Value.category]; omega)) (by first | decide | (dsimp only; omega) | (simp [Value.category]; done) | (simp [Value.category]; omega)) (by first | decide | (dsimp only; omega) | (simp [Value.category]; done) | (simp [Value.category]; omega)) (fun v2 h2 W2 ⟨e2, d, S2, K2, hd⟩ s2 => ?_)
  subst e2
  dsimp only [Option.toList, List.cons_append, List.nil_append]
  refine Ow.retV C rfl dI0_9 (by first | decide | (dsimp only; omega) | (simp [Value.category]; done) | (simp [Value.category]; omega)) (by first | decide | (dsimp only; omega) | (simp [Value.category]; done) | (simp [Value.category]; omega)) [] (by first | (simp; done) | (intro x hx; simp [hx]; done)) ⟨rfl, d, S2, K2, hd⟩
end StrL

section StrE0
variable {l : Launch} {Z : State} {a0 : Array Value}
abbrev rmI1e : Room := { frames := 1, cells := 4, slots := 8, locals := 12 }
set_option maxHeartbeats 4000000 in
theorem con_I1e (G : Glob Z a0) (a x : Nat) (h : Heap) (W : List Nat) (ov oc : Value) (A : Exa Z h a "java/lang/String") (Fv : Fld Z h a "java/lang/String" "value" "[B" ov) (Fc : Fld Z h a "java/lang/String" "coder" "B" oc) (ha : a ∈ W) :
    Ow.Con l Z EL1 bb (⟨"java/lang/String", "<init>", "([CIILjava/lang/Void;)V"⟩ : MethodName) jdk_42_method_149_code 6 (Option.none : Option Jvm.ClassFile.FieldType) [] rmI1e #[.ref a, .ref x, .int 0, .int 0, .null] h W
      (fun v h' W' => v = none ∧ ∃ d : Nat, Ow.StrL Z h' a d [] ∧ Keep h h' [a] ∧ True) := by
  refine Ow.Con.intro (a0 := a0) pn_3 (ewG G) (saG G) bbG [.val (.ref a), .val (.ref x), .val (.int 0), .val (.int 0), .val .null, .unset] (by first | exact Ow.locals_all (by simp [Value.category]) rfl | rfl | (simp [argsToLocals, Value.category]; done)) ?_
  intro p e s m below meth c C hO
  refine Ow.aloadN C dI1_0 (pc' := 1) rfl rfl rfl ?_
  refine Ow.initO C (tw60 G.1) (tw61 G.1) (tw62 G.1) dI1_1 (pc' := 4) rfl rfl (by first | decide | (dsimp only; omega) | (simp [Value.category]; done) | (simp [Value.category]; omega)) (by first | decide | (dsimp only; omega) | (simp [Value.category]; done) | (simp [Value.category]; omega)) ?_
  refine Ow.iloadN C dI1_4 (pc' := 5) rfl rfl ?_
  refine Ow.ifCN C dI1_5 (pc' := 8) rfl (XT.i0_ne_f rfl) ?_
  refine Ow.aloadN C dI1_8 (pc' := 9) rfl rfl rfl ?_
  refine Ow.ldcS C rfl (N := 0) (xs := []) (tw139 G.1) (by decide) (by decide) (by decide) dI1_9 (pc' := 11) rfl (by decide) (by decide) (by first | decide | (dsimp only; omega) | (simp [Value.category]; done) | (simp [Value.category]; omega)) (by first | decide | (dsimp only; omega) | (simp [Value.category]; done) | (simp [Value.category]; omega)) (fun h1 b1 d1 E1 B1 Bc1 Bv1 D1 n1 => ?_)
  have K1 := Ow.Keep.z E1
  refine Ow.getF C (tw13 G.1) Bv1 dI1_11 (pc' := 14) rfl ?_
  refine Ow.putF C (tw13 G.1) (Fv.ext E1) (A.ext E1) (Or.inr ⟨(tw4 G.1), rfl, rfl⟩) (tw2 G.1) (ty := (.array .byte)) (by decide) rfl rfl (by first | assumption | (simp; done) | (simp [*]; done)) dI1_14 (pc' := 17) rfl (fun h2 w2 K2 Fv2 => ?_)
  have Fc2 := (Fc.ext E1).other w2 (Or.inr (slot_ne (Or.inr (tw5 G.1)) (Or.inr (tw4 G.1)) (by decide) (t := .byte) (t' := .array .byte) (by decide) (by decide)))
  have A2 := (A.ext E1).keep K2
  have D2 := D1.keep K2 (Ow.nin1 (fun q => (n1 a ha).2 q.symm))
  refine Ow.aloadN C dI1_17 (pc' := 18) rfl rfl rfl ?_
  refine Ow.ldcS C rfl (N := 0) (xs := []) (tw139 G.1) (by decide) (by decide) (by decide) dI1_18 (pc' := 20) rfl (by decide) (by decide) (by first | decide | (dsimp only; omega) | (simp [Value.category]; done) | (simp [Value.category]; omega)) (by first | decide | (dsimp only; omega) | (simp [Value.category]; done) | (simp [Value.category]; omega)) (fun h3 b3 d3 E3 B3 Bc3 Bv3 D3 n3 => ?_)
  have K3 := Ow.Keep.z E3
  refine Ow.getF C (tw20 G.1) Bc3 dI1_20 (pc' := 23) rfl ?_
  refine Ow.putF C (tw20 G.1) (Fc2.ext E3) (A2.ext E3) (Or.inr ⟨(tw5 G.1), rfl, rfl⟩) (tw2 G.1) (ty := .byte) (by decide) rfl rfl (by first | assumption | (simp; done) | (simp [*]; done)) dI1_23 (pc' := 26) rfl (fun h4 w4 K4 Fc4 => ?_)
  have Fv4 := (Fv2.ext E3).other w4 (Or.inr (slot_ne (Or.inr (tw4 G.1)) (Or.inr (tw5 G.1)) (by decide) (t := .array .byte) (t' := .byte) (by decide) (by decide)))
  have D4 := (D2.ext E3).keep K4 (Ow.nin1 (fun q => (n1 a ha).2 q.symm))
  refine Ow.retV C rfl dI1_26 (by first | decide | (dsimp only; omega) | (simp [Value.category]; done) | (simp [Value.category]; omega)) (by first | decide | (dsimp only; omega) | (simp [Value.category]; done) | (simp [Value.category]; omega)) [] (by first | (simp; done) | (intro x hx; simp [hx]; done)) ⟨rfl, d1, ⟨(A2.ext E3).keep K4, Fv4, Fc4, D4, fun _ q => nomatch q⟩, (((Keep.refl h [a]).ext E1).trans K2 (fun _ q => Or.inl q)).ext E3 |>.trans K4 (fun _ q => Or.inl q), trivial⟩
abbrev rmI0e : Room := { frames := 2, cells := 4, slots := 8, locals := 29 }
set_option maxHeartbeats 4000000 in
theorem con_I0e (G : Glob Z a0) (a x : Nat) (h : Heap) (W : List Nat) (ov oc : Value) (A : Exa Z h a "java/lang/String") (Fv : Fld Z h a "java/lang/String" "value" "[B" ov) (Fc : Fld Z h a "java/lang/String" "coder" "B" oc) (ha : a ∈ W) (X : ArI Z h x .char []) :
    Ow.Con l Z EL1 bb (⟨"java/lang/String", "<init>", "([C)V"⟩ : MethodName) jdk_42_method_3_code 2 (Option.none : Option Jvm.ClassFile.FieldType) [] rmI0e #[.ref a, .ref x] h W
      (fun v h' W' => v = none ∧ ∃ d : Nat, Ow.StrL Z h' a d [] ∧ Keep h h' [a] ∧ True) := by
  refine Ow.Con.intro (a0 := a0) pn_4 (ewG G) (saG G) bbG [.val (.ref a), .val (.ref x)] (by first | exact Ow.locals_all (by simp [Value.category]) rfl | rfl | (simp [argsToLocals, Value.category]; done)) ?_
  intro p e s m below meth c C hO
  refine Ow.aloadN C dI0_0 (pc' := 1) rfl rfl rfl ?_
  refine Ow.aloadN C dI0_1 (pc' := 2) rfl rfl rfl ?_
  refine Ow.iconst C (0 : Int32) dI0_2 (pc' := 3) rfl rfl ?_
  refine Ow.aloadN C dI0_3 (pc' := 4) rfl rfl rfl ?_
  refine Ow.arrlen C X dI0_4 (pc' := 5) rfl ?_
  refine Ow.aconstNull C dI0_5 (pc' := 6) rfl ?_
  refine Ow.callI C rfl (tw56 G.1) (tw57 G.1) (tw1 G.1) (tw59 G.1) (by decide) (con_I1e G a x h W ov oc A Fv Fc ha) (fun _ q => q) pd_3 rfl rfl rfl dI0_6 (pc' := 9) rfl (Wt := 0) (Nat.le_refl _) (by first | decide | (dsimp only; omega) | (simp [Value.category]; done) | (simp [Value.category]; omega)) (by first | decide | (dsimp only; omega) | (simp [Value.category]; done) | (simp [Value.category]; omega)) (by first | decide | (dsimp only; omega) | (simp [Value.category]; done) | (simp [Value.category]; omega)) (by first | decide | (dsimp only; omega) | (simp [Value.category]; done) | (simp [Value.category]; omega)) (fun v2 h2 W2 ⟨e2, d, S2, K2, hd⟩ s2 => ?_)
  subst e2
  dsimp only [Option.toList, List.cons_append, List.nil_append]
  refine Ow.retV C rfl dI0_9 (by first | decide | (dsimp only; omega) | (simp [Value.category]; done) | (simp [Value.category]; omega)) (by first | decide | (dsimp only; omega) | (simp [Value.category]; done) | (simp [Value.category]; omega)) [] (by first | (simp; done) | (intro x hx; simp [hx]; done)) ⟨rfl, d, S2, K2, trivial⟩
end StrE0

section StrCO
variable {l : Launch} {Z : State} {a0 : Array Value}
theorem con_CO (G : Glob Z a0) (a : Nat) (cd : Int32) (h : Heap) (W : List Nat) (F : Fld Z h a "java/lang/String" "coder" "B" (.int cd)) :
    Ow.Con l Z EL1 bb (⟨"java/lang/String", "coder", "()B"⟩ : MethodName) jdk_42_method_152_code 1 (Option.some Jvm.ClassFile.FieldType.byte) [] rm0 #[.ref a] h W (fun v h' W' => v = some (.int (nar .byte cd)) ∧ h' = h) := by
  obtain ⟨cv, hcv, hst⟩ := G.2.1
  refine Ow.Con.intro (a0 := a0) pn_5 (ewG G) (saG G) bbG [.val (.ref a)] (by first | exact Ow.locals_all (by simp [Value.category]) rfl | rfl | (simp [argsToLocals, Value.category]; done)) ?_
  intro p e s m below meth c C hO
  refine Ow.getS C (tw19 G.1) hst dCO_0 (pc' := 3) rfl ?_
  refine Ow.ifCN C dCO_3 (pc' := 6) rfl (XT.i0_eq_f hcv) ?_
  refine Ow.aloadN C dCO_6 (pc' := 7) rfl rfl rfl ?_
  refine Ow.getF C (tw20 G.1) F dCO_7 (pc' := 10) rfl ?_
  refine Ow.goto C 14 dCO_10 (by decide) (by decide) ?_
  refine Ow.retN C (t := .byte) rfl (by simp) dCO_14 (by first | decide | (dsimp only; omega) | (simp [Value.category]; done) | (simp [Value.category]; omega)) (by first | decide | (dsimp only; omega) | (simp [Value.category]; done) | (simp [Value.category]; omega)) [] (by first | (simp; done) | (intro x hx; simp [hx]; done)) ⟨rfl, rfl⟩
theorem shr0 (x : Int32) : x >>> (nar .byte 0 &&& 31) = x := by
  apply Ow.i32_ext
  have := c_ishr x (nar .byte 0) 0 (by decide)
  rw [this]; simp
abbrev rmLN : Room := { frames := 1, cells := 0, slots := 0, locals := 13 }
theorem con_LN (G : Glob Z a0) (a d : Nat) (cs : List Int32) (h : Heap) (W : List Nat) (S : Ow.StrL Z h a d cs) :
    Ow.Con l Z EL1 bb (⟨"java/lang/String", "length", "()I"⟩ : MethodName) jdk_42_method_54_code 1 (Option.some Jvm.ClassFile.FieldType.int) [] rmLN #[.ref a] h W (fun v h' W' => v = some (.int (Int32.ofNat cs.length)) ∧ h' = h) := by
  refine Ow.Con.intro (a0 := a0) pn_6 (ewG G) (saG G) bbG [.val (.ref a)] (by first | exact Ow.locals_all (by simp [Value.category]) rfl | rfl | (simp [argsToLocals, Value.category]; done)) ?_
  intro p e s m below meth c C hO
  refine Ow.aloadN C dLN_0 (pc' := 1) rfl rfl rfl ?_
  refine Ow.getF C (tw13 G.1) S.2.1 dLN_1 (pc' := 4) rfl ?_
  refine Ow.arrlen C S.2.2.2.1 dLN_4 (pc' := 5) rfl ?_
  refine Ow.aloadN C dLN_5 (pc' := 6) rfl rfl rfl ?_
  refine Ow.callV C (y := (⟨"java/lang/String", "coder", "()B"⟩ : MethodName)) (z := (⟨"java/lang/String", "coder", "()B"⟩ : MethodName)) (tw14 G.1) (tw15 G.1) (tw17 G.1) (tw17 G.1) (tw16 G.1) (tw1 G.1) (tw18 G.1) (by decide) S.1 (con_CO G a 0 h W S.2.2.1) (fun _ q => q) pd_4 rfl rfl rfl dLN_6 (pc' := 9) rfl (Wt := 1) (Nat.le_refl _) (by first | decide | (dsimp only; omega) | (simp [Value.category]; done) | (simp [Value.category]; omega)) (by first | decide | (dsimp only; omega) | (simp [Value.category]; done) | (simp [Value.category]; omega)) (by first | decide | (dsimp only; omega) | (simp [Value.category]; done) | (simp [Value.category]; omega)) (by first | decide | (dsimp only; omega) | (simp [Value.category]; done) | (simp [Value.category]; omega)) (fun v1 h1 W1 ⟨e1, e1'⟩ s1 => ?_)
  subst e1 e1'
  dsimp only [Option.toList, List.cons_append, List.nil_append]
  refine Ow.ishr C dLN_9 (pc' := 10) rfl ?_
  rw [shr0]
  refine Ow.retI C rfl dLN_10 (by first | decide | (dsimp only; omega) | (simp [Value.category]; done) | (simp [Value.category]; omega)) (by first | decide | (dsimp only; omega) | (simp [Value.category]; done) | (simp [Value.category]; omega)) [] (by first | (simp; done) | (intro x hx; simp [hx]; done)) ⟨by rw [List.length_map], rfl⟩
end StrCO

section StrIL
variable {l : Launch} {Z : State} {a0 : Array Value}
theorem con_IL (G : Glob Z a0) (a : Nat) (cd : Int32) (h : Heap) (W : List Nat) (F : Fld Z h a "java/lang/String" "coder" "B" (.int cd)) :
    Ow.Con l Z EL1 bb (⟨"java/lang/String", "isLatin1", "()Z"⟩ : MethodName) jdk_42_method_154_code 1 (Option.some Jvm.ClassFile.FieldType.boolean) [] rm0 #[.ref a] h W (fun v h' W' => v = some (.int (if cd = 0 then 1 else 0)) ∧ h' = h) := by
  obtain ⟨cv, hcv, hst⟩ := G.2.1
  refine Ow.Con.intro (a0 := a0) pn_7 (ewG G) (saG G) bbG [.val (.ref a)] (by first | exact Ow.locals_all (by simp [Value.category]) rfl | rfl | (simp [argsToLocals, Value.category]; done)) ?_
  intro p e s m below meth c C hO
  refine Ow.getS C (tw19 G.1) hst dIL_0 (pc' := 3) rfl ?_
  refine Ow.ifCN C dIL_3 (pc' := 6) rfl (XT.i0_eq_f hcv) ?_
  refine Ow.aloadN C dIL_6 (pc' := 7) rfl rfl rfl ?_
  refine Ow.getF C (tw20 G.1) F dIL_7 (pc' := 10) rfl ?_
  refine Ow.ifC C 17 13 dIL_10 (Ow.hNe _) (by decide) (by decide) rfl (fun hc => ?_) (fun hc => ?_)
  · refine Ow.iconst C (0 : Int32) dIL_17 (pc' := 18) rfl rfl ?_
    refine Ow.retN C (t := .boolean) rfl (by simp) dIL_18 (by first | decide | (dsimp only; omega) | (simp [Value.category]; done) | (simp [Value.category]; omega)) (by first | decide | (dsimp only; omega) | (simp [Value.category]; done) | (simp [Value.category]; omega)) [] (by first | (simp; done) | (intro x hx; simp [hx]; done)) ⟨by rw [if_neg hc]; rfl, rfl⟩
  · refine Ow.iconst C (1 : Int32) dIL_13 (pc' := 14) rfl rfl ?_
    refine Ow.goto C 18 dIL_14 (by decide) (by decide) ?_
    refine Ow.retN C (t := .boolean) rfl (by simp) dIL_18 (by first | decide | (dsimp only; omega) | (simp [Value.category]; done) | (simp [Value.category]; omega)) (by first | decide | (dsimp only; omega) | (simp [Value.category]; done) | (simp [Value.category]; omega)) [] (by first | (simp; done) | (intro x hx; simp [hx]; done)) ⟨by rw [if_pos (Decidable.not_not.mp hc)]; rfl, rfl⟩
end StrIL

section StrCh
variable {l : Launch} {Z : State} {a0 : Array Value}
theorem con_PI (G : Glob Z a0) (i n : Nat) (hin : i < n) (hn : n < 2 ^ 31) (w : Value) (hw : w.isRef = true) (h : Heap) (W : List Nat) :
    Ow.Con l Z EL1 bb (⟨"jdk/internal/util/Preconditions", "checkIndex", "(IILjava/util/function/BiFunction;)I"⟩ : MethodName) jdk_41_method_11_code 3 (Option.some Jvm.ClassFile.FieldType.int) [] rm0 #[.int (Int32.ofNat i), .int (Int32.ofNat n), w] h W (fun v h' W' => (∃ x, v = some (.int x)) ∧ h' = h) := by
  refine Ow.Con.intro (a0 := a0) pn_8 (ewG G) (saG G) bbG [.val (.int (Int32.ofNat i)), .val (.int (Int32.ofNat n)), .val w] (by first | exact Ow.locals_all (by simp [Ow.cat_ref, Ow.cat_int, Ow.cat_null, XT.cat1 hw]) rfl | rfl | (simp [argsToLocals, Value.category]; done) | simp [argsToLocals, Ow.cat_ref, Ow.cat_int, Ow.cat_null, XT.cat1 hw]) ?_
  intro p e s m below meth c C hO
  refine Ow.iloadN C dPI_0 (pc' := 1) rfl rfl ?_
  refine Ow.ifCN C dPI_1 (pc' := 4) rfl (XT.i0_lt_f (by rw [Ow.lt32, Ow.ofNat_toInt (by omega), Ow.zero_toInt]; omega)) ?_
  refine Ow.iloadN C dPI_4 (pc' := 5) rfl rfl ?_
  refine Ow.iloadN C dPI_5 (pc' := 6) rfl rfl ?_
  refine Ow.icmpY C 16 dPI_6 (XT.ii_lt_t (by rw [Ow.lt32, Ow.ofNat_toInt (by omega), Ow.ofNat_toInt (by omega)]; omega)) (by decide) (by decide) ?_
  refine Ow.iloadN C dPI_16 (pc' := 17) rfl rfl ?_
  refine Ow.retI C rfl dPI_17 (by first | decide | (dsimp only; omega) | (simp [Value.category]; done) | (simp [Value.category]; omega)) (by first | decide | (dsimp only; omega) | (simp [Value.category]; done) | (simp [Value.category]; omega)) [] (by first | (simp; done) | (intro x hx; simp [hx]; done)) ⟨⟨_, rfl⟩, rfl⟩
abbrev rmCI : Room := { frames := 1, cells := 0, slots := 0, locals := 14 }
theorem con_CI (G : Glob Z a0) (i n : Nat) (hin : i < n) (hn : n < 2 ^ 31) (h : Heap) (W : List Nat) :
    Ow.Con l Z EL1 bb (⟨"java/lang/String", "checkIndex", "(II)V"⟩ : MethodName) jdk_42_method_155_code 2 (Option.none : Option Jvm.ClassFile.FieldType) [] rmCI #[.int (Int32.ofNat i), .int (Int32.ofNat n)] h W (fun v h' W' => v = none ∧ h' = h) := by
  obtain ⟨w, Sw, hw⟩ := sioG G
  refine Ow.Con.intro (a0 := a0) pn_9 (ewG G) (saG G) bbG [.val (.int (Int32.ofNat i)), .val (.int (Int32.ofNat n))] (by first | exact Ow.locals_all (by simp [Value.category]) rfl | rfl | (simp [argsToLocals, Value.category]; done)) ?_
  intro p e s m below meth c C hO
  refine Ow.iloadN C dCI_0 (pc' := 1) rfl rfl ?_
  refine Ow.iloadN C dCI_1 (pc' := 2) rfl rfl ?_
  refine Ow.getS C (tw43 G.1) Sw dCI_2 (pc' := 5) rfl ?_
  refine Ow.callS C (tw45 G.1) (tw46 G.1) (tw44 G.1) (tw47 G.1) (by decide) (con_PI G i n hin hn w hw h W) (fun _ q => q) pd_5 rfl rfl rfl dCI_5 (pc' := 8) rfl (Wt := 0) (Nat.le_refl _) (by first | decide | (dsimp only; omega) | (simp [Value.category]; done) | (simp [Value.category]; omega)) (by first | decide | (dsimp only; omega) | (simp [Value.category]; done) | (simp [Value.category]; omega)) (by first | decide | (dsimp only; omega) | (simp [Value.category]; done) | (simp [Value.category]; omega)) (by first | decide | (dsimp only; omega) | (simp [Value.category]; done) | (simp [Value.category]; omega)) (fun v1 h1 W1 ⟨⟨x1, e1⟩, e1'⟩ s1 => ?_)
  subst e1 e1'
  dsimp only [Option.toList, List.cons_append, List.nil_append]
  refine Ow.pop C dCI_8 (pc' := 9) rfl rfl ?_
  refine Ow.retV C rfl dCI_9 (by first | decide | (dsimp only; omega) | (simp [Value.category]; done) | (simp [Value.category]; omega)) (by first | decide | (dsimp only; omega) | (simp [Value.category]; done) | (simp [Value.category]; omega)) [] (by first | (simp; done) | (intro x hx; simp [hx]; done)) ⟨rfl, rfl⟩
abbrev rmLA : Room := { frames := 2, cells := 0, slots := 0, locals := 27 }
theorem con_LA (G : Glob Z a0) (d i : Nat) (cs : List Int32) (hi : i < cs.length) (hL : ∀ z ∈ cs, 0 ≤ z.toInt ∧ z.toInt < 256) (h : Heap) (W : List Nat) (D : ArI Z h d .byte (cs.map (nar .byte))) :
    Ow.Con l Z EL1 bb (⟨"java/lang/StringLatin1", "charAt", "([BI)C"⟩ : MethodName) jdk_43_method_2_code 2 (Option.some Jvm.ClassFile.FieldType.char) [] rmLA #[.ref d, .int (Int32.ofNat i)] h W (fun v h' W' => v = some (.int (cs.getD i 0)) ∧ h' = h) := by
  refine Ow.Con.intro (a0 := a0) pn_10 (ewG G) (saG G) bbG [.val (.ref d), .val (.int (Int32.ofNat i))] (by first | exact Ow.locals_all (by simp [Value.category]) rfl | rfl | (simp [argsToLocals, Value.category]; done)) ?_
  intro p e s m below meth c C hO
  have hN : cs.length < 2 ^ 31 := by simpa using D.2
  have hc := Ow.getD_rng hL hi
  refine Ow.iloadN C dLA_0 (pc' := 1) rfl rfl ?_
  refine Ow.aloadN C dLA_1 (pc' := 2) rfl rfl rfl ?_
  refine Ow.arrlen C D dLA_2 (pc' := 3) rfl ?_
  rw [List.length_map]
  refine Ow.callS C (tw40 G.1) (tw41 G.1) (tw1 G.1) (tw42 G.1) (by decide) (con_CI G i cs.length hi hN h W) (fun _ q => q) pd_6 rfl rfl rfl dLA_3 (pc' := 6) rfl (Wt := 0) (Nat.le_refl _) (by first | decide | (dsimp only; omega) | (simp [Value.category]; done) | (simp [Value.category]; omega)) (by first | decide | (dsimp only; omega) | (simp [Value.category]; done) | (simp [Value.category]; omega)) (by first | decide | (dsimp only; omega) | (simp [Value.category]; done) | (simp [Value.category]; omega)) (by first | decide | (dsimp only; omega) | (simp [Value.category]; done) | (simp [Value.category]; omega)) (fun v1 h1 W1 ⟨e1, e1'⟩ s1 => ?_)
  subst e1 e1'
  dsimp only [Option.toList, List.cons_append, List.nil_append]
  refine Ow.aloadN C dLA_6 (pc' := 7) rfl rfl rfl ?_
  refine Ow.iloadN C dLA_7 (pc' := 8) rfl rfl ?_
  refine Ow.baload C D (i := i) (Ow.ofNat_toInt (by omega)) (by simpa using hi) dLA_8 (pc' := 9) rfl ?_
  rw [Ow.map_getD hi]
  refine Ow.sipush C (255 : Int32) dLA_9 (pc' := 12) rfl rfl ?_
  refine Ow.iand C dLA_12 (pc' := 13) rfl ?_
  rw [Ow.byte_back hc.1 hc.2]
  refine Ow.i2c C dLA_13 (pc' := 14) rfl ?_
  rw [Ow.nar_char_id hc.1 (by omega)]
  refine Ow.retN C (t := .char) rfl (by simp) dLA_14 (by first | decide | (dsimp only; omega) | (simp [Value.category]; done) | (simp [Value.category]; omega)) (by first | decide | (dsimp only; omega) | (simp [Value.category]; done) | (simp [Value.category]; omega)) [] (by first | (simp; done) | (intro x hx; simp [hx]; done)) ⟨by rw [Ow.nar_char_id hc.1 (by omega)], rfl⟩
abbrev rmCA : Room := { frames := 3, cells := 0, slots := 0, locals := 40 }
theorem con_CA (G : Glob Z a0) (a d i : Nat) (cs : List Int32) (hi : i < cs.length) (h : Heap) (W : List Nat) (S : Ow.StrL Z h a d cs) :
    Ow.Con l Z EL1 bb (⟨"java/lang/String", "charAt", "(I)C"⟩ : MethodName) jdk_42_method_56_code 2 (Option.some Jvm.ClassFile.FieldType.char) [] rmCA #[.ref a, .int (Int32.ofNat i)] h W (fun v h' W' => v = some (.int (cs.getD i 0)) ∧ h' = h) := by
  refine Ow.Con.intro (a0 := a0) pn_11 (ewG G) (saG G) bbG [.val (.ref a), .val (.int (Int32.ofNat i))] (by first | exact Ow.locals_all (by simp [Value.category]) rfl | rfl | (simp [argsToLocals, Value.category]; done)) ?_
  intro p e s m below meth c C hO
  have hc := Ow.getD_rng S.2.2.2.2 hi
  refine Ow.aloadN C dCA_0 (pc' := 1) rfl rfl rfl ?_
  refine Ow.callV C (y := (⟨"java/lang/String", "isLatin1", "()Z"⟩ : MethodName)) (z := (⟨"java/lang/String", "isLatin1", "()Z"⟩ : MethodName)) (tw31 G.1) (tw32 G.1) (tw34 G.1) (tw34 G.1) (tw33 G.1) (tw1 G.1) (tw35 G.1) (by decide) S.1 (con_IL G a 0 h W S.2.2.1) (fun _ q => q) pd_7 rfl rfl rfl dCA_1 (pc' := 4) rfl (Wt := 0) (Nat.le_refl _) (by first | decide | (dsimp only; omega) | (simp [Value.category]; done) | (simp [Value.category]; omega)) (by first | decide | (dsimp only; omega) | (simp [Value.category]; done) | (simp [Value.category]; omega)) (by first | decide | (dsimp only; omega) | (simp [Value.category]; done) | (simp [Value.category]; omega)) (by first | decide | (dsimp only; omega) | (simp [Value.category]; done) | (simp [Value.category]; omega)) (fun v1 h1 W1 ⟨e1, e1'⟩ s1 => ?_)
  rw [if_pos rfl] at e1
  subst e1 e1'
  dsimp only [Option.toList, List.cons_append, List.nil_append]
  refine Ow.ifCN C dCA_4 (pc' := 7) rfl (XT.i0_eq_f (by decide)) ?_
  refine Ow.aloadN C dCA_7 (pc' := 8) rfl rfl rfl ?_
  refine Ow.getF C (tw13 G.1) S.2.1 dCA_8 (pc' := 11) rfl ?_
  refine Ow.iloadN C dCA_11 (pc' := 12) rfl rfl ?_
  refine Ow.callS C (tw36 G.1) (tw37 G.1) (tw38 G.1) (tw39 G.1) (by decide) (con_LA G d i cs hi S.2.2.2.2 h1 W S.2.2.2.1) (fun _ q => q) pd_8 rfl rfl rfl dCA_12 (pc' := 15) rfl (Wt := 0) (Nat.le_refl _) (by first | decide | (dsimp only; omega) | (simp [Value.category]; done) | (simp [Value.category]; omega)) (by first | decide | (dsimp only; omega) | (simp [Value.category]; done) | (simp [Value.category]; omega)) (by first | decide | (dsimp only; omega) | (simp [Value.category]; done) | (simp [Value.category]; omega)) (by first | decide | (dsimp only; omega) | (simp [Value.category]; done) | (simp [Value.category]; omega)) (fun v2 h2 W2 ⟨e2, e2'⟩ s2 => ?_)
  subst e2 e2'
  dsimp only [Option.toList, List.cons_append, List.nil_append]
  refine Ow.retN C (t := .char) rfl (by simp) dCA_15 (by first | decide | (dsimp only; omega) | (simp [Value.category]; done) | (simp [Value.category]; omega)) (by first | decide | (dsimp only; omega) | (simp [Value.category]; done) | (simp [Value.category]; omega)) [] (by first | (simp; done) | (intro x hx; simp [hx]; done)) ⟨by rw [Ow.nar_char_id hc.1 (by omega)], rfl⟩
end StrCh

section StrEQ
variable {l : Launch} {Z : State} {a0 : Array Value}
set_option maxHeartbeats 4000000 in
theorem con_LE (G : Glob Z a0) (x y : Nat) (xs ys : List Int32) (h : Heap) (W : List Nat) (X : ArI Z h x .byte xs) (Y : ArI Z h y .byte ys) :
    Ow.Con l Z EL1 bb (⟨"java/lang/StringLatin1", "equals", "([B[B)Z"⟩ : MethodName) jdk_43_method_13_code 3 (Option.some Jvm.ClassFile.FieldType.boolean) [] rm0 #[.ref x, .ref y] h W (fun v h' W' => v = some (.int (if xs = ys then 1 else 0)) ∧ h' = h) := by
  refine Ow.Con.intro (a0 := a0) pn_12 (ewG G) (saG G) bbG [.val (.ref x), .val (.ref y), .unset] (by first | exact Ow.locals_all (by simp [Value.category]) rfl | rfl | (simp [argsToLocals, Value.category]; done)) ?_
  intro p e s m below meth c C hO
  have hN : xs.length < 2 ^ 31 := X.2
  refine Ow.aloadN C dLE_0 (pc' := 1) rfl rfl rfl ?_
  refine Ow.arrlen C X dLE_1 (pc' := 2) rfl ?_
  refine Ow.aloadN C dLE_2 (pc' := 3) rfl rfl rfl ?_
  refine Ow.arrlen C Y dLE_3 (pc' := 4) rfl ?_
  refine Ow.icmp C 34 7 dLE_4 (Ow.kNe _ _) (by decide) (by decide) rfl (fun hc => ?_) (fun hc => ?_)
  · have hne : ¬ xs = ys := fun q => hc (by rw [q])
    refine Ow.iconst C (0 : Int32) dLE_34 (pc' := 35) rfl rfl ?_
    refine Ow.retN C (t := .boolean) rfl (by simp) dLE_35 (by first | decide | (dsimp only; omega) | (simp [Value.category]; done) | (simp [Value.category]; omega)) (by first | decide | (dsimp only; omega) | (simp [Value.category]; done) | (simp [Value.category]; omega)) [] (by first | (simp; done) | (intro x hx; simp [hx]; done)) ⟨by rw [if_neg hne]; rfl, rfl⟩
  · have hl : xs.length = ys.length := Ow.ofNat_inj X.2 Y.2 (Decidable.not_not.mp hc)
    refine Ow.iconst C (0 : Int32) dLE_7 (pc' := 8) rfl rfl ?_
    refine Ow.istoreN C dLE_8 (pc' := 9) rfl rfl ?_
    dsimp only [List.set]
    have loop : ∀ (r i : Nat), i + r = xs.length → (∀ j, j < i → xs.getD j 0 = ys.getD j 0) →
        Ow.WP p l e rm0 s m #[.ref x, .ref y] below meth c Z EL1 bb (fun v h' W' => v = some (.int (if xs = ys then 1 else 0)) ∧ h' = h) 9 [.val (.ref x), .val (.ref y), .val (.int (Int32.ofNat i))] [] h W 0 0 := by
      intro r
      induction r with
      | zero =>
        intro i hi hq
        obtain rfl : i = xs.length := by omega
        refine Ow.iloadN C dLE_9 (pc' := 10) rfl rfl ?_
        refine Ow.aloadN C dLE_10 (pc' := 11) rfl rfl rfl ?_
        refine Ow.arrlen C X dLE_11 (pc' := 12) rfl ?_
        refine Ow.icmpY C 32 dLE_12 (XT.ii_ge_t (by rw [Ow.lt32]; omega)) (by decide) (by decide) ?_
        refine Ow.iconst C (1 : Int32) dLE_32 (pc' := 33) rfl rfl ?_
        have he : xs = ys := List.ext_getElem hl fun j h1 h2 => by
          have := hq j h1
          simpa [List.getD_eq_getElem?_getD, h1, h2] using this
        refine Ow.retN C (t := .boolean) rfl (by simp) dLE_33 (by first | decide | (dsimp only; omega) | (simp [Value.category]; done) | (simp [Value.category]; omega)) (by first | decide | (dsimp only; omega) | (simp [Value.category]; done) | (simp [Value.category]; omega)) [] (by first | (simp; done) | (intro x hx; simp [hx]; done)) ⟨by rw [if_pos he]; rfl, rfl⟩
      | succ r ih =>
        intro i hi hq
        have hlt : i < xs.length := by omega
        refine Ow.iloadN C dLE_9 (pc' := 10) rfl rfl ?_
        refine Ow.aloadN C dLE_10 (pc' := 11) rfl rfl rfl ?_
        refine Ow.arrlen C X dLE_11 (pc' := 12) rfl ?_
        refine Ow.icmpN C dLE_12 (pc' := 15) rfl (XT.ii_ge_f (by rw [Ow.lt32, Ow.ofNat_toInt (by omega), Ow.ofNat_toInt hN]; omega)) ?_
        refine Ow.aloadN C dLE_15 (pc' := 16) rfl rfl rfl ?_
        refine Ow.iloadN C dLE_16 (pc' := 17) rfl rfl ?_
        refine Ow.baload C X (i := i) (Ow.ofNat_toInt (by omega)) hlt dLE_17 (pc' := 18) rfl ?_
        refine Ow.aloadN C dLE_18 (pc' := 19) rfl rfl rfl ?_
        refine Ow.iloadN C dLE_19 (pc' := 20) rfl rfl ?_
        refine Ow.baload C Y (i := i) (Ow.ofNat_toInt (by omega)) (by omega) dLE_20 (pc' := 21) rfl ?_
        refine Ow.icmp C 26 24 dLE_21 (Ow.kEq _ _) (by decide) (by decide) rfl (fun hc2 => ?_) (fun hc2 => ?_)
        · refine Ow.iinc C (1 : Int32) dLE_26 (pc' := 29) rfl rfl rfl ?_
          dsimp only [List.set]
          refine Ow.goto C 9 dLE_29 (by decide) (by decide) ?_
          rw [← inc_ofNat]
          exact ih (i + 1) (by omega) (fun j hj => by
            rcases Nat.lt_succ_iff_lt_or_eq.mp hj with q | rfl
            · exact hq j q
            · exact hc2)
        · have hne : ¬ xs = ys := fun q => hc2 (by rw [q])
          refine Ow.iconst C (0 : Int32) dLE_24 (pc' := 25) rfl rfl ?_
          refine Ow.retN C (t := .boolean) rfl (by simp) dLE_25 (by first | decide | (dsimp only; omega) | (simp [Value.category]; done) | (simp [Value.category]; omega)) (by first | decide | (dsimp only; omega) | (simp [Value.category]; done) | (simp [Value.category]; omega)) [] (by first | (simp; done) | (intro x hx; simp [hx]; done)) ⟨by rw [if_neg hne]; rfl, rfl⟩
    exact loop xs.length 0 (by omega) (fun j hj => by omega)
theorem map_inj_bytes {cs ds : List Int32} (h1 : ∀ c ∈ cs, 0 ≤ c.toInt ∧ c.toInt < 256) (h2 : ∀ c ∈ ds, 0 ≤ c.toInt ∧ c.toInt < 256) : (cs.map (nar .byte) = ds.map (nar .byte)) ↔ cs = ds := by
  refine ⟨fun q => ?_, fun q => by rw [q]⟩
  induction cs generalizing ds with
  | nil => cases ds with
    | nil => rfl
    | cons d ds => simp at q
  | cons c cs ih => cases ds with
    | nil => simp at q
    | cons d ds =>
      simp only [List.map_cons, List.cons.injEq] at q ⊢
      exact ⟨Ow.nar_byte_inj (h1 c (by simp)) (h2 d (by simp)) q.1, ih (fun z hz => h1 z (by simp [hz])) (fun z hz => h2 z (by simp [hz])) q.2⟩
abbrev rmEQ : Room := { frames := 1, cells := 0, slots := 0, locals := 14 }
set_option maxHeartbeats 4000000 in
theorem con_EQ (G : Glob Z a0) (a d a' d' : Nat) (cs ds : List Int32) (h : Heap) (W : List Nat) (S : Ow.StrL Z h a d cs) (S' : Ow.StrL Z h a' d' ds) (hne : a ≠ a') :
    Ow.Con l Z EL1 bb (⟨"java/lang/String", "equals", "(Ljava/lang/Object;)Z"⟩ : MethodName) jdk_42_method_66_code 3 (Option.some Jvm.ClassFile.FieldType.boolean) [] rmEQ #[.ref a, .ref a'] h W (fun v h' W' => v = some (.int (if cs = ds then 1 else 0)) ∧ h' = h) := by
  obtain ⟨cv, hcv, hst⟩ := G.2.1
  refine Ow.Con.intro (a0 := a0) pn_13 (ewG G) (saG G) bbG [.val (.ref a), .val (.ref a'), .unset] (by first | exact Ow.locals_all (by simp [Value.category]) rfl | rfl | (simp [argsToLocals, Value.category]; done)) ?_
  intro p e s m below meth c C hO
  refine Ow.aloadN C dEQ_0 (pc' := 1) rfl rfl rfl ?_
  refine Ow.aloadN C dEQ_1 (pc' := 2) rfl rfl rfl ?_
  refine Ow.acmpY C 7 dEQ_2 rfl rfl (XT.aa_ne_t (fun q => hne (Value.ref.inj q))) (by decide) (by decide) ?_
  refine Ow.aloadN C dEQ_7 (pc' := 8) rfl rfl rfl ?_
  refine Ow.instY C (tw101 G.1) (Ins.self S'.1) dEQ_8 (pc' := 11) rfl ?_
  refine Ow.ifCN C dEQ_11 (pc' := 14) rfl (XT.i0_eq_f (by decide)) ?_
  refine Ow.aloadN C dEQ_14 (pc' := 15) rfl rfl rfl ?_
  refine Ow.castY C (tw101 G.1) (Ins.self S'.1) dEQ_15 (pc' := 18) rfl ?_
  refine Ow.astoreN C dEQ_18 (pc' := 19) rfl rfl rfl ?_
  dsimp only [List.set]
  refine Ow.getS C (tw19 G.1) hst dEQ_19 (pc' := 22) rfl ?_
  refine Ow.ifCN C dEQ_22 (pc' := 25) rfl (XT.i0_eq_f hcv) ?_
  refine Ow.aloadN C dEQ_25 (pc' := 26) rfl rfl rfl ?_
  refine Ow.getF C (tw20 G.1) S.2.2.1 dEQ_26 (pc' := 29) rfl ?_
  refine Ow.aloadN C dEQ_29 (pc' := 30) rfl rfl rfl ?_
  refine Ow.getF C (tw20 G.1) S'.2.2.1 dEQ_30 (pc' := 33) rfl ?_
  refine Ow.icmpN C dEQ_33 (pc' := 36) rfl (XT.ii_ne_f rfl) ?_
  refine Ow.aloadN C dEQ_36 (pc' := 37) rfl rfl rfl ?_
  refine Ow.getF C (tw13 G.1) S.2.1 dEQ_37 (pc' := 40) rfl ?_
  refine Ow.aloadN C dEQ_40 (pc' := 41) rfl rfl rfl ?_
  refine Ow.getF C (tw13 G.1) S'.2.1 dEQ_41 (pc' := 44) rfl ?_
  refine Ow.callS C (tw102 G.1) (tw103 G.1) (tw38 G.1) (tw104 G.1) (by decide) (con_LE G d d' _ _ h W S.2.2.2.1 S'.2.2.2.1) (fun _ q => q) pd_9 rfl rfl rfl dEQ_44 (pc' := 47) rfl (Wt := 0) (Nat.le_refl _) (by first | decide | (dsimp only; omega) | (simp [Value.category]; done) | (simp [Value.category]; omega)) (by first | decide | (dsimp only; omega) | (simp [Value.category]; done) | (simp [Value.category]; omega)) (by first | decide | (dsimp only; omega) | (simp [Value.category]; done) | (simp [Value.category]; omega)) (by first | decide | (dsimp only; omega) | (simp [Value.category]; done) | (simp [Value.category]; omega)) (fun v1 h1 W1 ⟨e1, e1'⟩ s1 => ?_)
  subst e1 e1'
  dsimp only [Option.toList, List.cons_append, List.nil_append]
  by_cases hq : cs = ds
  · rw [if_pos ((map_inj_bytes S.2.2.2.2 S'.2.2.2.2).mpr hq)]
    refine Ow.ifCN C dEQ_47 (pc' := 50) rfl (XT.i0_eq_f (by decide)) ?_
    refine Ow.iconst C (1 : Int32) dEQ_50 (pc' := 51) rfl rfl ?_
    refine Ow.goto C 55 dEQ_51 (by decide) (by decide) ?_
    refine Ow.retN C (t := .boolean) rfl (by simp) dEQ_55 (by first | decide | (dsimp only; omega) | (simp [Value.category]; done) | (simp [Value.category]; omega)) (by first | decide | (dsimp only; omega) | (simp [Value.category]; done) | (simp [Value.category]; omega)) [] (by first | (simp; done) | (intro x hx; simp [hx]; done)) ⟨by rw [if_pos hq]; rfl, rfl⟩
  · rw [if_neg (fun q => hq ((map_inj_bytes S.2.2.2.2 S'.2.2.2.2).mp q))]
    refine Ow.ifCY C 54 dEQ_47 (XT.i0_eq_t rfl) (by decide) (by decide) ?_
    refine Ow.iconst C (0 : Int32) dEQ_54 (pc' := 55) rfl rfl ?_
    refine Ow.retN C (t := .boolean) rfl (by simp) dEQ_55 (by first | decide | (dsimp only; omega) | (simp [Value.category]; done) | (simp [Value.category]; omega)) (by first | decide | (dsimp only; omega) | (simp [Value.category]; done) | (simp [Value.category]; omega)) [] (by first | (simp; done) | (intro x hx; simp [hx]; done)) ⟨by rw [if_neg hq]; rfl, rfl⟩
end StrEQ

section StrEQs
variable {l : Launch} {Z : State} {a0 : Array Value}
theorem con_EQs (G : Glob Z a0) (a : Nat) (h : Heap) (W : List Nat) :
    Ow.Con l Z EL1 bb (⟨"java/lang/String", "equals", "(Ljava/lang/Object;)Z"⟩ : MethodName) jdk_42_method_66_code 3 (Option.some Jvm.ClassFile.FieldType.boolean) [] rm0 #[.ref a, .ref a] h W (fun v h' W' => v = some (.int 1) ∧ h' = h) := by
  refine Ow.Con.intro (a0 := a0) pn_13 (ewG G) (saG G) bbG [.val (.ref a), .val (.ref a), .unset] (by first | exact Ow.locals_all (by simp [Value.category]) rfl | rfl | (simp [argsToLocals, Value.category]; done)) ?_
  intro p e s m below meth c C hO
  refine Ow.aloadN C dEQ_0 (pc' := 1) rfl rfl rfl ?_
  refine Ow.aloadN C dEQ_1 (pc' := 2) rfl rfl rfl ?_
  refine Ow.acmpN C dEQ_2 (pc' := 5) rfl rfl rfl (XT.aa_ne_f rfl) ?_
  refine Ow.iconst C (1 : Int32) dEQ_5 (pc' := 6) rfl rfl ?_
  refine Ow.retN C (t := .boolean) rfl (by simp) dEQ_6 (by first | decide | (dsimp only; omega) | (simp [Value.category]; done) | (simp [Value.category]; omega)) (by first | decide | (dsimp only; omega) | (simp [Value.category]; done) | (simp [Value.category]; omega)) [] (by first | (simp; done) | (intro x hx; simp [hx]; done)) ⟨rfl, rfl⟩
end StrEQs

section StrEQg
variable {l : Launch} {Z : State} {a0 : Array Value}
theorem con_EQg (G : Glob Z a0) (a d a' d' : Nat) (cs ds : List Int32) (h : Heap) (W : List Nat) (S : Ow.StrL Z h a d cs) (S' : Ow.StrL Z h a' d' ds) :
    Ow.Con l Z EL1 bb (⟨"java/lang/String", "equals", "(Ljava/lang/Object;)Z"⟩ : MethodName) jdk_42_method_66_code 3 (Option.some Jvm.ClassFile.FieldType.boolean) [] rmEQ #[.ref a, .ref a'] h W (fun v h' W' => v = some (.int (if cs = ds then 1 else 0)) ∧ h' = h) := by
  by_cases hne : a = a'
  · subst hne
    have hq := Ow.StrL.uniq S S'
    exact ((con_EQs G a h W).rm (by decide) (by decide) (by decide) (by decide)).mono (fun v h' W' q => ⟨by rw [if_pos hq]; exact q.1, q.2⟩)
  · exact con_EQ G a d a' d' cs ds h W S S' hne
end StrEQg

section Law
variable {l : Launch} {Z : State} {a0 : Array Value}
abbrev rmST : Room := { frames := 4, cells := 6, slots := 32, locals := 66 }
set_option maxHeartbeats 40000000 in
theorem con_ST (G : Glob Z a0) (f n : Nat) (hn : n ≤ 10) (x0 x1 x2 x3 x4 x5 x6 x7 x8 x9 x10 : Int32) (hL : ∀ z ∈ [x0, x1, x2, x3, x4, x5, x6, x7, x8, x9, x10], 0 ≤ z.toInt ∧ z.toInt < 256) (h : Heap) (W : List Nat) (F : ArI Z h f .char [x0, x1, x2, x3, x4, x5, x6, x7, x8, x9, x10]) :
    Ow.Con l Z EL1 bb (⟨"com/example/coretally/coretally/MetricLabelledPinLaw", "str", "([CI)Ljava/lang/String;"⟩ : MethodName) method_3_code 2 (Option.some (Jvm.ClassFile.FieldType.object "java/lang/String")) [] rmST #[.ref f, .int (Int32.ofNat n)] h W (fun v h' W' => ∃ a d : Nat, v = some (.ref a) ∧ Keep h h' [] ∧ Ow.StrL Z h' a d ([x0, x1, x2, x3, x4, x5, x6, x7, x8, x9, x10].take n)) := by
  have n0 : nar .char x0 = x0 := Ow.nar_char_id (hL x0 (by simp)).1 (by have := (hL x0 (by simp)).2; omega)
  have n1 : nar .char x1 = x1 := Ow.nar_char_id (hL x1 (by simp)).1 (by have := (hL x1 (by simp)).2; omega)
  have n2 : nar .char x2 = x2 := Ow.nar_char_id (hL x2 (by simp)).1 (by have := (hL x2 (by simp)).2; omega)
  have n3 : nar .char x3 = x3 := Ow.nar_char_id (hL x3 (by simp)).1 (by have := (hL x3 (by simp)).2; omega)
  have n4 : nar .char x4 = x4 := Ow.nar_char_id (hL x4 (by simp)).1 (by have := (hL x4 (by simp)).2; omega)
  have n5 : nar .char x5 = x5 := Ow.nar_char_id (hL x5 (by simp)).1 (by have := (hL x5 (by simp)).2; omega)
  have n6 : nar .char x6 = x6 := Ow.nar_char_id (hL x6 (by simp)).1 (by have := (hL x6 (by simp)).2; omega)
  have n7 : nar .char x7 = x7 := Ow.nar_char_id (hL x7 (by simp)).1 (by have := (hL x7 (by simp)).2; omega)
  have n8 : nar .char x8 = x8 := Ow.nar_char_id (hL x8 (by simp)).1 (by have := (hL x8 (by simp)).2; omega)
  have n9 : nar .char x9 = x9 := Ow.nar_char_id (hL x9 (by simp)).1 (by have := (hL x9 (by simp)).2; omega)
  refine Ow.Con.intro (a0 := a0) pn_14 (ewG G) (saG G) bbG [.val (.ref f), .val (.int (Int32.ofNat n))] (by first | exact Ow.locals_all (by simp [Value.category]) rfl | rfl | (simp [argsToLocals, Value.category]; done)) ?_
  intro p e s m below meth c C hO
  obtain rfl | rfl | rfl | rfl | rfl | rfl | rfl | rfl | rfl | rfl | rfl : n = 0 ∨ n = 1 ∨ n = 2 ∨ n = 3 ∨ n = 4 ∨ n = 5 ∨ n = 6 ∨ n = 7 ∨ n = 8 ∨ n = 9 ∨ n = 10 := by omega
  · refine Ow.iloadN C dST_0 (pc' := 1) rfl rfl ?_
    refine Ow.ifCN C dST_1 (pc' := 4) rfl (XT.i0_ne_f rfl) ?_
    refine Ow.newO C (tw52 G.1) (tw2 G.1) (tw1 G.1) dST_4 (pc' := 7) rfl (by first | decide | (dsimp only; omega) | (simp [Value.category]; done) | (simp [Value.category]; omega)) (by first | decide | (dsimp only; omega) | (simp [Value.category]; done) | (simp [Value.category]; omega)) (fun hqs aqs sqs zqs lqs Eqs ⟨Aqs, Dqs⟩ => ?_)
    refine Ow.dup C dST_7 (pc' := 8) rfl rfl ?_
    refine Ow.iconst C (0 : Int32) dST_8 (pc' := 9) rfl rfl ?_
    refine Ow.newarr C (ty := .char) (cap := 0) rfl rfl (tw21 G.1) dST_9 (pc' := 11) rfl rfl (by decide) (by first | decide | (dsimp only; omega) | (simp [Value.category]; done) | (simp [Value.category]; omega)) (by first | decide | (dsimp only; omega) | (simp [Value.category]; done) | (simp [Value.category]; omega)) (fun hqv aqv sqv zqv lqv Eqv Vqv => ?_)
    have nq : aqs ≠ aqv := by omega
    have KAq : Keep hqs hqv [aqv] := ((Keep.refl hqs [aqv]).ext Eqv)
    refine Ow.callI C rfl (tw53 G.1) (tw54 G.1) (tw1 G.1) (tw55 G.1) (by decide) (con_I0e G aqs aqv hqv _ _ _ (Aqs.keep KAq) ((Dqs (Or.inr (tw4 G.1)) (ty := .array .byte) (by decide)).keep KAq (Ow.nin1 nq)) ((Dqs (Or.inr (tw5 G.1)) (ty := .byte) (by decide)).keep KAq (Ow.nin1 nq)) (by simp) Vqv) (fun _ q => q) pd_10 rfl rfl rfl dST_11 (pc' := 14) rfl (Wt := 1) (Nat.le_refl _) (by first | decide | (dsimp only; omega) | (simp [Value.category]; done) | (simp [Value.category]; omega)) (by first | decide | (dsimp only; omega) | (simp [Value.category]; done) | (simp [Value.category]; omega)) (by first | decide | (dsimp only; omega) | (simp [Value.category]; done) | (simp [Value.category]; omega)) (by first | decide | (dsimp only; omega) | (simp [Value.category]; done) | (simp [Value.category]; omega)) (fun vq hq Wq ⟨eq, dq, Sq, Kcq, hdq⟩ gq => ?_)
    subst eq
    dsimp only [Option.toList, List.cons_append, List.nil_append]
    have Kq : Keep h hq [] := (((Keep.refl h []).ext Eqs).ext Eqv).trans Kcq (fun z hz => Or.inr (by rw [List.mem_singleton.mp hz]; omega))
    refine Ow.retA C rfl rfl rfl dST_14 (by first | decide | (dsimp only; omega) | (simp [Value.category]; done) | (simp [Value.category]; omega)) (by first | decide | (dsimp only; omega) | (simp [Value.category]; done) | (simp [Value.category]; omega)) [] (by first | (simp; done) | (intro x hx; simp [hx]; done)) ⟨aqs, dq, rfl, Kq, Sq⟩
  · refine Ow.iloadN C dST_0 (pc' := 1) rfl rfl ?_
    refine Ow.ifCY C 15 dST_1 (XT.i0_ne_t (by decide)) (by decide) (by decide) ?_
    refine Ow.iloadN C dST_15 (pc' := 16) rfl rfl ?_
    refine Ow.iconst C (1 : Int32) dST_16 (pc' := 17) rfl rfl ?_
    refine Ow.icmpN C dST_17 (pc' := 20) rfl (XT.ii_ne_f rfl) ?_
    refine Ow.newO C (tw52 G.1) (tw2 G.1) (tw1 G.1) dST_20 (pc' := 23) rfl (by first | decide | (dsimp only; omega) | (simp [Value.category]; done) | (simp [Value.category]; omega)) (by first | decide | (dsimp only; omega) | (simp [Value.category]; done) | (simp [Value.category]; omega)) (fun hqs aqs sqs zqs lqs Eqs ⟨Aqs, Dqs⟩ => ?_)
    have F_qs := F.ext Eqs
    refine Ow.dup C dST_23 (pc' := 24) rfl rfl ?_
    refine Ow.iconst C (1 : Int32) dST_24 (pc' := 25) rfl rfl ?_
    refine Ow.newarr C (ty := .char) (cap := 1) rfl rfl (tw21 G.1) dST_25 (pc' := 27) rfl rfl (by decide) (by first | decide | (dsimp only; omega) | (simp [Value.category]; done) | (simp [Value.category]; omega)) (by first | decide | (dsimp only; omega) | (simp [Value.category]; done) | (simp [Value.category]; omega)) (fun hqv aqv sqv zqv lqv Eqv Vqv => ?_)
    have F_qv := F_qs.ext Eqv
    refine Ow.dup C dST_27 (pc' := 28) rfl rfl ?_
    refine Ow.iconst C (0 : Int32) dST_28 (pc' := 29) rfl rfl ?_
    refine Ow.aloadN C dST_29 (pc' := 30) rfl rfl rfl ?_
    refine Ow.iconst C (0 : Int32) dST_30 (pc' := 31) rfl rfl ?_
    refine Ow.caload C F_qv (i := 0) rfl (by first | decide | (simp; done) | omega) dST_31 (pc' := 32) rfl ?_
    refine Ow.castore C Vqv (i := 0) rfl (by first | decide | (simp; done)) (by first | assumption | (simp; done) | (simp [*]; done)) dST_32 (pc' := 33) rfl (fun hq0 Kq0 Vq0 => ?_)
    have gq0 := Kq0.1
    have F_q0 := F_qv.keep Kq0 (Ow.nin1 (by have := F.lt; omega))
    have nq : aqs ≠ aqv := by omega
    have KAq : Keep hqs hq0 [aqv] := (((Keep.refl hqs [aqv]).ext Eqv).trans Kq0 (fun _ q => Or.inl q))
    refine Ow.callI C rfl (tw53 G.1) (tw54 G.1) (tw1 G.1) (tw55 G.1) (by decide) (con_I0 G 1 aqs aqv [_] hq0 _ _ _ (Aqs.keep KAq) ((Dqs (Or.inr (tw4 G.1)) (ty := .array .byte) (by decide)).keep KAq (Ow.nin1 nq)) ((Dqs (Or.inr (tw5 G.1)) (ty := .byte) (by decide)).keep KAq (Ow.nin1 nq)) (by simp) Vq0 (by simp) (by intro z hz; have hz2 : z ∈ [nar .char x0] := hz; rw [n0] at hz2; exact hL z (List.mem_of_mem_take (i := 1) (show z ∈ [x0, x1, x2, x3, x4, x5, x6, x7, x8, x9, x10].take 1 from hz2))) (by simp) (by decide)) (fun _ q => q) pd_10 rfl rfl rfl dST_33 (pc' := 36) rfl (Wt := 1) (Nat.le_refl _) (by first | decide | (dsimp only; omega) | (simp [Value.category]; done) | (simp [Value.category]; omega)) (by first | decide | (dsimp only; omega) | (simp [Value.category]; done) | (simp [Value.category]; omega)) (by first | decide | (dsimp only; omega) | (simp [Value.category]; done) | (simp [Value.category]; omega)) (by first | decide | (dsimp only; omega) | (simp [Value.category]; done) | (simp [Value.category]; omega)) (fun vq hq Wq ⟨eq, dq, Sq, Kcq, hdq⟩ gq => ?_)
    subst eq
    dsimp only [Option.toList, List.cons_append, List.nil_append]
    have Kq : Keep h hq [] := ((((Keep.refl h []).ext Eqs).ext Eqv).trans Kq0 (fun z hz => Or.inr (by rw [List.mem_singleton.mp hz]; omega))).trans Kcq (fun z hz => Or.inr (by rw [List.mem_singleton.mp hz]; omega))
    have Sq2 : Ow.StrL Z hq aqs dq [nar .char x0] := Sq
    rw [n0] at Sq2
    refine Ow.retA C rfl rfl rfl dST_36 (by first | decide | (dsimp only; omega) | (simp [Value.category]; done) | (simp [Value.category]; omega)) (by first | decide | (dsimp only; omega) | (simp [Value.category]; done) | (simp [Value.category]; omega)) [] (by first | (simp; done) | (intro x hx; simp [hx]; done)) ⟨aqs, dq, rfl, Kq, Sq2⟩
  · refine Ow.iloadN C dST_0 (pc' := 1) rfl rfl ?_
    refine Ow.ifCY C 15 dST_1 (XT.i0_ne_t (by decide)) (by decide) (by decide) ?_
    refine Ow.iloadN C dST_15 (pc' := 16) rfl rfl ?_
    refine Ow.iconst C (1 : Int32) dST_16 (pc' := 17) rfl rfl ?_
    refine Ow.icmpY C 37 dST_17 (XT.ii_ne_t (by decide)) (by decide) (by decide) ?_
    refine Ow.iloadN C dST_37 (pc' := 38) rfl rfl ?_
    refine Ow.iconst C (2 : Int32) dST_38 (pc' := 39) rfl rfl ?_
    refine Ow.icmpN C dST_39 (pc' := 42) rfl (XT.ii_ne_f rfl) ?_
    refine Ow.newO C (tw52 G.1) (tw2 G.1) (tw1 G.1) dST_42 (pc' := 45) rfl (by first | decide | (dsimp only; omega) | (simp [Value.category]; done) | (simp [Value.category]; omega)) (by first | decide | (dsimp only; omega) | (simp [Value.category]; done) | (simp [Value.category]; omega)) (fun hqs aqs sqs zqs lqs Eqs ⟨Aqs, Dqs⟩ => ?_)
    have F_qs := F.ext Eqs
    refine Ow.dup C dST_45 (pc' := 46) rfl rfl ?_
    refine Ow.iconst C (2 : Int32) dST_46 (pc' := 47) rfl rfl ?_
    refine Ow.newarr C (ty := .char) (cap := 2) rfl rfl (tw21 G.1) dST_47 (pc' := 49) rfl rfl (by decide) (by first | decide | (dsimp only; omega) | (simp [Value.category]; done) | (simp [Value.category]; omega)) (by first | decide | (dsimp only; omega) | (simp [Value.category]; done) | (simp [Value.category]; omega)) (fun hqv aqv sqv zqv lqv Eqv Vqv => ?_)
    have F_qv := F_qs.ext Eqv
    refine Ow.dup C dST_49 (pc' := 50) rfl rfl ?_
    refine Ow.iconst C (0 : Int32) dST_50 (pc' := 51) rfl rfl ?_
    refine Ow.aloadN C dST_51 (pc' := 52) rfl rfl rfl ?_
    refine Ow.iconst C (0 : Int32) dST_52 (pc' := 53) rfl rfl ?_
    refine Ow.caload C F_qv (i := 0) rfl (by first | decide | (simp; done) | omega) dST_53 (pc' := 54) rfl ?_
    refine Ow.castore C Vqv (i := 0) rfl (by first | decide | (simp; done)) (by first | assumption | (simp; done) | (simp [*]; done)) dST_54 (pc' := 55) rfl (fun hq0 Kq0 Vq0 => ?_)
    have gq0 := Kq0.1
    have F_q0 := F_qv.keep Kq0 (Ow.nin1 (by have := F.lt; omega))
    refine Ow.dup C dST_55 (pc' := 56) rfl rfl ?_
    refine Ow.iconst C (1 : Int32) dST_56 (pc' := 57) rfl rfl ?_
    refine Ow.aloadN C dST_57 (pc' := 58) rfl rfl rfl ?_
    refine Ow.iconst C (1 : Int32) dST_58 (pc' := 59) rfl rfl ?_
    refine Ow.caload C F_q0 (i := 1) rfl (by first | decide | (simp; done) | omega) dST_59 (pc' := 60) rfl ?_
    refine Ow.castore C Vq0 (i := 1) rfl (by first | decide | (simp; done)) (by first | assumption | (simp; done) | (simp [*]; done)) dST_60 (pc' := 61) rfl (fun hq1 Kq1 Vq1 => ?_)
    have gq1 := Kq1.1
    have F_q1 := F_q0.keep Kq1 (Ow.nin1 (by have := F.lt; omega))
    have nq : aqs ≠ aqv := by omega
    have KAq : Keep hqs hq1 [aqv] := ((((Keep.refl hqs [aqv]).ext Eqv).trans Kq0 (fun _ q => Or.inl q)).trans Kq1 (fun _ q => Or.inl q))
    refine Ow.callI C rfl (tw53 G.1) (tw54 G.1) (tw1 G.1) (tw55 G.1) (by decide) (con_I0 G 2 aqs aqv [_, _] hq1 _ _ _ (Aqs.keep KAq) ((Dqs (Or.inr (tw4 G.1)) (ty := .array .byte) (by decide)).keep KAq (Ow.nin1 nq)) ((Dqs (Or.inr (tw5 G.1)) (ty := .byte) (by decide)).keep KAq (Ow.nin1 nq)) (by simp) Vq1 (by simp) (by intro z hz; have hz2 : z ∈ [nar .char x0, nar .char x1] := hz; rw [n0, n1] at hz2; exact hL z (List.mem_of_mem_take (i := 2) (show z ∈ [x0, x1, x2, x3, x4, x5, x6, x7, x8, x9, x10].take 2 from hz2))) (by simp) (by decide)) (fun _ q => q) pd_10 rfl rfl rfl dST_61 (pc' := 64) rfl (Wt := 1) (Nat.le_refl _) (by first | decide | (dsimp only; omega) | (simp [Value.category]; done) | (simp [Value.category]; omega)) (by first | decide | (dsimp only; omega) | (simp [Value.category]; done) | (simp [Value.category]; omega)) (by first | decide | (dsimp only; omega) | (simp [Value.category]; done) | (simp [Value.category]; omega)) (by first | decide | (dsimp only; omega) | (simp [Value.category]; done) | (simp [Value.category]; omega)) (fun vq hq Wq ⟨eq, dq, Sq, Kcq, hdq⟩ gq => ?_)
    subst eq
    dsimp only [Option.toList, List.cons_append, List.nil_append]
    have Kq : Keep h hq [] := (((((Keep.refl h []).ext Eqs).ext Eqv).trans Kq0 (fun z hz => Or.inr (by rw [List.mem_singleton.mp hz]; omega))).trans Kq1 (fun z hz => Or.inr (by rw [List.mem_singleton.mp hz]; omega))).trans Kcq (fun z hz => Or.inr (by rw [List.mem_singleton.mp hz]; omega))
    have Sq2 : Ow.StrL Z hq aqs dq [nar .char x0, nar .char x1] := Sq
    rw [n0, n1] at Sq2
    refine Ow.retA C rfl rfl rfl dST_64 (by first | decide | (dsimp only; omega) | (simp [Value.category]; done) | (simp [Value.category]; omega)) (by first | decide | (dsimp only; omega) | (simp [Value.category]; done) | (simp [Value.category]; omega)) [] (by first | (simp; done) | (intro x hx; simp [hx]; done)) ⟨aqs, dq, rfl, Kq, Sq2⟩
  · refine Ow.iloadN C dST_0 (pc' := 1) rfl rfl ?_
    refine Ow.ifCY C 15 dST_1 (XT.i0_ne_t (by decide)) (by decide) (by decide) ?_
    refine Ow.iloadN C dST_15 (pc' := 16) rfl rfl ?_
    refine Ow.iconst C (1 : Int32) dST_16 (pc' := 17) rfl rfl ?_
    refine Ow.icmpY C 37 dST_17 (XT.ii_ne_t (by decide)) (by decide) (by decide) ?_
    refine Ow.iloadN C dST_37 (pc' := 38) rfl rfl ?_
    refine Ow.iconst C (2 : Int32) dST_38 (pc' := 39) rfl rfl ?_
    refine Ow.icmpY C 65 dST_39 (XT.ii_ne_t (by decide)) (by decide) (by decide) ?_
    refine Ow.iloadN C dST_65 (pc' := 66) rfl rfl ?_
    refine Ow.iconst C (3 : Int32) dST_66 (pc' := 67) rfl rfl ?_
    refine Ow.icmpN C dST_67 (pc' := 70) rfl (XT.ii_ne_f rfl) ?_
    refine Ow.newO C (tw52 G.1) (tw2 G.1) (tw1 G.1) dST_70 (pc' := 73) rfl (by first | decide | (dsimp only; omega) | (simp [Value.category]; done) | (simp [Value.category]; omega)) (by first | decide | (dsimp only; omega) | (simp [Value.category]; done) | (simp [Value.category]; omega)) (fun hqs aqs sqs zqs lqs Eqs ⟨Aqs, Dqs⟩ => ?_)
    have F_qs := F.ext Eqs
    refine Ow.dup C dST_73 (pc' := 74) rfl rfl ?_
    refine Ow.iconst C (3 : Int32) dST_74 (pc' := 75) rfl rfl ?_
    refine Ow.newarr C (ty := .char) (cap := 3) rfl rfl (tw21 G.1) dST_75 (pc' := 77) rfl rfl (by decide) (by first | decide | (dsimp only; omega) | (simp [Value.category]; done) | (simp [Value.category]; omega)) (by first | decide | (dsimp only; omega) | (simp [Value.category]; done) | (simp [Value.category]; omega)) (fun hqv aqv sqv zqv lqv Eqv Vqv => ?_)
    have F_qv := F_qs.ext Eqv
    refine Ow.dup C dST_77 (pc' := 78) rfl rfl ?_
    refine Ow.iconst C (0 : Int32) dST_78 (pc' := 79) rfl rfl ?_
    refine Ow.aloadN C dST_79 (pc' := 80) rfl rfl rfl ?_
    refine Ow.iconst C (0 : Int32) dST_80 (pc' := 81) rfl rfl ?_
    refine Ow.caload C F_qv (i := 0) rfl (by first | decide | (simp; done) | omega) dST_81 (pc' := 82) rfl ?_
    refine Ow.castore C Vqv (i := 0) rfl (by first | decide | (simp; done)) (by first | assumption | (simp; done) | (simp [*]; done)) dST_82 (pc' := 83) rfl (fun hq0 Kq0 Vq0 => ?_)
    have gq0 := Kq0.1
    have F_q0 := F_qv.keep Kq0 (Ow.nin1 (by have := F.lt; omega))
    refine Ow.dup C dST_83 (pc' := 84) rfl rfl ?_
    refine Ow.iconst C (1 : Int32) dST_84 (pc' := 85) rfl rfl ?_
    refine Ow.aloadN C dST_85 (pc' := 86) rfl rfl rfl ?_
    refine Ow.iconst C (1 : Int32) dST_86 (pc' := 87) rfl rfl ?_
    refine Ow.caload C F_q0 (i := 1) rfl (by first | decide | (simp; done) | omega) dST_87 (pc' := 88) rfl ?_
    refine Ow.castore C Vq0 (i := 1) rfl (by first | decide | (simp; done)) (by first | assumption | (simp; done) | (simp [*]; done)) dST_88 (pc' := 89) rfl (fun hq1 Kq1 Vq1 => ?_)
    have gq1 := Kq1.1
    have F_q1 := F_q0.keep Kq1 (Ow.nin1 (by have := F.lt; omega))
    refine Ow.dup C dST_89 (pc' := 90) rfl rfl ?_
    refine Ow.iconst C (2 : Int32) dST_90 (pc' := 91) rfl rfl ?_
    refine Ow.aloadN C dST_91 (pc' := 92) rfl rfl rfl ?_
    refine Ow.iconst C (2 : Int32) dST_92 (pc' := 93) rfl rfl ?_
    refine Ow.caload C F_q1 (i := 2) rfl (by first | decide | (simp; done) | omega) dST_93 (pc' := 94) rfl ?_
    refine Ow.castore C Vq1 (i := 2) rfl (by first | decide | (simp; done)) (by first | assumption | (simp; done) | (simp [*]; done)) dST_94 (pc' := 95) rfl (fun hq2 Kq2 Vq2 => ?_)
    have gq2 := Kq2.1
    have F_q2 := F_q1.keep Kq2 (Ow.nin1 (by have := F.lt; omega))
    have nq : aqs ≠ aqv := by omega
    have KAq : Keep hqs hq2 [aqv] := (((((Keep.refl hqs [aqv]).ext Eqv).trans Kq0 (fun _ q => Or.inl q)).trans Kq1 (fun _ q => Or.inl q)).trans Kq2 (fun _ q => Or.inl q))
    refine Ow.callI C rfl (tw53 G.1) (tw54 G.1) (tw1 G.1) (tw55 G.1) (by decide) (con_I0 G 3 aqs aqv [_, _, _] hq2 _ _ _ (Aqs.keep KAq) ((Dqs (Or.inr (tw4 G.1)) (ty := .array .byte) (by decide)).keep KAq (Ow.nin1 nq)) ((Dqs (Or.inr (tw5 G.1)) (ty := .byte) (by decide)).keep KAq (Ow.nin1 nq)) (by simp) Vq2 (by simp) (by intro z hz; have hz2 : z ∈ [nar .char x0, nar .char x1, nar .char x2] := hz; rw [n0, n1, n2] at hz2; exact hL z (List.mem_of_mem_take (i := 3) (show z ∈ [x0, x1, x2, x3, x4, x5, x6, x7, x8, x9, x10].take 3 from hz2))) (by simp) (by decide)) (fun _ q => q) pd_10 rfl rfl rfl dST_95 (pc' := 98) rfl (Wt := 1) (Nat.le_refl _) (by first | decide | (dsimp only; omega) | (simp [Value.category]; done) | (simp [Value.category]; omega)) (by first | decide | (dsimp only; omega) | (simp [Value.category]; done) | (simp [Value.category]; omega)) (by first | decide | (dsimp only; omega) | (simp [Value.category]; done) | (simp [Value.category]; omega)) (by first | decide | (dsimp only; omega) | (simp [Value.category]; done) | (simp [Value.category]; omega)) (fun vq hq Wq ⟨eq, dq, Sq, Kcq, hdq⟩ gq => ?_)
    subst eq
    dsimp only [Option.toList, List.cons_append, List.nil_append]
    have Kq : Keep h hq [] := ((((((Keep.refl h []).ext Eqs).ext Eqv).trans Kq0 (fun z hz => Or.inr (by rw [List.mem_singleton.mp hz]; omega))).trans Kq1 (fun z hz => Or.inr (by rw [List.mem_singleton.mp hz]; omega))).trans Kq2 (fun z hz => Or.inr (by rw [List.mem_singleton.mp hz]; omega))).trans Kcq (fun z hz => Or.inr (by rw [List.mem_singleton.mp hz]; omega))
    have Sq2 : Ow.StrL Z hq aqs dq [nar .char x0, nar .char x1, nar .char x2] := Sq
    rw [n0, n1, n2] at Sq2
    refine Ow.retA C rfl rfl rfl dST_98 (by first | decide | (dsimp only; omega) | (simp [Value.category]; done) | (simp [Value.category]; omega)) (by first | decide | (dsimp only; omega) | (simp [Value.category]; done) | (simp [Value.category]; omega)) [] (by first | (simp; done) | (intro x hx; simp [hx]; done)) ⟨aqs, dq, rfl, Kq, Sq2⟩
  · refine Ow.iloadN C dST_0 (pc' := 1) rfl rfl ?_
    refine Ow.ifCY C 15 dST_1 (XT.i0_ne_t (by decide)) (by decide) (by decide) ?_
    refine Ow.iloadN C dST_15 (pc' := 16) rfl rfl ?_
    refine Ow.iconst C (1 : Int32) dST_16 (pc' := 17) rfl rfl ?_
    refine Ow.icmpY C 37 dST_17 (XT.ii_ne_t (by decide)) (by decide) (by decide) ?_
    refine Ow.iloadN C dST_37 (pc' := 38) rfl rfl ?_
    refine Ow.iconst C (2 : Int32) dST_38 (pc' := 39) rfl rfl ?_
    refine Ow.icmpY C 65 dST_39 (XT.ii_ne_t (by decide)) (by decide) (by decide) ?_
    refine Ow.iloadN C dST_65 (pc' := 66) rfl rfl ?_
    refine Ow.iconst C (3 : Int32) dST_66 (pc' := 67) rfl rfl ?_
    refine Ow.icmpY C 99 dST_67 (XT.ii_ne_t (by decide)) (by decide) (by decide) ?_
    refine Ow.iloadN C dST_99 (pc' := 100) rfl rfl ?_
    refine Ow.iconst C (4 : Int32) dST_100 (pc' := 101) rfl rfl ?_
    refine Ow.icmpN C dST_101 (pc' := 104) rfl (XT.ii_ne_f rfl) ?_
    refine Ow.newO C (tw52 G.1) (tw2 G.1) (tw1 G.1) dST_104 (pc' := 107) rfl (by first | decide | (dsimp only; omega) | (simp [Value.category]; done) | (simp [Value.category]; omega)) (by first | decide | (dsimp only; omega) | (simp [Value.category]; done) | (simp [Value.category]; omega)) (fun hqs aqs sqs zqs lqs Eqs ⟨Aqs, Dqs⟩ => ?_)
    have F_qs := F.ext Eqs
    refine Ow.dup C dST_107 (pc' := 108) rfl rfl ?_
    refine Ow.iconst C (4 : Int32) dST_108 (pc' := 109) rfl rfl ?_
    refine Ow.newarr C (ty := .char) (cap := 4) rfl rfl (tw21 G.1) dST_109 (pc' := 111) rfl rfl (by decide) (by first | decide | (dsimp only; omega) | (simp [Value.category]; done) | (simp [Value.category]; omega)) (by first | decide | (dsimp only; omega) | (simp [Value.category]; done) | (simp [Value.category]; omega)) (fun hqv aqv sqv zqv lqv Eqv Vqv => ?_)
    have F_qv := F_qs.ext Eqv
    refine Ow.dup C dST_111 (pc' := 112) rfl rfl ?_
    refine Ow.iconst C (0 : Int32) dST_112 (pc' := 113) rfl rfl ?_
    refine Ow.aloadN C dST_113 (pc' := 114) rfl rfl rfl ?_
    refine Ow.iconst C (0 : Int32) dST_114 (pc' := 115) rfl rfl ?_
    refine Ow.caload C F_qv (i := 0) rfl (by first | decide | (simp; done) | omega) dST_115 (pc' := 116) rfl ?_
    refine Ow.castore C Vqv (i := 0) rfl (by first | decide | (simp; done)) (by first | assumption | (simp; done) | (simp [*]; done)) dST_116 (pc' := 117) rfl (fun hq0 Kq0 Vq0 => ?_)
    have gq0 := Kq0.1
    have F_q0 := F_qv.keep Kq0 (Ow.nin1 (by have := F.lt; omega))
    refine Ow.dup C dST_117 (pc' := 118) rfl rfl ?_
    refine Ow.iconst C (1 : Int32) dST_118 (pc' := 119) rfl rfl ?_
    refine Ow.aloadN C dST_119 (pc' := 120) rfl rfl rfl ?_
    refine Ow.iconst C (1 : Int32) dST_120 (pc' := 121) rfl rfl ?_
    refine Ow.caload C F_q0 (i := 1) rfl (by first | decide | (simp; done) | omega) dST_121 (pc' := 122) rfl ?_
    refine Ow.castore C Vq0 (i := 1) rfl (by first | decide | (simp; done)) (by first | assumption | (simp; done) | (simp [*]; done)) dST_122 (pc' := 123) rfl (fun hq1 Kq1 Vq1 => ?_)
    have gq1 := Kq1.1
    have F_q1 := F_q0.keep Kq1 (Ow.nin1 (by have := F.lt; omega))
    refine Ow.dup C dST_123 (pc' := 124) rfl rfl ?_
    refine Ow.iconst C (2 : Int32) dST_124 (pc' := 125) rfl rfl ?_
    refine Ow.aloadN C dST_125 (pc' := 126) rfl rfl rfl ?_
    refine Ow.iconst C (2 : Int32) dST_126 (pc' := 127) rfl rfl ?_
    refine Ow.caload C F_q1 (i := 2) rfl (by first | decide | (simp; done) | omega) dST_127 (pc' := 128) rfl ?_
    refine Ow.castore C Vq1 (i := 2) rfl (by first | decide | (simp; done)) (by first | assumption | (simp; done) | (simp [*]; done)) dST_128 (pc' := 129) rfl (fun hq2 Kq2 Vq2 => ?_)
    have gq2 := Kq2.1
    have F_q2 := F_q1.keep Kq2 (Ow.nin1 (by have := F.lt; omega))
    refine Ow.dup C dST_129 (pc' := 130) rfl rfl ?_
    refine Ow.iconst C (3 : Int32) dST_130 (pc' := 131) rfl rfl ?_
    refine Ow.aloadN C dST_131 (pc' := 132) rfl rfl rfl ?_
    refine Ow.iconst C (3 : Int32) dST_132 (pc' := 133) rfl rfl ?_
    refine Ow.caload C F_q2 (i := 3) rfl (by first | decide | (simp; done) | omega) dST_133 (pc' := 134) rfl ?_
    refine Ow.castore C Vq2 (i := 3) rfl (by first | decide | (simp; done)) (by first | assumption | (simp; done) | (simp [*]; done)) dST_134 (pc' := 135) rfl (fun hq3 Kq3 Vq3 => ?_)
    have gq3 := Kq3.1
    have F_q3 := F_q2.keep Kq3 (Ow.nin1 (by have := F.lt; omega))
    have nq : aqs ≠ aqv := by omega
    have KAq : Keep hqs hq3 [aqv] := ((((((Keep.refl hqs [aqv]).ext Eqv).trans Kq0 (fun _ q => Or.inl q)).trans Kq1 (fun _ q => Or.inl q)).trans Kq2 (fun _ q => Or.inl q)).trans Kq3 (fun _ q => Or.inl q))
    refine Ow.callI C rfl (tw53 G.1) (tw54 G.1) (tw1 G.1) (tw55 G.1) (by decide) (con_I0 G 4 aqs aqv [_, _, _, _] hq3 _ _ _ (Aqs.keep KAq) ((Dqs (Or.inr (tw4 G.1)) (ty := .array .byte) (by decide)).keep KAq (Ow.nin1 nq)) ((Dqs (Or.inr (tw5 G.1)) (ty := .byte) (by decide)).keep KAq (Ow.nin1 nq)) (by simp) Vq3 (by simp) (by intro z hz; have hz2 : z ∈ [nar .char x0, nar .char x1, nar .char x2, nar .char x3] := hz; rw [n0, n1, n2, n3] at hz2; exact hL z (List.mem_of_mem_take (i := 4) (show z ∈ [x0, x1, x2, x3, x4, x5, x6, x7, x8, x9, x10].take 4 from hz2))) (by simp) (by decide)) (fun _ q => q) pd_10 rfl rfl rfl dST_135 (pc' := 138) rfl (Wt := 1) (Nat.le_refl _) (by first | decide | (dsimp only; omega) | (simp [Value.category]; done) | (simp [Value.category]; omega)) (by first | decide | (dsimp only; omega) | (simp [Value.category]; done) | (simp [Value.category]; omega)) (by first | decide | (dsimp only; omega) | (simp [Value.category]; done) | (simp [Value.category]; omega)) (by first | decide | (dsimp only; omega) | (simp [Value.category]; done) | (simp [Value.category]; omega)) (fun vq hq Wq ⟨eq, dq, Sq, Kcq, hdq⟩ gq => ?_)
    subst eq
    dsimp only [Option.toList, List.cons_append, List.nil_append]
    have Kq : Keep h hq [] := (((((((Keep.refl h []).ext Eqs).ext Eqv).trans Kq0 (fun z hz => Or.inr (by rw [List.mem_singleton.mp hz]; omega))).trans Kq1 (fun z hz => Or.inr (by rw [List.mem_singleton.mp hz]; omega))).trans Kq2 (fun z hz => Or.inr (by rw [List.mem_singleton.mp hz]; omega))).trans Kq3 (fun z hz => Or.inr (by rw [List.mem_singleton.mp hz]; omega))).trans Kcq (fun z hz => Or.inr (by rw [List.mem_singleton.mp hz]; omega))
    have Sq2 : Ow.StrL Z hq aqs dq [nar .char x0, nar .char x1, nar .char x2, nar .char x3] := Sq
    rw [n0, n1, n2, n3] at Sq2
    refine Ow.retA C rfl rfl rfl dST_138 (by first | decide | (dsimp only; omega) | (simp [Value.category]; done) | (simp [Value.category]; omega)) (by first | decide | (dsimp only; omega) | (simp [Value.category]; done) | (simp [Value.category]; omega)) [] (by first | (simp; done) | (intro x hx; simp [hx]; done)) ⟨aqs, dq, rfl, Kq, Sq2⟩
  · refine Ow.iloadN C dST_0 (pc' := 1) rfl rfl ?_
    refine Ow.ifCY C 15 dST_1 (XT.i0_ne_t (by decide)) (by decide) (by decide) ?_
    refine Ow.iloadN C dST_15 (pc' := 16) rfl rfl ?_
    refine Ow.iconst C (1 : Int32) dST_16 (pc' := 17) rfl rfl ?_
    refine Ow.icmpY C 37 dST_17 (XT.ii_ne_t (by decide)) (by decide) (by decide) ?_
    refine Ow.iloadN C dST_37 (pc' := 38) rfl rfl ?_
    refine Ow.iconst C (2 : Int32) dST_38 (pc' := 39) rfl rfl ?_
    refine Ow.icmpY C 65 dST_39 (XT.ii_ne_t (by decide)) (by decide) (by decide) ?_
    refine Ow.iloadN C dST_65 (pc' := 66) rfl rfl ?_
    refine Ow.iconst C (3 : Int32) dST_66 (pc' := 67) rfl rfl ?_
    refine Ow.icmpY C 99 dST_67 (XT.ii_ne_t (by decide)) (by decide) (by decide) ?_
    refine Ow.iloadN C dST_99 (pc' := 100) rfl rfl ?_
    refine Ow.iconst C (4 : Int32) dST_100 (pc' := 101) rfl rfl ?_
    refine Ow.icmpY C 139 dST_101 (XT.ii_ne_t (by decide)) (by decide) (by decide) ?_
    refine Ow.iloadN C dST_139 (pc' := 140) rfl rfl ?_
    refine Ow.iconst C (5 : Int32) dST_140 (pc' := 141) rfl rfl ?_
    refine Ow.icmpN C dST_141 (pc' := 144) rfl (XT.ii_ne_f rfl) ?_
    refine Ow.newO C (tw52 G.1) (tw2 G.1) (tw1 G.1) dST_144 (pc' := 147) rfl (by first | decide | (dsimp only; omega) | (simp [Value.category]; done) | (simp [Value.category]; omega)) (by first | decide | (dsimp only; omega) | (simp [Value.category]; done) | (simp [Value.category]; omega)) (fun hqs aqs sqs zqs lqs Eqs ⟨Aqs, Dqs⟩ => ?_)
    have F_qs := F.ext Eqs
    refine Ow.dup C dST_147 (pc' := 148) rfl rfl ?_
    refine Ow.iconst C (5 : Int32) dST_148 (pc' := 149) rfl rfl ?_
    refine Ow.newarr C (ty := .char) (cap := 5) rfl rfl (tw21 G.1) dST_149 (pc' := 151) rfl rfl (by decide) (by first | decide | (dsimp only; omega) | (simp [Value.category]; done) | (simp [Value.category]; omega)) (by first | decide | (dsimp only; omega) | (simp [Value.category]; done) | (simp [Value.category]; omega)) (fun hqv aqv sqv zqv lqv Eqv Vqv => ?_)
    have F_qv := F_qs.ext Eqv
    refine Ow.dup C dST_151 (pc' := 152) rfl rfl ?_
    refine Ow.iconst C (0 : Int32) dST_152 (pc' := 153) rfl rfl ?_
    refine Ow.aloadN C dST_153 (pc' := 154) rfl rfl rfl ?_
    refine Ow.iconst C (0 : Int32) dST_154 (pc' := 155) rfl rfl ?_
    refine Ow.caload C F_qv (i := 0) rfl (by first | decide | (simp; done) | omega) dST_155 (pc' := 156) rfl ?_
    refine Ow.castore C Vqv (i := 0) rfl (by first | decide | (simp; done)) (by first | assumption | (simp; done) | (simp [*]; done)) dST_156 (pc' := 157) rfl (fun hq0 Kq0 Vq0 => ?_)
    have gq0 := Kq0.1
    have F_q0 := F_qv.keep Kq0 (Ow.nin1 (by have := F.lt; omega))
    refine Ow.dup C dST_157 (pc' := 158) rfl rfl ?_
    refine Ow.iconst C (1 : Int32) dST_158 (pc' := 159) rfl rfl ?_
    refine Ow.aloadN C dST_159 (pc' := 160) rfl rfl rfl ?_
    refine Ow.iconst C (1 : Int32) dST_160 (pc' := 161) rfl rfl ?_
    refine Ow.caload C F_q0 (i := 1) rfl (by first | decide | (simp; done) | omega) dST_161 (pc' := 162) rfl ?_
    refine Ow.castore C Vq0 (i := 1) rfl (by first | decide | (simp; done)) (by first | assumption | (simp; done) | (simp [*]; done)) dST_162 (pc' := 163) rfl (fun hq1 Kq1 Vq1 => ?_)
    have gq1 := Kq1.1
    have F_q1 := F_q0.keep Kq1 (Ow.nin1 (by have := F.lt; omega))
    refine Ow.dup C dST_163 (pc' := 164) rfl rfl ?_
    refine Ow.iconst C (2 : Int32) dST_164 (pc' := 165) rfl rfl ?_
    refine Ow.aloadN C dST_165 (pc' := 166) rfl rfl rfl ?_
    refine Ow.iconst C (2 : Int32) dST_166 (pc' := 167) rfl rfl ?_
    refine Ow.caload C F_q1 (i := 2) rfl (by first | decide | (simp; done) | omega) dST_167 (pc' := 168) rfl ?_
    refine Ow.castore C Vq1 (i := 2) rfl (by first | decide | (simp; done)) (by first | assumption | (simp; done) | (simp [*]; done)) dST_168 (pc' := 169) rfl (fun hq2 Kq2 Vq2 => ?_)
    have gq2 := Kq2.1
    have F_q2 := F_q1.keep Kq2 (Ow.nin1 (by have := F.lt; omega))
    refine Ow.dup C dST_169 (pc' := 170) rfl rfl ?_
    refine Ow.iconst C (3 : Int32) dST_170 (pc' := 171) rfl rfl ?_
    refine Ow.aloadN C dST_171 (pc' := 172) rfl rfl rfl ?_
    refine Ow.iconst C (3 : Int32) dST_172 (pc' := 173) rfl rfl ?_
    refine Ow.caload C F_q2 (i := 3) rfl (by first | decide | (simp; done) | omega) dST_173 (pc' := 174) rfl ?_
    refine Ow.castore C Vq2 (i := 3) rfl (by first | decide | (simp; done)) (by first | assumption | (simp; done) | (simp [*]; done)) dST_174 (pc' := 175) rfl (fun hq3 Kq3 Vq3 => ?_)
    have gq3 := Kq3.1
    have F_q3 := F_q2.keep Kq3 (Ow.nin1 (by have := F.lt; omega))
    refine Ow.dup C dST_175 (pc' := 176) rfl rfl ?_
    refine Ow.iconst C (4 : Int32) dST_176 (pc' := 177) rfl rfl ?_
    refine Ow.aloadN C dST_177 (pc' := 178) rfl rfl rfl ?_
    refine Ow.iconst C (4 : Int32) dST_178 (pc' := 179) rfl rfl ?_
    refine Ow.caload C F_q3 (i := 4) rfl (by first | decide | (simp; done) | omega) dST_179 (pc' := 180) rfl ?_
    refine Ow.castore C Vq3 (i := 4) rfl (by first | decide | (simp; done)) (by first | assumption | (simp; done) | (simp [*]; done)) dST_180 (pc' := 181) rfl (fun hq4 Kq4 Vq4 => ?_)
    have gq4 := Kq4.1
    have F_q4 := F_q3.keep Kq4 (Ow.nin1 (by have := F.lt; omega))
    have nq : aqs ≠ aqv := by omega
    have KAq : Keep hqs hq4 [aqv] := (((((((Keep.refl hqs [aqv]).ext Eqv).trans Kq0 (fun _ q => Or.inl q)).trans Kq1 (fun _ q => Or.inl q)).trans Kq2 (fun _ q => Or.inl q)).trans Kq3 (fun _ q => Or.inl q)).trans Kq4 (fun _ q => Or.inl q))
    refine Ow.callI C rfl (tw53 G.1) (tw54 G.1) (tw1 G.1) (tw55 G.1) (by decide) (con_I0 G 5 aqs aqv [_, _, _, _, _] hq4 _ _ _ (Aqs.keep KAq) ((Dqs (Or.inr (tw4 G.1)) (ty := .array .byte) (by decide)).keep KAq (Ow.nin1 nq)) ((Dqs (Or.inr (tw5 G.1)) (ty := .byte) (by decide)).keep KAq (Ow.nin1 nq)) (by simp) Vq4 (by simp) (by intro z hz; have hz2 : z ∈ [nar .char x0, nar .char x1, nar .char x2, nar .char x3, nar .char x4] := hz; rw [n0, n1, n2, n3, n4] at hz2; exact hL z (List.mem_of_mem_take (i := 5) (show z ∈ [x0, x1, x2, x3, x4, x5, x6, x7, x8, x9, x10].take 5 from hz2))) (by simp) (by decide)) (fun _ q => q) pd_10 rfl rfl rfl dST_181 (pc' := 184) rfl (Wt := 1) (Nat.le_refl _) (by first | decide | (dsimp only; omega) | (simp [Value.category]; done) | (simp [Value.category]; omega)) (by first | decide | (dsimp only; omega) | (simp [Value.category]; done) | (simp [Value.category]; omega)) (by first | decide | (dsimp only; omega) | (simp [Value.category]; done) | (simp [Value.category]; omega)) (by first | decide | (dsimp only; omega) | (simp [Value.category]; done) | (simp [Value.category]; omega)) (fun vq hq Wq ⟨eq, dq, Sq, Kcq, hdq⟩ gq => ?_)
    subst eq
    dsimp only [Option.toList, List.cons_append, List.nil_append]
    have Kq : Keep h hq [] := ((((((((Keep.refl h []).ext Eqs).ext Eqv).trans Kq0 (fun z hz => Or.inr (by rw [List.mem_singleton.mp hz]; omega))).trans Kq1 (fun z hz => Or.inr (by rw [List.mem_singleton.mp hz]; omega))).trans Kq2 (fun z hz => Or.inr (by rw [List.mem_singleton.mp hz]; omega))).trans Kq3 (fun z hz => Or.inr (by rw [List.mem_singleton.mp hz]; omega))).trans Kq4 (fun z hz => Or.inr (by rw [List.mem_singleton.mp hz]; omega))).trans Kcq (fun z hz => Or.inr (by rw [List.mem_singleton.mp hz]; omega))
    have Sq2 : Ow.StrL Z hq aqs dq [nar .char x0, nar .char x1, nar .char x2, nar .char x3, nar .char x4] := Sq
    rw [n0, n1, n2, n3, n4] at Sq2
    refine Ow.retA C rfl rfl rfl dST_184 (by first | decide | (dsimp only; omega) | (simp [Value.category]; done) | (simp [Value.category]; omega)) (by first | decide | (dsimp only; omega) | (simp [Value.category]; done) | (simp [Value.category]; omega)) [] (by first | (simp; done) | (intro x hx; simp [hx]; done)) ⟨aqs, dq, rfl, Kq, Sq2⟩
  · refine Ow.iloadN C dST_0 (pc' := 1) rfl rfl ?_
    refine Ow.ifCY C 15 dST_1 (XT.i0_ne_t (by decide)) (by decide) (by decide) ?_
    refine Ow.iloadN C dST_15 (pc' := 16) rfl rfl ?_
    refine Ow.iconst C (1 : Int32) dST_16 (pc' := 17) rfl rfl ?_
    refine Ow.icmpY C 37 dST_17 (XT.ii_ne_t (by decide)) (by decide) (by decide) ?_
    refine Ow.iloadN C dST_37 (pc' := 38) rfl rfl ?_
    refine Ow.iconst C (2 : Int32) dST_38 (pc' := 39) rfl rfl ?_
    refine Ow.icmpY C 65 dST_39 (XT.ii_ne_t (by decide)) (by decide) (by decide) ?_
    refine Ow.iloadN C dST_65 (pc' := 66) rfl rfl ?_
    refine Ow.iconst C (3 : Int32) dST_66 (pc' := 67) rfl rfl ?_
    refine Ow.icmpY C 99 dST_67 (XT.ii_ne_t (by decide)) (by decide) (by decide) ?_
    refine Ow.iloadN C dST_99 (pc' := 100) rfl rfl ?_
    refine Ow.iconst C (4 : Int32) dST_100 (pc' := 101) rfl rfl ?_
    refine Ow.icmpY C 139 dST_101 (XT.ii_ne_t (by decide)) (by decide) (by decide) ?_
    refine Ow.iloadN C dST_139 (pc' := 140) rfl rfl ?_
    refine Ow.iconst C (5 : Int32) dST_140 (pc' := 141) rfl rfl ?_
    refine Ow.icmpY C 185 dST_141 (XT.ii_ne_t (by decide)) (by decide) (by decide) ?_
    refine Ow.iloadN C dST_185 (pc' := 186) rfl rfl ?_
    refine Ow.bipush C (6 : Int32) dST_186 (pc' := 188) rfl rfl ?_
    refine Ow.icmpN C dST_188 (pc' := 191) rfl (XT.ii_ne_f rfl) ?_
    refine Ow.newO C (tw52 G.1) (tw2 G.1) (tw1 G.1) dST_191 (pc' := 194) rfl (by first | decide | (dsimp only; omega) | (simp [Value.category]; done) | (simp [Value.category]; omega)) (by first | decide | (dsimp only; omega) | (simp [Value.category]; done) | (simp [Value.category]; omega)) (fun hqs aqs sqs zqs lqs Eqs ⟨Aqs, Dqs⟩ => ?_)
    have F_qs := F.ext Eqs
    refine Ow.dup C dST_194 (pc' := 195) rfl rfl ?_
    refine Ow.bipush C (6 : Int32) dST_195 (pc' := 197) rfl rfl ?_
    refine Ow.newarr C (ty := .char) (cap := 6) rfl rfl (tw21 G.1) dST_197 (pc' := 199) rfl rfl (by decide) (by first | decide | (dsimp only; omega) | (simp [Value.category]; done) | (simp [Value.category]; omega)) (by first | decide | (dsimp only; omega) | (simp [Value.category]; done) | (simp [Value.category]; omega)) (fun hqv aqv sqv zqv lqv Eqv Vqv => ?_)
    have F_qv := F_qs.ext Eqv
    refine Ow.dup C dST_199 (pc' := 200) rfl rfl ?_
    refine Ow.iconst C (0 : Int32) dST_200 (pc' := 201) rfl rfl ?_
    refine Ow.aloadN C dST_201 (pc' := 202) rfl rfl rfl ?_
    refine Ow.iconst C (0 : Int32) dST_202 (pc' := 203) rfl rfl ?_
    refine Ow.caload C F_qv (i := 0) rfl (by first | decide | (simp; done) | omega) dST_203 (pc' := 204) rfl ?_
    refine Ow.castore C Vqv (i := 0) rfl (by first | decide | (simp; done)) (by first | assumption | (simp; done) | (simp [*]; done)) dST_204 (pc' := 205) rfl (fun hq0 Kq0 Vq0 => ?_)
    have gq0 := Kq0.1
    have F_q0 := F_qv.keep Kq0 (Ow.nin1 (by have := F.lt; omega))
    refine Ow.dup C dST_205 (pc' := 206) rfl rfl ?_
    refine Ow.iconst C (1 : Int32) dST_206 (pc' := 207) rfl rfl ?_
    refine Ow.aloadN C dST_207 (pc' := 208) rfl rfl rfl ?_
    refine Ow.iconst C (1 : Int32) dST_208 (pc' := 209) rfl rfl ?_
    refine Ow.caload C F_q0 (i := 1) rfl (by first | decide | (simp; done) | omega) dST_209 (pc' := 210) rfl ?_
    refine Ow.castore C Vq0 (i := 1) rfl (by first | decide | (simp; done)) (by first | assumption | (simp; done) | (simp [*]; done)) dST_210 (pc' := 211) rfl (fun hq1 Kq1 Vq1 => ?_)
    have gq1 := Kq1.1
    have F_q1 := F_q0.keep Kq1 (Ow.nin1 (by have := F.lt; omega))
    refine Ow.dup C dST_211 (pc' := 212) rfl rfl ?_
    refine Ow.iconst C (2 : Int32) dST_212 (pc' := 213) rfl rfl ?_
    refine Ow.aloadN C dST_213 (pc' := 214) rfl rfl rfl ?_
    refine Ow.iconst C (2 : Int32) dST_214 (pc' := 215) rfl rfl ?_
    refine Ow.caload C F_q1 (i := 2) rfl (by first | decide | (simp; done) | omega) dST_215 (pc' := 216) rfl ?_
    refine Ow.castore C Vq1 (i := 2) rfl (by first | decide | (simp; done)) (by first | assumption | (simp; done) | (simp [*]; done)) dST_216 (pc' := 217) rfl (fun hq2 Kq2 Vq2 => ?_)
    have gq2 := Kq2.1
    have F_q2 := F_q1.keep Kq2 (Ow.nin1 (by have := F.lt; omega))
    refine Ow.dup C dST_217 (pc' := 218) rfl rfl ?_
    refine Ow.iconst C (3 : Int32) dST_218 (pc' := 219) rfl rfl ?_
    refine Ow.aloadN C dST_219 (pc' := 220) rfl rfl rfl ?_
    refine Ow.iconst C (3 : Int32) dST_220 (pc' := 221) rfl rfl ?_
    refine Ow.caload C F_q2 (i := 3) rfl (by first | decide | (simp; done) | omega) dST_221 (pc' := 222) rfl ?_
    refine Ow.castore C Vq2 (i := 3) rfl (by first | decide | (simp; done)) (by first | assumption | (simp; done) | (simp [*]; done)) dST_222 (pc' := 223) rfl (fun hq3 Kq3 Vq3 => ?_)
    have gq3 := Kq3.1
    have F_q3 := F_q2.keep Kq3 (Ow.nin1 (by have := F.lt; omega))
    refine Ow.dup C dST_223 (pc' := 224) rfl rfl ?_
    refine Ow.iconst C (4 : Int32) dST_224 (pc' := 225) rfl rfl ?_
    refine Ow.aloadN C dST_225 (pc' := 226) rfl rfl rfl ?_
    refine Ow.iconst C (4 : Int32) dST_226 (pc' := 227) rfl rfl ?_
    refine Ow.caload C F_q3 (i := 4) rfl (by first | decide | (simp; done) | omega) dST_227 (pc' := 228) rfl ?_
    refine Ow.castore C Vq3 (i := 4) rfl (by first | decide | (simp; done)) (by first | assumption | (simp; done) | (simp [*]; done)) dST_228 (pc' := 229) rfl (fun hq4 Kq4 Vq4 => ?_)
    have gq4 := Kq4.1
    have F_q4 := F_q3.keep Kq4 (Ow.nin1 (by have := F.lt; omega))
    refine Ow.dup C dST_229 (pc' := 230) rfl rfl ?_
    refine Ow.iconst C (5 : Int32) dST_230 (pc' := 231) rfl rfl ?_
    refine Ow.aloadN C dST_231 (pc' := 232) rfl rfl rfl ?_
    refine Ow.iconst C (5 : Int32) dST_232 (pc' := 233) rfl rfl ?_
    refine Ow.caload C F_q4 (i := 5) rfl (by first | decide | (simp; done) | omega) dST_233 (pc' := 234) rfl ?_
    refine Ow.castore C Vq4 (i := 5) rfl (by first | decide | (simp; done)) (by first | assumption | (simp; done) | (simp [*]; done)) dST_234 (pc' := 235) rfl (fun hq5 Kq5 Vq5 => ?_)
    have gq5 := Kq5.1
    have F_q5 := F_q4.keep Kq5 (Ow.nin1 (by have := F.lt; omega))
    have nq : aqs ≠ aqv := by omega
    have KAq : Keep hqs hq5 [aqv] := ((((((((Keep.refl hqs [aqv]).ext Eqv).trans Kq0 (fun _ q => Or.inl q)).trans Kq1 (fun _ q => Or.inl q)).trans Kq2 (fun _ q => Or.inl q)).trans Kq3 (fun _ q => Or.inl q)).trans Kq4 (fun _ q => Or.inl q)).trans Kq5 (fun _ q => Or.inl q))
    refine Ow.callI C rfl (tw53 G.1) (tw54 G.1) (tw1 G.1) (tw55 G.1) (by decide) (con_I0 G 6 aqs aqv [_, _, _, _, _, _] hq5 _ _ _ (Aqs.keep KAq) ((Dqs (Or.inr (tw4 G.1)) (ty := .array .byte) (by decide)).keep KAq (Ow.nin1 nq)) ((Dqs (Or.inr (tw5 G.1)) (ty := .byte) (by decide)).keep KAq (Ow.nin1 nq)) (by simp) Vq5 (by simp) (by intro z hz; have hz2 : z ∈ [nar .char x0, nar .char x1, nar .char x2, nar .char x3, nar .char x4, nar .char x5] := hz; rw [n0, n1, n2, n3, n4, n5] at hz2; exact hL z (List.mem_of_mem_take (i := 6) (show z ∈ [x0, x1, x2, x3, x4, x5, x6, x7, x8, x9, x10].take 6 from hz2))) (by simp) (by decide)) (fun _ q => q) pd_10 rfl rfl rfl dST_235 (pc' := 238) rfl (Wt := 1) (Nat.le_refl _) (by first | decide | (dsimp only; omega) | (simp [Value.category]; done) | (simp [Value.category]; omega)) (by first | decide | (dsimp only; omega) | (simp [Value.category]; done) | (simp [Value.category]; omega)) (by first | decide | (dsimp only; omega) | (simp [Value.category]; done) | (simp [Value.category]; omega)) (by first | decide | (dsimp only; omega) | (simp [Value.category]; done) | (simp [Value.category]; omega)) (fun vq hq Wq ⟨eq, dq, Sq, Kcq, hdq⟩ gq => ?_)
    subst eq
    dsimp only [Option.toList, List.cons_append, List.nil_append]
    have Kq : Keep h hq [] := (((((((((Keep.refl h []).ext Eqs).ext Eqv).trans Kq0 (fun z hz => Or.inr (by rw [List.mem_singleton.mp hz]; omega))).trans Kq1 (fun z hz => Or.inr (by rw [List.mem_singleton.mp hz]; omega))).trans Kq2 (fun z hz => Or.inr (by rw [List.mem_singleton.mp hz]; omega))).trans Kq3 (fun z hz => Or.inr (by rw [List.mem_singleton.mp hz]; omega))).trans Kq4 (fun z hz => Or.inr (by rw [List.mem_singleton.mp hz]; omega))).trans Kq5 (fun z hz => Or.inr (by rw [List.mem_singleton.mp hz]; omega))).trans Kcq (fun z hz => Or.inr (by rw [List.mem_singleton.mp hz]; omega))
    have Sq2 : Ow.StrL Z hq aqs dq [nar .char x0, nar .char x1, nar .char x2, nar .char x3, nar .char x4, nar .char x5] := Sq
    rw [n0, n1, n2, n3, n4, n5] at Sq2
    refine Ow.retA C rfl rfl rfl dST_238 (by first | decide | (dsimp only; omega) | (simp [Value.category]; done) | (simp [Value.category]; omega)) (by first | decide | (dsimp only; omega) | (simp [Value.category]; done) | (simp [Value.category]; omega)) [] (by first | (simp; done) | (intro x hx; simp [hx]; done)) ⟨aqs, dq, rfl, Kq, Sq2⟩
  · refine Ow.iloadN C dST_0 (pc' := 1) rfl rfl ?_
    refine Ow.ifCY C 15 dST_1 (XT.i0_ne_t (by decide)) (by decide) (by decide) ?_
    refine Ow.iloadN C dST_15 (pc' := 16) rfl rfl ?_
    refine Ow.iconst C (1 : Int32) dST_16 (pc' := 17) rfl rfl ?_
    refine Ow.icmpY C 37 dST_17 (XT.ii_ne_t (by decide)) (by decide) (by decide) ?_
    refine Ow.iloadN C dST_37 (pc' := 38) rfl rfl ?_
    refine Ow.iconst C (2 : Int32) dST_38 (pc' := 39) rfl rfl ?_
    refine Ow.icmpY C 65 dST_39 (XT.ii_ne_t (by decide)) (by decide) (by decide) ?_
    refine Ow.iloadN C dST_65 (pc' := 66) rfl rfl ?_
    refine Ow.iconst C (3 : Int32) dST_66 (pc' := 67) rfl rfl ?_
    refine Ow.icmpY C 99 dST_67 (XT.ii_ne_t (by decide)) (by decide) (by decide) ?_
    refine Ow.iloadN C dST_99 (pc' := 100) rfl rfl ?_
    refine Ow.iconst C (4 : Int32) dST_100 (pc' := 101) rfl rfl ?_
    refine Ow.icmpY C 139 dST_101 (XT.ii_ne_t (by decide)) (by decide) (by decide) ?_
    refine Ow.iloadN C dST_139 (pc' := 140) rfl rfl ?_
    refine Ow.iconst C (5 : Int32) dST_140 (pc' := 141) rfl rfl ?_
    refine Ow.icmpY C 185 dST_141 (XT.ii_ne_t (by decide)) (by decide) (by decide) ?_
    refine Ow.iloadN C dST_185 (pc' := 186) rfl rfl ?_
    refine Ow.bipush C (6 : Int32) dST_186 (pc' := 188) rfl rfl ?_
    refine Ow.icmpY C 239 dST_188 (XT.ii_ne_t (by decide)) (by decide) (by decide) ?_
    refine Ow.iloadN C dST_239 (pc' := 240) rfl rfl ?_
    refine Ow.bipush C (7 : Int32) dST_240 (pc' := 242) rfl rfl ?_
    refine Ow.icmpN C dST_242 (pc' := 245) rfl (XT.ii_ne_f rfl) ?_
    refine Ow.newO C (tw52 G.1) (tw2 G.1) (tw1 G.1) dST_245 (pc' := 248) rfl (by first | decide | (dsimp only; omega) | (simp [Value.category]; done) | (simp [Value.category]; omega)) (by first | decide | (dsimp only; omega) | (simp [Value.category]; done) | (simp [Value.category]; omega)) (fun hqs aqs sqs zqs lqs Eqs ⟨Aqs, Dqs⟩ => ?_)
    have F_qs := F.ext Eqs
    refine Ow.dup C dST_248 (pc' := 249) rfl rfl ?_
    refine Ow.bipush C (7 : Int32) dST_249 (pc' := 251) rfl rfl ?_
    refine Ow.newarr C (ty := .char) (cap := 7) rfl rfl (tw21 G.1) dST_251 (pc' := 253) rfl rfl (by decide) (by first | decide | (dsimp only; omega) | (simp [Value.category]; done) | (simp [Value.category]; omega)) (by first | decide | (dsimp only; omega) | (simp [Value.category]; done) | (simp [Value.category]; omega)) (fun hqv aqv sqv zqv lqv Eqv Vqv => ?_)
    have F_qv := F_qs.ext Eqv
    refine Ow.dup C dST_253 (pc' := 254) rfl rfl ?_
    refine Ow.iconst C (0 : Int32) dST_254 (pc' := 255) rfl rfl ?_
    refine Ow.aloadN C dST_255 (pc' := 256) rfl rfl rfl ?_
    refine Ow.iconst C (0 : Int32) dST_256 (pc' := 257) rfl rfl ?_
    refine Ow.caload C F_qv (i := 0) rfl (by first | decide | (simp; done) | omega) dST_257 (pc' := 258) rfl ?_
    refine Ow.castore C Vqv (i := 0) rfl (by first | decide | (simp; done)) (by first | assumption | (simp; done) | (simp [*]; done)) dST_258 (pc' := 259) rfl (fun hq0 Kq0 Vq0 => ?_)
    have gq0 := Kq0.1
    have F_q0 := F_qv.keep Kq0 (Ow.nin1 (by have := F.lt; omega))
    refine Ow.dup C dST_259 (pc' := 260) rfl rfl ?_
    refine Ow.iconst C (1 : Int32) dST_260 (pc' := 261) rfl rfl ?_
    refine Ow.aloadN C dST_261 (pc' := 262) rfl rfl rfl ?_
    refine Ow.iconst C (1 : Int32) dST_262 (pc' := 263) rfl rfl ?_
    refine Ow.caload C F_q0 (i := 1) rfl (by first | decide | (simp; done) | omega) dST_263 (pc' := 264) rfl ?_
    refine Ow.castore C Vq0 (i := 1) rfl (by first | decide | (simp; done)) (by first | assumption | (simp; done) | (simp [*]; done)) dST_264 (pc' := 265) rfl (fun hq1 Kq1 Vq1 => ?_)
    have gq1 := Kq1.1
    have F_q1 := F_q0.keep Kq1 (Ow.nin1 (by have := F.lt; omega))
    refine Ow.dup C dST_265 (pc' := 266) rfl rfl ?_
    refine Ow.iconst C (2 : Int32) dST_266 (pc' := 267) rfl rfl ?_
    refine Ow.aloadN C dST_267 (pc' := 268) rfl rfl rfl ?_
    refine Ow.iconst C (2 : Int32) dST_268 (pc' := 269) rfl rfl ?_
    refine Ow.caload C F_q1 (i := 2) rfl (by first | decide | (simp; done) | omega) dST_269 (pc' := 270) rfl ?_
    refine Ow.castore C Vq1 (i := 2) rfl (by first | decide | (simp; done)) (by first | assumption | (simp; done) | (simp [*]; done)) dST_270 (pc' := 271) rfl (fun hq2 Kq2 Vq2 => ?_)
    have gq2 := Kq2.1
    have F_q2 := F_q1.keep Kq2 (Ow.nin1 (by have := F.lt; omega))
    refine Ow.dup C dST_271 (pc' := 272) rfl rfl ?_
    refine Ow.iconst C (3 : Int32) dST_272 (pc' := 273) rfl rfl ?_
    refine Ow.aloadN C dST_273 (pc' := 274) rfl rfl rfl ?_
    refine Ow.iconst C (3 : Int32) dST_274 (pc' := 275) rfl rfl ?_
    refine Ow.caload C F_q2 (i := 3) rfl (by first | decide | (simp; done) | omega) dST_275 (pc' := 276) rfl ?_
    refine Ow.castore C Vq2 (i := 3) rfl (by first | decide | (simp; done)) (by first | assumption | (simp; done) | (simp [*]; done)) dST_276 (pc' := 277) rfl (fun hq3 Kq3 Vq3 => ?_)
    have gq3 := Kq3.1
    have F_q3 := F_q2.keep Kq3 (Ow.nin1 (by have := F.lt; omega))
    refine Ow.dup C dST_277 (pc' := 278) rfl rfl ?_
    refine Ow.iconst C (4 : Int32) dST_278 (pc' := 279) rfl rfl ?_
    refine Ow.aloadN C dST_279 (pc' := 280) rfl rfl rfl ?_
    refine Ow.iconst C (4 : Int32) dST_280 (pc' := 281) rfl rfl ?_
    refine Ow.caload C F_q3 (i := 4) rfl (by first | decide | (simp; done) | omega) dST_281 (pc' := 282) rfl ?_
    refine Ow.castore C Vq3 (i := 4) rfl (by first | decide | (simp; done)) (by first | assumption | (simp; done) | (simp [*]; done)) dST_282 (pc' := 283) rfl (fun hq4 Kq4 Vq4 => ?_)
    have gq4 := Kq4.1
    have F_q4 := F_q3.keep Kq4 (Ow.nin1 (by have := F.lt; omega))
    refine Ow.dup C dST_283 (pc' := 284) rfl rfl ?_
    refine Ow.iconst C (5 : Int32) dST_284 (pc' := 285) rfl rfl ?_
    refine Ow.aloadN C dST_285 (pc' := 286) rfl rfl rfl ?_
    refine Ow.iconst C (5 : Int32) dST_286 (pc' := 287) rfl rfl ?_
    refine Ow.caload C F_q4 (i := 5) rfl (by first | decide | (simp; done) | omega) dST_287 (pc' := 288) rfl ?_
    refine Ow.castore C Vq4 (i := 5) rfl (by first | decide | (simp; done)) (by first | assumption | (simp; done) | (simp [*]; done)) dST_288 (pc' := 289) rfl (fun hq5 Kq5 Vq5 => ?_)
    have gq5 := Kq5.1
    have F_q5 := F_q4.keep Kq5 (Ow.nin1 (by have := F.lt; omega))
    refine Ow.dup C dST_289 (pc' := 290) rfl rfl ?_
    refine Ow.bipush C (6 : Int32) dST_290 (pc' := 292) rfl rfl ?_
    refine Ow.aloadN C dST_292 (pc' := 293) rfl rfl rfl ?_
    refine Ow.bipush C (6 : Int32) dST_293 (pc' := 295) rfl rfl ?_
    refine Ow.caload C F_q5 (i := 6) rfl (by first | decide | (simp; done) | omega) dST_295 (pc' := 296) rfl ?_
    refine Ow.castore C Vq5 (i := 6) rfl (by first | decide | (simp; done)) (by first | assumption | (simp; done) | (simp [*]; done)) dST_296 (pc' := 297) rfl (fun hq6 Kq6 Vq6 => ?_)
    have gq6 := Kq6.1
    have F_q6 := F_q5.keep Kq6 (Ow.nin1 (by have := F.lt; omega))
    have nq : aqs ≠ aqv := by omega
    have KAq : Keep hqs hq6 [aqv] := (((((((((Keep.refl hqs [aqv]).ext Eqv).trans Kq0 (fun _ q => Or.inl q)).trans Kq1 (fun _ q => Or.inl q)).trans Kq2 (fun _ q => Or.inl q)).trans Kq3 (fun _ q => Or.inl q)).trans Kq4 (fun _ q => Or.inl q)).trans Kq5 (fun _ q => Or.inl q)).trans Kq6 (fun _ q => Or.inl q))
    refine Ow.callI C rfl (tw53 G.1) (tw54 G.1) (tw1 G.1) (tw55 G.1) (by decide) (con_I0 G 7 aqs aqv [_, _, _, _, _, _, _] hq6 _ _ _ (Aqs.keep KAq) ((Dqs (Or.inr (tw4 G.1)) (ty := .array .byte) (by decide)).keep KAq (Ow.nin1 nq)) ((Dqs (Or.inr (tw5 G.1)) (ty := .byte) (by decide)).keep KAq (Ow.nin1 nq)) (by simp) Vq6 (by simp) (by intro z hz; have hz2 : z ∈ [nar .char x0, nar .char x1, nar .char x2, nar .char x3, nar .char x4, nar .char x5, nar .char x6] := hz; rw [n0, n1, n2, n3, n4, n5, n6] at hz2; exact hL z (List.mem_of_mem_take (i := 7) (show z ∈ [x0, x1, x2, x3, x4, x5, x6, x7, x8, x9, x10].take 7 from hz2))) (by simp) (by decide)) (fun _ q => q) pd_10 rfl rfl rfl dST_297 (pc' := 300) rfl (Wt := 1) (Nat.le_refl _) (by first | decide | (dsimp only; omega) | (simp [Value.category]; done) | (simp [Value.category]; omega)) (by first | decide | (dsimp only; omega) | (simp [Value.category]; done) | (simp [Value.category]; omega)) (by first | decide | (dsimp only; omega) | (simp [Value.category]; done) | (simp [Value.category]; omega)) (by first | decide | (dsimp only; omega) | (simp [Value.category]; done) | (simp [Value.category]; omega)) (fun vq hq Wq ⟨eq, dq, Sq, Kcq, hdq⟩ gq => ?_)
    subst eq
    dsimp only [Option.toList, List.cons_append, List.nil_append]
    have Kq : Keep h hq [] := ((((((((((Keep.refl h []).ext Eqs).ext Eqv).trans Kq0 (fun z hz => Or.inr (by rw [List.mem_singleton.mp hz]; omega))).trans Kq1 (fun z hz => Or.inr (by rw [List.mem_singleton.mp hz]; omega))).trans Kq2 (fun z hz => Or.inr (by rw [List.mem_singleton.mp hz]; omega))).trans Kq3 (fun z hz => Or.inr (by rw [List.mem_singleton.mp hz]; omega))).trans Kq4 (fun z hz => Or.inr (by rw [List.mem_singleton.mp hz]; omega))).trans Kq5 (fun z hz => Or.inr (by rw [List.mem_singleton.mp hz]; omega))).trans Kq6 (fun z hz => Or.inr (by rw [List.mem_singleton.mp hz]; omega))).trans Kcq (fun z hz => Or.inr (by rw [List.mem_singleton.mp hz]; omega))
    have Sq2 : Ow.StrL Z hq aqs dq [nar .char x0, nar .char x1, nar .char x2, nar .char x3, nar .char x4, nar .char x5, nar .char x6] := Sq
    rw [n0, n1, n2, n3, n4, n5, n6] at Sq2
    refine Ow.retA C rfl rfl rfl dST_300 (by first | decide | (dsimp only; omega) | (simp [Value.category]; done) | (simp [Value.category]; omega)) (by first | decide | (dsimp only; omega) | (simp [Value.category]; done) | (simp [Value.category]; omega)) [] (by first | (simp; done) | (intro x hx; simp [hx]; done)) ⟨aqs, dq, rfl, Kq, Sq2⟩
  · refine Ow.iloadN C dST_0 (pc' := 1) rfl rfl ?_
    refine Ow.ifCY C 15 dST_1 (XT.i0_ne_t (by decide)) (by decide) (by decide) ?_
    refine Ow.iloadN C dST_15 (pc' := 16) rfl rfl ?_
    refine Ow.iconst C (1 : Int32) dST_16 (pc' := 17) rfl rfl ?_
    refine Ow.icmpY C 37 dST_17 (XT.ii_ne_t (by decide)) (by decide) (by decide) ?_
    refine Ow.iloadN C dST_37 (pc' := 38) rfl rfl ?_
    refine Ow.iconst C (2 : Int32) dST_38 (pc' := 39) rfl rfl ?_
    refine Ow.icmpY C 65 dST_39 (XT.ii_ne_t (by decide)) (by decide) (by decide) ?_
    refine Ow.iloadN C dST_65 (pc' := 66) rfl rfl ?_
    refine Ow.iconst C (3 : Int32) dST_66 (pc' := 67) rfl rfl ?_
    refine Ow.icmpY C 99 dST_67 (XT.ii_ne_t (by decide)) (by decide) (by decide) ?_
    refine Ow.iloadN C dST_99 (pc' := 100) rfl rfl ?_
    refine Ow.iconst C (4 : Int32) dST_100 (pc' := 101) rfl rfl ?_
    refine Ow.icmpY C 139 dST_101 (XT.ii_ne_t (by decide)) (by decide) (by decide) ?_
    refine Ow.iloadN C dST_139 (pc' := 140) rfl rfl ?_
    refine Ow.iconst C (5 : Int32) dST_140 (pc' := 141) rfl rfl ?_
    refine Ow.icmpY C 185 dST_141 (XT.ii_ne_t (by decide)) (by decide) (by decide) ?_
    refine Ow.iloadN C dST_185 (pc' := 186) rfl rfl ?_
    refine Ow.bipush C (6 : Int32) dST_186 (pc' := 188) rfl rfl ?_
    refine Ow.icmpY C 239 dST_188 (XT.ii_ne_t (by decide)) (by decide) (by decide) ?_
    refine Ow.iloadN C dST_239 (pc' := 240) rfl rfl ?_
    refine Ow.bipush C (7 : Int32) dST_240 (pc' := 242) rfl rfl ?_
    refine Ow.icmpY C 301 dST_242 (XT.ii_ne_t (by decide)) (by decide) (by decide) ?_
    refine Ow.iloadN C dST_301 (pc' := 302) rfl rfl ?_
    refine Ow.bipush C (8 : Int32) dST_302 (pc' := 304) rfl rfl ?_
    refine Ow.icmpN C dST_304 (pc' := 307) rfl (XT.ii_ne_f rfl) ?_
    refine Ow.newO C (tw52 G.1) (tw2 G.1) (tw1 G.1) dST_307 (pc' := 310) rfl (by first | decide | (dsimp only; omega) | (simp [Value.category]; done) | (simp [Value.category]; omega)) (by first | decide | (dsimp only; omega) | (simp [Value.category]; done) | (simp [Value.category]; omega)) (fun hqs aqs sqs zqs lqs Eqs ⟨Aqs, Dqs⟩ => ?_)
    have F_qs := F.ext Eqs
    refine Ow.dup C dST_310 (pc' := 311) rfl rfl ?_
    refine Ow.bipush C (8 : Int32) dST_311 (pc' := 313) rfl rfl ?_
    refine Ow.newarr C (ty := .char) (cap := 8) rfl rfl (tw21 G.1) dST_313 (pc' := 315) rfl rfl (by decide) (by first | decide | (dsimp only; omega) | (simp [Value.category]; done) | (simp [Value.category]; omega)) (by first | decide | (dsimp only; omega) | (simp [Value.category]; done) | (simp [Value.category]; omega)) (fun hqv aqv sqv zqv lqv Eqv Vqv => ?_)
    have F_qv := F_qs.ext Eqv
    refine Ow.dup C dST_315 (pc' := 316) rfl rfl ?_
    refine Ow.iconst C (0 : Int32) dST_316 (pc' := 317) rfl rfl ?_
    refine Ow.aloadN C dST_317 (pc' := 318) rfl rfl rfl ?_
    refine Ow.iconst C (0 : Int32) dST_318 (pc' := 319) rfl rfl ?_
    refine Ow.caload C F_qv (i := 0) rfl (by first | decide | (simp; done) | omega) dST_319 (pc' := 320) rfl ?_
    refine Ow.castore C Vqv (i := 0) rfl (by first | decide | (simp; done)) (by first | assumption | (simp; done) | (simp [*]; done)) dST_320 (pc' := 321) rfl (fun hq0 Kq0 Vq0 => ?_)
    have gq0 := Kq0.1
    have F_q0 := F_qv.keep Kq0 (Ow.nin1 (by have := F.lt; omega))
    refine Ow.dup C dST_321 (pc' := 322) rfl rfl ?_
    refine Ow.iconst C (1 : Int32) dST_322 (pc' := 323) rfl rfl ?_
    refine Ow.aloadN C dST_323 (pc' := 324) rfl rfl rfl ?_
    refine Ow.iconst C (1 : Int32) dST_324 (pc' := 325) rfl rfl ?_
    refine Ow.caload C F_q0 (i := 1) rfl (by first | decide | (simp; done) | omega) dST_325 (pc' := 326) rfl ?_
    refine Ow.castore C Vq0 (i := 1) rfl (by first | decide | (simp; done)) (by first | assumption | (simp; done) | (simp [*]; done)) dST_326 (pc' := 327) rfl (fun hq1 Kq1 Vq1 => ?_)
    have gq1 := Kq1.1
    have F_q1 := F_q0.keep Kq1 (Ow.nin1 (by have := F.lt; omega))
    refine Ow.dup C dST_327 (pc' := 328) rfl rfl ?_
    refine Ow.iconst C (2 : Int32) dST_328 (pc' := 329) rfl rfl ?_
    refine Ow.aloadN C dST_329 (pc' := 330) rfl rfl rfl ?_
    refine Ow.iconst C (2 : Int32) dST_330 (pc' := 331) rfl rfl ?_
    refine Ow.caload C F_q1 (i := 2) rfl (by first | decide | (simp; done) | omega) dST_331 (pc' := 332) rfl ?_
    refine Ow.castore C Vq1 (i := 2) rfl (by first | decide | (simp; done)) (by first | assumption | (simp; done) | (simp [*]; done)) dST_332 (pc' := 333) rfl (fun hq2 Kq2 Vq2 => ?_)
    have gq2 := Kq2.1
    have F_q2 := F_q1.keep Kq2 (Ow.nin1 (by have := F.lt; omega))
    refine Ow.dup C dST_333 (pc' := 334) rfl rfl ?_
    refine Ow.iconst C (3 : Int32) dST_334 (pc' := 335) rfl rfl ?_
    refine Ow.aloadN C dST_335 (pc' := 336) rfl rfl rfl ?_
    refine Ow.iconst C (3 : Int32) dST_336 (pc' := 337) rfl rfl ?_
    refine Ow.caload C F_q2 (i := 3) rfl (by first | decide | (simp; done) | omega) dST_337 (pc' := 338) rfl ?_
    refine Ow.castore C Vq2 (i := 3) rfl (by first | decide | (simp; done)) (by first | assumption | (simp; done) | (simp [*]; done)) dST_338 (pc' := 339) rfl (fun hq3 Kq3 Vq3 => ?_)
    have gq3 := Kq3.1
    have F_q3 := F_q2.keep Kq3 (Ow.nin1 (by have := F.lt; omega))
    refine Ow.dup C dST_339 (pc' := 340) rfl rfl ?_
    refine Ow.iconst C (4 : Int32) dST_340 (pc' := 341) rfl rfl ?_
    refine Ow.aloadN C dST_341 (pc' := 342) rfl rfl rfl ?_
    refine Ow.iconst C (4 : Int32) dST_342 (pc' := 343) rfl rfl ?_
    refine Ow.caload C F_q3 (i := 4) rfl (by first | decide | (simp; done) | omega) dST_343 (pc' := 344) rfl ?_
    refine Ow.castore C Vq3 (i := 4) rfl (by first | decide | (simp; done)) (by first | assumption | (simp; done) | (simp [*]; done)) dST_344 (pc' := 345) rfl (fun hq4 Kq4 Vq4 => ?_)
    have gq4 := Kq4.1
    have F_q4 := F_q3.keep Kq4 (Ow.nin1 (by have := F.lt; omega))
    refine Ow.dup C dST_345 (pc' := 346) rfl rfl ?_
    refine Ow.iconst C (5 : Int32) dST_346 (pc' := 347) rfl rfl ?_
    refine Ow.aloadN C dST_347 (pc' := 348) rfl rfl rfl ?_
    refine Ow.iconst C (5 : Int32) dST_348 (pc' := 349) rfl rfl ?_
    refine Ow.caload C F_q4 (i := 5) rfl (by first | decide | (simp; done) | omega) dST_349 (pc' := 350) rfl ?_
    refine Ow.castore C Vq4 (i := 5) rfl (by first | decide | (simp; done)) (by first | assumption | (simp; done) | (simp [*]; done)) dST_350 (pc' := 351) rfl (fun hq5 Kq5 Vq5 => ?_)
    have gq5 := Kq5.1
    have F_q5 := F_q4.keep Kq5 (Ow.nin1 (by have := F.lt; omega))
    refine Ow.dup C dST_351 (pc' := 352) rfl rfl ?_
    refine Ow.bipush C (6 : Int32) dST_352 (pc' := 354) rfl rfl ?_
    refine Ow.aloadN C dST_354 (pc' := 355) rfl rfl rfl ?_
    refine Ow.bipush C (6 : Int32) dST_355 (pc' := 357) rfl rfl ?_
    refine Ow.caload C F_q5 (i := 6) rfl (by first | decide | (simp; done) | omega) dST_357 (pc' := 358) rfl ?_
    refine Ow.castore C Vq5 (i := 6) rfl (by first | decide | (simp; done)) (by first | assumption | (simp; done) | (simp [*]; done)) dST_358 (pc' := 359) rfl (fun hq6 Kq6 Vq6 => ?_)
    have gq6 := Kq6.1
    have F_q6 := F_q5.keep Kq6 (Ow.nin1 (by have := F.lt; omega))
    refine Ow.dup C dST_359 (pc' := 360) rfl rfl ?_
    refine Ow.bipush C (7 : Int32) dST_360 (pc' := 362) rfl rfl ?_
    refine Ow.aloadN C dST_362 (pc' := 363) rfl rfl rfl ?_
    refine Ow.bipush C (7 : Int32) dST_363 (pc' := 365) rfl rfl ?_
    refine Ow.caload C F_q6 (i := 7) rfl (by first | decide | (simp; done) | omega) dST_365 (pc' := 366) rfl ?_
    refine Ow.castore C Vq6 (i := 7) rfl (by first | decide | (simp; done)) (by first | assumption | (simp; done) | (simp [*]; done)) dST_366 (pc' := 367) rfl (fun hq7 Kq7 Vq7 => ?_)
    have gq7 := Kq7.1
    have F_q7 := F_q6.keep Kq7 (Ow.nin1 (by have := F.lt; omega))
    have nq : aqs ≠ aqv := by omega
    have KAq : Keep hqs hq7 [aqv] := ((((((((((Keep.refl hqs [aqv]).ext Eqv).trans Kq0 (fun _ q => Or.inl q)).trans Kq1 (fun _ q => Or.inl q)).trans Kq2 (fun _ q => Or.inl q)).trans Kq3 (fun _ q => Or.inl q)).trans Kq4 (fun _ q => Or.inl q)).trans Kq5 (fun _ q => Or.inl q)).trans Kq6 (fun _ q => Or.inl q)).trans Kq7 (fun _ q => Or.inl q))
    refine Ow.callI C rfl (tw53 G.1) (tw54 G.1) (tw1 G.1) (tw55 G.1) (by decide) (con_I0 G 8 aqs aqv [_, _, _, _, _, _, _, _] hq7 _ _ _ (Aqs.keep KAq) ((Dqs (Or.inr (tw4 G.1)) (ty := .array .byte) (by decide)).keep KAq (Ow.nin1 nq)) ((Dqs (Or.inr (tw5 G.1)) (ty := .byte) (by decide)).keep KAq (Ow.nin1 nq)) (by simp) Vq7 (by simp) (by intro z hz; have hz2 : z ∈ [nar .char x0, nar .char x1, nar .char x2, nar .char x3, nar .char x4, nar .char x5, nar .char x6, nar .char x7] := hz; rw [n0, n1, n2, n3, n4, n5, n6, n7] at hz2; exact hL z (List.mem_of_mem_take (i := 8) (show z ∈ [x0, x1, x2, x3, x4, x5, x6, x7, x8, x9, x10].take 8 from hz2))) (by simp) (by decide)) (fun _ q => q) pd_10 rfl rfl rfl dST_367 (pc' := 370) rfl (Wt := 1) (Nat.le_refl _) (by first | decide | (dsimp only; omega) | (simp [Value.category]; done) | (simp [Value.category]; omega)) (by first | decide | (dsimp only; omega) | (simp [Value.category]; done) | (simp [Value.category]; omega)) (by first | decide | (dsimp only; omega) | (simp [Value.category]; done) | (simp [Value.category]; omega)) (by first | decide | (dsimp only; omega) | (simp [Value.category]; done) | (simp [Value.category]; omega)) (fun vq hq Wq ⟨eq, dq, Sq, Kcq, hdq⟩ gq => ?_)
    subst eq
    dsimp only [Option.toList, List.cons_append, List.nil_append]
    have Kq : Keep h hq [] := (((((((((((Keep.refl h []).ext Eqs).ext Eqv).trans Kq0 (fun z hz => Or.inr (by rw [List.mem_singleton.mp hz]; omega))).trans Kq1 (fun z hz => Or.inr (by rw [List.mem_singleton.mp hz]; omega))).trans Kq2 (fun z hz => Or.inr (by rw [List.mem_singleton.mp hz]; omega))).trans Kq3 (fun z hz => Or.inr (by rw [List.mem_singleton.mp hz]; omega))).trans Kq4 (fun z hz => Or.inr (by rw [List.mem_singleton.mp hz]; omega))).trans Kq5 (fun z hz => Or.inr (by rw [List.mem_singleton.mp hz]; omega))).trans Kq6 (fun z hz => Or.inr (by rw [List.mem_singleton.mp hz]; omega))).trans Kq7 (fun z hz => Or.inr (by rw [List.mem_singleton.mp hz]; omega))).trans Kcq (fun z hz => Or.inr (by rw [List.mem_singleton.mp hz]; omega))
    have Sq2 : Ow.StrL Z hq aqs dq [nar .char x0, nar .char x1, nar .char x2, nar .char x3, nar .char x4, nar .char x5, nar .char x6, nar .char x7] := Sq
    rw [n0, n1, n2, n3, n4, n5, n6, n7] at Sq2
    refine Ow.retA C rfl rfl rfl dST_370 (by first | decide | (dsimp only; omega) | (simp [Value.category]; done) | (simp [Value.category]; omega)) (by first | decide | (dsimp only; omega) | (simp [Value.category]; done) | (simp [Value.category]; omega)) [] (by first | (simp; done) | (intro x hx; simp [hx]; done)) ⟨aqs, dq, rfl, Kq, Sq2⟩
  · refine Ow.iloadN C dST_0 (pc' := 1) rfl rfl ?_
    refine Ow.ifCY C 15 dST_1 (XT.i0_ne_t (by decide)) (by decide) (by decide) ?_
    refine Ow.iloadN C dST_15 (pc' := 16) rfl rfl ?_
    refine Ow.iconst C (1 : Int32) dST_16 (pc' := 17) rfl rfl ?_
    refine Ow.icmpY C 37 dST_17 (XT.ii_ne_t (by decide)) (by decide) (by decide) ?_
    refine Ow.iloadN C dST_37 (pc' := 38) rfl rfl ?_
    refine Ow.iconst C (2 : Int32) dST_38 (pc' := 39) rfl rfl ?_
    refine Ow.icmpY C 65 dST_39 (XT.ii_ne_t (by decide)) (by decide) (by decide) ?_
    refine Ow.iloadN C dST_65 (pc' := 66) rfl rfl ?_
    refine Ow.iconst C (3 : Int32) dST_66 (pc' := 67) rfl rfl ?_
    refine Ow.icmpY C 99 dST_67 (XT.ii_ne_t (by decide)) (by decide) (by decide) ?_
    refine Ow.iloadN C dST_99 (pc' := 100) rfl rfl ?_
    refine Ow.iconst C (4 : Int32) dST_100 (pc' := 101) rfl rfl ?_
    refine Ow.icmpY C 139 dST_101 (XT.ii_ne_t (by decide)) (by decide) (by decide) ?_
    refine Ow.iloadN C dST_139 (pc' := 140) rfl rfl ?_
    refine Ow.iconst C (5 : Int32) dST_140 (pc' := 141) rfl rfl ?_
    refine Ow.icmpY C 185 dST_141 (XT.ii_ne_t (by decide)) (by decide) (by decide) ?_
    refine Ow.iloadN C dST_185 (pc' := 186) rfl rfl ?_
    refine Ow.bipush C (6 : Int32) dST_186 (pc' := 188) rfl rfl ?_
    refine Ow.icmpY C 239 dST_188 (XT.ii_ne_t (by decide)) (by decide) (by decide) ?_
    refine Ow.iloadN C dST_239 (pc' := 240) rfl rfl ?_
    refine Ow.bipush C (7 : Int32) dST_240 (pc' := 242) rfl rfl ?_
    refine Ow.icmpY C 301 dST_242 (XT.ii_ne_t (by decide)) (by decide) (by decide) ?_
    refine Ow.iloadN C dST_301 (pc' := 302) rfl rfl ?_
    refine Ow.bipush C (8 : Int32) dST_302 (pc' := 304) rfl rfl ?_
    refine Ow.icmpY C 371 dST_304 (XT.ii_ne_t (by decide)) (by decide) (by decide) ?_
    refine Ow.iloadN C dST_371 (pc' := 372) rfl rfl ?_
    refine Ow.bipush C (9 : Int32) dST_372 (pc' := 374) rfl rfl ?_
    refine Ow.icmpN C dST_374 (pc' := 377) rfl (XT.ii_ne_f rfl) ?_
    refine Ow.newO C (tw52 G.1) (tw2 G.1) (tw1 G.1) dST_377 (pc' := 380) rfl (by first | decide | (dsimp only; omega) | (simp [Value.category]; done) | (simp [Value.category]; omega)) (by first | decide | (dsimp only; omega) | (simp [Value.category]; done) | (simp [Value.category]; omega)) (fun hqs aqs sqs zqs lqs Eqs ⟨Aqs, Dqs⟩ => ?_)
    have F_qs := F.ext Eqs
    refine Ow.dup C dST_380 (pc' := 381) rfl rfl ?_
    refine Ow.bipush C (9 : Int32) dST_381 (pc' := 383) rfl rfl ?_
    refine Ow.newarr C (ty := .char) (cap := 9) rfl rfl (tw21 G.1) dST_383 (pc' := 385) rfl rfl (by decide) (by first | decide | (dsimp only; omega) | (simp [Value.category]; done) | (simp [Value.category]; omega)) (by first | decide | (dsimp only; omega) | (simp [Value.category]; done) | (simp [Value.category]; omega)) (fun hqv aqv sqv zqv lqv Eqv Vqv => ?_)
    have F_qv := F_qs.ext Eqv
    refine Ow.dup C dST_385 (pc' := 386) rfl rfl ?_
    refine Ow.iconst C (0 : Int32) dST_386 (pc' := 387) rfl rfl ?_
    refine Ow.aloadN C dST_387 (pc' := 388) rfl rfl rfl ?_
    refine Ow.iconst C (0 : Int32) dST_388 (pc' := 389) rfl rfl ?_
    refine Ow.caload C F_qv (i := 0) rfl (by first | decide | (simp; done) | omega) dST_389 (pc' := 390) rfl ?_
    refine Ow.castore C Vqv (i := 0) rfl (by first | decide | (simp; done)) (by first | assumption | (simp; done) | (simp [*]; done)) dST_390 (pc' := 391) rfl (fun hq0 Kq0 Vq0 => ?_)
    have gq0 := Kq0.1
    have F_q0 := F_qv.keep Kq0 (Ow.nin1 (by have := F.lt; omega))
    refine Ow.dup C dST_391 (pc' := 392) rfl rfl ?_
    refine Ow.iconst C (1 : Int32) dST_392 (pc' := 393) rfl rfl ?_
    refine Ow.aloadN C dST_393 (pc' := 394) rfl rfl rfl ?_
    refine Ow.iconst C (1 : Int32) dST_394 (pc' := 395) rfl rfl ?_
    refine Ow.caload C F_q0 (i := 1) rfl (by first | decide | (simp; done) | omega) dST_395 (pc' := 396) rfl ?_
    refine Ow.castore C Vq0 (i := 1) rfl (by first | decide | (simp; done)) (by first | assumption | (simp; done) | (simp [*]; done)) dST_396 (pc' := 397) rfl (fun hq1 Kq1 Vq1 => ?_)
    have gq1 := Kq1.1
    have F_q1 := F_q0.keep Kq1 (Ow.nin1 (by have := F.lt; omega))
    refine Ow.dup C dST_397 (pc' := 398) rfl rfl ?_
    refine Ow.iconst C (2 : Int32) dST_398 (pc' := 399) rfl rfl ?_
    refine Ow.aloadN C dST_399 (pc' := 400) rfl rfl rfl ?_
    refine Ow.iconst C (2 : Int32) dST_400 (pc' := 401) rfl rfl ?_
    refine Ow.caload C F_q1 (i := 2) rfl (by first | decide | (simp; done) | omega) dST_401 (pc' := 402) rfl ?_
    refine Ow.castore C Vq1 (i := 2) rfl (by first | decide | (simp; done)) (by first | assumption | (simp; done) | (simp [*]; done)) dST_402 (pc' := 403) rfl (fun hq2 Kq2 Vq2 => ?_)
    have gq2 := Kq2.1
    have F_q2 := F_q1.keep Kq2 (Ow.nin1 (by have := F.lt; omega))
    refine Ow.dup C dST_403 (pc' := 404) rfl rfl ?_
    refine Ow.iconst C (3 : Int32) dST_404 (pc' := 405) rfl rfl ?_
    refine Ow.aloadN C dST_405 (pc' := 406) rfl rfl rfl ?_
    refine Ow.iconst C (3 : Int32) dST_406 (pc' := 407) rfl rfl ?_
    refine Ow.caload C F_q2 (i := 3) rfl (by first | decide | (simp; done) | omega) dST_407 (pc' := 408) rfl ?_
    refine Ow.castore C Vq2 (i := 3) rfl (by first | decide | (simp; done)) (by first | assumption | (simp; done) | (simp [*]; done)) dST_408 (pc' := 409) rfl (fun hq3 Kq3 Vq3 => ?_)
    have gq3 := Kq3.1
    have F_q3 := F_q2.keep Kq3 (Ow.nin1 (by have := F.lt; omega))
    refine Ow.dup C dST_409 (pc' := 410) rfl rfl ?_
    refine Ow.iconst C (4 : Int32) dST_410 (pc' := 411) rfl rfl ?_
    refine Ow.aloadN C dST_411 (pc' := 412) rfl rfl rfl ?_
    refine Ow.iconst C (4 : Int32) dST_412 (pc' := 413) rfl rfl ?_
    refine Ow.caload C F_q3 (i := 4) rfl (by first | decide | (simp; done) | omega) dST_413 (pc' := 414) rfl ?_
    refine Ow.castore C Vq3 (i := 4) rfl (by first | decide | (simp; done)) (by first | assumption | (simp; done) | (simp [*]; done)) dST_414 (pc' := 415) rfl (fun hq4 Kq4 Vq4 => ?_)
    have gq4 := Kq4.1
    have F_q4 := F_q3.keep Kq4 (Ow.nin1 (by have := F.lt; omega))
    refine Ow.dup C dST_415 (pc' := 416) rfl rfl ?_
    refine Ow.iconst C (5 : Int32) dST_416 (pc' := 417) rfl rfl ?_
    refine Ow.aloadN C dST_417 (pc' := 418) rfl rfl rfl ?_
    refine Ow.iconst C (5 : Int32) dST_418 (pc' := 419) rfl rfl ?_
    refine Ow.caload C F_q4 (i := 5) rfl (by first | decide | (simp; done) | omega) dST_419 (pc' := 420) rfl ?_
    refine Ow.castore C Vq4 (i := 5) rfl (by first | decide | (simp; done)) (by first | assumption | (simp; done) | (simp [*]; done)) dST_420 (pc' := 421) rfl (fun hq5 Kq5 Vq5 => ?_)
    have gq5 := Kq5.1
    have F_q5 := F_q4.keep Kq5 (Ow.nin1 (by have := F.lt; omega))
    refine Ow.dup C dST_421 (pc' := 422) rfl rfl ?_
    refine Ow.bipush C (6 : Int32) dST_422 (pc' := 424) rfl rfl ?_
    refine Ow.aloadN C dST_424 (pc' := 425) rfl rfl rfl ?_
    refine Ow.bipush C (6 : Int32) dST_425 (pc' := 427) rfl rfl ?_
    refine Ow.caload C F_q5 (i := 6) rfl (by first | decide | (simp; done) | omega) dST_427 (pc' := 428) rfl ?_
    refine Ow.castore C Vq5 (i := 6) rfl (by first | decide | (simp; done)) (by first | assumption | (simp; done) | (simp [*]; done)) dST_428 (pc' := 429) rfl (fun hq6 Kq6 Vq6 => ?_)
    have gq6 := Kq6.1
    have F_q6 := F_q5.keep Kq6 (Ow.nin1 (by have := F.lt; omega))
    refine Ow.dup C dST_429 (pc' := 430) rfl rfl ?_
    refine Ow.bipush C (7 : Int32) dST_430 (pc' := 432) rfl rfl ?_
    refine Ow.aloadN C dST_432 (pc' := 433) rfl rfl rfl ?_
    refine Ow.bipush C (7 : Int32) dST_433 (pc' := 435) rfl rfl ?_
    refine Ow.caload C F_q6 (i := 7) rfl (by first | decide | (simp; done) | omega) dST_435 (pc' := 436) rfl ?_
    refine Ow.castore C Vq6 (i := 7) rfl (by first | decide | (simp; done)) (by first | assumption | (simp; done) | (simp [*]; done)) dST_436 (pc' := 437) rfl (fun hq7 Kq7 Vq7 => ?_)
    have gq7 := Kq7.1
    have F_q7 := F_q6.keep Kq7 (Ow.nin1 (by have := F.lt; omega))
    refine Ow.dup C dST_437 (pc' := 438) rfl rfl ?_
    refine Ow.bipush C (8 : Int32) dST_438 (pc' := 440) rfl rfl ?_
    refine Ow.aloadN C dST_440 (pc' := 441) rfl rfl rfl ?_
    refine Ow.bipush C (8 : Int32) dST_441 (pc' := 443) rfl rfl ?_
    refine Ow.caload C F_q7 (i := 8) rfl (by first | decide | (simp; done) | omega) dST_443 (pc' := 444) rfl ?_
    refine Ow.castore C Vq7 (i := 8) rfl (by first | decide | (simp; done)) (by first | assumption | (simp; done) | (simp [*]; done)) dST_444 (pc' := 445) rfl (fun hq8 Kq8 Vq8 => ?_)
    have gq8 := Kq8.1
    have F_q8 := F_q7.keep Kq8 (Ow.nin1 (by have := F.lt; omega))
    have nq : aqs ≠ aqv := by omega
    have KAq : Keep hqs hq8 [aqv] := (((((((((((Keep.refl hqs [aqv]).ext Eqv).trans Kq0 (fun _ q => Or.inl q)).trans Kq1 (fun _ q => Or.inl q)).trans Kq2 (fun _ q => Or.inl q)).trans Kq3 (fun _ q => Or.inl q)).trans Kq4 (fun _ q => Or.inl q)).trans Kq5 (fun _ q => Or.inl q)).trans Kq6 (fun _ q => Or.inl q)).trans Kq7 (fun _ q => Or.inl q)).trans Kq8 (fun _ q => Or.inl q))
    refine Ow.callI C rfl (tw53 G.1) (tw54 G.1) (tw1 G.1) (tw55 G.1) (by decide) (con_I0 G 9 aqs aqv [_, _, _, _, _, _, _, _, _] hq8 _ _ _ (Aqs.keep KAq) ((Dqs (Or.inr (tw4 G.1)) (ty := .array .byte) (by decide)).keep KAq (Ow.nin1 nq)) ((Dqs (Or.inr (tw5 G.1)) (ty := .byte) (by decide)).keep KAq (Ow.nin1 nq)) (by simp) Vq8 (by simp) (by intro z hz; have hz2 : z ∈ [nar .char x0, nar .char x1, nar .char x2, nar .char x3, nar .char x4, nar .char x5, nar .char x6, nar .char x7, nar .char x8] := hz; rw [n0, n1, n2, n3, n4, n5, n6, n7, n8] at hz2; exact hL z (List.mem_of_mem_take (i := 9) (show z ∈ [x0, x1, x2, x3, x4, x5, x6, x7, x8, x9, x10].take 9 from hz2))) (by simp) (by decide)) (fun _ q => q) pd_10 rfl rfl rfl dST_445 (pc' := 448) rfl (Wt := 1) (Nat.le_refl _) (by first | decide | (dsimp only; omega) | (simp [Value.category]; done) | (simp [Value.category]; omega)) (by first | decide | (dsimp only; omega) | (simp [Value.category]; done) | (simp [Value.category]; omega)) (by first | decide | (dsimp only; omega) | (simp [Value.category]; done) | (simp [Value.category]; omega)) (by first | decide | (dsimp only; omega) | (simp [Value.category]; done) | (simp [Value.category]; omega)) (fun vq hq Wq ⟨eq, dq, Sq, Kcq, hdq⟩ gq => ?_)
    subst eq
    dsimp only [Option.toList, List.cons_append, List.nil_append]
    have Kq : Keep h hq [] := ((((((((((((Keep.refl h []).ext Eqs).ext Eqv).trans Kq0 (fun z hz => Or.inr (by rw [List.mem_singleton.mp hz]; omega))).trans Kq1 (fun z hz => Or.inr (by rw [List.mem_singleton.mp hz]; omega))).trans Kq2 (fun z hz => Or.inr (by rw [List.mem_singleton.mp hz]; omega))).trans Kq3 (fun z hz => Or.inr (by rw [List.mem_singleton.mp hz]; omega))).trans Kq4 (fun z hz => Or.inr (by rw [List.mem_singleton.mp hz]; omega))).trans Kq5 (fun z hz => Or.inr (by rw [List.mem_singleton.mp hz]; omega))).trans Kq6 (fun z hz => Or.inr (by rw [List.mem_singleton.mp hz]; omega))).trans Kq7 (fun z hz => Or.inr (by rw [List.mem_singleton.mp hz]; omega))).trans Kq8 (fun z hz => Or.inr (by rw [List.mem_singleton.mp hz]; omega))).trans Kcq (fun z hz => Or.inr (by rw [List.mem_singleton.mp hz]; omega))
    have Sq2 : Ow.StrL Z hq aqs dq [nar .char x0, nar .char x1, nar .char x2, nar .char x3, nar .char x4, nar .char x5, nar .char x6, nar .char x7, nar .char x8] := Sq
    rw [n0, n1, n2, n3, n4, n5, n6, n7, n8] at Sq2
    refine Ow.retA C rfl rfl rfl dST_448 (by first | decide | (dsimp only; omega) | (simp [Value.category]; done) | (simp [Value.category]; omega)) (by first | decide | (dsimp only; omega) | (simp [Value.category]; done) | (simp [Value.category]; omega)) [] (by first | (simp; done) | (intro x hx; simp [hx]; done)) ⟨aqs, dq, rfl, Kq, Sq2⟩
  · refine Ow.iloadN C dST_0 (pc' := 1) rfl rfl ?_
    refine Ow.ifCY C 15 dST_1 (XT.i0_ne_t (by decide)) (by decide) (by decide) ?_
    refine Ow.iloadN C dST_15 (pc' := 16) rfl rfl ?_
    refine Ow.iconst C (1 : Int32) dST_16 (pc' := 17) rfl rfl ?_
    refine Ow.icmpY C 37 dST_17 (XT.ii_ne_t (by decide)) (by decide) (by decide) ?_
    refine Ow.iloadN C dST_37 (pc' := 38) rfl rfl ?_
    refine Ow.iconst C (2 : Int32) dST_38 (pc' := 39) rfl rfl ?_
    refine Ow.icmpY C 65 dST_39 (XT.ii_ne_t (by decide)) (by decide) (by decide) ?_
    refine Ow.iloadN C dST_65 (pc' := 66) rfl rfl ?_
    refine Ow.iconst C (3 : Int32) dST_66 (pc' := 67) rfl rfl ?_
    refine Ow.icmpY C 99 dST_67 (XT.ii_ne_t (by decide)) (by decide) (by decide) ?_
    refine Ow.iloadN C dST_99 (pc' := 100) rfl rfl ?_
    refine Ow.iconst C (4 : Int32) dST_100 (pc' := 101) rfl rfl ?_
    refine Ow.icmpY C 139 dST_101 (XT.ii_ne_t (by decide)) (by decide) (by decide) ?_
    refine Ow.iloadN C dST_139 (pc' := 140) rfl rfl ?_
    refine Ow.iconst C (5 : Int32) dST_140 (pc' := 141) rfl rfl ?_
    refine Ow.icmpY C 185 dST_141 (XT.ii_ne_t (by decide)) (by decide) (by decide) ?_
    refine Ow.iloadN C dST_185 (pc' := 186) rfl rfl ?_
    refine Ow.bipush C (6 : Int32) dST_186 (pc' := 188) rfl rfl ?_
    refine Ow.icmpY C 239 dST_188 (XT.ii_ne_t (by decide)) (by decide) (by decide) ?_
    refine Ow.iloadN C dST_239 (pc' := 240) rfl rfl ?_
    refine Ow.bipush C (7 : Int32) dST_240 (pc' := 242) rfl rfl ?_
    refine Ow.icmpY C 301 dST_242 (XT.ii_ne_t (by decide)) (by decide) (by decide) ?_
    refine Ow.iloadN C dST_301 (pc' := 302) rfl rfl ?_
    refine Ow.bipush C (8 : Int32) dST_302 (pc' := 304) rfl rfl ?_
    refine Ow.icmpY C 371 dST_304 (XT.ii_ne_t (by decide)) (by decide) (by decide) ?_
    refine Ow.iloadN C dST_371 (pc' := 372) rfl rfl ?_
    refine Ow.bipush C (9 : Int32) dST_372 (pc' := 374) rfl rfl ?_
    refine Ow.icmpY C 449 dST_374 (XT.ii_ne_t (by decide)) (by decide) (by decide) ?_
    refine Ow.newO C (tw52 G.1) (tw2 G.1) (tw1 G.1) dST_449 (pc' := 452) rfl (by first | decide | (dsimp only; omega) | (simp [Value.category]; done) | (simp [Value.category]; omega)) (by first | decide | (dsimp only; omega) | (simp [Value.category]; done) | (simp [Value.category]; omega)) (fun hqs aqs sqs zqs lqs Eqs ⟨Aqs, Dqs⟩ => ?_)
    have F_qs := F.ext Eqs
    refine Ow.dup C dST_452 (pc' := 453) rfl rfl ?_
    refine Ow.bipush C (10 : Int32) dST_453 (pc' := 455) rfl rfl ?_
    refine Ow.newarr C (ty := .char) (cap := 10) rfl rfl (tw21 G.1) dST_455 (pc' := 457) rfl rfl (by decide) (by first | decide | (dsimp only; omega) | (simp [Value.category]; done) | (simp [Value.category]; omega)) (by first | decide | (dsimp only; omega) | (simp [Value.category]; done) | (simp [Value.category]; omega)) (fun hqv aqv sqv zqv lqv Eqv Vqv => ?_)
    have F_qv := F_qs.ext Eqv
    refine Ow.dup C dST_457 (pc' := 458) rfl rfl ?_
    refine Ow.iconst C (0 : Int32) dST_458 (pc' := 459) rfl rfl ?_
    refine Ow.aloadN C dST_459 (pc' := 460) rfl rfl rfl ?_
    refine Ow.iconst C (0 : Int32) dST_460 (pc' := 461) rfl rfl ?_
    refine Ow.caload C F_qv (i := 0) rfl (by first | decide | (simp; done) | omega) dST_461 (pc' := 462) rfl ?_
    refine Ow.castore C Vqv (i := 0) rfl (by first | decide | (simp; done)) (by first | assumption | (simp; done) | (simp [*]; done)) dST_462 (pc' := 463) rfl (fun hq0 Kq0 Vq0 => ?_)
    have gq0 := Kq0.1
    have F_q0 := F_qv.keep Kq0 (Ow.nin1 (by have := F.lt; omega))
    refine Ow.dup C dST_463 (pc' := 464) rfl rfl ?_
    refine Ow.iconst C (1 : Int32) dST_464 (pc' := 465) rfl rfl ?_
    refine Ow.aloadN C dST_465 (pc' := 466) rfl rfl rfl ?_
    refine Ow.iconst C (1 : Int32) dST_466 (pc' := 467) rfl rfl ?_
    refine Ow.caload C F_q0 (i := 1) rfl (by first | decide | (simp; done) | omega) dST_467 (pc' := 468) rfl ?_
    refine Ow.castore C Vq0 (i := 1) rfl (by first | decide | (simp; done)) (by first | assumption | (simp; done) | (simp [*]; done)) dST_468 (pc' := 469) rfl (fun hq1 Kq1 Vq1 => ?_)
    have gq1 := Kq1.1
    have F_q1 := F_q0.keep Kq1 (Ow.nin1 (by have := F.lt; omega))
    refine Ow.dup C dST_469 (pc' := 470) rfl rfl ?_
    refine Ow.iconst C (2 : Int32) dST_470 (pc' := 471) rfl rfl ?_
    refine Ow.aloadN C dST_471 (pc' := 472) rfl rfl rfl ?_
    refine Ow.iconst C (2 : Int32) dST_472 (pc' := 473) rfl rfl ?_
    refine Ow.caload C F_q1 (i := 2) rfl (by first | decide | (simp; done) | omega) dST_473 (pc' := 474) rfl ?_
    refine Ow.castore C Vq1 (i := 2) rfl (by first | decide | (simp; done)) (by first | assumption | (simp; done) | (simp [*]; done)) dST_474 (pc' := 475) rfl (fun hq2 Kq2 Vq2 => ?_)
    have gq2 := Kq2.1
    have F_q2 := F_q1.keep Kq2 (Ow.nin1 (by have := F.lt; omega))
    refine Ow.dup C dST_475 (pc' := 476) rfl rfl ?_
    refine Ow.iconst C (3 : Int32) dST_476 (pc' := 477) rfl rfl ?_
    refine Ow.aloadN C dST_477 (pc' := 478) rfl rfl rfl ?_
    refine Ow.iconst C (3 : Int32) dST_478 (pc' := 479) rfl rfl ?_
    refine Ow.caload C F_q2 (i := 3) rfl (by first | decide | (simp; done) | omega) dST_479 (pc' := 480) rfl ?_
    refine Ow.castore C Vq2 (i := 3) rfl (by first | decide | (simp; done)) (by first | assumption | (simp; done) | (simp [*]; done)) dST_480 (pc' := 481) rfl (fun hq3 Kq3 Vq3 => ?_)
    have gq3 := Kq3.1
    have F_q3 := F_q2.keep Kq3 (Ow.nin1 (by have := F.lt; omega))
    refine Ow.dup C dST_481 (pc' := 482) rfl rfl ?_
    refine Ow.iconst C (4 : Int32) dST_482 (pc' := 483) rfl rfl ?_
    refine Ow.aloadN C dST_483 (pc' := 484) rfl rfl rfl ?_
    refine Ow.iconst C (4 : Int32) dST_484 (pc' := 485) rfl rfl ?_
    refine Ow.caload C F_q3 (i := 4) rfl (by first | decide | (simp; done) | omega) dST_485 (pc' := 486) rfl ?_
    refine Ow.castore C Vq3 (i := 4) rfl (by first | decide | (simp; done)) (by first | assumption | (simp; done) | (simp [*]; done)) dST_486 (pc' := 487) rfl (fun hq4 Kq4 Vq4 => ?_)
    have gq4 := Kq4.1
    have F_q4 := F_q3.keep Kq4 (Ow.nin1 (by have := F.lt; omega))
    refine Ow.dup C dST_487 (pc' := 488) rfl rfl ?_
    refine Ow.iconst C (5 : Int32) dST_488 (pc' := 489) rfl rfl ?_
    refine Ow.aloadN C dST_489 (pc' := 490) rfl rfl rfl ?_
    refine Ow.iconst C (5 : Int32) dST_490 (pc' := 491) rfl rfl ?_
    refine Ow.caload C F_q4 (i := 5) rfl (by first | decide | (simp; done) | omega) dST_491 (pc' := 492) rfl ?_
    refine Ow.castore C Vq4 (i := 5) rfl (by first | decide | (simp; done)) (by first | assumption | (simp; done) | (simp [*]; done)) dST_492 (pc' := 493) rfl (fun hq5 Kq5 Vq5 => ?_)
    have gq5 := Kq5.1
    have F_q5 := F_q4.keep Kq5 (Ow.nin1 (by have := F.lt; omega))
    refine Ow.dup C dST_493 (pc' := 494) rfl rfl ?_
    refine Ow.bipush C (6 : Int32) dST_494 (pc' := 496) rfl rfl ?_
    refine Ow.aloadN C dST_496 (pc' := 497) rfl rfl rfl ?_
    refine Ow.bipush C (6 : Int32) dST_497 (pc' := 499) rfl rfl ?_
    refine Ow.caload C F_q5 (i := 6) rfl (by first | decide | (simp; done) | omega) dST_499 (pc' := 500) rfl ?_
    refine Ow.castore C Vq5 (i := 6) rfl (by first | decide | (simp; done)) (by first | assumption | (simp; done) | (simp [*]; done)) dST_500 (pc' := 501) rfl (fun hq6 Kq6 Vq6 => ?_)
    have gq6 := Kq6.1
    have F_q6 := F_q5.keep Kq6 (Ow.nin1 (by have := F.lt; omega))
    refine Ow.dup C dST_501 (pc' := 502) rfl rfl ?_
    refine Ow.bipush C (7 : Int32) dST_502 (pc' := 504) rfl rfl ?_
    refine Ow.aloadN C dST_504 (pc' := 505) rfl rfl rfl ?_
    refine Ow.bipush C (7 : Int32) dST_505 (pc' := 507) rfl rfl ?_
    refine Ow.caload C F_q6 (i := 7) rfl (by first | decide | (simp; done) | omega) dST_507 (pc' := 508) rfl ?_
    refine Ow.castore C Vq6 (i := 7) rfl (by first | decide | (simp; done)) (by first | assumption | (simp; done) | (simp [*]; done)) dST_508 (pc' := 509) rfl (fun hq7 Kq7 Vq7 => ?_)
    have gq7 := Kq7.1
    have F_q7 := F_q6.keep Kq7 (Ow.nin1 (by have := F.lt; omega))
    refine Ow.dup C dST_509 (pc' := 510) rfl rfl ?_
    refine Ow.bipush C (8 : Int32) dST_510 (pc' := 512) rfl rfl ?_
    refine Ow.aloadN C dST_512 (pc' := 513) rfl rfl rfl ?_
    refine Ow.bipush C (8 : Int32) dST_513 (pc' := 515) rfl rfl ?_
    refine Ow.caload C F_q7 (i := 8) rfl (by first | decide | (simp; done) | omega) dST_515 (pc' := 516) rfl ?_
    refine Ow.castore C Vq7 (i := 8) rfl (by first | decide | (simp; done)) (by first | assumption | (simp; done) | (simp [*]; done)) dST_516 (pc' := 517) rfl (fun hq8 Kq8 Vq8 => ?_)
    have gq8 := Kq8.1
    have F_q8 := F_q7.keep Kq8 (Ow.nin1 (by have := F.lt; omega))
    refine Ow.dup C dST_517 (pc' := 518) rfl rfl ?_
    refine Ow.bipush C (9 : Int32) dST_518 (pc' := 520) rfl rfl ?_
    refine Ow.aloadN C dST_520 (pc' := 521) rfl rfl rfl ?_
    refine Ow.bipush C (9 : Int32) dST_521 (pc' := 523) rfl rfl ?_
    refine Ow.caload C F_q8 (i := 9) rfl (by first | decide | (simp; done) | omega) dST_523 (pc' := 524) rfl ?_
    refine Ow.castore C Vq8 (i := 9) rfl (by first | decide | (simp; done)) (by first | assumption | (simp; done) | (simp [*]; done)) dST_524 (pc' := 525) rfl (fun hq9 Kq9 Vq9 => ?_)
    have gq9 := Kq9.1
    have F_q9 := F_q8.keep Kq9 (Ow.nin1 (by have := F.lt; omega))
    have nq : aqs ≠ aqv := by omega
    have KAq : Keep hqs hq9 [aqv] := ((((((((((((Keep.refl hqs [aqv]).ext Eqv).trans Kq0 (fun _ q => Or.inl q)).trans Kq1 (fun _ q => Or.inl q)).trans Kq2 (fun _ q => Or.inl q)).trans Kq3 (fun _ q => Or.inl q)).trans Kq4 (fun _ q => Or.inl q)).trans Kq5 (fun _ q => Or.inl q)).trans Kq6 (fun _ q => Or.inl q)).trans Kq7 (fun _ q => Or.inl q)).trans Kq8 (fun _ q => Or.inl q)).trans Kq9 (fun _ q => Or.inl q))
    refine Ow.callI C rfl (tw53 G.1) (tw54 G.1) (tw1 G.1) (tw55 G.1) (by decide) (con_I0 G 10 aqs aqv [_, _, _, _, _, _, _, _, _, _] hq9 _ _ _ (Aqs.keep KAq) ((Dqs (Or.inr (tw4 G.1)) (ty := .array .byte) (by decide)).keep KAq (Ow.nin1 nq)) ((Dqs (Or.inr (tw5 G.1)) (ty := .byte) (by decide)).keep KAq (Ow.nin1 nq)) (by simp) Vq9 (by simp) (by intro z hz; have hz2 : z ∈ [nar .char x0, nar .char x1, nar .char x2, nar .char x3, nar .char x4, nar .char x5, nar .char x6, nar .char x7, nar .char x8, nar .char x9] := hz; rw [n0, n1, n2, n3, n4, n5, n6, n7, n8, n9] at hz2; exact hL z (List.mem_of_mem_take (i := 10) (show z ∈ [x0, x1, x2, x3, x4, x5, x6, x7, x8, x9, x10].take 10 from hz2))) (by simp) (by decide)) (fun _ q => q) pd_10 rfl rfl rfl dST_525 (pc' := 528) rfl (Wt := 1) (Nat.le_refl _) (by first | decide | (dsimp only; omega) | (simp [Value.category]; done) | (simp [Value.category]; omega)) (by first | decide | (dsimp only; omega) | (simp [Value.category]; done) | (simp [Value.category]; omega)) (by first | decide | (dsimp only; omega) | (simp [Value.category]; done) | (simp [Value.category]; omega)) (by first | decide | (dsimp only; omega) | (simp [Value.category]; done) | (simp [Value.category]; omega)) (fun vq hq Wq ⟨eq, dq, Sq, Kcq, hdq⟩ gq => ?_)
    subst eq
    dsimp only [Option.toList, List.cons_append, List.nil_append]
    have Kq : Keep h hq [] := (((((((((((((Keep.refl h []).ext Eqs).ext Eqv).trans Kq0 (fun z hz => Or.inr (by rw [List.mem_singleton.mp hz]; omega))).trans Kq1 (fun z hz => Or.inr (by rw [List.mem_singleton.mp hz]; omega))).trans Kq2 (fun z hz => Or.inr (by rw [List.mem_singleton.mp hz]; omega))).trans Kq3 (fun z hz => Or.inr (by rw [List.mem_singleton.mp hz]; omega))).trans Kq4 (fun z hz => Or.inr (by rw [List.mem_singleton.mp hz]; omega))).trans Kq5 (fun z hz => Or.inr (by rw [List.mem_singleton.mp hz]; omega))).trans Kq6 (fun z hz => Or.inr (by rw [List.mem_singleton.mp hz]; omega))).trans Kq7 (fun z hz => Or.inr (by rw [List.mem_singleton.mp hz]; omega))).trans Kq8 (fun z hz => Or.inr (by rw [List.mem_singleton.mp hz]; omega))).trans Kq9 (fun z hz => Or.inr (by rw [List.mem_singleton.mp hz]; omega))).trans Kcq (fun z hz => Or.inr (by rw [List.mem_singleton.mp hz]; omega))
    have Sq2 : Ow.StrL Z hq aqs dq [nar .char x0, nar .char x1, nar .char x2, nar .char x3, nar .char x4, nar .char x5, nar .char x6, nar .char x7, nar .char x8, nar .char x9] := Sq
    rw [n0, n1, n2, n3, n4, n5, n6, n7, n8, n9] at Sq2
    refine Ow.retA C rfl rfl rfl dST_528 (by first | decide | (dsimp only; omega) | (simp [Value.category]; done) | (simp [Value.category]; omega)) (by first | decide | (dsimp only; omega) | (simp [Value.category]; done) | (simp [Value.category]; omega)) [] (by first | (simp; done) | (intro x hx; simp [hx]; done)) ⟨aqs, dq, rfl, Kq, Sq2⟩

abbrev rmAC : Room := { frames := 4, cells := 0, slots := 0, locals := 54 }
theorem con_AC (G : Glob Z a0) (sb db i : Nat) (B : List Int32) (hi : i ≤ 10) (hB : B.length ≤ 10) (h : Heap) (W : List Nat) (S : Ow.StrL Z h sb db B) :
    Ow.Con l Z EL1 bb (⟨"com/example/coretally/coretally/MetricLabelledPinLaw", "at", "(Ljava/lang/String;I)C"⟩ : MethodName) method_2_code 2 (Option.some Jvm.ClassFile.FieldType.char) [] rmAC #[.ref sb, .int (Int32.ofNat i)] h W (fun v h' W' => v = some (.int (B.getD i 120)) ∧ h' = h) := by
  refine Ow.Con.intro (a0 := a0) pn_15 (ewG G) (saG G) bbG [.val (.ref sb), .val (.int (Int32.ofNat i))] (by first | exact Ow.locals_all (by simp [Value.category]) rfl | rfl | (simp [argsToLocals, Value.category]; done)) ?_
  intro p e s m below meth c C hO
  refine Ow.iloadN C dAC_0 (pc' := 1) rfl rfl ?_
  refine Ow.aloadN C dAC_1 (pc' := 2) rfl rfl rfl ?_
  refine Ow.callV C (y := (⟨"java/lang/String", "length", "()I"⟩ : MethodName)) (z := (⟨"java/lang/String", "length", "()I"⟩ : MethodName)) (tw8 G.1) (tw9 G.1) (tw11 G.1) (tw11 G.1) (tw10 G.1) (tw1 G.1) (tw12 G.1) (by decide) S.1 (con_LN G sb db B h W S) (fun _ q => q) pd_11 rfl rfl rfl dAC_2 (pc' := 5) rfl (Wt := 1) (Nat.le_refl _) (by first | decide | (dsimp only; omega) | (simp [Value.category]; done) | (simp [Value.category]; omega)) (by first | decide | (dsimp only; omega) | (simp [Value.category]; done) | (simp [Value.category]; omega)) (by first | decide | (dsimp only; omega) | (simp [Value.category]; done) | (simp [Value.category]; omega)) (by first | decide | (dsimp only; omega) | (simp [Value.category]; done) | (simp [Value.category]; omega)) (fun v1 h1 W1 ⟨e1, e1'⟩ s1 => ?_)
  subst e1 e1'
  dsimp only [Option.toList, List.cons_append, List.nil_append]
  by_cases q : i < B.length
  · have hc := Ow.getD_rng S.2.2.2.2 q
    refine Ow.icmpN C dAC_5 (pc' := 8) rfl (XT.ii_ge_f (by rw [Ow.lt32, Ow.ofNat_toInt (by omega), Ow.ofNat_toInt (by omega)]; omega)) ?_
    refine Ow.aloadN C dAC_8 (pc' := 9) rfl rfl rfl ?_
    refine Ow.iloadN C dAC_9 (pc' := 10) rfl rfl ?_
    refine Ow.callV C (y := (⟨"java/lang/String", "charAt", "(I)C"⟩ : MethodName)) (z := (⟨"java/lang/String", "charAt", "(I)C"⟩ : MethodName)) (tw26 G.1) (tw27 G.1) (tw29 G.1) (tw29 G.1) (tw28 G.1) (tw1 G.1) (tw30 G.1) (by decide) S.1 (con_CA G sb db i B q h1 W S) (fun _ q => q) pd_12 rfl rfl rfl dAC_10 (pc' := 13) rfl (Wt := 0) (Nat.le_refl _) (by first | decide | (dsimp only; omega) | (simp [Value.category]; done) | (simp [Value.category]; omega)) (by first | decide | (dsimp only; omega) | (simp [Value.category]; done) | (simp [Value.category]; omega)) (by first | decide | (dsimp only; omega) | (simp [Value.category]; done) | (simp [Value.category]; omega)) (by first | decide | (dsimp only; omega) | (simp [Value.category]; done) | (simp [Value.category]; omega)) (fun v2 h2 W2 ⟨e2, e2'⟩ s2 => ?_)
    subst e2 e2'
    dsimp only [Option.toList, List.cons_append, List.nil_append]
    refine Ow.goto C 18 dAC_13 (by decide) (by decide) ?_
    refine Ow.retN C (t := .char) rfl (by simp) dAC_18 (by first | decide | (dsimp only; omega) | (simp [Value.category]; done) | (simp [Value.category]; omega)) (by first | decide | (dsimp only; omega) | (simp [Value.category]; done) | (simp [Value.category]; omega)) [] (by first | (simp; done) | (intro x hx; simp [hx]; done)) ⟨by rw [Ow.nar_char_id hc.1 (by omega)]; simp [List.getD_eq_getElem?_getD, q], rfl⟩
  · refine Ow.icmpY C 16 dAC_5 (XT.ii_ge_t (by rw [Ow.lt32, Ow.ofNat_toInt (by omega), Ow.ofNat_toInt (by omega)]; omega)) (by decide) (by decide) ?_
    refine Ow.bipush C (120 : Int32) dAC_16 (pc' := 18) rfl rfl ?_
    refine Ow.retN C (t := .char) rfl (by simp) dAC_18 (by first | decide | (dsimp only; omega) | (simp [Value.category]; done) | (simp [Value.category]; omega)) (by first | decide | (dsimp only; omega) | (simp [Value.category]; done) | (simp [Value.category]; omega)) [] (by first | (simp; done) | (intro x hx; simp [hx]; done)) ⟨by rw [List.getD_eq_getElem?_getD, List.getElem?_eq_none (by omega)]; rfl, rfl⟩
abbrev rmVS : Room := { frames := 1, cells := 1, slots := 2, locals := 14 }
theorem con_VS (G : Glob Z a0) (va P S lp dp ls ds eo : Nat) (M : MetOk Z va P S lp dp ls ds eo) (h : Heap) (W : List Nat) :
    Ow.Con l Z EL1 bb (⟨"com/example/coretally/coretally/Metric", "values", "()[Lcom/example/coretally/coretally/Metric;"⟩ : MethodName) prog_8_method_1_code 0 (Option.some (Jvm.ClassFile.FieldType.array (Jvm.ClassFile.FieldType.object "com/example/coretally/coretally/Metric"))) [] rmVS #[] h W (fun v h' W' => ∃ y : Nat, v = some (.ref y) ∧ ArR Z h' y (.object MC) [.ref P, .ref S] ∧ Keep h h' []) := by
  obtain ⟨m1, m2, m3, m4⟩ := id M
  refine Ow.Con.intro (a0 := a0) pn_16 (ewG G) (saG G) bbG [] rfl ?_
  intro p e s m below meth c C hO
  refine Ow.getS C (tw80 G.1) m1 dVS_0 (pc' := 3) rfl ?_
  refine Ow.cloneR C (tw82 G.1) (tw83 G.1) (tw87 G.1) (tw85 G.1) (tw86 G.1) (tw88 G.1) (m2.ext hO.2) (m3.ext hO.2) dVS_3 (pc' := 6) rfl rfl (by decide) (Wt := 0) (by simp) (by decide) (by decide) (by simp) (fun h1 y sy zy ly Ey ⟨Ay, Xy⟩ => ?_)
  refine Ow.castY C (tw92 G.1) (Ins.self Xy) dVS_6 (pc' := 9) rfl ?_
  refine Ow.retA C rfl rfl rfl dVS_9 (by first | decide | (dsimp only; omega) | (simp [Value.category]; done) | (simp [Value.category]; omega)) (by first | decide | (dsimp only; omega) | (simp [Value.category]; done) | (simp [Value.category]; omega)) [] (by first | (simp; done) | (intro x hx; simp [hx]; done)) ⟨y, rfl, Ay, Ow.Keep.z Ey⟩
theorem con_RN (G : Glob Z a0) (a : Nat) (h : Heap) (W : List Nat) : Ow.Con l Z EL1 bb (⟨"java/util/Objects", "requireNonNull", "(Ljava/lang/Object;)Ljava/lang/Object;"⟩ : MethodName) jdk_31_method_10_code 1 (Option.some (Jvm.ClassFile.FieldType.object "java/lang/Object")) [] rm0 #[.ref a] h W (fun v h' W' => v = some (.ref a) ∧ h' = h) := by
  refine Ow.Con.intro (a0 := a0) pn_17 (ewG G) (saG G) bbG [.val (.ref a)] (by first | exact Ow.locals_all (by simp [Value.category]) rfl | rfl | (simp [argsToLocals, Value.category]; done)) ?_
  intro p e s m below meth c C hO
  refine Ow.aloadN C dRN_0 (pc' := 1) rfl rfl rfl ?_
  refine Ow.ifnonnullY C 12 dRN_1 (by decide) (by decide) ?_
  refine Ow.aloadN C dRN_12 (pc' := 13) rfl rfl rfl ?_
  refine Ow.retA C rfl rfl rfl dRN_13 (by first | decide | (dsimp only; omega) | (simp [Value.category]; done) | (simp [Value.category]; omega)) (by first | decide | (dsimp only; omega) | (simp [Value.category]; done) | (simp [Value.category]; omega)) [] (by first | (simp; done) | (intro x hx; simp [hx]; done)) ⟨rfl, rfl⟩
abbrev rmOI : Room := { frames := 1, cells := 0, slots := 0, locals := 12 }
theorem con_OI (G : Glob Z a0) (a x : Nat) (h : Heap) (W : List Nat) (ov : Value) (A : Exa Z h a OC) (F : Fld Z h a OC "value" "Ljava/lang/Object;" ov) (ha : a ∈ W) : Ow.Con l Z EL1 bb (⟨"java/util/Optional", "<init>", "(Ljava/lang/Object;)V"⟩ : MethodName) jdk_32_method_2_code 2 (Option.none : Option Jvm.ClassFile.FieldType) [] rmOI #[.ref a, .ref x] h W (fun v h' W' => v = none ∧ Exa Z h' a OC ∧ Fld Z h' a OC "value" "Ljava/lang/Object;" (.ref x) ∧ Keep h h' [a]) := by
  refine Ow.Con.intro (a0 := a0) pn_18 (ewG G) (saG G) bbG [.val (.ref a), .val (.ref x)] (by first | exact Ow.locals_all (by simp [Value.category]) rfl | rfl | (simp [argsToLocals, Value.category]; done)) ?_
  intro p e s m below meth c C hO
  refine Ow.aloadN C dOI_0 (pc' := 1) rfl rfl rfl ?_
  refine Ow.initO C (tw119 G.1) (tw61 G.1) (tw62 G.1) dOI_1 (pc' := 4) rfl rfl (by first | decide | (dsimp only; omega) | (simp [Value.category]; done) | (simp [Value.category]; omega)) (by first | decide | (dsimp only; omega) | (simp [Value.category]; done) | (simp [Value.category]; omega)) ?_
  refine Ow.aloadN C dOI_4 (pc' := 5) rfl rfl rfl ?_
  refine Ow.aloadN C dOI_5 (pc' := 6) rfl rfl rfl ?_
  refine Ow.putF C (tw120 G.1) F A (Or.inr ⟨(tw121 G.1), rfl, rfl⟩) (tw110 G.1) (ty := (.object "java/lang/Object")) (by decide) rfl rfl (by first | assumption | (simp; done) | (simp [*]; done)) dOI_6 (pc' := 9) rfl (fun h2 w2 K2 F2 => ?_)
  refine Ow.retV C rfl dOI_9 (by first | decide | (dsimp only; omega) | (simp [Value.category]; done) | (simp [Value.category]; omega)) (by first | decide | (dsimp only; omega) | (simp [Value.category]; done) | (simp [Value.category]; omega)) [] (by first | (simp; done) | (intro x hx; simp [hx]; done)) ⟨rfl, A.keep K2, F2, K2⟩
abbrev rmOF : Room := { frames := 2, cells := 1, slots := 1, locals := 26 }
theorem con_OF (G : Glob Z a0) (x : Nat) (h : Heap) (W : List Nat) : Ow.Con l Z EL1 bb (⟨"java/util/Optional", "of", "(Ljava/lang/Object;)Ljava/util/Optional;"⟩ : MethodName) jdk_32_method_3_code 1 (Option.some (Jvm.ClassFile.FieldType.object "java/util/Optional")) [] rmOF #[.ref x] h W (fun v h' W' => ∃ o : Nat, v = some (.ref o) ∧ Exa Z h' o OC ∧ Fld Z h' o OC "value" "Ljava/lang/Object;" (.ref x) ∧ Keep h h' []) := by
  refine Ow.Con.intro (a0 := a0) pn_19 (ewG G) (saG G) bbG [.val (.ref x)] (by first | exact Ow.locals_all (by simp [Value.category]) rfl | rfl | (simp [argsToLocals, Value.category]; done)) ?_
  intro p e s m below meth c C hO
  refine Ow.newO C (tw109 G.1) (tw110 G.1) (tw107 G.1) dOF_0 (pc' := 3) rfl (by first | decide | (dsimp only; omega) | (simp [Value.category]; done) | (simp [Value.category]; omega)) (by first | decide | (dsimp only; omega) | (simp [Value.category]; done) | (simp [Value.category]; omega)) (fun h1 a1 s1 z1 l1 E1 ⟨A1, D1⟩ => ?_)
  refine Ow.dup C dOF_3 (pc' := 4) rfl rfl ?_
  refine Ow.aloadN C dOF_4 (pc' := 5) rfl rfl rfl ?_
  refine Ow.callS C (tw111 G.1) (tw112 G.1) (tw113 G.1) (tw114 G.1) (by decide) (con_RN G x h1 _) (fun _ q => q) pd_13 rfl rfl rfl dOF_5 (pc' := 8) rfl (Wt := 2) (Nat.le_refl _) (by first | decide | (dsimp only; omega) | (simp [Value.category]; done) | (simp [Value.category]; omega)) (by first | decide | (dsimp only; omega) | (simp [Value.category]; done) | (simp [Value.category]; omega)) (by first | decide | (dsimp only; omega) | (simp [Value.category]; done) | (simp [Value.category]; omega)) (by first | decide | (dsimp only; omega) | (simp [Value.category]; done) | (simp [Value.category]; omega)) (fun v2 h2 W2 ⟨e2, e2'⟩ s2 => ?_)
  subst e2 e2'
  dsimp only [Option.toList, List.cons_append, List.nil_append]
  refine Ow.callI C rfl (tw115 G.1) (tw116 G.1) (tw107 G.1) (tw118 G.1) (by decide) (con_OI G a1 x h2 _ _ A1 (D1 (Or.inr (tw121 G.1)) (ty := .object "java/lang/Object") (by decide)) (by simp)) (fun _ q => q) pd_14 rfl rfl rfl dOF_8 (pc' := 11) rfl (Wt := 1) (Nat.le_refl _) (by first | decide | (dsimp only; omega) | (simp [Value.category]; done) | (simp [Value.category]; omega)) (by first | decide | (dsimp only; omega) | (simp [Value.category]; done) | (simp [Value.category]; omega)) (by first | decide | (dsimp only; omega) | (simp [Value.category]; done) | (simp [Value.category]; omega)) (by first | decide | (dsimp only; omega) | (simp [Value.category]; done) | (simp [Value.category]; omega)) (fun v3 h3 W3 ⟨e3, A3, F3, K3⟩ s3 => ?_)
  subst e3
  dsimp only [Option.toList, List.cons_append, List.nil_append]
  refine Ow.retA C rfl rfl rfl dOF_11 (by first | decide | (dsimp only; omega) | (simp [Value.category]; done) | (simp [Value.category]; omega)) (by first | decide | (dsimp only; omega) | (simp [Value.category]; done) | (simp [Value.category]; omega)) [] (by first | (simp; done) | (intro x hx; simp [hx]; done)) ⟨a1, rfl, A3, F3, (Ow.Keep.z E1).trans K3 (fun z hz => Or.inr (by rw [List.mem_singleton.mp hz]; omega))⟩
theorem con_OE (G : Glob Z a0) (va P S lp dp ls ds eo : Nat) (M : MetOk Z va P S lp dp ls ds eo) (h : Heap) (W : List Nat) : Ow.Con l Z EL1 bb (⟨"java/util/Optional", "empty", "()Ljava/util/Optional;"⟩ : MethodName) jdk_32_method_1_code 1 (Option.some (Jvm.ClassFile.FieldType.object "java/util/Optional")) [] rm0 #[] h W (fun v h' W' => v = some (.ref eo) ∧ h' = h) := by
  have m := M.2.2.2.2.2.2.2.2.2.1
  refine Ow.Con.intro (a0 := a0) pn_20 (ewG G) (saG G) bbG [.unset] rfl ?_
  intro p e s m below meth c C hO
  refine Ow.getS C (tw138 G.1) M.2.2.2.2.2.2.2.2.2.1 dOE_0 (pc' := 3) rfl ?_
  refine Ow.astoreN C dOE_3 (pc' := 4) rfl rfl rfl ?_
  dsimp only [List.set]
  refine Ow.aloadN C dOE_4 (pc' := 5) rfl rfl rfl ?_
  refine Ow.retA C rfl rfl rfl dOE_5 (by first | decide | (dsimp only; omega) | (simp [Value.category]; done) | (simp [Value.category]; omega)) (by first | decide | (dsimp only; omega) | (simp [Value.category]; done) | (simp [Value.category]; omega)) [] (by first | (simp; done) | (intro x hx; simp [hx]; done)) ⟨rfl, rfl⟩
/-- what labelled answers -/
def Ans (Z : State) (h : Heap) (P S : Nat) (T : List Int32) (ob : Nat) (v : Value) : Prop := Exa Z h ob OC ∧ Fld Z h ob OC "value" "Ljava/lang/Object;" v ∧ ((T = proc9 ∧ v = .ref P) ∨ (¬ T = proc9 ∧ T = sock6 ∧ v = .ref S) ∨ (¬ T = proc9 ∧ ¬ T = sock6 ∧ v = .null))
abbrev rmLB : Room := { frames := 3, cells := 2, slots := 3, locals := 40 }
set_option maxHeartbeats 4000000 in
theorem con_LB (G : Glob Z a0) (va P S lp dp ls ds eo t dt : Nat) (M : MetOk Z va P S lp dp ls ds eo) (T : List Int32) (h : Heap) (W : List Nat) (St : Ow.StrL Z h t dt T) :
    Ow.Con l Z EL1 bb (⟨"com/example/coretally/coretally/Metric", "labelled", "(Ljava/lang/String;)Ljava/util/Optional;"⟩ : MethodName) prog_8_method_5_code 5 (Option.some (Jvm.ClassFile.FieldType.object "java/util/Optional")) [] rmLB #[.ref t] h W (fun v h' W' => ∃ (ob : Nat) (w : Value), v = some (.ref ob) ∧ Ans Z h' P S T ob w) := by
  obtain ⟨m1, m2, m3, m4, m5, m6, m7, m8, m9, m10, m11, m12⟩ := id M
  refine Ow.Con.intro (a0 := a0) pn_21 (ewG G) (saG G) bbG [.val (.ref t), .unset, .unset, .unset, .unset] (by first | exact Ow.locals_all (by simp [Value.category]) rfl | rfl | (simp [argsToLocals, Value.category]; done)) ?_
  intro p e s m below meth c C hO
  refine Ow.callS C (tw77 G.1) (tw78 G.1) (tw75 G.1) (tw79 G.1) (by decide) (con_VS G va P S lp dp ls ds eo M h W) (fun _ q => q) pd_15 rfl rfl rfl dLB_0 (pc' := 3) rfl (Wt := 0) (Nat.le_refl _) (by first | decide | (dsimp only; omega) | (simp [Value.category]; done) | (simp [Value.category]; omega)) (by first | decide | (dsimp only; omega) | (simp [Value.category]; done) | (simp [Value.category]; omega)) (by first | decide | (dsimp only; omega) | (simp [Value.category]; done) | (simp [Value.category]; omega)) (by first | decide | (dsimp only; omega) | (simp [Value.category]; done) | (simp [Value.category]; omega)) (fun v1 h1 W1 ⟨y, e1, Y, K1⟩ s1 => ?_)
  subst e1
  dsimp only [Option.toList, List.cons_append, List.nil_append]
  have St1 := St.keep K1 nin0 nin0
  have Lp := (m8.ext hO.2).keep K1 nin0 nin0
  have Ls := (m9.ext hO.2).keep K1 nin0 nin0
  have Fp := (m6.ext hO.2).keep K1 nin0
  have Fs := (m7.ext hO.2).keep K1 nin0
  have Eo := (m11.ext hO.2).keep K1
  have Fo := (m12.ext hO.2).keep K1 nin0
  refine Ow.astoreN C dLB_3 (pc' := 4) rfl rfl rfl ?_
  dsimp only [List.set]
  refine Ow.aloadN C dLB_4 (pc' := 5) rfl rfl rfl ?_
  refine Ow.arrlenR C Y dLB_5 (pc' := 6) rfl ?_
  rw [show ([Value.ref P, Value.ref S] : List Value).length = 2 from rfl]
  refine Ow.istoreN C dLB_6 (pc' := 7) rfl rfl ?_
  dsimp only [List.set]
  refine Ow.iconst C (0 : Int32) dLB_7 (pc' := 8) rfl rfl ?_
  refine Ow.istoreN C dLB_8 (pc' := 9) rfl rfl ?_
  dsimp only [List.set]
  refine Ow.iloadN C dLB_9 (pc' := 10) rfl rfl ?_
  refine Ow.iloadN C dLB_10 (pc' := 11) rfl rfl ?_
  refine Ow.icmpN C dLB_11 (pc' := 14) rfl (XT.ii_ge_f (by decide)) ?_
  refine Ow.aloadN C dLB_14 (pc' := 15) rfl rfl rfl ?_
  refine Ow.iloadN C dLB_15 (pc' := 16) rfl rfl ?_
  refine Ow.aaload C Y rfl (i := 0) rfl (by simp) dLB_16 (pc' := 17) rfl ?_
  rw [show ([Value.ref P, Value.ref S] : List Value).getD 0 .null = .ref P from rfl]
  refine Ow.astore C dLB_17 (pc' := 19) rfl rfl rfl ?_
  dsimp only [List.set]
  refine Ow.aload C dLB_19 (pc' := 21) rfl rfl rfl ?_
  refine Ow.getF C (tw94 G.1) Fp dLB_21 (pc' := 24) rfl ?_
  refine Ow.aloadN C dLB_24 (pc' := 25) rfl rfl rfl ?_
  refine Ow.callV C (y := (⟨"java/lang/String", "equals", "(Ljava/lang/Object;)Z"⟩ : MethodName)) (z := (⟨"java/lang/String", "equals", "(Ljava/lang/Object;)Z"⟩ : MethodName)) (tw96 G.1) (tw97 G.1) (tw99 G.1) (tw99 G.1) (tw98 G.1) (tw1 G.1) (tw100 G.1) (by decide) Lp.1 (con_EQg G lp dp t dt _ _ h1 W Lp St1) (fun _ q => q) pd_16 rfl rfl rfl dLB_25 (pc' := 28) rfl (Wt := 0) (Nat.le_refl _) (by first | decide | (dsimp only; omega) | (simp [Value.category]; done) | (simp [Value.category]; omega)) (by first | decide | (dsimp only; omega) | (simp [Value.category]; done) | (simp [Value.category]; omega)) (by first | decide | (dsimp only; omega) | (simp [Value.category]; done) | (simp [Value.category]; omega)) (by first | decide | (dsimp only; omega) | (simp [Value.category]; done) | (simp [Value.category]; omega)) (fun v2 h2 W2 ⟨e2, e2'⟩ s2 => ?_)
  by_cases q1 : proc9 = T
  · rw [if_pos q1] at e2
    subst e2 e2'
    dsimp only [Option.toList, List.cons_append, List.nil_append]
    refine Ow.ifCN C dLB_28 (pc' := 31) rfl (XT.i0_eq_f (by decide)) ?_
    refine Ow.aload C dLB_31 (pc' := 33) rfl rfl rfl ?_
    refine Ow.callS C (tw105 G.1) (tw106 G.1) (tw107 G.1) (tw108 G.1) (by decide) (con_OF G P h2 W) (fun _ q => q) pd_17 rfl rfl rfl dLB_33 (pc' := 36) rfl (Wt := 0) (Nat.le_refl _) (by first | decide | (dsimp only; omega) | (simp [Value.category]; done) | (simp [Value.category]; omega)) (by first | decide | (dsimp only; omega) | (simp [Value.category]; done) | (simp [Value.category]; omega)) (by first | decide | (dsimp only; omega) | (simp [Value.category]; done) | (simp [Value.category]; omega)) (by first | decide | (dsimp only; omega) | (simp [Value.category]; done) | (simp [Value.category]; omega)) (fun v3 h3 W3 ⟨o, e3, A3, F3, K3⟩ s3 => ?_)
    subst e3
    dsimp only [Option.toList, List.cons_append, List.nil_append]
    refine Ow.retA C rfl rfl rfl dLB_36 (by first | decide | (dsimp only; omega) | (simp [Value.category]; done) | (simp [Value.category]; omega)) (by first | decide | (dsimp only; omega) | (simp [Value.category]; done) | (simp [Value.category]; omega)) [] (by first | (simp; done) | (intro x hx; simp [hx]; done)) ⟨o, _, rfl, A3, F3, Or.inl ⟨q1.symm, rfl⟩⟩
  · rw [if_neg q1] at e2
    subst e2 e2'
    dsimp only [Option.toList, List.cons_append, List.nil_append]
    refine Ow.ifCY C 37 dLB_28 (XT.i0_eq_t (by decide)) (by decide) (by decide) ?_
    refine Ow.iinc C (1 : Int32) dLB_37 (pc' := 40) rfl rfl rfl ?_
    dsimp only [List.set]
    refine Ow.goto C 9 dLB_40 (by decide) (by decide) ?_
    rw [show (0 : Int32) + 1 = 1 from rfl]
    refine Ow.iloadN C dLB_9 (pc' := 10) rfl rfl ?_
    refine Ow.iloadN C dLB_10 (pc' := 11) rfl rfl ?_
    refine Ow.icmpN C dLB_11 (pc' := 14) rfl (XT.ii_ge_f (by decide)) ?_
    refine Ow.aloadN C dLB_14 (pc' := 15) rfl rfl rfl ?_
    refine Ow.iloadN C dLB_15 (pc' := 16) rfl rfl ?_
    refine Ow.aaload C Y rfl (i := 1) rfl (by simp) dLB_16 (pc' := 17) rfl ?_
    rw [show ([Value.ref P, Value.ref S] : List Value).getD 1 .null = .ref S from rfl]
    refine Ow.astore C dLB_17 (pc' := 19) rfl rfl rfl ?_
    dsimp only [List.set]
    refine Ow.aload C dLB_19 (pc' := 21) rfl rfl rfl ?_
    refine Ow.getF C (tw94 G.1) Fs dLB_21 (pc' := 24) rfl ?_
    refine Ow.aloadN C dLB_24 (pc' := 25) rfl rfl rfl ?_
    refine Ow.callV C (y := (⟨"java/lang/String", "equals", "(Ljava/lang/Object;)Z"⟩ : MethodName)) (z := (⟨"java/lang/String", "equals", "(Ljava/lang/Object;)Z"⟩ : MethodName)) (tw96 G.1) (tw97 G.1) (tw99 G.1) (tw99 G.1) (tw98 G.1) (tw1 G.1) (tw100 G.1) (by decide) Ls.1 (con_EQg G ls ds t dt _ _ h2 W Ls St1) (fun _ q => q) pd_16 rfl rfl rfl dLB_25 (pc' := 28) rfl (Wt := 0) (Nat.le_refl _) (by first | decide | (dsimp only; omega) | (simp [Value.category]; done) | (simp [Value.category]; omega)) (by first | decide | (dsimp only; omega) | (simp [Value.category]; done) | (simp [Value.category]; omega)) (by first | decide | (dsimp only; omega) | (simp [Value.category]; done) | (simp [Value.category]; omega)) (by first | decide | (dsimp only; omega) | (simp [Value.category]; done) | (simp [Value.category]; omega)) (fun v3 h3 W3 ⟨e3, e3'⟩ s3 => ?_)
    by_cases q2 : sock6 = T
    · rw [if_pos q2] at e3
      subst e3 e3'
      dsimp only [Option.toList, List.cons_append, List.nil_append]
      refine Ow.ifCN C dLB_28 (pc' := 31) rfl (XT.i0_eq_f (by decide)) ?_
      refine Ow.aload C dLB_31 (pc' := 33) rfl rfl rfl ?_
      refine Ow.callS C (tw105 G.1) (tw106 G.1) (tw107 G.1) (tw108 G.1) (by decide) (con_OF G S h3 W) (fun _ q => q) pd_17 rfl rfl rfl dLB_33 (pc' := 36) rfl (Wt := 0) (Nat.le_refl _) (by first | decide | (dsimp only; omega) | (simp [Value.category]; done) | (simp [Value.category]; omega)) (by first | decide | (dsimp only; omega) | (simp [Value.category]; done) | (simp [Value.category]; omega)) (by first | decide | (dsimp only; omega) | (simp [Value.category]; done) | (simp [Value.category]; omega)) (by first | decide | (dsimp only; omega) | (simp [Value.category]; done) | (simp [Value.category]; omega)) (fun v4 h4 W4 ⟨o, e4, A4, F4, K4⟩ s4 => ?_)
      subst e4
      dsimp only [Option.toList, List.cons_append, List.nil_append]
      refine Ow.retA C rfl rfl rfl dLB_36 (by first | decide | (dsimp only; omega) | (simp [Value.category]; done) | (simp [Value.category]; omega)) (by first | decide | (dsimp only; omega) | (simp [Value.category]; done) | (simp [Value.category]; omega)) [] (by first | (simp; done) | (intro x hx; simp [hx]; done)) ⟨o, _, rfl, A4, F4, Or.inr (Or.inl ⟨fun z => q1 z.symm, q2.symm, rfl⟩)⟩
    · rw [if_neg q2] at e3
      subst e3 e3'
      dsimp only [Option.toList, List.cons_append, List.nil_append]
      refine Ow.ifCY C 37 dLB_28 (XT.i0_eq_t (by decide)) (by decide) (by decide) ?_
      refine Ow.iinc C (1 : Int32) dLB_37 (pc' := 40) rfl rfl rfl ?_
      dsimp only [List.set]
      refine Ow.goto C 9 dLB_40 (by decide) (by decide) ?_
      rw [show (1 : Int32) + 1 = 2 from rfl]
      refine Ow.iloadN C dLB_9 (pc' := 10) rfl rfl ?_
      refine Ow.iloadN C dLB_10 (pc' := 11) rfl rfl ?_
      refine Ow.icmpY C 43 dLB_11 (XT.ii_ge_t (by decide)) (by decide) (by decide) ?_
      refine Ow.callS C (tw135 G.1) (tw136 G.1) (tw107 G.1) (tw137 G.1) (by decide) (con_OE G va P S lp dp ls ds eo M h3 W) (fun _ q => q) pd_18 rfl rfl rfl dLB_43 (pc' := 46) rfl (Wt := 0) (Nat.le_refl _) (by first | decide | (dsimp only; omega) | (simp [Value.category]; done) | (simp [Value.category]; omega)) (by first | decide | (dsimp only; omega) | (simp [Value.category]; done) | (simp [Value.category]; omega)) (by first | decide | (dsimp only; omega) | (simp [Value.category]; done) | (simp [Value.category]; omega)) (by first | decide | (dsimp only; omega) | (simp [Value.category]; done) | (simp [Value.category]; omega)) (fun v4 h4 W4 ⟨e4, e4'⟩ s4 => ?_)
      subst e4 e4'
      dsimp only [Option.toList, List.cons_append, List.nil_append]
      refine Ow.retA C rfl rfl rfl dLB_46 (by first | decide | (dsimp only; omega) | (simp [Value.category]; done) | (simp [Value.category]; omega)) (by first | decide | (dsimp only; omega) | (simp [Value.category]; done) | (simp [Value.category]; omega)) [] (by first | (simp; done) | (intro x hx; simp [hx]; done)) ⟨eo, _, rfl, Eo, Fo, Or.inr (Or.inr ⟨fun z => q1 z.symm, fun z => q2 z.symm, rfl⟩)⟩
theorem con_IPr (G : Glob Z a0) (a x : Nat) (h : Heap) (W : List Nat) (F : Fld Z h a OC "value" "Ljava/lang/Object;" (.ref x)) : Ow.Con l Z EL1 bb (⟨"java/util/Optional", "isPresent", "()Z"⟩ : MethodName) jdk_32_method_6_code 1 (Option.some Jvm.ClassFile.FieldType.boolean) [] rm0 #[.ref a] h W (fun v h' W' => v = some (.int 1) ∧ h' = h) := by
  refine Ow.Con.intro (a0 := a0) pn_22 (ewG G) (saG G) bbG [.val (.ref a)] (by first | exact Ow.locals_all (by simp [Value.category]) rfl | rfl | (simp [argsToLocals, Value.category]; done)) ?_
  intro p e s m below meth c C hO
  refine Ow.aloadN C dIP_0 (pc' := 1) rfl rfl rfl ?_
  refine Ow.getF C (tw120 G.1) F dIP_1 (pc' := 4) rfl ?_
  refine Ow.ifnullN C dIP_4 (pc' := 7) rfl ?_
  refine Ow.iconst C (1 : Int32) dIP_7 (pc' := 8) rfl rfl ?_
  refine Ow.goto C 12 dIP_8 (by decide) (by decide) ?_
  refine Ow.retN C (t := .boolean) rfl (by simp) dIP_12 (by first | decide | (dsimp only; omega) | (simp [Value.category]; done) | (simp [Value.category]; omega)) (by first | decide | (dsimp only; omega) | (simp [Value.category]; done) | (simp [Value.category]; omega)) [] (by first | (simp; done) | (intro x hx; simp [hx]; done)) ⟨rfl, rfl⟩
theorem con_IPn (G : Glob Z a0) (a : Nat) (h : Heap) (W : List Nat) (F : Fld Z h a OC "value" "Ljava/lang/Object;" .null) : Ow.Con l Z EL1 bb (⟨"java/util/Optional", "isPresent", "()Z"⟩ : MethodName) jdk_32_method_6_code 1 (Option.some Jvm.ClassFile.FieldType.boolean) [] rm0 #[.ref a] h W (fun v h' W' => v = some (.int 0) ∧ h' = h) := by
  refine Ow.Con.intro (a0 := a0) pn_22 (ewG G) (saG G) bbG [.val (.ref a)] (by first | exact Ow.locals_all (by simp [Value.category]) rfl | rfl | (simp [argsToLocals, Value.category]; done)) ?_
  intro p e s m below meth c C hO
  refine Ow.aloadN C dIP_0 (pc' := 1) rfl rfl rfl ?_
  refine Ow.getF C (tw120 G.1) F dIP_1 (pc' := 4) rfl ?_
  refine Ow.ifnullY C 11 dIP_4 (by decide) (by decide) ?_
  refine Ow.iconst C (0 : Int32) dIP_11 (pc' := 12) rfl rfl ?_
  refine Ow.retN C (t := .boolean) rfl (by simp) dIP_12 (by first | decide | (dsimp only; omega) | (simp [Value.category]; done) | (simp [Value.category]; omega)) (by first | decide | (dsimp only; omega) | (simp [Value.category]; done) | (simp [Value.category]; omega)) [] (by first | (simp; done) | (intro x hx; simp [hx]; done)) ⟨rfl, rfl⟩
theorem con_OG (G : Glob Z a0) (a x : Nat) (h : Heap) (W : List Nat) (F : Fld Z h a OC "value" "Ljava/lang/Object;" (.ref x)) : Ow.Con l Z EL1 bb (⟨"java/util/Optional", "get", "()Ljava/lang/Object;"⟩ : MethodName) jdk_32_method_5_code 1 (Option.some (Jvm.ClassFile.FieldType.object "java/lang/Object")) [] rm0 #[.ref a] h W (fun v h' W' => v = some (.ref x) ∧ h' = h) := by
  refine Ow.Con.intro (a0 := a0) pn_23 (ewG G) (saG G) bbG [.val (.ref a)] (by first | exact Ow.locals_all (by simp [Value.category]) rfl | rfl | (simp [argsToLocals, Value.category]; done)) ?_
  intro p e s m below meth c C hO
  refine Ow.aloadN C dOG_0 (pc' := 1) rfl rfl rfl ?_
  refine Ow.getF C (tw120 G.1) F dOG_1 (pc' := 4) rfl ?_
  refine Ow.ifnonnullY C 17 dOG_4 (by decide) (by decide) ?_
  refine Ow.aloadN C dOG_17 (pc' := 18) rfl rfl rfl ?_
  refine Ow.getF C (tw120 G.1) F dOG_18 (pc' := 21) rfl ?_
  refine Ow.retA C rfl rfl rfl dOG_21 (by first | decide | (dsimp only; omega) | (simp [Value.category]; done) | (simp [Value.category]; omega)) (by first | decide | (dsimp only; omega) | (simp [Value.category]; done) | (simp [Value.category]; omega)) [] (by first | (simp; done) | (intro x hx; simp [hx]; done)) ⟨rfl, rfl⟩
theorem getD_set_eq {xs : List Int32} {i : Nat} {y : Int32} (h : i < xs.length) : (xs.set i y).getD i 0 = y := by simp [List.getD_eq_getElem?_getD, h]
theorem getD_set_ne {xs : List Int32} {i j : Nat} {y : Int32} (h : i ≠ j) : (xs.set i y).getD j 0 = xs.getD j 0 := by simp [List.getD_eq_getElem?_getD, h]
/-- every place holds a Latin-1 sign -/
def RNG (xs : List Int32) : Prop := ∀ j, 0 ≤ (xs.getD j 0).toInt ∧ (xs.getD j 0).toInt < 256
theorem RNG.rep (n : Nat) : RNG (List.replicate n 0) := by
  intro j
  have : (List.replicate n (0 : Int32)).getD j 0 = 0 := by
    rw [List.getD_eq_getElem?_getD, List.getElem?_replicate]; split <;> rfl
  rw [this]; decide
theorem RNG.set {xs : List Int32} {i : Nat} {y : Int32} (R : RNG xs) (hy : 0 ≤ y.toInt ∧ y.toInt < 256) : RNG (xs.set i y) := by
  intro j
  by_cases q : i = j
  · subst q
    by_cases z : i < xs.length
    · rw [getD_set_eq z]; exact hy
    · rw [List.set_eq_of_length_le (by omega)]; exact R i
  · rw [getD_set_ne q]; exact R j
theorem RNG.mem {xs : List Int32} (R : RNG xs) : ∀ z ∈ xs, 0 ≤ z.toInt ∧ z.toInt < 256 := by
  intro z hz
  obtain ⟨j, hj, rfl⟩ := List.mem_iff_getElem.mp hz
  have := R j
  simpa [List.getD_eq_getElem?_getD, hj] using this

theorem sub32v {c : Int32} (h0 : 32 ≤ c.toInt) (h1 : c.toInt < 256) : (c - 32).toInt = c.toInt - 32 := by
  have h := c_isub c 32
  have r := rng32 (c - 32)
  have e : ((32 : Int32)).toInt = 32 := rfl
  rw [e] at h; omega
theorem set_same {xs : List Int32} {i : Nat} (h : i < xs.length) : xs.set i (xs.getD i 0) = xs := by
  apply List.ext_getElem (by simp)
  intro j h1 h2
  by_cases q : i = j
  · subst q; simp [List.getD_eq_getElem?_getD, h]
  · simp [q]
theorem len11 {xs : List Int32} (h : xs.length = 11) : ∃ x0 x1 x2 x3 x4 x5 x6 x7 x8 x9 x10 : Int32, xs = [x0, x1, x2, x3, x4, x5, x6, x7, x8, x9, x10] := by
  match xs, h with
  | [x0, x1, x2, x3, x4, x5, x6, x7, x8, x9, x10], _ => exact ⟨x0, x1, x2, x3, x4, x5, x6, x7, x8, x9, x10, rfl⟩
theorem proc_nar : proc9.map (nar .byte) = [112, 114, 111, 99, 101, 115, 115, 111, 114] := by decide +kernel
theorem sock_nar : sock6.map (nar .byte) = [115, 111, 99, 107, 101, 116] := by decide +kernel
theorem proc_rng : ∀ z ∈ proc9, 0 ≤ z.toInt ∧ z.toInt < 256 := by decide +kernel
theorem sock_rng : ∀ z ∈ sock6, 0 ≤ z.toInt ∧ z.toInt < 256 := by decide +kernel
theorem getD_or {B : List Int32} {P : Int32 → Prop} (h1 : ∀ z ∈ B, P z) (h2 : P 120) (j : Nat) : P (B.getD j 120) := by
  rw [List.getD_eq_getElem?_getD]
  cases q : B[j]? with
  | none => exact h2
  | some z => exact h1 z (List.mem_of_getElem? q)
theorem lab_rng {B O : List Int32} {sk : Nat} (hB : (sk = 1 ∧ B = sock6 ∧ O = proc9) ∨ (sk = 0 ∧ B = proc9 ∧ O = sock6)) : ∀ j, 0 ≤ (B.getD j 120).toInt ∧ (B.getD j 120).toInt < 256 := fun j => by
  rcases hB with ⟨-, rfl, -⟩ | ⟨-, rfl, -⟩
  · exact getD_or (P := fun z => 0 ≤ z.toInt ∧ z.toInt < 256) sock_rng (by decide) j
  · exact getD_or (P := fun z => 0 ≤ z.toInt ∧ z.toInt < 256) proc_rng (by decide) j
theorem lab_all {B : List Int32} (hr : ∀ j, 0 ≤ (B.getD j 120).toInt ∧ (B.getD j 120).toInt < 256) (j : Nat) : 0 ≤ ([B.getD 0 120, B.getD 1 120, B.getD 2 120, B.getD 3 120, B.getD 4 120, B.getD 5 120, B.getD 6 120, B.getD 7 120, B.getD 8 120, B.getD 9 120, B.getD 10 120].getD j 0).toInt ∧ ([B.getD 0 120, B.getD 1 120, B.getD 2 120, B.getD 3 120, B.getD 4 120, B.getD 5 120, B.getD 6 120, B.getD 7 120, B.getD 8 120, B.getD 9 120, B.getD 10 120].getD j 0).toInt < 256 := by
  match j with
  | 0 => exact hr 0
  | 1 => exact hr 1
  | 2 => exact hr 2
  | 3 => exact hr 3
  | 4 => exact hr 4
  | 5 => exact hr 5
  | 6 => exact hr 6
  | 7 => exact hr 7
  | 8 => exact hr 8
  | 9 => exact hr 9
  | 10 => exact hr 10
  | j + 11 => exact (by decide : 0 ≤ ((0 : Int32)).toInt ∧ ((0 : Int32)).toInt < 256)
theorem lab_take {B O : List Int32} {sk : Nat} (hB : (sk = 1 ∧ B = sock6 ∧ O = proc9) ∨ (sk = 0 ∧ B = proc9 ∧ O = sock6)) : [B.getD 0 120, B.getD 1 120, B.getD 2 120, B.getD 3 120, B.getD 4 120, B.getD 5 120, B.getD 6 120, B.getD 7 120, B.getD 8 120, B.getD 9 120, B.getD 10 120].take B.length = B := by
  rcases hB with ⟨-, rfl, -⟩ | ⟨-, rfl, -⟩ <;> rfl
theorem lab_zero {B O : List Int32} {sk : Nat} (hB : (sk = 1 ∧ B = sock6 ∧ O = proc9) ∨ (sk = 0 ∧ B = proc9 ∧ O = sock6)) : [B.getD 0 120, B.getD 1 120, B.getD 2 120, B.getD 3 120, B.getD 4 120, B.getD 5 120, B.getD 6 120, B.getD 7 120, B.getD 8 120, B.getD 9 120, B.getD 10 120].getD 0 0 = B.getD 0 0 := by
  rcases hB with ⟨-, rfl, -⟩ | ⟨-, rfl, -⟩ <;> rfl
theorem lab_low {B O : List Int32} {sk q : Nat} (hB : (sk = 1 ∧ B = sock6 ∧ O = proc9) ∨ (sk = 0 ∧ B = proc9 ∧ O = sock6)) (hq : q < B.length) : 97 ≤ (B.getD q 0).toInt ∧ (B.getD q 0).toInt ≤ 122 := by
  rcases hB with ⟨-, rfl, -⟩ | ⟨-, rfl, -⟩
  · exact Ow.getD_rng (P := fun z => 97 ≤ z.toInt ∧ z.toInt ≤ 122) (by decide +kernel) hq
  · exact Ow.getD_rng (P := fun z => 97 ≤ z.toInt ∧ z.toInt ≤ 122) (by decide +kernel) hq
set_option maxHeartbeats 40000000 in
theorem con_law (G : Glob Z a0) (a' b' c' : Int32) : Ow.Con l Z EL1 bb x code maxLocals ret tables_1 room_1 #[.int a', .int b', .int c'] Z.heap [] (fun v h' W' => v = some (.int 1)) := by
  refine Ow.Con.intro (a0 := a0) pn_24 (ewG G) (saG G) bbG [.val (.int a'), .val (.int b'), .val (.int c'), .unset, .unset, .unset, .unset, .unset, .unset, .unset, .unset, .unset, .unset, .unset, .unset] (by first | exact Ow.locals_all (by simp [Value.category]) rfl | rfl | (simp [argsToLocals, Value.category]; done)) ?_
  intro p e s m below meth c C0 hO
  have C : Ow.Cx p m meth c s Z a0 EL1 bb "com/example/coretally/coretally/MetricLabelledPinLaw" "law" code 15 ret := C0
  refine Ow.iloadN C at_0 (pc' := 1) rfl rfl ?_
  refine Ow.iconst C (1 : Int32) at_1 (pc' := 2) rfl rfl ?_
  refine Ow.iand C at_2 (pc' := 3) rfl ?_
  suffices hJ : ∀ sk : Nat, sk ≤ 1 → Ow.WP p l e room_1 s m #[.int a', .int b', .int c'] below meth c Z EL1 bb (fun v h' W' => v = some (.int 1)) 11 [.val (.int a'), .val (.int b'), .val (.int c'), .unset, .unset, .unset, .unset, .unset, .unset, .unset, .unset, .unset, .unset, .unset, .unset] [.int (Int32.ofNat sk)] Z.heap [] 0 0 by
    refine Ow.ifC C 10 6 at_3 (Ow.hEq _) (by decide) (by decide) rfl (fun q => ?_) (fun q => ?_)
    · refine Ow.iconst C (0 : Int32) at_10 (pc' := 11) rfl rfl ?_
      exact hJ 0 (by omega)
    · refine Ow.iconst C (1 : Int32) at_6 (pc' := 7) rfl rfl ?_
      refine Ow.goto C 11 at_7 (by decide) (by decide) ?_
      exact hJ 1 (by omega)
  intro sk hsk
  refine Ow.istoreN C at_11 (pc' := 12) rfl rfl ?_
  dsimp only [List.set]
  refine Ow.iloadN C at_12 (pc' := 13) rfl rfl ?_
  suffices hJ : ∀ (B O : List Int32) (sb db : Nat) (h1 : Heap), ((sk = 1 ∧ B = sock6 ∧ O = proc9) ∨ (sk = 0 ∧ B = proc9 ∧ O = sock6)) → Ow.StrL Z h1 sb db B → Ow.WP p l e room_1 s m #[.int a', .int b', .int c'] below meth c Z EL1 bb (fun v h' W' => v = some (.int 1)) 23 [.val (.int a'), .val (.int b'), .val (.int c'), .val (.int (Int32.ofNat sk)), .unset, .unset, .unset, .unset, .unset, .unset, .unset, .unset, .unset, .unset, .unset] [.ref sb] h1 [] 2 40 by
    obtain rfl | rfl : sk = 0 ∨ sk = 1 := by omega
    · refine Ow.ifCY C 21 at_13 (XT.i0_eq_t rfl) (by decide) (by decide) ?_
      refine Ow.ldcS C rfl (N := 36) (xs := [112, 114, 111, 99, 101, 115, 115, 111, 114]) (tw0 G.1) (by decide) (by decide) (by decide) at_21 (pc' := 23) rfl (by decide) (by decide) (by first | decide | (dsimp only; omega) | (simp [Value.category]; done) | (simp [Value.category]; omega)) (by first | decide | (dsimp only; omega) | (simp [Value.category]; done) | (simp [Value.category]; omega)) (fun hq bq dq Eq Bq Bcq Bvq Dq nq => ?_)
      exact hJ proc9 sock6 bq dq hq (Or.inr ⟨rfl, rfl, rfl⟩) ⟨Bq, Bvq, Bcq, by rw [proc_nar]; exact Dq, proc_rng⟩
    · refine Ow.ifCN C at_13 (pc' := 16) rfl (XT.i0_eq_f (by decide)) ?_
      refine Ow.ldcS C rfl (N := 24) (xs := [115, 111, 99, 107, 101, 116]) (tw133 G.1) (by decide) (by decide) (by decide) at_16 (pc' := 18) rfl (by decide) (by decide) (by first | decide | (dsimp only; omega) | (simp [Value.category]; done) | (simp [Value.category]; omega)) (by first | decide | (dsimp only; omega) | (simp [Value.category]; done) | (simp [Value.category]; omega)) (fun hq bq dq Eq Bq Bcq Bvq Dq nq => ?_)
      refine Ow.goto C 23 at_18 (by decide) (by decide) ?_
      exact (hJ sock6 proc9 bq dq hq (Or.inl ⟨rfl, rfl, rfl⟩) ⟨Bq, Bvq, Bcq, by rw [sock_nar]; exact Dq, sock_rng⟩).room (by decide) (by decide)
  intro B O sb db h1 hB SB
  have hlen : 6 ≤ B.length ∧ B.length ≤ 9 := by rcases hB with ⟨-, rfl, -⟩ | ⟨-, rfl, -⟩ <;> decide
  refine Ow.astore C at_23 (pc' := 25) rfl rfl rfl ?_
  dsimp only [List.set]
  refine Ow.aload C at_25 (pc' := 27) rfl rfl rfl ?_
  refine Ow.callV C (y := (⟨"java/lang/String", "length", "()I"⟩ : MethodName)) (z := (⟨"java/lang/String", "length", "()I"⟩ : MethodName)) (tw8 G.1) (tw9 G.1) (tw11 G.1) (tw11 G.1) (tw10 G.1) (tw1 G.1) (tw12 G.1) (by decide) SB.1 (con_LN G sb db B h1 _ SB) (fun _ q => q) pd_11 rfl rfl rfl at_27 (pc' := 30) rfl (Wt := 0) (Nat.le_refl _) (by first | decide | (dsimp only; omega) | (simp [Value.category]; done) | (simp [Value.category]; omega)) (by first | decide | (dsimp only; omega) | (simp [Value.category]; done) | (simp [Value.category]; omega)) (by first | decide | (dsimp only; omega) | (simp [Value.category]; done) | (simp [Value.category]; omega)) (by first | decide | (dsimp only; omega) | (simp [Value.category]; done) | (simp [Value.category]; omega)) (fun v2 h2 W2 ⟨e2, e2'⟩ s2 => ?_)
  subst e2 e2'
  dsimp only [Option.toList, List.cons_append, List.nil_append]
  refine Ow.istore C at_30 (pc' := 32) rfl rfl ?_
  dsimp only [List.set]
  refine Ow.bipush C (11 : Int32) at_32 (pc' := 34) rfl rfl ?_
  refine Ow.newarr C (ty := .char) (cap := 11) rfl rfl (tw21 G.1) at_34 (pc' := 36) rfl rfl (by decide) (by first | decide | (dsimp only; omega) | (simp [Value.category]; done) | (simp [Value.category]; omega)) (by first | decide | (dsimp only; omega) | (simp [Value.category]; done) | (simp [Value.category]; omega)) (fun hv av sv zv lv Ev Vv => ?_)
  have SB0 := SB.ext Ev
  have nsb : sb ≠ av ∧ db ≠ av := by have := SB.lt; omega
  have hr : ∀ j, 0 ≤ (B.getD j 120).toInt ∧ (B.getD j 120).toInt < 256 := lab_rng hB
  have V0 := Vv
  refine Ow.astore C at_36 (pc' := 38) rfl rfl rfl ?_
  dsimp only [List.set]
  refine Ow.aload C at_38 (pc' := 40) rfl rfl rfl ?_
  refine Ow.iconst C (0 : Int32) at_40 (pc' := 41) rfl rfl ?_
  refine Ow.aload C at_41 (pc' := 43) rfl rfl rfl ?_
  refine Ow.iconst C (0 : Int32) at_43 (pc' := 44) rfl rfl ?_
  refine Ow.callS C (tw22 G.1) (tw23 G.1) (tw24 G.1) (tw25 G.1) (by decide) (con_AC G sb db 0 B (by decide) (by omega) hv _ SB0) (fun _ q => q) pd_19 rfl rfl rfl at_44 (pc' := 47) rfl (Wt := 2) (Nat.le_refl _) (by first | decide | (dsimp only; omega) | (simp [Value.category]; done) | (simp [Value.category]; omega)) (by first | decide | (dsimp only; omega) | (simp [Value.category]; done) | (simp [Value.category]; omega)) (by first | decide | (dsimp only; omega) | (simp [Value.category]; done) | (simp [Value.category]; omega)) (by first | decide | (dsimp only; omega) | (simp [Value.category]; done) | (simp [Value.category]; omega)) (fun va0 ha0 Wa0 ⟨ea0, ea0'⟩ sa0 => ?_)
  subst ea0 ea0'
  dsimp only [Option.toList, List.cons_append, List.nil_append]
  refine Ow.castore C V0 (i := 0) rfl (by first | decide | (simp; done)) (by first | assumption | (simp; done) | (simp [*]; done)) at_47 (pc' := 48) rfl (fun hb0 Kb0 V1 => ?_)
  rw [Ow.nar_char_id (hr 0).1 (by have := (hr 0).2; omega)] at V1
  have SB1 := SB0.keep Kb0 (Ow.nin1 nsb.1) (Ow.nin1 nsb.2)
  refine Ow.aload C at_48 (pc' := 50) rfl rfl rfl ?_
  refine Ow.iconst C (1 : Int32) at_50 (pc' := 51) rfl rfl ?_
  refine Ow.aload C at_51 (pc' := 53) rfl rfl rfl ?_
  refine Ow.iconst C (1 : Int32) at_53 (pc' := 54) rfl rfl ?_
  refine Ow.callS C (tw22 G.1) (tw23 G.1) (tw24 G.1) (tw25 G.1) (by decide) (con_AC G sb db 1 B (by decide) (by omega) hb0 _ SB1) (fun _ q => q) pd_19 rfl rfl rfl at_54 (pc' := 57) rfl (Wt := 2) (Nat.le_refl _) (by first | decide | (dsimp only; omega) | (simp [Value.category]; done) | (simp [Value.category]; omega)) (by first | decide | (dsimp only; omega) | (simp [Value.category]; done) | (simp [Value.category]; omega)) (by first | decide | (dsimp only; omega) | (simp [Value.category]; done) | (simp [Value.category]; omega)) (by first | decide | (dsimp only; omega) | (simp [Value.category]; done) | (simp [Value.category]; omega)) (fun va1 ha1 Wa1 ⟨ea1, ea1'⟩ sa1 => ?_)
  subst ea1 ea1'
  dsimp only [Option.toList, List.cons_append, List.nil_append]
  refine Ow.castore C V1 (i := 1) rfl (by first | decide | (simp; done)) (by first | assumption | (simp; done) | (simp [*]; done)) at_57 (pc' := 58) rfl (fun hb1 Kb1 V2 => ?_)
  rw [Ow.nar_char_id (hr 1).1 (by have := (hr 1).2; omega)] at V2
  have SB2 := SB1.keep Kb1 (Ow.nin1 nsb.1) (Ow.nin1 nsb.2)
  refine Ow.aload C at_58 (pc' := 60) rfl rfl rfl ?_
  refine Ow.iconst C (2 : Int32) at_60 (pc' := 61) rfl rfl ?_
  refine Ow.aload C at_61 (pc' := 63) rfl rfl rfl ?_
  refine Ow.iconst C (2 : Int32) at_63 (pc' := 64) rfl rfl ?_
  refine Ow.callS C (tw22 G.1) (tw23 G.1) (tw24 G.1) (tw25 G.1) (by decide) (con_AC G sb db 2 B (by decide) (by omega) hb1 _ SB2) (fun _ q => q) pd_19 rfl rfl rfl at_64 (pc' := 67) rfl (Wt := 2) (Nat.le_refl _) (by first | decide | (dsimp only; omega) | (simp [Value.category]; done) | (simp [Value.category]; omega)) (by first | decide | (dsimp only; omega) | (simp [Value.category]; done) | (simp [Value.category]; omega)) (by first | decide | (dsimp only; omega) | (simp [Value.category]; done) | (simp [Value.category]; omega)) (by first | decide | (dsimp only; omega) | (simp [Value.category]; done) | (simp [Value.category]; omega)) (fun va2 ha2 Wa2 ⟨ea2, ea2'⟩ sa2 => ?_)
  subst ea2 ea2'
  dsimp only [Option.toList, List.cons_append, List.nil_append]
  refine Ow.castore C V2 (i := 2) rfl (by first | decide | (simp; done)) (by first | assumption | (simp; done) | (simp [*]; done)) at_67 (pc' := 68) rfl (fun hb2 Kb2 V3 => ?_)
  rw [Ow.nar_char_id (hr 2).1 (by have := (hr 2).2; omega)] at V3
  have SB3 := SB2.keep Kb2 (Ow.nin1 nsb.1) (Ow.nin1 nsb.2)
  refine Ow.aload C at_68 (pc' := 70) rfl rfl rfl ?_
  refine Ow.iconst C (3 : Int32) at_70 (pc' := 71) rfl rfl ?_
  refine Ow.aload C at_71 (pc' := 73) rfl rfl rfl ?_
  refine Ow.iconst C (3 : Int32) at_73 (pc' := 74) rfl rfl ?_
  refine Ow.callS C (tw22 G.1) (tw23 G.1) (tw24 G.1) (tw25 G.1) (by decide) (con_AC G sb db 3 B (by decide) (by omega) hb2 _ SB3) (fun _ q => q) pd_19 rfl rfl rfl at_74 (pc' := 77) rfl (Wt := 2) (Nat.le_refl _) (by first | decide | (dsimp only; omega) | (simp [Value.category]; done) | (simp [Value.category]; omega)) (by first | decide | (dsimp only; omega) | (simp [Value.category]; done) | (simp [Value.category]; omega)) (by first | decide | (dsimp only; omega) | (simp [Value.category]; done) | (simp [Value.category]; omega)) (by first | decide | (dsimp only; omega) | (simp [Value.category]; done) | (simp [Value.category]; omega)) (fun va3 ha3 Wa3 ⟨ea3, ea3'⟩ sa3 => ?_)
  subst ea3 ea3'
  dsimp only [Option.toList, List.cons_append, List.nil_append]
  refine Ow.castore C V3 (i := 3) rfl (by first | decide | (simp; done)) (by first | assumption | (simp; done) | (simp [*]; done)) at_77 (pc' := 78) rfl (fun hb3 Kb3 V4 => ?_)
  rw [Ow.nar_char_id (hr 3).1 (by have := (hr 3).2; omega)] at V4
  have SB4 := SB3.keep Kb3 (Ow.nin1 nsb.1) (Ow.nin1 nsb.2)
  refine Ow.aload C at_78 (pc' := 80) rfl rfl rfl ?_
  refine Ow.iconst C (4 : Int32) at_80 (pc' := 81) rfl rfl ?_
  refine Ow.aload C at_81 (pc' := 83) rfl rfl rfl ?_
  refine Ow.iconst C (4 : Int32) at_83 (pc' := 84) rfl rfl ?_
  refine Ow.callS C (tw22 G.1) (tw23 G.1) (tw24 G.1) (tw25 G.1) (by decide) (con_AC G sb db 4 B (by decide) (by omega) hb3 _ SB4) (fun _ q => q) pd_19 rfl rfl rfl at_84 (pc' := 87) rfl (Wt := 2) (Nat.le_refl _) (by first | decide | (dsimp only; omega) | (simp [Value.category]; done) | (simp [Value.category]; omega)) (by first | decide | (dsimp only; omega) | (simp [Value.category]; done) | (simp [Value.category]; omega)) (by first | decide | (dsimp only; omega) | (simp [Value.category]; done) | (simp [Value.category]; omega)) (by first | decide | (dsimp only; omega) | (simp [Value.category]; done) | (simp [Value.category]; omega)) (fun va4 ha4 Wa4 ⟨ea4, ea4'⟩ sa4 => ?_)
  subst ea4 ea4'
  dsimp only [Option.toList, List.cons_append, List.nil_append]
  refine Ow.castore C V4 (i := 4) rfl (by first | decide | (simp; done)) (by first | assumption | (simp; done) | (simp [*]; done)) at_87 (pc' := 88) rfl (fun hb4 Kb4 V5 => ?_)
  rw [Ow.nar_char_id (hr 4).1 (by have := (hr 4).2; omega)] at V5
  have SB5 := SB4.keep Kb4 (Ow.nin1 nsb.1) (Ow.nin1 nsb.2)
  refine Ow.aload C at_88 (pc' := 90) rfl rfl rfl ?_
  refine Ow.iconst C (5 : Int32) at_90 (pc' := 91) rfl rfl ?_
  refine Ow.aload C at_91 (pc' := 93) rfl rfl rfl ?_
  refine Ow.iconst C (5 : Int32) at_93 (pc' := 94) rfl rfl ?_
  refine Ow.callS C (tw22 G.1) (tw23 G.1) (tw24 G.1) (tw25 G.1) (by decide) (con_AC G sb db 5 B (by decide) (by omega) hb4 _ SB5) (fun _ q => q) pd_19 rfl rfl rfl at_94 (pc' := 97) rfl (Wt := 2) (Nat.le_refl _) (by first | decide | (dsimp only; omega) | (simp [Value.category]; done) | (simp [Value.category]; omega)) (by first | decide | (dsimp only; omega) | (simp [Value.category]; done) | (simp [Value.category]; omega)) (by first | decide | (dsimp only; omega) | (simp [Value.category]; done) | (simp [Value.category]; omega)) (by first | decide | (dsimp only; omega) | (simp [Value.category]; done) | (simp [Value.category]; omega)) (fun va5 ha5 Wa5 ⟨ea5, ea5'⟩ sa5 => ?_)
  subst ea5 ea5'
  dsimp only [Option.toList, List.cons_append, List.nil_append]
  refine Ow.castore C V5 (i := 5) rfl (by first | decide | (simp; done)) (by first | assumption | (simp; done) | (simp [*]; done)) at_97 (pc' := 98) rfl (fun hb5 Kb5 V6 => ?_)
  rw [Ow.nar_char_id (hr 5).1 (by have := (hr 5).2; omega)] at V6
  have SB6 := SB5.keep Kb5 (Ow.nin1 nsb.1) (Ow.nin1 nsb.2)
  refine Ow.aload C at_98 (pc' := 100) rfl rfl rfl ?_
  refine Ow.bipush C (6 : Int32) at_100 (pc' := 102) rfl rfl ?_
  refine Ow.aload C at_102 (pc' := 104) rfl rfl rfl ?_
  refine Ow.bipush C (6 : Int32) at_104 (pc' := 106) rfl rfl ?_
  refine Ow.callS C (tw22 G.1) (tw23 G.1) (tw24 G.1) (tw25 G.1) (by decide) (con_AC G sb db 6 B (by decide) (by omega) hb5 _ SB6) (fun _ q => q) pd_19 rfl rfl rfl at_106 (pc' := 109) rfl (Wt := 2) (Nat.le_refl _) (by first | decide | (dsimp only; omega) | (simp [Value.category]; done) | (simp [Value.category]; omega)) (by first | decide | (dsimp only; omega) | (simp [Value.category]; done) | (simp [Value.category]; omega)) (by first | decide | (dsimp only; omega) | (simp [Value.category]; done) | (simp [Value.category]; omega)) (by first | decide | (dsimp only; omega) | (simp [Value.category]; done) | (simp [Value.category]; omega)) (fun va6 ha6 Wa6 ⟨ea6, ea6'⟩ sa6 => ?_)
  subst ea6 ea6'
  dsimp only [Option.toList, List.cons_append, List.nil_append]
  refine Ow.castore C V6 (i := 6) rfl (by first | decide | (simp; done)) (by first | assumption | (simp; done) | (simp [*]; done)) at_109 (pc' := 110) rfl (fun hb6 Kb6 V7 => ?_)
  rw [Ow.nar_char_id (hr 6).1 (by have := (hr 6).2; omega)] at V7
  have SB7 := SB6.keep Kb6 (Ow.nin1 nsb.1) (Ow.nin1 nsb.2)
  refine Ow.aload C at_110 (pc' := 112) rfl rfl rfl ?_
  refine Ow.bipush C (7 : Int32) at_112 (pc' := 114) rfl rfl ?_
  refine Ow.aload C at_114 (pc' := 116) rfl rfl rfl ?_
  refine Ow.bipush C (7 : Int32) at_116 (pc' := 118) rfl rfl ?_
  refine Ow.callS C (tw22 G.1) (tw23 G.1) (tw24 G.1) (tw25 G.1) (by decide) (con_AC G sb db 7 B (by decide) (by omega) hb6 _ SB7) (fun _ q => q) pd_19 rfl rfl rfl at_118 (pc' := 121) rfl (Wt := 2) (Nat.le_refl _) (by first | decide | (dsimp only; omega) | (simp [Value.category]; done) | (simp [Value.category]; omega)) (by first | decide | (dsimp only; omega) | (simp [Value.category]; done) | (simp [Value.category]; omega)) (by first | decide | (dsimp only; omega) | (simp [Value.category]; done) | (simp [Value.category]; omega)) (by first | decide | (dsimp only; omega) | (simp [Value.category]; done) | (simp [Value.category]; omega)) (fun va7 ha7 Wa7 ⟨ea7, ea7'⟩ sa7 => ?_)
  subst ea7 ea7'
  dsimp only [Option.toList, List.cons_append, List.nil_append]
  refine Ow.castore C V7 (i := 7) rfl (by first | decide | (simp; done)) (by first | assumption | (simp; done) | (simp [*]; done)) at_121 (pc' := 122) rfl (fun hb7 Kb7 V8 => ?_)
  rw [Ow.nar_char_id (hr 7).1 (by have := (hr 7).2; omega)] at V8
  have SB8 := SB7.keep Kb7 (Ow.nin1 nsb.1) (Ow.nin1 nsb.2)
  refine Ow.aload C at_122 (pc' := 124) rfl rfl rfl ?_
  refine Ow.bipush C (8 : Int32) at_124 (pc' := 126) rfl rfl ?_
  refine Ow.aload C at_126 (pc' := 128) rfl rfl rfl ?_
  refine Ow.bipush C (8 : Int32) at_128 (pc' := 130) rfl rfl ?_
  refine Ow.callS C (tw22 G.1) (tw23 G.1) (tw24 G.1) (tw25 G.1) (by decide) (con_AC G sb db 8 B (by decide) (by omega) hb7 _ SB8) (fun _ q => q) pd_19 rfl rfl rfl at_130 (pc' := 133) rfl (Wt := 2) (Nat.le_refl _) (by first | decide | (dsimp only; omega) | (simp [Value.category]; done) | (simp [Value.category]; omega)) (by first | decide | (dsimp only; omega) | (simp [Value.category]; done) | (simp [Value.category]; omega)) (by first | decide | (dsimp only; omega) | (simp [Value.category]; done) | (simp [Value.category]; omega)) (by first | decide | (dsimp only; omega) | (simp [Value.category]; done) | (simp [Value.category]; omega)) (fun va8 ha8 Wa8 ⟨ea8, ea8'⟩ sa8 => ?_)
  subst ea8 ea8'
  dsimp only [Option.toList, List.cons_append, List.nil_append]
  refine Ow.castore C V8 (i := 8) rfl (by first | decide | (simp; done)) (by first | assumption | (simp; done) | (simp [*]; done)) at_133 (pc' := 134) rfl (fun hb8 Kb8 V9 => ?_)
  rw [Ow.nar_char_id (hr 8).1 (by have := (hr 8).2; omega)] at V9
  have SB9 := SB8.keep Kb8 (Ow.nin1 nsb.1) (Ow.nin1 nsb.2)
  refine Ow.aload C at_134 (pc' := 136) rfl rfl rfl ?_
  refine Ow.bipush C (9 : Int32) at_136 (pc' := 138) rfl rfl ?_
  refine Ow.aload C at_138 (pc' := 140) rfl rfl rfl ?_
  refine Ow.bipush C (9 : Int32) at_140 (pc' := 142) rfl rfl ?_
  refine Ow.callS C (tw22 G.1) (tw23 G.1) (tw24 G.1) (tw25 G.1) (by decide) (con_AC G sb db 9 B (by decide) (by omega) hb8 _ SB9) (fun _ q => q) pd_19 rfl rfl rfl at_142 (pc' := 145) rfl (Wt := 2) (Nat.le_refl _) (by first | decide | (dsimp only; omega) | (simp [Value.category]; done) | (simp [Value.category]; omega)) (by first | decide | (dsimp only; omega) | (simp [Value.category]; done) | (simp [Value.category]; omega)) (by first | decide | (dsimp only; omega) | (simp [Value.category]; done) | (simp [Value.category]; omega)) (by first | decide | (dsimp only; omega) | (simp [Value.category]; done) | (simp [Value.category]; omega)) (fun va9 ha9 Wa9 ⟨ea9, ea9'⟩ sa9 => ?_)
  subst ea9 ea9'
  dsimp only [Option.toList, List.cons_append, List.nil_append]
  refine Ow.castore C V9 (i := 9) rfl (by first | decide | (simp; done)) (by first | assumption | (simp; done) | (simp [*]; done)) at_145 (pc' := 146) rfl (fun hb9 Kb9 V10 => ?_)
  rw [Ow.nar_char_id (hr 9).1 (by have := (hr 9).2; omega)] at V10
  have SB10 := SB9.keep Kb9 (Ow.nin1 nsb.1) (Ow.nin1 nsb.2)
  refine Ow.aload C at_146 (pc' := 148) rfl rfl rfl ?_
  refine Ow.bipush C (10 : Int32) at_148 (pc' := 150) rfl rfl ?_
  refine Ow.aload C at_150 (pc' := 152) rfl rfl rfl ?_
  refine Ow.bipush C (10 : Int32) at_152 (pc' := 154) rfl rfl ?_
  refine Ow.callS C (tw22 G.1) (tw23 G.1) (tw24 G.1) (tw25 G.1) (by decide) (con_AC G sb db 10 B (by decide) (by omega) hb9 _ SB10) (fun _ q => q) pd_19 rfl rfl rfl at_154 (pc' := 157) rfl (Wt := 2) (Nat.le_refl _) (by first | decide | (dsimp only; omega) | (simp [Value.category]; done) | (simp [Value.category]; omega)) (by first | decide | (dsimp only; omega) | (simp [Value.category]; done) | (simp [Value.category]; omega)) (by first | decide | (dsimp only; omega) | (simp [Value.category]; done) | (simp [Value.category]; omega)) (by first | decide | (dsimp only; omega) | (simp [Value.category]; done) | (simp [Value.category]; omega)) (fun va10 ha10 Wa10 ⟨ea10, ea10'⟩ sa10 => ?_)
  subst ea10 ea10'
  dsimp only [Option.toList, List.cons_append, List.nil_append]
  refine Ow.castore C V10 (i := 10) rfl (by first | decide | (simp; done)) (by first | assumption | (simp; done) | (simp [*]; done)) at_157 (pc' := 158) rfl (fun hb10 Kb10 V11 => ?_)
  rw [Ow.nar_char_id (hr 10).1 (by have := (hr 10).2; omega)] at V11
  have SB11 := SB10.keep Kb10 (Ow.nin1 nsb.1) (Ow.nin1 nsb.2)
  have VF : ArI Z hb10 av .char [B.getD 0 120, B.getD 1 120, B.getD 2 120, B.getD 3 120, B.getD 4 120, B.getD 5 120, B.getD 6 120, B.getD 7 120, B.getD 8 120, B.getD 9 120, B.getD 10 120] := V11
  have RF : RNG [B.getD 0 120, B.getD 1 120, B.getD 2 120, B.getD 3 120, B.getD 4 120, B.getD 5 120, B.getD 6 120, B.getD 7 120, B.getD 8 120, B.getD 9 120, B.getD 10 120] := by intro j; exact lab_all hr j
  have FB : [B.getD 0 120, B.getD 1 120, B.getD 2 120, B.getD 3 120, B.getD 4 120, B.getD 5 120, B.getD 6 120, B.getD 7 120, B.getD 8 120, B.getD 9 120, B.getD 10 120].take B.length = B := lab_take hB
  generalize hF : [B.getD 0 120, B.getD 1 120, B.getD 2 120, B.getD 3 120, B.getD 4 120, B.getD 5 120, B.getD 6 120, B.getD 7 120, B.getD 8 120, B.getD 9 120, B.getD 10 120] = F at VF RF FB
  have lF : F.length = 11 := by rw [← hF]; rfl
  have F0 : F.getD 0 0 = B.getD 0 0 := by rw [← hF]; exact lab_zero hB
  have FG : ∀ j, j < B.length → F.getD j 0 = B.getD j 0 := fun j hj => by have z := Ow.getD_take (L := F) (p := B.length) (k := j) hj; rw [FB] at z; exact z.symm
  clear V0 V1 V2 V3 V4 V5 V6 V7 V8 V9 V10 V11
  refine Ow.iloadN C at_158 (pc' := 159) rfl rfl ?_
  refine Ow.iconst C (1 : Int32) at_159 (pc' := 160) rfl rfl ?_
  refine Ow.iushr C at_160 (pc' := 161) rfl ?_
  refine Ow.bipush C (7 : Int32) at_161 (pc' := 163) rfl rfl ?_
  refine Ow.iand C at_163 (pc' := 164) rfl ?_
  refine Ow.istoreG C at_164 (pc' := 166) rfl rfl (fun md e_md => ?_)
  dsimp only [List.set]
  refine Ow.iloadN C at_166 (pc' := 167) rfl rfl ?_
  refine Ow.ldcI C (tw48 G.1) at_167 (pc' := 169) rfl ?_
  refine Ow.iand C at_169 (pc' := 170) rfl ?_
  refine Ow.iload C at_170 (pc' := 172) rfl rfl ?_
  obtain ⟨q, hq, e_q⟩ := Ow.rem_small b' B.length (by omega) (by omega)
  refine Ow.irem C at_172 (pc' := 173) rfl (fun z => absurd (Ow.ofNat_inj (j := 0) (by omega) (by omega) z) (by omega)) ?_
  rw [e_q]
  refine Ow.istore C at_173 (pc' := 175) rfl rfl ?_
  dsimp only [List.set]
  refine Ow.iloadN C at_175 (pc' := 176) rfl rfl ?_
  refine Ow.sipush C (255 : Int32) at_176 (pc' := 179) rfl rfl ?_
  refine Ow.iand C at_179 (pc' := 180) rfl ?_
  refine Ow.i2c C at_180 (pc' := 181) rfl ?_
  refine Ow.istoreG C at_181 (pc' := 183) rfl rfl (fun ch e_ch => ?_)
  dsimp only [List.set]
  refine Ow.iload C at_183 (pc' := 185) rfl rfl ?_
  refine Ow.istore C at_185 (pc' := 187) rfl rfl ?_
  dsimp only [List.set]
  have r_ch : 0 ≤ ch.toInt ∧ ch.toInt < 256 := by rw [e_ch]; exact Ow.mask255 _
  clear e_ch e_md
  suffices hJ : ∀ (h5 : Heap) (xs : List Int32) (n5 x : Nat), ArI Z h5 av .char xs → xs.length = 11 → RNG xs → n5 ≤ 10 → ((x = 1 ∧ xs.take n5 = B) ∨ (x = 0 ∧ ¬ xs.take n5 = B)) → ¬ xs.take n5 = O → Ow.WP p l e room_1 s m #[.int a', .int b', .int c'] below meth c Z EL1 bb (fun v h' W' => v = some (.int 1)) 291 [.val (.int a'), .val (.int b'), .val (.int c'), .val (.int (Int32.ofNat sk)), .val (.ref sb), .val (.int (Int32.ofNat B.length)), .val (.ref av), .val (.int md), .val (.int (Int32.ofNat q)), .val (.int ch), .val (.int (Int32.ofNat n5)), .val (.int (Int32.ofNat x)), .unset, .unset, .unset] [] h5 [av] 3 51 by
    have BO : ¬ B = O := by rcases hB with ⟨-, rfl, rfl⟩ | ⟨-, rfl, rfl⟩ <;> decide
    have lBO : ¬ B.length = O.length ∧ ¬ B.length + 1 = O.length := by rcases hB with ⟨-, rfl, rfl⟩ | ⟨-, rfl, rfl⟩ <;> decide
    have zBO : ¬ B.getD 0 0 = O.getD 0 0 ∧ 6 ≤ O.length := by rcases hB with ⟨-, rfl, rfl⟩ | ⟨-, rfl, rfl⟩ <;> decide
    have lt : ∀ (ys : List Int32) (j : Nat), ys.length = 11 → j ≤ 10 → (ys.take j).length = j := fun ys j h1 h2 => by simp; omega
    refine Ow.iload C at_187 (pc' := 189) rfl rfl ?_
    by_cases m0 : md = 0
    · refine Ow.ifCN C at_189 (pc' := 192) rfl (XT.i0_ne_f m0) ?_
      refine Ow.iconst C (1 : Int32) at_192 (pc' := 193) rfl rfl ?_
      refine Ow.istore C at_193 (pc' := 195) rfl rfl ?_
      dsimp only [List.set]
      refine Ow.goto C 291 at_195 (by decide) (by decide) ?_
      exact hJ hb10 F B.length 1 VF lF RF (by omega) (Or.inl ⟨rfl, FB⟩) (by rw [FB]; exact BO)
    · refine Ow.ifCY C 198 at_189 (XT.i0_ne_t m0) (by decide) (by decide) ?_
      refine Ow.iload C at_198 (pc' := 200) rfl rfl ?_
      refine Ow.iconst C (2 : Int32) at_200 (pc' := 201) rfl rfl ?_
      by_cases m2 : md = 2
      · refine Ow.icmpN C at_201 (pc' := 204) rfl (XT.ii_ne_f m2) ?_
        refine Ow.iload C at_204 (pc' := 206) rfl rfl ?_
        refine Ow.istore C at_206 (pc' := 208) rfl rfl ?_
        dsimp only [List.set]
        refine Ow.iconst C (0 : Int32) at_208 (pc' := 209) rfl rfl ?_
        refine Ow.istore C at_209 (pc' := 211) rfl rfl ?_
        dsimp only [List.set]
        refine Ow.goto C 291 at_211 (by decide) (by decide) ?_
        exact hJ hb10 F q 0 VF lF RF (by omega) (Or.inr ⟨rfl, fun z => by have := congrArg List.length z; rw [lt F q lF (by omega)] at this; omega⟩) (fun z => by
          have e1 := congrArg List.length z
          rw [lt F q lF (by omega)] at e1
          have e2 := congrArg (fun w => w.getD 0 0) z
          have e3 : (F.take q).getD 0 0 = O.getD 0 0 := e2
          rw [Ow.getD_take (by omega), F0] at e3
          exact zBO.1 e3)
      · refine Ow.icmpY C 214 at_201 (XT.ii_ne_t m2) (by decide) (by decide) ?_
        refine Ow.iload C at_214 (pc' := 216) rfl rfl ?_
        refine Ow.iconst C (3 : Int32) at_216 (pc' := 217) rfl rfl ?_
        by_cases m3 : md = 3
        · refine Ow.icmpN C at_217 (pc' := 220) rfl (XT.ii_ne_f m3) ?_
          refine Ow.aload C at_220 (pc' := 222) rfl rfl rfl ?_
          refine Ow.iload C at_222 (pc' := 224) rfl rfl ?_
          refine Ow.iload C at_224 (pc' := 226) rfl rfl ?_
          refine Ow.castore C VF (i := B.length) (Ow.ofNat_toInt (by omega)) (by omega) (by simp) at_226 (pc' := 227) rfl (fun h6 K6 V6 => ?_)
          refine Ow.iload C at_227 (pc' := 229) rfl rfl ?_
          refine Ow.iconst C (1 : Int32) at_229 (pc' := 230) rfl rfl ?_
          refine Ow.iadd C at_230 (pc' := 231) rfl ?_
          rw [← inc_ofNat]
          refine Ow.istore C at_231 (pc' := 233) rfl rfl ?_
          dsimp only [List.set]
          refine Ow.iconst C (0 : Int32) at_233 (pc' := 234) rfl rfl ?_
          refine Ow.istore C at_234 (pc' := 236) rfl rfl ?_
          dsimp only [List.set]
          refine Ow.goto C 291 at_236 (by decide) (by decide) ?_
          rw [Ow.nar_char_id r_ch.1 (by omega)] at V6
          have l6 : (F.set B.length ch).length = 11 := by simp [lF]
          exact hJ h6 _ (B.length + 1) 0 V6 l6 (RF.set r_ch) (by omega) (Or.inr ⟨rfl, fun z => by have := congrArg List.length z; rw [lt _ _ l6 (by omega)] at this; omega⟩) (fun z => by have := congrArg List.length z; rw [lt _ _ l6 (by omega)] at this; omega)
        · refine Ow.icmpY C 239 at_217 (XT.ii_ne_t m3) (by decide) (by decide) ?_
          have at_q : ∀ y : Int32, (F.set q y).take B.length = B ↔ y = B.getD q 0 := fun y => by
            refine ⟨fun z => ?_, fun z => ?_⟩
            · rw [← z, Ow.getD_take hq, getD_set_eq (by omega)]
            · rw [z, ← FG q hq, set_same (by omega)]; exact FB
          have ne_O : ∀ y : Int32, ¬ (F.set q y).take B.length = O := fun y z => by have := congrArg List.length z; rw [lt _ _ (by simp [lF]) (by omega)] at this; omega
          refine Ow.iload C at_239 (pc' := 241) rfl rfl ?_
          refine Ow.iconst C (4 : Int32) at_241 (pc' := 242) rfl rfl ?_
          by_cases m4 : md = 4
          · refine Ow.icmpN C at_242 (pc' := 245) rfl (XT.ii_ne_f m4) ?_
            refine Ow.aload C at_245 (pc' := 247) rfl rfl rfl ?_
            refine Ow.iload C at_247 (pc' := 249) rfl rfl ?_
            refine Ow.aload C at_249 (pc' := 251) rfl rfl rfl ?_
            refine Ow.iload C at_251 (pc' := 253) rfl rfl ?_
            refine Ow.caload C VF (i := q) (Ow.ofNat_toInt (by omega)) (by omega) at_253 (pc' := 254) rfl ?_
            refine Ow.bipush C (32 : Int32) at_254 (pc' := 256) rfl rfl ?_
            refine Ow.isub C at_256 (pc' := 257) rfl ?_
            refine Ow.i2c C at_257 (pc' := 258) rfl ?_
            refine Ow.castore C VF (i := q) (Ow.ofNat_toInt (by omega)) (by omega) (by simp) at_258 (pc' := 259) rfl (fun h6 K6 V6 => ?_)
            refine Ow.iconst C (0 : Int32) at_259 (pc' := 260) rfl rfl ?_
            refine Ow.istore C at_260 (pc' := 262) rfl rfl ?_
            dsimp only [List.set]
            refine Ow.goto C 291 at_262 (by decide) (by decide) ?_
            have lw := lab_low hB hq
            rw [FG q hq] at V6
            have sv := sub32v (c := B.getD q 0) (by omega) (by omega)
            rw [Ow.nar_char_id (x := B.getD q 0 - 32) (by omega) (by omega), Ow.nar_char_id (x := B.getD q 0 - 32) (by omega) (by omega)] at V6
            exact hJ h6 _ B.length 0 V6 (by simp [lF]) (RF.set ⟨by omega, by omega⟩) (by omega) (Or.inr ⟨rfl, fun z => by have := (at_q _).mp z; rw [Ow.eq32] at this; omega⟩) (ne_O _)
          · refine Ow.icmpY C 265 at_242 (XT.ii_ne_t m4) (by decide) (by decide) ?_
            refine Ow.aload C at_265 (pc' := 267) rfl rfl rfl ?_
            refine Ow.iload C at_267 (pc' := 269) rfl rfl ?_
            refine Ow.iload C at_269 (pc' := 271) rfl rfl ?_
            refine Ow.castore C VF (i := q) (Ow.ofNat_toInt (by omega)) (by omega) (by simp) at_271 (pc' := 272) rfl (fun h6 K6 V6 => ?_)
            rw [Ow.nar_char_id r_ch.1 (by omega)] at V6
            have SB6 := SB11.keep K6 (Ow.nin1 nsb.1) (Ow.nin1 nsb.2)
            refine Ow.iload C at_272 (pc' := 274) rfl rfl ?_
            refine Ow.aload C at_274 (pc' := 276) rfl rfl rfl ?_
            refine Ow.iload C at_276 (pc' := 278) rfl rfl ?_
            refine Ow.callV C (y := (⟨"java/lang/String", "charAt", "(I)C"⟩ : MethodName)) (z := (⟨"java/lang/String", "charAt", "(I)C"⟩ : MethodName)) (tw26 G.1) (tw27 G.1) (tw29 G.1) (tw29 G.1) (tw28 G.1) (tw1 G.1) (tw30 G.1) (by decide) SB6.1 (con_CA G sb db q B hq h6 _ SB6) (fun _ q => q) pd_12 rfl rfl rfl at_278 (pc' := 281) rfl (Wt := 1) (Nat.le_refl _) (by first | decide | (dsimp only; omega) | (simp [Value.category]; done) | (simp [Value.category]; omega)) (by first | decide | (dsimp only; omega) | (simp [Value.category]; done) | (simp [Value.category]; omega)) (by first | decide | (dsimp only; omega) | (simp [Value.category]; done) | (simp [Value.category]; omega)) (by first | decide | (dsimp only; omega) | (simp [Value.category]; done) | (simp [Value.category]; omega)) (fun v7 h7 W7 ⟨e7, e7'⟩ s7 => ?_)
            subst e7 e7'
            dsimp only [Option.toList, List.cons_append, List.nil_append]
            by_cases y : ch = B.getD q 0
            · refine Ow.icmpN C at_281 (pc' := 284) rfl (XT.ii_ne_f y) ?_
              refine Ow.iconst C (1 : Int32) at_284 (pc' := 285) rfl rfl ?_
              refine Ow.goto C 289 at_285 (by decide) (by decide) ?_
              refine Ow.istore C at_289 (pc' := 291) rfl rfl ?_
              dsimp only [List.set]
              exact hJ h7 _ B.length 1 V6 (by simp [lF]) (RF.set r_ch) (by omega) (Or.inl ⟨rfl, (at_q _).mpr y⟩) (ne_O _)
            · refine Ow.icmpY C 288 at_281 (XT.ii_ne_t y) (by decide) (by decide) ?_
              refine Ow.iconst C (0 : Int32) at_288 (pc' := 289) rfl rfl ?_
              refine Ow.istore C at_289 (pc' := 291) rfl rfl ?_
              dsimp only [List.set]
              exact hJ h7 _ B.length 0 V6 (by simp [lF]) (RF.set r_ch) (by omega) (Or.inr ⟨rfl, fun z => y ((at_q _).mp z)⟩) (ne_O _)
  intro h5 xs n5 x V5 l5 R5 hn5 hx hO5
  obtain ⟨va, Pm, Sm, lp, dp, ls, ds, eo, M⟩ := id G.2.2.1
  obtain ⟨x0, x1, x2, x3, x4, x5, x6, x7, x8, x9, x10, rfl⟩ : ∃ x0 x1 x2 x3 x4 x5 x6 x7 x8 x9 x10 : Int32, xs = [x0, x1, x2, x3, x4, x5, x6, x7, x8, x9, x10] := len11 l5
  refine Ow.aload C at_291 (pc' := 293) rfl rfl rfl ?_
  refine Ow.iload C at_293 (pc' := 295) rfl rfl ?_
  refine Ow.callS C (tw49 G.1) (tw50 G.1) (tw24 G.1) (tw51 G.1) (by decide) (con_ST G av n5 hn5 x0 x1 x2 x3 x4 x5 x6 x7 x8 x9 x10 R5.mem h5 _ V5) (fun _ q => q) pd_20 rfl rfl rfl at_295 (pc' := 298) rfl (Wt := 0) (Nat.le_refl _) (by first | decide | (dsimp only; omega) | (simp [Value.category]; done) | (simp [Value.category]; omega)) (by first | decide | (dsimp only; omega) | (simp [Value.category]; done) | (simp [Value.category]; omega)) (by first | decide | (dsimp only; omega) | (simp [Value.category]; done) | (simp [Value.category]; omega)) (by first | decide | (dsimp only; omega) | (simp [Value.category]; done) | (simp [Value.category]; omega)) (fun v6 h6 W6 ⟨a6, d6, e6, K6, S6⟩ s6 => ?_)
  subst e6
  dsimp only [Option.toList, List.cons_append, List.nil_append]
  generalize hT : [x0, x1, x2, x3, x4, x5, x6, x7, x8, x9, x10].take n5 = T at S6 hx hO5
  refine Ow.astore C at_298 (pc' := 300) rfl rfl rfl ?_
  dsimp only [List.set]
  refine Ow.aload C at_300 (pc' := 302) rfl rfl rfl ?_
  refine Ow.callS C (tw73 G.1) (tw74 G.1) (tw75 G.1) (tw76 G.1) (by decide) (con_LB G va Pm Sm lp dp ls ds eo a6 d6 M T h6 _ S6) (fun _ q => q) pd_21 rfl rfl rfl at_302 (pc' := 305) rfl (Wt := 0) (Nat.le_refl _) (by first | decide | (dsimp only; omega) | (simp [Value.category]; done) | (simp [Value.category]; omega)) (by first | decide | (dsimp only; omega) | (simp [Value.category]; done) | (simp [Value.category]; omega)) (by first | decide | (dsimp only; omega) | (simp [Value.category]; done) | (simp [Value.category]; omega)) (by first | decide | (dsimp only; omega) | (simp [Value.category]; done) | (simp [Value.category]; omega)) (fun v7 h7 W7 ⟨ob, w, e7, Ea, Fa, ha⟩ s7 => ?_)
  subst e7
  dsimp only [Option.toList, List.cons_append, List.nil_append]
  refine Ow.astore C at_305 (pc' := 307) rfl rfl rfl ?_
  dsimp only [List.set]
  refine Ow.iloadN C at_307 (pc' := 308) rfl rfl ?_
  suffices hK : Ow.WP p l e room_1 s m #[.int a', .int b', .int c'] below meth c Z EL1 bb (fun v h' W' => v = some (.int 1)) 320 [.val (.int a'), .val (.int b'), .val (.int c'), .val (.int (Int32.ofNat sk)), .val (.ref sb), .val (.int (Int32.ofNat B.length)), .val (.ref av), .val (.int md), .val (.int (Int32.ofNat q)), .val (.int ch), .val (.int (Int32.ofNat n5)), .val (.int (Int32.ofNat x)), .val (.ref a6), .val (.ref ob), .unset] [.ref (if sk = 1 then Sm else Pm)] h7 [av] 20 200 by
    obtain rfl | rfl : sk = 0 ∨ sk = 1 := by omega
    · refine Ow.ifCY C 317 at_308 (XT.i0_eq_t rfl) (by decide) (by decide) ?_
      refine Ow.getS C (tw122 G.1) M.2.2.2.1 at_317 (pc' := 320) rfl ?_
      rw [if_neg (by decide)] at hK; exact hK.room (by decide) (by decide)
    · refine Ow.ifCN C at_308 (pc' := 311) rfl (XT.i0_eq_f (by decide)) ?_
      refine Ow.getS C (tw134 G.1) M.2.2.2.2.1 at_311 (pc' := 314) rfl ?_
      refine Ow.goto C 320 at_314 (by decide) (by decide) ?_
      rw [if_pos rfl] at hK; exact hK.room (by decide) (by decide)
  refine Ow.astore C at_320 (pc' := 322) rfl rfl rfl ?_
  dsimp only [List.set]
  refine Ow.iload C at_322 (pc' := 324) rfl rfl ?_
  rcases hx with ⟨rfl, hx⟩ | ⟨rfl, hx⟩
  · have hw : w = .ref (if sk = 1 then Sm else Pm) := by
      rcases hB with ⟨rfl, rfl, rfl⟩ | ⟨rfl, rfl, rfl⟩
      · rcases ha with ⟨u, -⟩ | ⟨-, -, u⟩ | ⟨-, u, -⟩
        · exact absurd u hO5
        · rw [u]; rfl
        · exact absurd hx u
      · rcases ha with ⟨-, u⟩ | ⟨u, -, -⟩ | ⟨u, -, -⟩
        · rw [u]; rfl
        · exact absurd hx u
        · exact absurd hx u
    subst hw
    refine Ow.ifCN C at_324 (pc' := 327) rfl (XT.i0_eq_f (by decide)) ?_
    refine Ow.aload C at_327 (pc' := 329) rfl rfl rfl ?_
    refine Ow.callV C (y := (⟨"java/util/Optional", "isPresent", "()Z"⟩ : MethodName)) (z := (⟨"java/util/Optional", "isPresent", "()Z"⟩ : MethodName)) (tw123 G.1) (tw124 G.1) (tw126 G.1) (tw126 G.1) (tw125 G.1) (tw107 G.1) (tw127 G.1) (by decide) Ea (con_IPr G ob _ h7 _ Fa) (fun _ q => q) pd_7 rfl rfl rfl at_329 (pc' := 332) rfl (Wt := 0) (Nat.le_refl _) (by first | decide | (dsimp only; omega) | (simp [Value.category]; done) | (simp [Value.category]; omega)) (by first | decide | (dsimp only; omega) | (simp [Value.category]; done) | (simp [Value.category]; omega)) (by first | decide | (dsimp only; omega) | (simp [Value.category]; done) | (simp [Value.category]; omega)) (by first | decide | (dsimp only; omega) | (simp [Value.category]; done) | (simp [Value.category]; omega)) (fun v8 h8 W8 ⟨e8, e8'⟩ s8 => ?_)
    subst e8 e8'
    dsimp only [Option.toList, List.cons_append, List.nil_append]
    refine Ow.ifCN C at_332 (pc' := 335) rfl (XT.i0_eq_f (by decide)) ?_
    refine Ow.aload C at_335 (pc' := 337) rfl rfl rfl ?_
    refine Ow.callV C (y := (⟨"java/util/Optional", "get", "()Ljava/lang/Object;"⟩ : MethodName)) (z := (⟨"java/util/Optional", "get", "()Ljava/lang/Object;"⟩ : MethodName)) (tw128 G.1) (tw129 G.1) (tw131 G.1) (tw131 G.1) (tw130 G.1) (tw107 G.1) (tw132 G.1) (by decide) Ea (con_OG G ob _ h8 _ Fa) (fun _ q => q) pd_22 rfl rfl rfl at_337 (pc' := 340) rfl (Wt := 0) (Nat.le_refl _) (by first | decide | (dsimp only; omega) | (simp [Value.category]; done) | (simp [Value.category]; omega)) (by first | decide | (dsimp only; omega) | (simp [Value.category]; done) | (simp [Value.category]; omega)) (by first | decide | (dsimp only; omega) | (simp [Value.category]; done) | (simp [Value.category]; omega)) (by first | decide | (dsimp only; omega) | (simp [Value.category]; done) | (simp [Value.category]; omega)) (fun v9 h9 W9 ⟨e9, e9'⟩ s9 => ?_)
    subst e9 e9'
    dsimp only [Option.toList, List.cons_append, List.nil_append]
    refine Ow.aload C at_340 (pc' := 342) rfl rfl rfl ?_
    refine Ow.acmpN C at_342 (pc' := 345) rfl rfl rfl (XT.aa_ne_f rfl) ?_
    refine Ow.iconst C (1 : Int32) at_345 (pc' := 346) rfl rfl ?_
    refine Ow.goto C 350 at_346 (by decide) (by decide) ?_
    refine Ow.retN C (t := .boolean) rfl (by simp) at_350 (by first | decide | (dsimp only; omega) | (simp [Value.category]; done) | (simp [Value.category]; omega)) (by first | decide | (dsimp only; omega) | (simp [Value.category]; done) | (simp [Value.category]; omega)) [] (by first | (simp; done) | (intro x hx; simp [hx]; done)) rfl
  · have hw : w = .null := by
      rcases hB with ⟨-, rfl, rfl⟩ | ⟨-, rfl, rfl⟩
      · rcases ha with ⟨u, -⟩ | ⟨-, u, -⟩ | ⟨-, -, u⟩
        · exact absurd u hO5
        · exact absurd u hx
        · exact u
      · rcases ha with ⟨u, -⟩ | ⟨-, u, -⟩ | ⟨-, -, u⟩
        · exact absurd u hx
        · exact absurd u hO5
        · exact u
    subst hw
    refine Ow.ifCY C 351 at_324 (XT.i0_eq_t rfl) (by decide) (by decide) ?_
    refine Ow.aload C at_351 (pc' := 353) rfl rfl rfl ?_
    refine Ow.callV C (y := (⟨"java/util/Optional", "isPresent", "()Z"⟩ : MethodName)) (z := (⟨"java/util/Optional", "isPresent", "()Z"⟩ : MethodName)) (tw123 G.1) (tw124 G.1) (tw126 G.1) (tw126 G.1) (tw125 G.1) (tw107 G.1) (tw127 G.1) (by decide) Ea (con_IPn G ob h7 _ Fa) (fun _ q => q) pd_7 rfl rfl rfl at_353 (pc' := 356) rfl (Wt := 0) (Nat.le_refl _) (by first | decide | (dsimp only; omega) | (simp [Value.category]; done) | (simp [Value.category]; omega)) (by first | decide | (dsimp only; omega) | (simp [Value.category]; done) | (simp [Value.category]; omega)) (by first | decide | (dsimp only; omega) | (simp [Value.category]; done) | (simp [Value.category]; omega)) (by first | decide | (dsimp only; omega) | (simp [Value.category]; done) | (simp [Value.category]; omega)) (fun v8 h8 W8 ⟨e8, e8'⟩ s8 => ?_)
    subst e8 e8'
    dsimp only [Option.toList, List.cons_append, List.nil_append]
    refine Ow.ifCN C at_356 (pc' := 359) rfl (XT.i0_ne_f rfl) ?_
    refine Ow.iconst C (1 : Int32) at_359 (pc' := 360) rfl rfl ?_
    refine Ow.goto C 364 at_360 (by decide) (by decide) ?_
    refine Ow.retN C (t := .boolean) rfl (by simp) at_364 (by first | decide | (dsimp only; omega) | (simp [Value.category]; done) | (simp [Value.category]; omega)) (by first | decide | (dsimp only; omega) | (simp [Value.category]; done) | (simp [Value.category]; omega)) [] (by first | (simp; done) | (intro x hx; simp [hx]; done)) rfl

end Law
theorem MetOk.start {Z : State} {a0 : Array Value} (hf : Fit Z) (n0 : (Cond.arrayOf (Term.static MC "$VALUES" MA) (.object MC)).before a0 Z = true) (n1 : (Cond.exactly (Term.static MC "$VALUES" MA) MA).before a0 Z = true) (n2 : (Cond.eq (Term.length (Term.static MC "$VALUES" MA)) (Term.int 2)).before a0 Z = true) (n3 : (Cond.exactly (Term.static MC "PROCESSOR" MD) MC).before a0 Z = true) (n4 : (Cond.eq (Term.elem (Term.static MC "$VALUES" MA) (Term.int 0)) (Term.static MC "PROCESSOR" MD)).before a0 Z = true) (n5 : (Cond.exactly (Term.static MC "SOCKET" MD) MC).before a0 Z = true) (n6 : (Cond.eq (Term.elem (Term.static MC "$VALUES" MA) (Term.int 1)) (Term.static MC "SOCKET" MD)).before a0 Z = true) (n7 : (Cond.exactly (Term.field (Term.static MC "PROCESSOR" MD) MC "label" "Ljava/lang/String;") "java/lang/String").before a0 Z = true) (n8 : (Cond.eq (Term.field (Term.field (Term.static MC "PROCESSOR" MD) MC "label" "Ljava/lang/String;") "java/lang/String" "coder" "B") (Term.int 0)).before a0 Z = true) (n9 : (Cond.arrayOf (Term.field (Term.field (Term.static MC "PROCESSOR" MD) MC "label" "Ljava/lang/String;") "java/lang/String" "value" "[B") .byte).before a0 Z = true) (n10 : (Cond.eq (Term.length (Term.field (Term.field (Term.static MC "PROCESSOR" MD) MC "label" "Ljava/lang/String;") "java/lang/String" "value" "[B")) (Term.int 9)).before a0 Z = true) (n11 : (Cond.exactly (Term.field (Term.static MC "SOCKET" MD) MC "label" "Ljava/lang/String;") "java/lang/String").before a0 Z = true) (n12 : (Cond.eq (Term.field (Term.field (Term.static MC "SOCKET" MD) MC "label" "Ljava/lang/String;") "java/lang/String" "coder" "B") (Term.int 0)).before a0 Z = true) (n13 : (Cond.arrayOf (Term.field (Term.field (Term.static MC "SOCKET" MD) MC "label" "Ljava/lang/String;") "java/lang/String" "value" "[B") .byte).before a0 Z = true) (n14 : (Cond.eq (Term.length (Term.field (Term.field (Term.static MC "SOCKET" MD) MC "label" "Ljava/lang/String;") "java/lang/String" "value" "[B")) (Term.int 6)).before a0 Z = true) (n15 : (Cond.eq (Term.elem (Term.field (Term.field (Term.static MC "PROCESSOR" MD) MC "label" "Ljava/lang/String;") "java/lang/String" "value" "[B") (Term.int 0)) (Term.int 112)).before a0 Z = true) (n16 : (Cond.eq (Term.elem (Term.field (Term.field (Term.static MC "PROCESSOR" MD) MC "label" "Ljava/lang/String;") "java/lang/String" "value" "[B") (Term.int 1)) (Term.int 114)).before a0 Z = true) (n17 : (Cond.eq (Term.elem (Term.field (Term.field (Term.static MC "PROCESSOR" MD) MC "label" "Ljava/lang/String;") "java/lang/String" "value" "[B") (Term.int 2)) (Term.int 111)).before a0 Z = true) (n18 : (Cond.eq (Term.elem (Term.field (Term.field (Term.static MC "PROCESSOR" MD) MC "label" "Ljava/lang/String;") "java/lang/String" "value" "[B") (Term.int 3)) (Term.int 99)).before a0 Z = true) (n19 : (Cond.eq (Term.elem (Term.field (Term.field (Term.static MC "PROCESSOR" MD) MC "label" "Ljava/lang/String;") "java/lang/String" "value" "[B") (Term.int 4)) (Term.int 101)).before a0 Z = true) (n20 : (Cond.eq (Term.elem (Term.field (Term.field (Term.static MC "PROCESSOR" MD) MC "label" "Ljava/lang/String;") "java/lang/String" "value" "[B") (Term.int 5)) (Term.int 115)).before a0 Z = true) (n21 : (Cond.eq (Term.elem (Term.field (Term.field (Term.static MC "PROCESSOR" MD) MC "label" "Ljava/lang/String;") "java/lang/String" "value" "[B") (Term.int 6)) (Term.int 115)).before a0 Z = true) (n22 : (Cond.eq (Term.elem (Term.field (Term.field (Term.static MC "PROCESSOR" MD) MC "label" "Ljava/lang/String;") "java/lang/String" "value" "[B") (Term.int 7)) (Term.int 111)).before a0 Z = true) (n23 : (Cond.eq (Term.elem (Term.field (Term.field (Term.static MC "PROCESSOR" MD) MC "label" "Ljava/lang/String;") "java/lang/String" "value" "[B") (Term.int 8)) (Term.int 114)).before a0 Z = true) (n24 : (Cond.eq (Term.elem (Term.field (Term.field (Term.static MC "SOCKET" MD) MC "label" "Ljava/lang/String;") "java/lang/String" "value" "[B") (Term.int 0)) (Term.int 115)).before a0 Z = true) (n25 : (Cond.eq (Term.elem (Term.field (Term.field (Term.static MC "SOCKET" MD) MC "label" "Ljava/lang/String;") "java/lang/String" "value" "[B") (Term.int 1)) (Term.int 111)).before a0 Z = true) (n26 : (Cond.eq (Term.elem (Term.field (Term.field (Term.static MC "SOCKET" MD) MC "label" "Ljava/lang/String;") "java/lang/String" "value" "[B") (Term.int 2)) (Term.int 99)).before a0 Z = true) (n27 : (Cond.eq (Term.elem (Term.field (Term.field (Term.static MC "SOCKET" MD) MC "label" "Ljava/lang/String;") "java/lang/String" "value" "[B") (Term.int 3)) (Term.int 107)).before a0 Z = true) (n28 : (Cond.eq (Term.elem (Term.field (Term.field (Term.static MC "SOCKET" MD) MC "label" "Ljava/lang/String;") "java/lang/String" "value" "[B") (Term.int 4)) (Term.int 101)).before a0 Z = true) (n29 : (Cond.eq (Term.elem (Term.field (Term.field (Term.static MC "SOCKET" MD) MC "label" "Ljava/lang/String;") "java/lang/String" "value" "[B") (Term.int 5)) (Term.int 116)).before a0 Z = true)
    (i0 : (Cond.initialized MC).before a0 Z = true) (i1 : (Cond.laysStatic MC "$VALUES" MA).before a0 Z = true) (i2 : (Cond.laysStatic MC "PROCESSOR" MD).before a0 Z = true) (i3 : (Cond.laysStatic MC "SOCKET" MD).before a0 Z = true)
    (o0 : (Cond.initializedFor OC "EMPTY" "Ljava/util/Optional;").before a0 Z = true) (o1 : (Cond.exactly (Term.static OC "EMPTY" "Ljava/util/Optional;") OC).before a0 Z = true) (o2 : (Cond.eq (Term.field (Term.static OC "EMPTY" "Ljava/util/Optional;") OC "value" "Ljava/lang/Object;") Term.null).before a0 Z = true) : ∃ va P S lp dp ls ds eo : Nat, MetOk Z va P S lp dp ls ds eo := by
  obtain ⟨P, eP⟩ := exa_v (Cond.before_iff.mp n3)
  obtain ⟨S, eS⟩ := exa_v (Cond.before_iff.mp n5)
  obtain ⟨va, eV, AV⟩ := Ow.ArR.table (vs := [.ref P, .ref S]) hf (by simp) n0 n2 (fun j hj => by
    match j, hj with
    | 0, _ => exact Ow.eqv_r eP n4
    | 1, _ => exact Ow.eqv_r eS n6)
  obtain ⟨lp, elp⟩ := exa_v (Cond.before_iff.mp n7)
  obtain ⟨dp, edp, Dp⟩ := Ow.ArI.table (xs := [112, 114, 111, 99, 101, 115, 115, 111, 114]) hf (by decide) n9 n10 (fun j hj => by
    match j, hj with
    | 0, _ => exact n15
    | 1, _ => exact n16
    | 2, _ => exact n17
    | 3, _ => exact n18
    | 4, _ => exact n19
    | 5, _ => exact n20
    | 6, _ => exact n21
    | 7, _ => exact n22
    | 8, _ => exact n23)
  have ecp := eqv_i (Term.int_eval _) (Cond.before_iff.mp n8)
  have Sp : Ow.StrL Z Z.heap lp dp proc9 := ⟨Exa.start elp (Cond.before_iff.mp n7), Fld.start ((fld_at elp).symm.trans edp), Fld.start ((fld_at elp).symm.trans ecp), by rw [proc_nar]; exact Dp, proc_rng⟩
  obtain ⟨ls, els⟩ := exa_v (Cond.before_iff.mp n11)
  obtain ⟨ds, eds, Ds⟩ := Ow.ArI.table (xs := [115, 111, 99, 107, 101, 116]) hf (by decide) n13 n14 (fun j hj => by
    match j, hj with
    | 0, _ => exact n24
    | 1, _ => exact n25
    | 2, _ => exact n26
    | 3, _ => exact n27
    | 4, _ => exact n28
    | 5, _ => exact n29)
  have ecs := eqv_i (Term.int_eval _) (Cond.before_iff.mp n12)
  have Ss : Ow.StrL Z Z.heap ls ds sock6 := ⟨Exa.start els (Cond.before_iff.mp n11), Fld.start ((fld_at els).symm.trans eds), Fld.start ((fld_at els).symm.trans ecs), by rw [sock_nar]; exact Ds, sock_rng⟩
  obtain ⟨eo, eE⟩ := exa_v (Cond.before_iff.mp o1)
  have eN := null_v (Cond.before_iff.mp o2)
  exact ⟨va, P, S, lp, dp, ls, ds, eo, Sta.start eV (Or.inr ⟨i0, i1⟩), AV, Exa.start eV (Cond.before_iff.mp n1), Sta.start eP (Or.inr ⟨i0, i2⟩), Sta.start eS (Or.inr ⟨i0, i3⟩), Fld.start ((fld_at eP).symm.trans elp), Fld.start ((fld_at eS).symm.trans els), Sp, Ss, Sta.start eE (Or.inl o0), Exa.start eE (Cond.before_iff.mp o1), Fld.start ((fld_at eE).symm.trans eN)⟩

set_option maxRecDepth 65536 in
set_option maxHeartbeats 40000000 in
theorem comes_1 {Post : Tables → Env → Array Value → State → Outcome → State → Prop} (hpost : ∀ tb e args s v u, (limb_1_1.after args s (.returned v) u = true ∧ limb_1_2.after args s (.returned v) u = true ∧ True) → ReturnedEndW s (.returned v) u (Jvm.fieldLocs frame_1_writes args s ++ Jvm.arrayLocs frame_1_arrays args s ++ Jvm.staticLocs frame_1_statics s) 32 3264 → Post tb e args s (.returned v) u) :
    ArmFor flags0 classFile x code maxLocals ret World_1 tables_1 room_1 Calls_1 rest_1 Pre_1 Post := by
  intro l hfl _ _ p e ha hc hk s m args below hf hA hF happ hP
  obtain ⟨hcalls, hrest, hpre⟩ := hP
  obtain ⟨-, -, -, hnamed, -, -, -, hat⟩ := (Spec.applies_iff hf).mp happ
  obtain ⟨hg, hn⟩ := and_e (Cond.before_iff.mp (show (Jvm.Cond.and given_1 narrow_1).before args s = true from hpre))
  obtain ⟨h1, h2⟩ := and_e hg
  obtain ⟨w0, w1, w2, rfl⟩ : ∃ w0 w1 w2 : Value, args = #[w0, w1, w2] := by
    have hs : args.size = 3 := by simpa [Cond.value, given_1] using h1
    obtain ⟨L⟩ := args
    match L, hs with
    | [w0, w1, w2], _ => exact ⟨w0, w1, w2, rfl⟩
  have hw := fun d (hd : d ∈ tables_1) => atoms_spec (ws := Jvm.Cond.code x code maxLocals ret :: tables_1) hat d (List.mem_cons_of_mem _ hd)
  obtain ⟨hsets, hown0⟩ := atoms_of _ (rest_1_c_eq ▸ (show rest_1_c.before _ s = true from hrest))
  have hfit : Fit s := fun {y c} hc i hi => by
    obtain ⟨ha, rfl⟩ := Array.getElem?_eq_some_iff.mp hc
    have q := List.all_eq_true.mp ((Array.all_eq_true_iff_forall_mem.mp hF) _ (Array.getElem_mem ha)) i (List.mem_range.mpr hi)
    simpa [Array.getElem?_eq_getElem hi] using q
  obtain ⟨q0, h2⟩ := and_e h2
  obtain ⟨q1, h2⟩ := and_e h2
  have q2 := h2
  obtain ⟨i0, e0⟩ := is_v q0
  obtain rfl : w0 = (.int i0) := Option.some.inj e0
  obtain ⟨i1, e1⟩ := is_v q1
  obtain rfl : w1 = (.int i1) := Option.some.inj e1
  obtain ⟨i2, e2⟩ := is_v q2
  obtain rfl : w2 = (.int i2) := Option.some.inj e2
  have n3 := not_v (Cond.before_iff.mp (hsets _ (List.mem_of_getElem? (i := 2) rfl)))
  obtain ⟨cv, ecv⟩ := is_v (Cond.before_iff.mp (hsets _ (List.mem_of_getElem? (i := 1) rfl)))
  have Scv : Sta s s.heap "java/lang/String" "COMPACT_STRINGS" "Z" (.int cv) := Sta.start ecv (Or.inl (hsets _ (List.mem_of_getElem? (i := 0) rfl)))
  have hcv : ¬ (cv = (0 : Int32)) := gotF (Cond.eq_ints ecv (Term.int_eval (0))) n3
  have hm := hn
  obtain ⟨z0, hm⟩ := and_e hm
  obtain ⟨z1, hm⟩ := and_e hm
  obtain ⟨z2, hm⟩ := and_e hm
  obtain ⟨z3, hm⟩ := and_e hm
  obtain ⟨z4, hm⟩ := and_e hm
  obtain ⟨z5, hm⟩ := and_e hm
  obtain ⟨z6, hm⟩ := and_e hm
  obtain ⟨z7, hm⟩ := and_e hm
  obtain ⟨z8, hm⟩ := and_e hm
  obtain ⟨z9, hm⟩ := and_e hm
  obtain ⟨z10, hm⟩ := and_e hm
  obtain ⟨z11, hm⟩ := and_e hm
  obtain ⟨z12, hm⟩ := and_e hm
  obtain ⟨z13, hm⟩ := and_e hm
  obtain ⟨z14, hm⟩ := and_e hm
  obtain ⟨z15, hm⟩ := and_e hm
  obtain ⟨z16, hm⟩ := and_e hm
  obtain ⟨z17, hm⟩ := and_e hm
  obtain ⟨z18, hm⟩ := and_e hm
  obtain ⟨z19, hm⟩ := and_e hm
  obtain ⟨z20, hm⟩ := and_e hm
  obtain ⟨z21, hm⟩ := and_e hm
  obtain ⟨z22, hm⟩ := and_e hm
  obtain ⟨z23, hm⟩ := and_e hm
  obtain ⟨z24, hm⟩ := and_e hm
  obtain ⟨z25, hm⟩ := and_e hm
  obtain ⟨z26, hm⟩ := and_e hm
  obtain ⟨z27, hm⟩ := and_e hm
  obtain ⟨z28, hm⟩ := and_e hm
  have z29 := hm
  have sw := isR_v (Cond.before_iff.mp (hsets _ (List.mem_of_getElem? (i := 8) rfl)))
  obtain ⟨w, ew, hw'⟩ := sw
  have G : Glob s _ := ⟨hw, ⟨cv, hcv, Scv⟩, MetOk.start hfit (Cond.before_iff.mpr z0) (Cond.before_iff.mpr z1) (Cond.before_iff.mpr z2) (Cond.before_iff.mpr z3) (Cond.before_iff.mpr z4) (Cond.before_iff.mpr z5) (Cond.before_iff.mpr z6) (Cond.before_iff.mpr z7) (Cond.before_iff.mpr z8) (Cond.before_iff.mpr z9) (Cond.before_iff.mpr z10) (Cond.before_iff.mpr z11) (Cond.before_iff.mpr z12) (Cond.before_iff.mpr z13) (Cond.before_iff.mpr z14) (Cond.before_iff.mpr z15) (Cond.before_iff.mpr z16) (Cond.before_iff.mpr z17) (Cond.before_iff.mpr z18) (Cond.before_iff.mpr z19) (Cond.before_iff.mpr z20) (Cond.before_iff.mpr z21) (Cond.before_iff.mpr z22) (Cond.before_iff.mpr z23) (Cond.before_iff.mpr z24) (Cond.before_iff.mpr z25) (Cond.before_iff.mpr z26) (Cond.before_iff.mpr z27) (Cond.before_iff.mpr z28) (Cond.before_iff.mpr z29) (hw _ (List.mem_of_getElem? (i := 75) rfl)) (hw _ (List.mem_of_getElem? (i := 81) rfl)) (hw _ (List.mem_of_getElem? (i := 89) rfl)) (hw _ (List.mem_of_getElem? (i := 90) rfl)) (hsets _ (List.mem_of_getElem? (i := 10) rfl)) (hsets _ (List.mem_of_getElem? (i := 11) rfl)) (hsets _ (List.mem_of_getElem? (i := 12) rfl)), ⟨w, Sta.start ew (Or.inl (hsets _ (List.mem_of_getElem? (i := 7) rfl))), hw'⟩⟩
  obtain ⟨n, o, h1, h2, h3, _, L, rfl, ⟨W', rfl, -, -, N⟩, -, hq, hq'⟩ := con_law G  i0 i1 i2 p e ha hc hk s m _ below hf ((Spec.applies_iff_loose hf).mp happ).1 ⟨rfl, State.Warmed39.refl s, rfl, (CHv.start (ewG G) (fun p hp => hcalls.1 p hp) (show Jvm.Lit.compactW.before _ s = true from (hsets _ (List.mem_of_getElem? (i := 2) rfl))) (tw3 G.1) (tw2 G.1)), Old.start s, Ow.Own.nil⟩ (trivial)
  exact ⟨n, _, h1, h2, h3, hpost _ _ _ _ _ _ ⟨Cond.after_iff.mpr rfl, Cond.after_iff.mpr (eq_i res_at (Term.int_eval (1)) rfl), trivial⟩ ⟨hq.1, hq.2.1, hq.2.2.1, (hq.2.2.2.sift fun y hy => Or.inr (N y hy)).mono (by decide) (by decide)⟩⟩
theorem main_1_1 : Claimed_1_1 := comes_1 fun _ _ _ _ _ _ h hF => ⟨h.1, hF⟩
theorem main_1_2 : Claimed_1_2 := comes_1 fun _ _ _ _ _ _ h hF => ⟨h.2.1, hF⟩


end Jvm.Pilot.@@N@@
namespace Jvm.Pilot.@@N@@
open Jvm Jvm.ClassFile Sem Op Lib Jvm.Free Jvm.Stand Jvm.Pilot.@@N@@.Jvm.D
/-! MADE BY PROGRAM (witnessworld.py) out of the Statement's table words and the real class files: 22 classes; the members and pool entries that the words name. The judged class is class 1, her method 3. -/
namespace start1
open Jvm.ClassFile
def u (s : String) : CpInfo := .utf8 (stringToUtf16 s)
/-- a pool by its gaps: so many unusable entries, then the entry; so many at the end -/
def gap : Nat → List CpInfo → List CpInfo
  | 0, r => r
  | n + 1, r => .unusable :: gap n r
def poolList (es : List (Nat × CpInfo)) (last : Nat) : List CpInfo := es.foldr (fun e r => gap e.1 (e.2 :: r)) (gap last [])
def pool (es : List (Nat × CpInfo)) (last : Nat) : Array CpInfo := ⟨poolList es last⟩
def fileOf (pool : Array CpInfo) (this : Nat) (attrs : Array Attribute := #[]) (ms : Array MethodInfo := #[]) (fl : Nat := 33) (sup : Nat := 0) (ifs : Array Nat := #[]) (fds : Array FieldInfo := #[]) : ClassFile where
  minorVersion := 0
  majorVersion := 65
  constantPool := pool
  accessFlags := fl
  thisClass := this
  superClass := sup
  interfaces := ifs
  fields := fds
  methods := ms
  attributes := attrs
def plain (name : String) (sup : Option ClassId) : Class where
  name := name
  kind := .ordinary
  loader := none
  accessFlags := 33
  super := sup
  interfaces := #[]
  cf := none
  fields := #[]
  methods := #[]
  instanceTypes := #[]
  staticTypes := #[]
  resolved := #[]
  callSites := []
  init := .initialized
  statics := none
  mirror := none

def pool0 : Array CpInfo := pool [(5, u "<init>"), (0, u "()V"), (1, .class_ 10), (1, u "java/lang/Object"), (85, u "clone"), (0, u "()Ljava/lang/Object;")] 26

def k0c0 : Code := { maxStack := 0, maxLocals := 1, code := object_method_1_code, exceptionTable := #[], attributes := #[] }
def k0m0 : Method := { name := "<init>", desc := "()V", sig := { parameters := [], returnType := none }, accessFlags := 1, code := some k0c0 }
def k0m1 : Method := { name := "clone", desc := "()Ljava/lang/Object;", sig := { parameters := [], returnType := some (.object "java/lang/Object") }, accessFlags := 260, code := none }
/-- java/lang/Object -/
def k0 : Class := { plain "java/lang/Object" none with
  accessFlags := 33
  interfaces := #[]
  cf := some (fileOf pool0 8 #[] #[{ accessFlags := 1, nameIndex := 5, descriptorIndex := 6, attributes := #[] }, { accessFlags := 260, nameIndex := 96, descriptorIndex := 97, attributes := #[] }] 33 0 #[] #[])
  fields := #[]
  methods := #[k0m0, k0m1]
  instanceTypes := #[]
  staticTypes := #[]
  resolved := Array.replicate 124 none
  statics := none }

def pool1 : Array CpInfo := pool [(2, .class_ 4), (1, u "java/lang/Object"), (0, u "<init>"), (0, u "()V"), (0, .methodref 8 9), (0, .class_ 10), (0, .nameAndType 11 12), (0, u "java/lang/String"), (0, u "length"), (0, u "()I"), (0, .methodref 8 14), (0, .nameAndType 15 16), (0, u "charAt"), (0, u "(I)C"), (0, .methodref 8 18), (0, .nameAndType 5 19), (0, u "([C)V"), (0, .string 21), (0, u "socket"), (0, .string 23), (0, u "processor"), (0, .methodref 25 26), (0, .class_ 27), (0, .nameAndType 28 29), (0, u "com/example/coretally/coretally/MetricLabelledPinLaw"), (0, u "at"), (0, u "(Ljava/lang/String;I)C"), (0, .integer 2147483647), (0, .methodref 25 32), (0, .nameAndType 33 34), (0, u "str"), (0, u "([CI)Ljava/lang/String;"), (0, .methodref 36 37), (0, .class_ 38), (0, .nameAndType 39 40), (0, u "com/example/coretally/coretally/Metric"), (0, u "labelled"), (0, u "(Ljava/lang/String;)Ljava/util/Optional;"), (0, .fieldref 36 42), (0, .nameAndType 43 44), (0, u "SOCKET"), (0, u "Lcom/example/coretally/coretally/Metric;"), (0, .fieldref 36 46), (0, .nameAndType 47 44), (0, u "PROCESSOR"), (0, .methodref 49 50), (0, .class_ 51), (0, .nameAndType 52 53), (0, u "java/util/Optional"), (0, u "isPresent"), (0, u "()Z"), (0, .methodref 49 55), (0, .nameAndType 56 57), (0, u "get"), (0, u "()Ljava/lang/Object;"), (3, u "law"), (0, u "(III)Z")] 4

def k1m0 : Method := { name := "<init>", desc := "()V", sig := { parameters := [], returnType := none }, accessFlags := 1, code := none }
def k1c1 : Code := { maxStack := 2, maxLocals := 2, code := method_2_code, exceptionTable := #[], attributes := #[] }
def k1m1 : Method := { name := "at", desc := "(Ljava/lang/String;I)C", sig := { parameters := [(.object "java/lang/String"), .int], returnType := some .char }, accessFlags := 10, code := some k1c1 }
def k1c2 : Code := { maxStack := 7, maxLocals := 2, code := method_3_code, exceptionTable := #[], attributes := #[] }
def k1m2 : Method := { name := "str", desc := "([CI)Ljava/lang/String;", sig := { parameters := [(.array .char), .int], returnType := some (.object "java/lang/String") }, accessFlags := 10, code := some k1c2 }
def k1c3 : Code := { maxStack := 4, maxLocals := 15, code := code, exceptionTable := #[], attributes := #[] }
def k1m3 : Method := { name := "law", desc := "(III)Z", sig := { parameters := [.int, .int, .int], returnType := some .boolean }, accessFlags := 9, code := some k1c3 }
/-- com/example/coretally/coretally/MetricLabelledPinLaw -/
def k1 : Class := { plain "com/example/coretally/coretally/MetricLabelledPinLaw" (some 0) with
  accessFlags := 49
  interfaces := #[]
  cf := some (fileOf pool1 25 #[] #[{ accessFlags := 1, nameIndex := 5, descriptorIndex := 6, attributes := #[] }, { accessFlags := 10, nameIndex := 28, descriptorIndex := 29, attributes := #[] }, { accessFlags := 10, nameIndex := 33, descriptorIndex := 34, attributes := #[] }, { accessFlags := 9, nameIndex := 61, descriptorIndex := 62, attributes := #[] }] 49 2 #[] #[])
  fields := #[]
  methods := #[k1m0, k1m1, k1m2, k1m3]
  instanceTypes := #[]
  staticTypes := #[]
  resolved := Array.replicate 67 none
  statics := none }

def pool2 : Array CpInfo := pool [(1, .class_ 2), (0, u "java/io/Serializable"), (0, .class_ 4), (0, u "java/lang/Object")] 2

/-- java/io/Serializable -/
def k2 : Class := { plain "java/io/Serializable" (some 0) with
  accessFlags := 1537
  interfaces := #[]
  cf := some (fileOf pool2 1 #[] #[] 1537 3 #[] #[])
  fields := #[]
  methods := #[]
  instanceTypes := #[]
  staticTypes := #[]
  resolved := Array.replicate 7 none
  statics := none }

def pool3 : Array CpInfo := pool [(1, .class_ 2), (0, u "java/lang/Comparable"), (0, .class_ 4), (0, u "java/lang/Object")] 7

/-- java/lang/Comparable -/
def k3 : Class := { plain "java/lang/Comparable" (some 0) with
  accessFlags := 1537
  interfaces := #[]
  cf := some (fileOf pool3 1 #[] #[] 1537 3 #[] #[])
  fields := #[]
  methods := #[]
  instanceTypes := #[]
  staticTypes := #[]
  resolved := Array.replicate 12 none
  statics := none }

def pool4 : Array CpInfo := pool [(2, .class_ 4), (1, u "java/lang/CharSequence"), (42, .class_ 48), (0, u "java/lang/CharSequence$1CodePointIterator"), (10, .class_ 60), (0, u "java/lang/CharSequence$1CharIterator"), (5, .class_ 67), (0, u "java/lang/Object")] 63

/-- java/lang/CharSequence -/
def k4 : Class := { plain "java/lang/CharSequence" (some 0) with
  accessFlags := 1537
  interfaces := #[]
  cf := some (fileOf pool4 2 #[.nestMembers #[47, 59]] #[] 1537 66 #[] #[])
  fields := #[]
  methods := #[]
  instanceTypes := #[]
  staticTypes := #[]
  resolved := Array.replicate 131 none
  statics := none }

def pool5 : Array CpInfo := pool [(1, .class_ 2), (0, u "java/lang/constant/Constable"), (0, .class_ 4), (0, u "java/lang/Object")] 6

/-- java/lang/constant/Constable -/
def k5 : Class := { plain "java/lang/constant/Constable" (some 0) with
  accessFlags := 1537
  interfaces := #[]
  cf := some (fileOf pool5 1 #[] #[] 1537 3 #[] #[])
  fields := #[]
  methods := #[]
  instanceTypes := #[]
  staticTypes := #[]
  resolved := Array.replicate 11 none
  statics := none }

def pool6 : Array CpInfo := pool [(1, .class_ 2), (0, u "java/lang/constant/ConstantDesc"), (0, .class_ 4), (0, u "java/lang/Object")] 32

/-- java/lang/constant/ConstantDesc -/
def k6 : Class := { plain "java/lang/constant/ConstantDesc" (some 0) with
  accessFlags := 1537
  interfaces := #[]
  cf := some (fileOf pool6 1 #[] #[] 1537 3 #[] #[])
  fields := #[]
  methods := #[]
  instanceTypes := #[]
  staticTypes := #[]
  resolved := Array.replicate 37 none
  statics := none }

def pool7 : Array CpInfo := pool [(1, .methodref 2 3), (0, .class_ 4), (0, .nameAndType 5 6), (0, u "java/lang/Object"), (0, u "<init>"), (0, u "()V"), (0, .string 8), (0, u ""), (0, .fieldref 10 11), (0, .class_ 12), (0, .nameAndType 13 14), (0, u "java/lang/String"), (0, u "value"), (0, u "[B"), (0, .fieldref 10 16), (0, .nameAndType 17 18), (0, u "coder"), (0, u "B"), (2, u "hash"), (0, u "I"), (2, u "hashIsZero"), (0, u "Z"), (0, .methodref 10 28), (0, .nameAndType 5 29), (0, u "([CIILjava/lang/Void;)V"), (8, .fieldref 10 39), (0, .nameAndType 40 26), (0, u "COMPACT_STRINGS"), (1, .class_ 44), (1, u "java/lang/StringUTF16"), (0, u "compress"), (1, .methodref 42 48), (0, .nameAndType 49 50), (0, u "coderFromArrayLen"), (0, u "([BI)B"), (56, .class_ 109), (1, u "java/lang/StringLatin1"), (32, u "()Z"), (34, .methodref 42 178), (0, .nameAndType 45 179), (0, u "([CII)[B"), (154, u "()I"), (0, .methodref 10 336), (0, .nameAndType 17 337), (0, u "()B"), (25, u "([BI)C"), (27, u "(II)V"), (35, u "(I)C"), (64, .methodref 10 493), (0, .nameAndType 494 142), (0, u "isLatin1"), (0, .methodref 107 496), (0, .nameAndType 497 363), (0, u "charAt"), (3, u "checkIndex"), (5, u "length"), (33, .methodref 107 542), (0, .nameAndType 543 544), (0, u "equals"), (0, u "([B[B)Z"), (28, u "(Ljava/lang/Object;)Z"), (1, .class_ 576), (0, u "java/lang/CharSequence"), (22, u "CASE_INSENSITIVE_ORDER"), (0, u "Ljava/util/Comparator;"), (409, u "([C)V"), (42, .fieldref 1054 1055), (0, .class_ 1056), (0, .nameAndType 1057 1058), (0, u "jdk/internal/util/Preconditions"), (0, u "SIOOBE_FORMATTER"), (0, u "Ljava/util/function/BiFunction;"), (0, .methodref 1054 1060), (0, .nameAndType 501 1061), (0, u "(IILjava/util/function/BiFunction;)I"), (39, u "serialPersistentFields"), (0, u "[Ljava/io/ObjectStreamField;"), (0, .class_ 1104), (0, u "java/lang/String$CaseInsensitiveComparator"), (1, .class_ 1107), (0, u "java/io/Serializable"), (0, .class_ 1109), (0, u "java/lang/Comparable"), (0, .class_ 1111), (0, u "java/lang/constant/Constable"), (0, .class_ 1113), (0, u "java/lang/constant/ConstantDesc"), (2, u "serialVersionUID"), (0, u "J"), (3, u "REPL"), (0, u "C"), (2, u "LATIN1"), (1, u "UTF16")] 323

def k7m0 : Method := { name := "<init>", desc := "()V", sig := { parameters := [], returnType := none }, accessFlags := 1, code := none }
def k7c1 : Code := { maxStack := 5, maxLocals := 2, code := jdk_42_method_3_code, exceptionTable := #[], attributes := #[] }
def k7m1 : Method := { name := "<init>", desc := "([C)V", sig := { parameters := [(.array .char)], returnType := none }, accessFlags := 1, code := some k7c1 }
def k7c2 : Code := { maxStack := 2, maxLocals := 1, code := jdk_42_method_54_code, exceptionTable := #[], attributes := #[] }
def k7m2 : Method := { name := "length", desc := "()I", sig := { parameters := [], returnType := some .int }, accessFlags := 1, code := some k7c2 }
def k7c3 : Code := { maxStack := 2, maxLocals := 2, code := jdk_42_method_56_code, exceptionTable := #[], attributes := #[] }
def k7m3 : Method := { name := "charAt", desc := "(I)C", sig := { parameters := [.int], returnType := some .char }, accessFlags := 1, code := some k7c3 }
def k7c4 : Code := { maxStack := 2, maxLocals := 3, code := jdk_42_method_66_code, exceptionTable := #[], attributes := #[] }
def k7m4 : Method := { name := "equals", desc := "(Ljava/lang/Object;)Z", sig := { parameters := [(.object "java/lang/Object")], returnType := some .boolean }, accessFlags := 1, code := some k7c4 }
def k7c5 : Code := { maxStack := 4, maxLocals := 6, code := jdk_42_method_149_code, exceptionTable := #[], attributes := #[] }
def k7m5 : Method := { name := "<init>", desc := "([CIILjava/lang/Void;)V", sig := { parameters := [(.array .char), .int, .int, (.object "java/lang/Void")], returnType := none }, accessFlags := 2, code := some k7c5 }
def k7c6 : Code := { maxStack := 1, maxLocals := 1, code := jdk_42_method_152_code, exceptionTable := #[], attributes := #[] }
def k7m6 : Method := { name := "coder", desc := "()B", sig := { parameters := [], returnType := some .byte }, accessFlags := 0, code := some k7c6 }
def k7c7 : Code := { maxStack := 1, maxLocals := 1, code := jdk_42_method_154_code, exceptionTable := #[], attributes := #[] }
def k7m7 : Method := { name := "isLatin1", desc := "()Z", sig := { parameters := [], returnType := some .boolean }, accessFlags := 0, code := some k7c7 }
def k7c8 : Code := { maxStack := 3, maxLocals := 2, code := jdk_42_method_155_code, exceptionTable := #[], attributes := #[] }
def k7m8 : Method := { name := "checkIndex", desc := "(II)V", sig := { parameters := [.int, .int], returnType := none }, accessFlags := 8, code := some k7c8 }
/-- java/lang/String -/
def k7 : Class := { plain "java/lang/String" (some 0) with
  accessFlags := 49
  interfaces := #[2, 3, 4, 5, 6]
  cf := some (fileOf pool7 10 #[.nestMembers #[1103]] #[{ accessFlags := 1, nameIndex := 5, descriptorIndex := 6, attributes := #[] }, { accessFlags := 1, nameIndex := 5, descriptorIndex := 1010, attributes := #[] }, { accessFlags := 1, nameIndex := 507, descriptorIndex := 334, attributes := #[] }, { accessFlags := 1, nameIndex := 497, descriptorIndex := 427, attributes := #[] }, { accessFlags := 1, nameIndex := 543, descriptorIndex := 573, attributes := #[] }, { accessFlags := 2, nameIndex := 5, descriptorIndex := 29, attributes := #[] }, { accessFlags := 0, nameIndex := 17, descriptorIndex := 337, attributes := #[] }, { accessFlags := 0, nameIndex := 494, descriptorIndex := 142, attributes := #[] }, { accessFlags := 8, nameIndex := 501, descriptorIndex := 391, attributes := #[] }] 49 2 #[1106, 1108, 575, 1110, 1112] #[{ accessFlags := 18, nameIndex := 13, descriptorIndex := 14, attributes := #[] }, { accessFlags := 18, nameIndex := 17, descriptorIndex := 18, attributes := #[] }, { accessFlags := 2, nameIndex := 21, descriptorIndex := 22, attributes := #[] }, { accessFlags := 2, nameIndex := 25, descriptorIndex := 26, attributes := #[] }, { accessFlags := 26, nameIndex := 1116, descriptorIndex := 1117, attributes := #[] }, { accessFlags := 24, nameIndex := 40, descriptorIndex := 26, attributes := #[] }, { accessFlags := 26, nameIndex := 1101, descriptorIndex := 1102, attributes := #[] }, { accessFlags := 26, nameIndex := 1121, descriptorIndex := 1122, attributes := #[] }, { accessFlags := 25, nameIndex := 599, descriptorIndex := 600, attributes := #[] }, { accessFlags := 24, nameIndex := 1125, descriptorIndex := 18, attributes := #[] }, { accessFlags := 24, nameIndex := 1127, descriptorIndex := 18, attributes := #[] }])
  fields := #[{ name := "value", type := (.array .byte), accessFlags := 18, slot := 0, constantValue := 0 }, { name := "coder", type := .byte, accessFlags := 18, slot := 1, constantValue := 0 }, { name := "hash", type := .int, accessFlags := 2, slot := 2, constantValue := 0 }, { name := "hashIsZero", type := .boolean, accessFlags := 2, slot := 3, constantValue := 0 }, { name := "serialVersionUID", type := .long, accessFlags := 26, slot := 0, constantValue := 0 }, { name := "COMPACT_STRINGS", type := .boolean, accessFlags := 24, slot := 1, constantValue := 0 }, { name := "serialPersistentFields", type := (.array (.object "java/io/ObjectStreamField")), accessFlags := 26, slot := 2, constantValue := 0 }, { name := "REPL", type := .char, accessFlags := 26, slot := 3, constantValue := 0 }, { name := "CASE_INSENSITIVE_ORDER", type := (.object "java/util/Comparator"), accessFlags := 25, slot := 4, constantValue := 0 }, { name := "LATIN1", type := .byte, accessFlags := 24, slot := 5, constantValue := 0 }, { name := "UTF16", type := .byte, accessFlags := 24, slot := 6, constantValue := 0 }]
  methods := #[k7m0, k7m1, k7m2, k7m3, k7m4, k7m5, k7m6, k7m7, k7m8]
  instanceTypes := #[(.array .byte), .byte, .int, .boolean]
  staticTypes := #[.long, .boolean, (.array (.object "java/io/ObjectStreamField")), .char, (.object "java/util/Comparator"), .byte, .byte]
  resolved := Array.replicate 1451 none
  statics := some 0 }

def pool8 : Array CpInfo := pool [(1, .class_ 2), (0, u "java/lang/String"), (1, .class_ 6), (1, u "java/lang/Object"), (0, u "<init>"), (0, u "()V"), (0, .methodref 1 10), (0, .nameAndType 11 12), (0, u "checkIndex"), (0, u "(II)V"), (1, .class_ 16), (1, u "java/lang/StringLatin1"), (36, u "([BI)C"), (67, u "$assertionsDisabled"), (0, u "Z"), (98, .class_ 223), (1, u "java/lang/StringLatin1$LinesSpliterator"), (28, u "charAt"), (28, u "equals"), (0, u "([B[B)Z"), (107, .class_ 391), (0, u "java/lang/StringLatin1$CharsSpliterator")] 3

def k8m0 : Method := { name := "<init>", desc := "()V", sig := { parameters := [], returnType := none }, accessFlags := 0, code := none }
def k8c1 : Code := { maxStack := 2, maxLocals := 2, code := jdk_43_method_2_code, exceptionTable := #[], attributes := #[] }
def k8m1 : Method := { name := "charAt", desc := "([BI)C", sig := { parameters := [(.array .byte), .int], returnType := some .char }, accessFlags := 9, code := some k8c1 }
def k8c2 : Code := { maxStack := 3, maxLocals := 3, code := jdk_43_method_13_code, exceptionTable := #[], attributes := #[] }
def k8m2 : Method := { name := "equals", desc := "([B[B)Z", sig := { parameters := [(.array .byte), (.array .byte)], returnType := some .boolean }, accessFlags := 9, code := some k8c2 }
/-- java/lang/StringLatin1 -/
def k8 : Class := { plain "java/lang/StringLatin1" (some 0) with
  accessFlags := 48
  interfaces := #[]
  cf := some (fileOf pool8 14 #[.nestMembers #[390, 221]] #[{ accessFlags := 0, nameIndex := 7, descriptorIndex := 8, attributes := #[] }, { accessFlags := 9, nameIndex := 252, descriptorIndex := 53, attributes := #[] }, { accessFlags := 9, nameIndex := 281, descriptorIndex := 282, attributes := #[] }] 48 4 #[] #[{ accessFlags := 4120, nameIndex := 121, descriptorIndex := 122, attributes := #[] }])
  fields := #[{ name := "$assertionsDisabled", type := .boolean, accessFlags := 4120, slot := 0, constantValue := 0 }]
  methods := #[k8m0, k8m1, k8m2]
  instanceTypes := #[]
  staticTypes := #[.boolean]
  resolved := Array.replicate 395 none
  statics := none }

def pool9 : Array CpInfo := pool [(2, .class_ 4), (1, u "java/lang/Object"), (0, u "<init>"), (0, u "()V"), (17, .class_ 26), (1, u "jdk/internal/util/Preconditions"), (6, u "checkIndex"), (21, .class_ 56), (0, u "jdk/internal/util/Preconditions$4"), (57, .class_ 115), (0, u "jdk/internal/util/Preconditions$1"), (7, u "SIOOBE_FORMATTER"), (0, u "Ljava/util/function/BiFunction;"), (0, .class_ 126), (0, u "jdk/internal/util/Preconditions$2"), (3, u "AIOOBE_FORMATTER"), (0, .class_ 132), (0, u "jdk/internal/util/Preconditions$3"), (3, u "IOOBE_FORMATTER"), (41, u "(IILjava/util/function/BiFunction;)I")] 15

def k9m0 : Method := { name := "<init>", desc := "()V", sig := { parameters := [], returnType := none }, accessFlags := 1, code := none }
def k9c1 : Code := { maxStack := 3, maxLocals := 3, code := jdk_41_method_11_code, exceptionTable := #[], attributes := #[] }
def k9m1 : Method := { name := "checkIndex", desc := "(IILjava/util/function/BiFunction;)I", sig := { parameters := [.int, .int, (.object "java/util/function/BiFunction")], returnType := some .int }, accessFlags := 9, code := some k9c1 }
/-- jdk/internal/util/Preconditions -/
def k9 : Class := { plain "jdk/internal/util/Preconditions" (some 0) with
  accessFlags := 33
  interfaces := #[]
  cf := some (fileOf pool9 24 #[.nestMembers #[55, 131, 125, 114]] #[{ accessFlags := 1, nameIndex := 5, descriptorIndex := 6, attributes := #[] }, { accessFlags := 9, nameIndex := 33, descriptorIndex := 178, attributes := #[] }] 33 2 #[] #[{ accessFlags := 25, nameIndex := 123, descriptorIndex := 124, attributes := #[] }, { accessFlags := 25, nameIndex := 130, descriptorIndex := 124, attributes := #[] }, { accessFlags := 25, nameIndex := 136, descriptorIndex := 124, attributes := #[] }])
  fields := #[{ name := "SIOOBE_FORMATTER", type := (.object "java/util/function/BiFunction"), accessFlags := 25, slot := 0, constantValue := 0 }, { name := "AIOOBE_FORMATTER", type := (.object "java/util/function/BiFunction"), accessFlags := 25, slot := 1, constantValue := 0 }, { name := "IOOBE_FORMATTER", type := (.object "java/util/function/BiFunction"), accessFlags := 25, slot := 2, constantValue := 0 }]
  methods := #[k9m0, k9m1]
  instanceTypes := #[]
  staticTypes := #[(.object "java/util/function/BiFunction"), (.object "java/util/function/BiFunction"), (.object "java/util/function/BiFunction")]
  resolved := Array.replicate 194 none
  statics := some 1 }

def pool10 : Array CpInfo := pool [(6, .class_ 8), (1, u "java/lang/Object"), (0, u "<init>"), (0, u "()V"), (1, .class_ 14), (1, u "java/lang/StringUTF16"), (31, u "$assertionsDisabled"), (0, u "Z"), (13, u "HI_BYTE_SHIFT"), (0, u "I"), (2, u "LO_BYTE_SHIFT"), (49, .methodref 12 116), (0, .nameAndType 117 118), (0, u "compress"), (0, u "([CI[BII)I"), (3, u "([CII)[B"), (138, u "coderFromArrayLen"), (0, u "([BI)B"), (106, .class_ 371), (1, u "java/lang/StringUTF16$LinesSpliterator"), (58, u "MAX_LENGTH"), (196, .class_ 628), (0, u "java/lang/StringUTF16$CodePointsSpliterator"), (0, .class_ 630), (0, u "java/lang/StringUTF16$CharsSpliterator")] 4

def k10m0 : Method := { name := "<init>", desc := "()V", sig := { parameters := [], returnType := none }, accessFlags := 0, code := none }
def k10c1 : Code := { maxStack := 2, maxLocals := 2, code := jdk_52_method_15_code, exceptionTable := #[], attributes := #[] }
def k10m1 : Method := { name := "coderFromArrayLen", desc := "([BI)B", sig := { parameters := [(.array .byte), .int], returnType := some .byte }, accessFlags := 8, code := some k10c1 }
def k10c2 : Code := { maxStack := 5, maxLocals := 6, code := jdk_52_method_16_code, exceptionTable := #[], attributes := #[] }
def k10m2 : Method := { name := "compress", desc := "([CII)[B", sig := { parameters := [(.array .char), .int, .int], returnType := some (.array .byte) }, accessFlags := 9, code := some k10c2 }
def k10c3 : Code := { maxStack := 3, maxLocals := 7, code := jdk_52_method_21_code, exceptionTable := #[], attributes := #[] }
def k10m3 : Method := { name := "compress", desc := "([CI[BII)I", sig := { parameters := [(.array .char), .int, (.array .byte), .int, .int], returnType := some .int }, accessFlags := 9, code := some k10c3 }
/-- java/lang/StringUTF16 -/
def k10 : Class := { plain "java/lang/StringUTF16" (some 0) with
  accessFlags := 48
  interfaces := #[]
  cf := some (fileOf pool10 12 #[.nestMembers #[627, 629, 369]] #[{ accessFlags := 0, nameIndex := 9, descriptorIndex := 10, attributes := #[] }, { accessFlags := 8, nameIndex := 261, descriptorIndex := 262, attributes := #[] }, { accessFlags := 9, nameIndex := 117, descriptorIndex := 122, attributes := #[] }, { accessFlags := 9, nameIndex := 117, descriptorIndex := 118, attributes := #[] }] 48 6 #[] #[{ accessFlags := 26, nameIndex := 61, descriptorIndex := 62, attributes := #[] }, { accessFlags := 26, nameIndex := 65, descriptorIndex := 62, attributes := #[] }, { accessFlags := 24, nameIndex := 430, descriptorIndex := 62, attributes := #[] }, { accessFlags := 4120, nameIndex := 46, descriptorIndex := 47, attributes := #[] }])
  fields := #[{ name := "HI_BYTE_SHIFT", type := .int, accessFlags := 26, slot := 0, constantValue := 0 }, { name := "LO_BYTE_SHIFT", type := .int, accessFlags := 26, slot := 1, constantValue := 0 }, { name := "MAX_LENGTH", type := .int, accessFlags := 24, slot := 2, constantValue := 0 }, { name := "$assertionsDisabled", type := .boolean, accessFlags := 4120, slot := 3, constantValue := 0 }]
  methods := #[k10m0, k10m1, k10m2, k10m3]
  instanceTypes := #[]
  staticTypes := #[.int, .int, .int, .boolean]
  resolved := Array.replicate 635 none
  statics := none }

def pool11 : Array CpInfo := pool [(2, .class_ 4), (1, u "java/lang/Enum"), (0, u "name"), (0, u "Ljava/lang/String;"), (2, u "ordinal"), (0, u "I"), (1, .class_ 14), (1, u "java/lang/Object"), (4, u "hash"), (86, .class_ 108), (1, u "java/lang/Enum$EnumDesc"), (2, .class_ 112), (0, u "java/lang/constant/Constable"), (0, .class_ 114), (0, u "java/lang/Comparable"), (0, .class_ 116), (0, u "java/io/Serializable")] 87

/-- java/lang/Enum -/
def k11 : Class := { plain "java/lang/Enum" (some 0) with
  accessFlags := 1057
  interfaces := #[5, 3, 2]
  cf := some (fileOf pool11 2 #[.nestMembers #[106]] #[] 1057 12 #[111, 113, 115] #[{ accessFlags := 18, nameIndex := 5, descriptorIndex := 6, attributes := #[] }, { accessFlags := 18, nameIndex := 9, descriptorIndex := 10, attributes := #[] }, { accessFlags := 2, nameIndex := 19, descriptorIndex := 10, attributes := #[] }])
  fields := #[{ name := "name", type := (.object "java/lang/String"), accessFlags := 18, slot := 0, constantValue := 0 }, { name := "ordinal", type := .int, accessFlags := 18, slot := 1, constantValue := 0 }, { name := "hash", type := .int, accessFlags := 2, slot := 2, constantValue := 0 }]
  methods := #[]
  instanceTypes := #[(.object "java/lang/String"), .int, .int]
  staticTypes := #[]
  resolved := Array.replicate 204 none
  statics := none }

def pool12 : Array CpInfo := pool [(1, .class_ 2), (0, u "com/example/coretally/coretally/Metric"), (2, u "PROCESSOR"), (0, u "Lcom/example/coretally/coretally/Metric;"), (2, u "SOCKET"), (0, .fieldref 1 11), (0, .nameAndType 12 13), (0, u "$VALUES"), (0, u "[Lcom/example/coretally/coretally/Metric;"), (0, .methodref 15 16), (0, .class_ 13), (0, .nameAndType 17 18), (0, u "clone"), (0, u "()Ljava/lang/Object;"), (1, .class_ 22), (1, u "java/lang/Enum"), (6, .fieldref 1 30), (0, .nameAndType 31 32), (0, u "label"), (0, u "Ljava/lang/String;"), (0, .methodref 1 34), (0, .nameAndType 35 36), (0, u "values"), (0, u "()[Lcom/example/coretally/coretally/Metric;"), (0, .methodref 38 39), (0, .class_ 40), (0, .nameAndType 41 42), (0, u "java/lang/String"), (0, u "equals"), (0, u "(Ljava/lang/Object;)Z"), (0, .methodref 44 45), (0, .class_ 46), (0, .nameAndType 47 48), (0, u "java/util/Optional"), (0, u "of"), (0, u "(Ljava/lang/Object;)Ljava/util/Optional;"), (0, .methodref 44 50), (0, .nameAndType 51 52), (0, u "empty"), (0, u "()Ljava/util/Optional;"), (14, u "DEFAULT"), (7, u "labelled"), (0, u "(Ljava/lang/String;)Ljava/util/Optional;")] 7

def k12c0 : Code := { maxStack := 1, maxLocals := 0, code := prog_8_method_1_code, exceptionTable := #[], attributes := #[] }
def k12m0 : Method := { name := "values", desc := "()[Lcom/example/coretally/coretally/Metric;", sig := { parameters := [], returnType := some (.array (.object "com/example/coretally/coretally/Metric")) }, accessFlags := 9, code := some k12c0 }
def k12c1 : Code := { maxStack := 2, maxLocals := 5, code := prog_8_method_5_code, exceptionTable := #[], attributes := #[] }
def k12m1 : Method := { name := "labelled", desc := "(Ljava/lang/String;)Ljava/util/Optional;", sig := { parameters := [(.object "java/lang/String")], returnType := some (.object "java/util/Optional") }, accessFlags := 8, code := some k12c1 }
/-- com/example/coretally/coretally/Metric -/
def k12 : Class := { plain "com/example/coretally/coretally/Metric" (some 11) with
  accessFlags := 16432
  interfaces := #[]
  cf := some (fileOf pool12 1 #[] #[{ accessFlags := 9, nameIndex := 35, descriptorIndex := 36, attributes := #[] }, { accessFlags := 8, nameIndex := 75, descriptorIndex := 76, attributes := #[] }] 16432 20 #[] #[{ accessFlags := 16409, nameIndex := 5, descriptorIndex := 6, attributes := #[] }, { accessFlags := 16409, nameIndex := 9, descriptorIndex := 6, attributes := #[] }, { accessFlags := 24, nameIndex := 67, descriptorIndex := 6, attributes := #[] }, { accessFlags := 18, nameIndex := 31, descriptorIndex := 32, attributes := #[] }, { accessFlags := 4122, nameIndex := 12, descriptorIndex := 13, attributes := #[] }])
  fields := #[{ name := "PROCESSOR", type := (.object "com/example/coretally/coretally/Metric"), accessFlags := 16409, slot := 0, constantValue := 0 }, { name := "SOCKET", type := (.object "com/example/coretally/coretally/Metric"), accessFlags := 16409, slot := 1, constantValue := 0 }, { name := "DEFAULT", type := (.object "com/example/coretally/coretally/Metric"), accessFlags := 24, slot := 2, constantValue := 0 }, { name := "label", type := (.object "java/lang/String"), accessFlags := 18, slot := 3, constantValue := 0 }, { name := "$VALUES", type := (.array (.object "com/example/coretally/coretally/Metric")), accessFlags := 4122, slot := 3, constantValue := 0 }]
  methods := #[k12m0, k12m1]
  instanceTypes := #[(.object "java/lang/String"), .int, .int, (.object "java/lang/String")]
  staticTypes := #[(.object "com/example/coretally/coretally/Metric"), (.object "com/example/coretally/coretally/Metric"), (.object "com/example/coretally/coretally/Metric"), (.array (.object "com/example/coretally/coretally/Metric"))]
  resolved := Array.replicate 84 none
  statics := some 2 }

def pool13 : Array CpInfo := pool [(1, .class_ 2), (0, u "java/lang/Cloneable"), (0, .class_ 4), (0, u "java/lang/Object")] 2

/-- java/lang/Cloneable -/
def k13 : Class := { plain "java/lang/Cloneable" (some 0) with
  accessFlags := 1537
  interfaces := #[]
  cf := some (fileOf pool13 1 #[] #[] 1537 3 #[] #[])
  fields := #[]
  methods := #[]
  instanceTypes := #[]
  staticTypes := #[]
  resolved := Array.replicate 7 none
  statics := none }

def pool14 : Array CpInfo := pool [(1, .fieldref 2 3), (0, .class_ 4), (0, .nameAndType 5 6), (0, u "java/util/Optional"), (0, u "EMPTY"), (0, u "Ljava/util/Optional;"), (0, .methodref 8 9), (0, .class_ 10), (0, .nameAndType 11 12), (0, u "java/lang/Object"), (0, u "<init>"), (0, u "()V"), (0, .fieldref 2 14), (0, .nameAndType 15 16), (0, u "value"), (0, u "Ljava/lang/Object;"), (0, .methodref 18 19), (0, .class_ 20), (0, .nameAndType 21 22), (0, u "java/util/Objects"), (0, u "requireNonNull"), (0, u "(Ljava/lang/Object;)Ljava/lang/Object;"), (0, .methodref 2 24), (0, .nameAndType 11 25), (0, u "(Ljava/lang/Object;)V"), (20, u "()Z"), (8, u "empty"), (0, u "()Ljava/util/Optional;"), (8, u "(Ljava/lang/Object;)Ljava/util/Optional;"), (2, u "isPresent"), (4, u "get"), (0, u "()Ljava/lang/Object;"), (7, u "of")] 104

def k14c0 : Code := { maxStack := 1, maxLocals := 1, code := jdk_32_method_1_code, exceptionTable := #[], attributes := #[] }
def k14m0 : Method := { name := "empty", desc := "()Ljava/util/Optional;", sig := { parameters := [], returnType := some (.object "java/util/Optional") }, accessFlags := 9, code := some k14c0 }
def k14c1 : Code := { maxStack := 2, maxLocals := 2, code := jdk_32_method_2_code, exceptionTable := #[], attributes := #[] }
def k14m1 : Method := { name := "<init>", desc := "(Ljava/lang/Object;)V", sig := { parameters := [(.object "java/lang/Object")], returnType := none }, accessFlags := 2, code := some k14c1 }
def k14c2 : Code := { maxStack := 3, maxLocals := 1, code := jdk_32_method_3_code, exceptionTable := #[], attributes := #[] }
def k14m2 : Method := { name := "of", desc := "(Ljava/lang/Object;)Ljava/util/Optional;", sig := { parameters := [(.object "java/lang/Object")], returnType := some (.object "java/util/Optional") }, accessFlags := 9, code := some k14c2 }
def k14c3 : Code := { maxStack := 3, maxLocals := 1, code := jdk_32_method_5_code, exceptionTable := #[], attributes := #[] }
def k14m3 : Method := { name := "get", desc := "()Ljava/lang/Object;", sig := { parameters := [], returnType := some (.object "java/lang/Object") }, accessFlags := 1, code := some k14c3 }
def k14c4 : Code := { maxStack := 1, maxLocals := 1, code := jdk_32_method_6_code, exceptionTable := #[], attributes := #[] }
def k14m4 : Method := { name := "isPresent", desc := "()Z", sig := { parameters := [], returnType := some .boolean }, accessFlags := 1, code := some k14c4 }
/-- java/util/Optional -/
def k14 : Class := { plain "java/util/Optional" (some 0) with
  accessFlags := 49
  interfaces := #[]
  cf := some (fileOf pool14 2 #[] #[{ accessFlags := 9, nameIndex := 55, descriptorIndex := 56, attributes := #[] }, { accessFlags := 2, nameIndex := 11, descriptorIndex := 25, attributes := #[] }, { accessFlags := 9, nameIndex := 82, descriptorIndex := 65, attributes := #[] }, { accessFlags := 1, nameIndex := 73, descriptorIndex := 74, attributes := #[] }, { accessFlags := 1, nameIndex := 68, descriptorIndex := 46, attributes := #[] }] 49 8 #[] #[{ accessFlags := 26, nameIndex := 5, descriptorIndex := 6, attributes := #[] }, { accessFlags := 18, nameIndex := 15, descriptorIndex := 16, attributes := #[] }])
  fields := #[{ name := "EMPTY", type := (.object "java/util/Optional"), accessFlags := 26, slot := 0, constantValue := 0 }, { name := "value", type := (.object "java/lang/Object"), accessFlags := 18, slot := 0, constantValue := 0 }]
  methods := #[k14m0, k14m1, k14m2, k14m3, k14m4]
  instanceTypes := #[(.object "java/lang/Object")]
  staticTypes := #[(.object "java/util/Optional")]
  resolved := Array.replicate 187 none
  statics := some 3 }

def pool15 : Array CpInfo := pool [(2, .class_ 4), (1, u "java/lang/Object"), (0, u "<init>"), (0, u "()V"), (35, .class_ 44), (1, u "java/util/Objects"), (0, u "requireNonNull"), (0, u "(Ljava/lang/Object;)Ljava/lang/Object;")] 137

def k15m0 : Method := { name := "<init>", desc := "()V", sig := { parameters := [], returnType := none }, accessFlags := 2, code := none }
def k15c1 : Code := { maxStack := 2, maxLocals := 1, code := jdk_31_method_10_code, exceptionTable := #[], attributes := #[] }
def k15m1 : Method := { name := "requireNonNull", desc := "(Ljava/lang/Object;)Ljava/lang/Object;", sig := { parameters := [(.object "java/lang/Object")], returnType := some (.object "java/lang/Object") }, accessFlags := 9, code := some k15c1 }
/-- java/util/Objects -/
def k15 : Class := { plain "java/util/Objects" (some 0) with
  accessFlags := 49
  interfaces := #[]
  cf := some (fileOf pool15 42 #[] #[{ accessFlags := 2, nameIndex := 5, descriptorIndex := 6, attributes := #[] }, { accessFlags := 9, nameIndex := 45, descriptorIndex := 46, attributes := #[] }] 49 2 #[] #[])
  fields := #[]
  methods := #[k15m0, k15m1]
  instanceTypes := #[]
  staticTypes := #[]
  resolved := Array.replicate 184 none
  statics := none }

def pool16 : Array CpInfo := pool [(9, u "<init>"), (6, .class_ 18), (1, u "java/lang/Object"), (0, u "()V"), (1, .class_ 23), (1, u "jdk/internal/util/ArraysSupport"), (0, u "LOG2_ARRAY_LONG_INDEX_SCALE"), (0, u "I"), (2, u "U"), (0, u "Ljdk/internal/misc/Unsafe;"), (8, u "BIG_ENDIAN"), (0, u "Z"), (8, u "LOG2_BYTE_BIT_SIZE"), (4, u "LOG2_ARRAY_INT_INDEX_SCALE"), (54, u "JLA"), (0, u "Ljdk/internal/access/JavaLangAccess;"), (11, u "LOG2_ARRAY_BOOLEAN_INDEX_SCALE"), (9, u "LOG2_ARRAY_BYTE_INDEX_SCALE"), (5, u "LOG2_ARRAY_CHAR_INDEX_SCALE"), (5, u "LOG2_ARRAY_SHORT_INDEX_SCALE"), (18, u "LOG2_ARRAY_FLOAT_INDEX_SCALE"), (24, u "LOG2_ARRAY_DOUBLE_INDEX_SCALE"), (89, u "T_BOOLEAN"), (2, u "T_CHAR"), (1, u "T_FLOAT"), (1, u "T_DOUBLE"), (1, u "T_BYTE"), (1, u "T_SHORT"), (1, u "T_INT"), (1, u "T_LONG"), (1, u "SOFT_MAX_ARRAY_LENGTH")] 83

def k16m0 : Method := { name := "<init>", desc := "()V", sig := { parameters := [], returnType := none }, accessFlags := 2, code := none }
/-- jdk/internal/util/ArraysSupport -/
def k16 : Class := { plain "jdk/internal/util/ArraysSupport" (some 0) with
  accessFlags := 33
  interfaces := #[]
  cf := some (fileOf pool16 21 #[] #[{ accessFlags := 2, nameIndex := 9, descriptorIndex := 19, attributes := #[] }] 33 16 #[] #[{ accessFlags := 24, nameIndex := 28, descriptorIndex := 29, attributes := #[] }, { accessFlags := 26, nameIndex := 38, descriptorIndex := 39, attributes := #[] }, { accessFlags := 25, nameIndex := 121, descriptorIndex := 25, attributes := #[] }, { accessFlags := 25, nameIndex := 131, descriptorIndex := 25, attributes := #[] }, { accessFlags := 25, nameIndex := 137, descriptorIndex := 25, attributes := #[] }, { accessFlags := 25, nameIndex := 143, descriptorIndex := 25, attributes := #[] }, { accessFlags := 25, nameIndex := 53, descriptorIndex := 25, attributes := #[] }, { accessFlags := 25, nameIndex := 24, descriptorIndex := 25, attributes := #[] }, { accessFlags := 25, nameIndex := 162, descriptorIndex := 25, attributes := #[] }, { accessFlags := 25, nameIndex := 187, descriptorIndex := 25, attributes := #[] }, { accessFlags := 26, nameIndex := 48, descriptorIndex := 25, attributes := #[] }, { accessFlags := 25, nameIndex := 277, descriptorIndex := 25, attributes := #[] }, { accessFlags := 25, nameIndex := 280, descriptorIndex := 25, attributes := #[] }, { accessFlags := 25, nameIndex := 282, descriptorIndex := 25, attributes := #[] }, { accessFlags := 25, nameIndex := 284, descriptorIndex := 25, attributes := #[] }, { accessFlags := 25, nameIndex := 286, descriptorIndex := 25, attributes := #[] }, { accessFlags := 25, nameIndex := 288, descriptorIndex := 25, attributes := #[] }, { accessFlags := 25, nameIndex := 290, descriptorIndex := 25, attributes := #[] }, { accessFlags := 25, nameIndex := 292, descriptorIndex := 25, attributes := #[] }, { accessFlags := 26, nameIndex := 108, descriptorIndex := 109, attributes := #[] }, { accessFlags := 25, nameIndex := 294, descriptorIndex := 25, attributes := #[] }])
  fields := #[{ name := "U", type := (.object "jdk/internal/misc/Unsafe"), accessFlags := 24, slot := 0, constantValue := 0 }, { name := "BIG_ENDIAN", type := .boolean, accessFlags := 26, slot := 1, constantValue := 0 }, { name := "LOG2_ARRAY_BOOLEAN_INDEX_SCALE", type := .int, accessFlags := 25, slot := 2, constantValue := 0 }, { name := "LOG2_ARRAY_BYTE_INDEX_SCALE", type := .int, accessFlags := 25, slot := 3, constantValue := 0 }, { name := "LOG2_ARRAY_CHAR_INDEX_SCALE", type := .int, accessFlags := 25, slot := 4, constantValue := 0 }, { name := "LOG2_ARRAY_SHORT_INDEX_SCALE", type := .int, accessFlags := 25, slot := 5, constantValue := 0 }, { name := "LOG2_ARRAY_INT_INDEX_SCALE", type := .int, accessFlags := 25, slot := 6, constantValue := 0 }, { name := "LOG2_ARRAY_LONG_INDEX_SCALE", type := .int, accessFlags := 25, slot := 7, constantValue := 0 }, { name := "LOG2_ARRAY_FLOAT_INDEX_SCALE", type := .int, accessFlags := 25, slot := 8, constantValue := 0 }, { name := "LOG2_ARRAY_DOUBLE_INDEX_SCALE", type := .int, accessFlags := 25, slot := 9, constantValue := 0 }, { name := "LOG2_BYTE_BIT_SIZE", type := .int, accessFlags := 26, slot := 10, constantValue := 0 }, { name := "T_BOOLEAN", type := .int, accessFlags := 25, slot := 11, constantValue := 0 }, { name := "T_CHAR", type := .int, accessFlags := 25, slot := 12, constantValue := 0 }, { name := "T_FLOAT", type := .int, accessFlags := 25, slot := 13, constantValue := 0 }, { name := "T_DOUBLE", type := .int, accessFlags := 25, slot := 14, constantValue := 0 }, { name := "T_BYTE", type := .int, accessFlags := 25, slot := 15, constantValue := 0 }, { name := "T_SHORT", type := .int, accessFlags := 25, slot := 16, constantValue := 0 }, { name := "T_INT", type := .int, accessFlags := 25, slot := 17, constantValue := 0 }, { name := "T_LONG", type := .int, accessFlags := 25, slot := 18, constantValue := 0 }, { name := "JLA", type := (.object "jdk/internal/access/JavaLangAccess"), accessFlags := 26, slot := 19, constantValue := 0 }, { name := "SOFT_MAX_ARRAY_LENGTH", type := .int, accessFlags := 25, slot := 20, constantValue := 0 }]
  methods := #[k16m0]
  instanceTypes := #[]
  staticTypes := #[(.object "jdk/internal/misc/Unsafe"), .boolean, .int, .int, .int, .int, .int, .int, .int, .int, .int, .int, .int, .int, .int, .int, .int, .int, .int, (.object "jdk/internal/access/JavaLangAccess"), .int]
  resolved := Array.replicate 378 none
  statics := none }

/-- the primitive byte -/
def k17 : Class := { plain "byte" none with kind := .primitive 'B', accessFlags := 0x411 }
/-- [B -/
def k18 : Class := { plain "[B" (some 0) with kind := .array 17 .byte, interfaces := #[13, 2], accessFlags := 1041 }

/-- the primitive char -/
def k19 : Class := { plain "char" none with kind := .primitive 'C', accessFlags := 0x411 }
/-- [C -/
def k20 : Class := { plain "[C" (some 0) with kind := .array 19 .char, interfaces := #[13, 2], accessFlags := 1041 }

/-- [Lcom/example/coretally/coretally/Metric; -/
def k21 : Class := { plain "[Lcom/example/coretally/coretally/Metric;" (some 0) with kind := .array 12 (.object "com/example/coretally/coretally/Metric"), interfaces := #[13, 2], accessFlags := 1041 }

def heap : Heap := #[{ cls := 7, slots := #[.long 0, .int 1, .null, .int 0, .null, .int 0, .int 0], vm := .statics 7 },
  { cls := 9, slots := #[.null, .null, .null], vm := .statics 9 },
  { cls := 12, slots := #[.ref 9, .ref 10, .null, .ref 4], vm := .statics 12 },
  { cls := 14, slots := #[.ref 11], vm := .statics 14 },
  { cls := 21, slots := #[.ref 9, .ref 10], vm := .none },
  { cls := 18, slots := #[.int 112, .int 114, .int 111, .int 99, .int 101, .int 115, .int 115, .int 111, .int 114], vm := .none },
  { cls := 18, slots := #[.int 115, .int 111, .int 99, .int 107, .int 101, .int 116], vm := .none },
  { cls := 7, slots := #[.ref 5, .int 0, .int 0, .int 0], vm := .none },
  { cls := 7, slots := #[.ref 6, .int 0, .int 0, .int 0], vm := .none },
  { cls := 12, slots := #[.null, .int 0, .int 0, .ref 7], vm := .none },
  { cls := 12, slots := #[.null, .int 1, .int 0, .ref 8], vm := .none },
  { cls := 14, slots := #[.null], vm := .none }]
def classes : Array Class := #[k0, k1, k2, k3, k4, k5, k6, k7, k8, k9, k10, k11, k12, k13, k14, k15, k16, k17, k18, k19, k20, k21]
def interned : List (Array UInt16 × Addr) := []
def slotsUsed : Nat := 49
def theMethod : MethodId := ⟨1, 3⟩
def args0 : Array Value := #[.int 5, .int 6, .int 7]
def aboutOver (below : List Frame) : State where
  vm := { classes := classes, interned := interned.toArray }
  heap := heap
  slotsUsed := slotsUsed
  threads := #[{ frames := .invoking theMethod args0 :: below }]
def below0 : List Frame := [.native { method := ⟨0, 0⟩, args := #[] }]
def about1 : State := aboutOver below0
def p0 : Program := .bare "" "" ""
def e0 : Env := launch0.env 0 0 0
theorem w_frames : about1.frames = Frame.invoking theMethod args0 :: below0 := rfl
set_option maxRecDepth 65536 in
theorem w_args : argsFit about1.vm theMethod args0 = true := by decide +kernel
set_option maxRecDepth 65536 in
theorem w_heap : heapFits about1 = true := by decide +kernel
set_option maxRecDepth 65536 in
theorem w_runnable : about1.curStatus? = some .runnable := by decide +kernel
set_option maxRecDepth 65536 in
theorem w_alone : about1.alone = true := by decide +kernel
set_option maxRecDepth 65536 in
theorem w_named : about1.methodNamed? x = some theMethod := by decide +kernel
set_option maxRecDepth 65536 in
theorem w_hears : about1.hears theMethod below0 = true := by decide +kernel
set_option maxRecDepth 65536 in
theorem w_ripe : about1.ripe theMethod args0 below0 = true := by decide +kernel
theorem w_running : about1.status = .running := rfl
set_option maxRecDepth 65536 in
theorem w_room : about1.hasRoom e0.platform room_1 = true :=
  launch0.hasRoom_least _ room_1 (by decide +kernel) (by decide +kernel) (by decide +kernel) (by decide +kernel) (by decide +kernel) (by decide +kernel)
theorem allAtoms_all (ts : List Jvm.Cond) (a : Array Jvm.Value) (st : Jvm.State) : (allAtoms ts).before a st = ts.all (fun c => c.before a st) := by
  induction ts with
  | nil => rfl
  | cons c t ih =>
    show (Jvm.Cond.and c (allAtoms t)).before a st = _
    rw [Jvm.Cond.before_and, ih, List.all_cons]
def words1 : List Jvm.Cond := Jvm.Cond.code x code maxLocals ret :: tables_1
/-- a 'code' word, met by the world's own term for the bytes: nothing is compared byte by byte -/
theorem code_word {y : MethodName} {bytes : ByteArray} {mx : Nat} {rt : Option FieldType} {a : Array Value} {s : State} {m : MethodId} {meth : Method} {c : Code} (h1 : s.methodNamed? y = some m) (h2 : s.vm.method? m = some meth) (h3 : meth.code = some c) (h4 : c.code = bytes)
    (h5 : (c.maxLocals == mx && c.exceptionTable.isEmpty && decide (c.maxStack ≤ mostOperands) && decide (meth.sig.returnType = rt) && !meth.locks && decide (parseMethodDescriptor y.desc = some meth.sig)) = true) : (Jvm.Cond.code y bytes mx rt).before a s = true := by
  simp only [Bool.and_eq_true, beq_iff_eq, Bool.not_eq_true', decide_eq_true_eq] at h5
  obtain ⟨⟨⟨⟨⟨g1, g2⟩, g3⟩, g4⟩, g5⟩, g6⟩ := h5
  simp [Cond.before, Cond.holds, Cond.value, h1, h2, h3, h4, g1, g2, g3, g4, g5, g6]
def isCode : Jvm.Cond → Bool
  | .code _ _ _ _ => true
  | _ => false
theorem all_split {L : List Jvm.Cond} {P : Jvm.Cond → Bool} (h1 : L.all (fun c => isCode c || P c) = true) (h2 : ∀ c ∈ L.filter isCode, P c = true) : L.all P = true := by
  refine List.all_eq_true.mpr fun c hc => ?_
  have h := List.all_eq_true.mp h1 c hc
  rcases Bool.eq_false_or_eq_true (isCode c) with hi | hi
  · exact h2 c (List.mem_filter.mpr ⟨hc, hi⟩)
  · simpa [hi] using h
set_option maxRecDepth 65536 in
theorem w_c0 : (Jvm.Cond.code x code maxLocals ret).before args0 about1 = true := code_word (m := ⟨1, 3⟩) (meth := k1m3) (c := k1c3) (by decide +kernel) rfl rfl rfl (by decide +kernel)
set_option maxRecDepth 65536 in
theorem w_c1 : (Jvm.Cond.code ({ cls := "java/lang/String", name := "length", desc := "()I" } : Jvm.MethodName) jdk_42_method_54_code (1 : Nat) (Option.some Jvm.ClassFile.FieldType.int)).before args0 about1 = true := code_word (m := ⟨7, 2⟩) (meth := k7m2) (c := k7c2) (by decide +kernel) rfl rfl rfl (by decide +kernel)
set_option maxRecDepth 65536 in
theorem w_c2 : (Jvm.Cond.code ({ cls := "java/lang/String", name := "coder", desc := "()B" } : Jvm.MethodName) jdk_42_method_152_code (1 : Nat) (Option.some Jvm.ClassFile.FieldType.byte)).before args0 about1 = true := code_word (m := ⟨7, 6⟩) (meth := k7m6) (c := k7c6) (by decide +kernel) rfl rfl rfl (by decide +kernel)
set_option maxRecDepth 65536 in
theorem w_c3 : (Jvm.Cond.code ({ cls := "com/example/coretally/coretally/MetricLabelledPinLaw", name := "at", desc := "(Ljava/lang/String;I)C" } : Jvm.MethodName) method_2_code (2 : Nat) (Option.some Jvm.ClassFile.FieldType.char)).before args0 about1 = true := code_word (m := ⟨1, 1⟩) (meth := k1m1) (c := k1c1) (by decide +kernel) rfl rfl rfl (by decide +kernel)
set_option maxRecDepth 65536 in
theorem w_c4 : (Jvm.Cond.code ({ cls := "java/lang/String", name := "charAt", desc := "(I)C" } : Jvm.MethodName) jdk_42_method_56_code (2 : Nat) (Option.some Jvm.ClassFile.FieldType.char)).before args0 about1 = true := code_word (m := ⟨7, 3⟩) (meth := k7m3) (c := k7c3) (by decide +kernel) rfl rfl rfl (by decide +kernel)
set_option maxRecDepth 65536 in
theorem w_c5 : (Jvm.Cond.code ({ cls := "java/lang/String", name := "isLatin1", desc := "()Z" } : Jvm.MethodName) jdk_42_method_154_code (1 : Nat) (Option.some Jvm.ClassFile.FieldType.boolean)).before args0 about1 = true := code_word (m := ⟨7, 7⟩) (meth := k7m7) (c := k7c7) (by decide +kernel) rfl rfl rfl (by decide +kernel)
set_option maxRecDepth 65536 in
theorem w_c6 : (Jvm.Cond.code ({ cls := "java/lang/StringLatin1", name := "charAt", desc := "([BI)C" } : Jvm.MethodName) jdk_43_method_2_code (2 : Nat) (Option.some Jvm.ClassFile.FieldType.char)).before args0 about1 = true := code_word (m := ⟨8, 1⟩) (meth := k8m1) (c := k8c1) (by decide +kernel) rfl rfl rfl (by decide +kernel)
set_option maxRecDepth 65536 in
theorem w_c7 : (Jvm.Cond.code ({ cls := "java/lang/String", name := "checkIndex", desc := "(II)V" } : Jvm.MethodName) jdk_42_method_155_code (2 : Nat) (Option.none : Option Jvm.ClassFile.FieldType)).before args0 about1 = true := code_word (m := ⟨7, 8⟩) (meth := k7m8) (c := k7c8) (by decide +kernel) rfl rfl rfl (by decide +kernel)
set_option maxRecDepth 65536 in
theorem w_c8 : (Jvm.Cond.code ({ cls := "jdk/internal/util/Preconditions", name := "checkIndex", desc := "(IILjava/util/function/BiFunction;)I" } : Jvm.MethodName) jdk_41_method_11_code (3 : Nat) (Option.some Jvm.ClassFile.FieldType.int)).before args0 about1 = true := code_word (m := ⟨9, 1⟩) (meth := k9m1) (c := k9c1) (by decide +kernel) rfl rfl rfl (by decide +kernel)
set_option maxRecDepth 65536 in
theorem w_c9 : (Jvm.Cond.code ({ cls := "com/example/coretally/coretally/MetricLabelledPinLaw", name := "str", desc := "([CI)Ljava/lang/String;" } : Jvm.MethodName) method_3_code (2 : Nat) (Option.some (Jvm.ClassFile.FieldType.object "java/lang/String"))).before args0 about1 = true := code_word (m := ⟨1, 2⟩) (meth := k1m2) (c := k1c2) (by decide +kernel) rfl rfl rfl (by decide +kernel)
set_option maxRecDepth 65536 in
theorem w_c10 : (Jvm.Cond.code ({ cls := "java/lang/String", name := "<init>", desc := "([C)V" } : Jvm.MethodName) jdk_42_method_3_code (2 : Nat) (Option.none : Option Jvm.ClassFile.FieldType)).before args0 about1 = true := code_word (m := ⟨7, 1⟩) (meth := k7m1) (c := k7c1) (by decide +kernel) rfl rfl rfl (by decide +kernel)
set_option maxRecDepth 65536 in
theorem w_c11 : (Jvm.Cond.code ({ cls := "java/lang/String", name := "<init>", desc := "([CIILjava/lang/Void;)V" } : Jvm.MethodName) jdk_42_method_149_code (6 : Nat) (Option.none : Option Jvm.ClassFile.FieldType)).before args0 about1 = true := code_word (m := ⟨7, 5⟩) (meth := k7m5) (c := k7c5) (by decide +kernel) rfl rfl rfl (by decide +kernel)
set_option maxRecDepth 65536 in
theorem w_c12 : (Jvm.Cond.code ({ cls := "java/lang/Object", name := "<init>", desc := "()V" } : Jvm.MethodName) object_method_1_code (1 : Nat) (Option.none : Option Jvm.ClassFile.FieldType)).before args0 about1 = true := code_word (m := ⟨0, 0⟩) (meth := k0m0) (c := k0c0) (by decide +kernel) rfl rfl rfl (by decide +kernel)
set_option maxRecDepth 65536 in
theorem w_c13 : (Jvm.Cond.code ({ cls := "java/lang/StringUTF16", name := "compress", desc := "([CII)[B" } : Jvm.MethodName) jdk_52_method_16_code (6 : Nat) (Option.some (Jvm.ClassFile.FieldType.array Jvm.ClassFile.FieldType.byte))).before args0 about1 = true := code_word (m := ⟨10, 2⟩) (meth := k10m2) (c := k10c2) (by decide +kernel) rfl rfl rfl (by decide +kernel)
set_option maxRecDepth 65536 in
theorem w_c14 : (Jvm.Cond.code ({ cls := "java/lang/StringUTF16", name := "compress", desc := "([CI[BII)I" } : Jvm.MethodName) jdk_52_method_21_code (7 : Nat) (Option.some Jvm.ClassFile.FieldType.int)).before args0 about1 = true := code_word (m := ⟨10, 3⟩) (meth := k10m3) (c := k10c3) (by decide +kernel) rfl rfl rfl (by decide +kernel)
set_option maxRecDepth 65536 in
theorem w_c15 : (Jvm.Cond.code ({ cls := "java/lang/StringUTF16", name := "coderFromArrayLen", desc := "([BI)B" } : Jvm.MethodName) jdk_52_method_15_code (2 : Nat) (Option.some Jvm.ClassFile.FieldType.byte)).before args0 about1 = true := code_word (m := ⟨10, 1⟩) (meth := k10m1) (c := k10c1) (by decide +kernel) rfl rfl rfl (by decide +kernel)
set_option maxRecDepth 65536 in
theorem w_c16 : (Jvm.Cond.code ({ cls := "com/example/coretally/coretally/Metric", name := "labelled", desc := "(Ljava/lang/String;)Ljava/util/Optional;" } : Jvm.MethodName) prog_8_method_5_code (5 : Nat) (Option.some (Jvm.ClassFile.FieldType.object "java/util/Optional"))).before args0 about1 = true := code_word (m := ⟨12, 1⟩) (meth := k12m1) (c := k12c1) (by decide +kernel) rfl rfl rfl (by decide +kernel)
set_option maxRecDepth 65536 in
theorem w_c17 : (Jvm.Cond.code ({ cls := "com/example/coretally/coretally/Metric", name := "values", desc := "()[Lcom/example/coretally/coretally/Metric;" } : Jvm.MethodName) prog_8_method_1_code (0 : Nat) (Option.some (Jvm.ClassFile.FieldType.array (Jvm.ClassFile.FieldType.object "com/example/coretally/coretally/Metric")))).before args0 about1 = true := code_word (m := ⟨12, 0⟩) (meth := k12m0) (c := k12c0) (by decide +kernel) rfl rfl rfl (by decide +kernel)
set_option maxRecDepth 65536 in
theorem w_c18 : (Jvm.Cond.code ({ cls := "java/lang/String", name := "equals", desc := "(Ljava/lang/Object;)Z" } : Jvm.MethodName) jdk_42_method_66_code (3 : Nat) (Option.some Jvm.ClassFile.FieldType.boolean)).before args0 about1 = true := code_word (m := ⟨7, 4⟩) (meth := k7m4) (c := k7c4) (by decide +kernel) rfl rfl rfl (by decide +kernel)
set_option maxRecDepth 65536 in
theorem w_c19 : (Jvm.Cond.code ({ cls := "java/lang/StringLatin1", name := "equals", desc := "([B[B)Z" } : Jvm.MethodName) jdk_43_method_13_code (3 : Nat) (Option.some Jvm.ClassFile.FieldType.boolean)).before args0 about1 = true := code_word (m := ⟨8, 2⟩) (meth := k8m2) (c := k8c2) (by decide +kernel) rfl rfl rfl (by decide +kernel)
set_option maxRecDepth 65536 in
theorem w_c20 : (Jvm.Cond.code ({ cls := "java/util/Optional", name := "of", desc := "(Ljava/lang/Object;)Ljava/util/Optional;" } : Jvm.MethodName) jdk_32_method_3_code (1 : Nat) (Option.some (Jvm.ClassFile.FieldType.object "java/util/Optional"))).before args0 about1 = true := code_word (m := ⟨14, 2⟩) (meth := k14m2) (c := k14c2) (by decide +kernel) rfl rfl rfl (by decide +kernel)
set_option maxRecDepth 65536 in
theorem w_c21 : (Jvm.Cond.code ({ cls := "java/util/Objects", name := "requireNonNull", desc := "(Ljava/lang/Object;)Ljava/lang/Object;" } : Jvm.MethodName) jdk_31_method_10_code (1 : Nat) (Option.some (Jvm.ClassFile.FieldType.object "java/lang/Object"))).before args0 about1 = true := code_word (m := ⟨15, 1⟩) (meth := k15m1) (c := k15c1) (by decide +kernel) rfl rfl rfl (by decide +kernel)
set_option maxRecDepth 65536 in
theorem w_c22 : (Jvm.Cond.code ({ cls := "java/util/Optional", name := "<init>", desc := "(Ljava/lang/Object;)V" } : Jvm.MethodName) jdk_32_method_2_code (2 : Nat) (Option.none : Option Jvm.ClassFile.FieldType)).before args0 about1 = true := code_word (m := ⟨14, 1⟩) (meth := k14m1) (c := k14c1) (by decide +kernel) rfl rfl rfl (by decide +kernel)
set_option maxRecDepth 65536 in
theorem w_c23 : (Jvm.Cond.code ({ cls := "java/util/Optional", name := "isPresent", desc := "()Z" } : Jvm.MethodName) jdk_32_method_6_code (1 : Nat) (Option.some Jvm.ClassFile.FieldType.boolean)).before args0 about1 = true := code_word (m := ⟨14, 4⟩) (meth := k14m4) (c := k14c4) (by decide +kernel) rfl rfl rfl (by decide +kernel)
set_option maxRecDepth 65536 in
theorem w_c24 : (Jvm.Cond.code ({ cls := "java/util/Optional", name := "get", desc := "()Ljava/lang/Object;" } : Jvm.MethodName) jdk_32_method_5_code (1 : Nat) (Option.some (Jvm.ClassFile.FieldType.object "java/lang/Object"))).before args0 about1 = true := code_word (m := ⟨14, 3⟩) (meth := k14m3) (c := k14c3) (by decide +kernel) rfl rfl rfl (by decide +kernel)
set_option maxRecDepth 65536 in
theorem w_c25 : (Jvm.Cond.code ({ cls := "java/util/Optional", name := "empty", desc := "()Ljava/util/Optional;" } : Jvm.MethodName) jdk_32_method_1_code (1 : Nat) (Option.some (Jvm.ClassFile.FieldType.object "java/util/Optional"))).before args0 about1 = true := code_word (m := ⟨14, 0⟩) (meth := k14m0) (c := k14c0) (by decide +kernel) rfl rfl rfl (by decide +kernel)
def codes1 : List Jvm.Cond := [Jvm.Cond.code x code maxLocals ret, Jvm.Cond.code ({ cls := "java/lang/String", name := "length", desc := "()I" } : Jvm.MethodName) jdk_42_method_54_code (1 : Nat) (Option.some Jvm.ClassFile.FieldType.int), Jvm.Cond.code ({ cls := "java/lang/String", name := "coder", desc := "()B" } : Jvm.MethodName) jdk_42_method_152_code (1 : Nat) (Option.some Jvm.ClassFile.FieldType.byte), Jvm.Cond.code ({ cls := "com/example/coretally/coretally/MetricLabelledPinLaw", name := "at", desc := "(Ljava/lang/String;I)C" } : Jvm.MethodName) method_2_code (2 : Nat) (Option.some Jvm.ClassFile.FieldType.char), Jvm.Cond.code ({ cls := "java/lang/String", name := "charAt", desc := "(I)C" } : Jvm.MethodName) jdk_42_method_56_code (2 : Nat) (Option.some Jvm.ClassFile.FieldType.char), Jvm.Cond.code ({ cls := "java/lang/String", name := "isLatin1", desc := "()Z" } : Jvm.MethodName) jdk_42_method_154_code (1 : Nat) (Option.some Jvm.ClassFile.FieldType.boolean), Jvm.Cond.code ({ cls := "java/lang/StringLatin1", name := "charAt", desc := "([BI)C" } : Jvm.MethodName) jdk_43_method_2_code (2 : Nat) (Option.some Jvm.ClassFile.FieldType.char), Jvm.Cond.code ({ cls := "java/lang/String", name := "checkIndex", desc := "(II)V" } : Jvm.MethodName) jdk_42_method_155_code (2 : Nat) (Option.none : Option Jvm.ClassFile.FieldType), Jvm.Cond.code ({ cls := "jdk/internal/util/Preconditions", name := "checkIndex", desc := "(IILjava/util/function/BiFunction;)I" } : Jvm.MethodName) jdk_41_method_11_code (3 : Nat) (Option.some Jvm.ClassFile.FieldType.int), Jvm.Cond.code ({ cls := "com/example/coretally/coretally/MetricLabelledPinLaw", name := "str", desc := "([CI)Ljava/lang/String;" } : Jvm.MethodName) method_3_code (2 : Nat) (Option.some (Jvm.ClassFile.FieldType.object "java/lang/String")), Jvm.Cond.code ({ cls := "java/lang/String", name := "<init>", desc := "([C)V" } : Jvm.MethodName) jdk_42_method_3_code (2 : Nat) (Option.none : Option Jvm.ClassFile.FieldType), Jvm.Cond.code ({ cls := "java/lang/String", name := "<init>", desc := "([CIILjava/lang/Void;)V" } : Jvm.MethodName) jdk_42_method_149_code (6 : Nat) (Option.none : Option Jvm.ClassFile.FieldType), Jvm.Cond.code ({ cls := "java/lang/Object", name := "<init>", desc := "()V" } : Jvm.MethodName) object_method_1_code (1 : Nat) (Option.none : Option Jvm.ClassFile.FieldType), Jvm.Cond.code ({ cls := "java/lang/StringUTF16", name := "compress", desc := "([CII)[B" } : Jvm.MethodName) jdk_52_method_16_code (6 : Nat) (Option.some (Jvm.ClassFile.FieldType.array Jvm.ClassFile.FieldType.byte)), Jvm.Cond.code ({ cls := "java/lang/StringUTF16", name := "compress", desc := "([CI[BII)I" } : Jvm.MethodName) jdk_52_method_21_code (7 : Nat) (Option.some Jvm.ClassFile.FieldType.int), Jvm.Cond.code ({ cls := "java/lang/StringUTF16", name := "coderFromArrayLen", desc := "([BI)B" } : Jvm.MethodName) jdk_52_method_15_code (2 : Nat) (Option.some Jvm.ClassFile.FieldType.byte), Jvm.Cond.code ({ cls := "com/example/coretally/coretally/Metric", name := "labelled", desc := "(Ljava/lang/String;)Ljava/util/Optional;" } : Jvm.MethodName) prog_8_method_5_code (5 : Nat) (Option.some (Jvm.ClassFile.FieldType.object "java/util/Optional")), Jvm.Cond.code ({ cls := "com/example/coretally/coretally/Metric", name := "values", desc := "()[Lcom/example/coretally/coretally/Metric;" } : Jvm.MethodName) prog_8_method_1_code (0 : Nat) (Option.some (Jvm.ClassFile.FieldType.array (Jvm.ClassFile.FieldType.object "com/example/coretally/coretally/Metric"))), Jvm.Cond.code ({ cls := "java/lang/String", name := "equals", desc := "(Ljava/lang/Object;)Z" } : Jvm.MethodName) jdk_42_method_66_code (3 : Nat) (Option.some Jvm.ClassFile.FieldType.boolean), Jvm.Cond.code ({ cls := "java/lang/StringLatin1", name := "equals", desc := "([B[B)Z" } : Jvm.MethodName) jdk_43_method_13_code (3 : Nat) (Option.some Jvm.ClassFile.FieldType.boolean), Jvm.Cond.code ({ cls := "java/util/Optional", name := "of", desc := "(Ljava/lang/Object;)Ljava/util/Optional;" } : Jvm.MethodName) jdk_32_method_3_code (1 : Nat) (Option.some (Jvm.ClassFile.FieldType.object "java/util/Optional")), Jvm.Cond.code ({ cls := "java/util/Objects", name := "requireNonNull", desc := "(Ljava/lang/Object;)Ljava/lang/Object;" } : Jvm.MethodName) jdk_31_method_10_code (1 : Nat) (Option.some (Jvm.ClassFile.FieldType.object "java/lang/Object")), Jvm.Cond.code ({ cls := "java/util/Optional", name := "<init>", desc := "(Ljava/lang/Object;)V" } : Jvm.MethodName) jdk_32_method_2_code (2 : Nat) (Option.none : Option Jvm.ClassFile.FieldType), Jvm.Cond.code ({ cls := "java/util/Optional", name := "isPresent", desc := "()Z" } : Jvm.MethodName) jdk_32_method_6_code (1 : Nat) (Option.some Jvm.ClassFile.FieldType.boolean), Jvm.Cond.code ({ cls := "java/util/Optional", name := "get", desc := "()Ljava/lang/Object;" } : Jvm.MethodName) jdk_32_method_5_code (1 : Nat) (Option.some (Jvm.ClassFile.FieldType.object "java/lang/Object")), Jvm.Cond.code ({ cls := "java/util/Optional", name := "empty", desc := "()Ljava/util/Optional;" } : Jvm.MethodName) jdk_32_method_1_code (1 : Nat) (Option.some (Jvm.ClassFile.FieldType.object "java/util/Optional"))]
set_option maxRecDepth 65536 in
theorem codes_eq : words1.filter isCode = codes1 := rfl
theorem w_codes : ∀ c ∈ words1.filter isCode, c.before args0 about1 = true := by
  rw [codes_eq]
  intro c hc
  simp only [codes1, List.mem_cons, List.not_mem_nil, or_false] at hc
  rcases hc with rfl | rfl | rfl | rfl | rfl | rfl | rfl | rfl | rfl | rfl | rfl | rfl | rfl | rfl | rfl | rfl | rfl | rfl | rfl | rfl | rfl | rfl | rfl | rfl | rfl | rfl
  · exact w_c0
  · exact w_c1
  · exact w_c2
  · exact w_c3
  · exact w_c4
  · exact w_c5
  · exact w_c6
  · exact w_c7
  · exact w_c8
  · exact w_c9
  · exact w_c10
  · exact w_c11
  · exact w_c12
  · exact w_c13
  · exact w_c14
  · exact w_c15
  · exact w_c16
  · exact w_c17
  · exact w_c18
  · exact w_c19
  · exact w_c20
  · exact w_c21
  · exact w_c22
  · exact w_c23
  · exact w_c24
  · exact w_c25
set_option maxRecDepth 65536 in
theorem w_t1 : (words1.take 24).all (fun c => isCode c || c.before args0 about1) = true := by decide +kernel
set_option maxRecDepth 65536 in
theorem w_t2 : ((words1.drop 24).take 24).all (fun c => isCode c || c.before args0 about1) = true := by decide +kernel
set_option maxRecDepth 65536 in
theorem w_t3 : (((words1.drop 24).drop 24).take 24).all (fun c => isCode c || c.before args0 about1) = true := by decide +kernel
set_option maxRecDepth 65536 in
theorem w_t4 : ((((words1.drop 24).drop 24).drop 24).take 24).all (fun c => isCode c || c.before args0 about1) = true := by decide +kernel
set_option maxRecDepth 65536 in
theorem w_t5 : (((((words1.drop 24).drop 24).drop 24).drop 24).take 24).all (fun c => isCode c || c.before args0 about1) = true := by decide +kernel
set_option maxRecDepth 65536 in
theorem w_t6 : (((((words1.drop 24).drop 24).drop 24).drop 24).drop 24).all (fun c => isCode c || c.before args0 about1) = true := by decide +kernel
theorem w_tables : (allAtoms (Jvm.Cond.code x code maxLocals ret :: tables_1)).before args0 about1 = true := by
  rw [allAtoms_all]
  show words1.all (fun c => c.before args0 about1) = true
  refine all_split ?_ w_codes
  rw [← List.take_append_drop 24 words1, List.all_append, w_t1, ← List.take_append_drop 24 (words1.drop 24), List.all_append, w_t2, ← List.take_append_drop 24 ((words1.drop 24).drop 24), List.all_append, w_t3, ← List.take_append_drop 24 (((words1.drop 24).drop 24).drop 24), List.all_append, w_t4, ← List.take_append_drop 24 ((((words1.drop 24).drop 24).drop 24).drop 24), List.all_append, w_t5, w_t6]
  rfl
set_option maxRecDepth 65536 in
theorem w_rest : rest_1_c.before args0 about1 = true := by decide +kernel
set_option maxRecDepth 65536 in
theorem w_case : (Jvm.Cond.and given_1 narrow_1).before args0 about1 = true := by decide +kernel
set_option maxRecDepth 65536 in
theorem w_consts : constsHeld consts_1 about1 := Jvm.Lit.constsHeldB_iff.mp (by decide +kernel)
theorem w_applies : (headSpec (Jvm.Cond.code x code maxLocals ret :: tables_1) room_1).applies x e0.platform about1 = true :=
  (Spec.applies_iff w_frames).mpr ⟨w_running, w_runnable, w_alone, w_named, w_hears, w_ripe, w_room, w_tables⟩
theorem atStart : AtStart classFile x code maxLocals ret World_1 tables_1 room_1 Calls_1 rest_1 Pre_1 launch0 p0 e0 about1 theMethod args0 below0 :=
  ⟨lists_1, trivial, launch0.admits_env _ _ _, launch0.least_env, fairChoices_fair.cas, fairChoices_fair.clock, w_frames, w_args, w_heap, w_applies, ⟨w_consts, trivial⟩, w_rest, w_case⟩
end start1
theorem witness_1 : WitnessClaimed_1 := ⟨start1.p0, start1.e0, start1.about1, start1.theMethod, start1.args0, start1.below0, start1.atStart⟩
end Jvm.Pilot.@@N@@
