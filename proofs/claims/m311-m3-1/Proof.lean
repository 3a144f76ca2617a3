import JvmDerived
import JvmDerived.Pilot.@@N@@Statement
import JvmDerived.Pilot.@@N@@Code
set_option linter.unusedVariables false
set_option linter.unusedSimpArgs false
namespace Jvm.Own
open Jvm Jvm.ClassFile Sem Op Lib Jvm.Free Jvm.Stand Jvm.LawKit Jvm.RoadKit
/-! OWN KIT 1: a walk as a weakest precondition. 'Go pc L st h ss k n': from any state of this invocation that stands at pc with locals L, stack st, heap h, the writable addresses ss, k cells and n slots made so far, the run ends as Q says. -/
abbrev IV : Type := Program × Launch × Env × Room × State × MethodId × Array Value × List Frame × Method × Code
abbrev IV.p (K : IV) : Program := K.1
abbrev IV.l (K : IV) : Launch := K.2.1
abbrev IV.e (K : IV) : Env := K.2.2.1
abbrev IV.R (K : IV) : Room := K.2.2.2.1
abbrev IV.s (K : IV) : State := K.2.2.2.2.1
abbrev IV.m (K : IV) : MethodId := K.2.2.2.2.2.1
abbrev IV.args (K : IV) : Array Value := K.2.2.2.2.2.2.1
abbrev IV.below (K : IV) : List Frame := K.2.2.2.2.2.2.2.1
abbrev IV.meth (K : IV) : Method := K.2.2.2.2.2.2.2.2.1
abbrev IV.c (K : IV) : Code := K.2.2.2.2.2.2.2.2.2
def Sf (Z : State) (EL : List (String × Nat)) (n0 : Nat) (vm : Vm) (h : Heap) (ss0 : List Addr) (h0 : Heap) (ss : List Addr) : Prop := ∀ x ∈ ss, n0 ≤ x ∧ x < h.size ∧ Safe Z EL vm h x ∧ (x ∈ ss0 ∨ h0.size ≤ x)
def EndW (w : Bool) (s : State) (o : Outcome) (t : State) (L : List Loc) (k n : Nat) : Prop := match w with
  | true => ReturnedEndW s o t L k n
  | false => FrameEnd s o t L k n
def Here (w : Bool) (K : IV) (Z : State) (EL : List (String × Nat)) (n0 : Nat) (ss0 : List Addr) (T : State) (h : Heap) (ss : List Addr) (k n : Nat) : Prop :=
  ∃ (vm0 : Vm) (locs : List Loc) (k0 : Nat), Stand K.p K.l K.e K.R (K.s.setVm vm0) K.m K.args K.below K.meth K.c T locs k n ∧ Fr n0 locs ∧ T.heap = h ∧ K.s.Since vm0 k0 ∧ k0 ≤ h.size ∧ Z.Warmed39 vm0 ∧ (w = false → vm0 = K.s.vm) ∧ CHr Z EL K.s.vm K.s.heap vm0 h ∧ Sf Z EL n0 vm0 h ss0 K.s.heap ss ∧ Old Z n0 h ∧ Keep K.s.heap h ss0
def Fns (w : Bool) (K : IV) (Z : State) (EL : List (String × Nat)) (n0 : Nat) (ss0 : List Addr) (Q : Option Value → Heap → List Addr → Prop) (u : State) : Prop :=
  ∃ (t : State) (v : Option Value) (L : List Loc) (gs : List Addr), Steps K.p.tables K.e K.below u t ∧ t.status = .running ∧ Ended t K.below (.returned v) ∧ Q v t.heap gs ∧ Fr n0 L ∧ CHr Z EL K.s.vm K.s.heap t.vm t.heap ∧ Keep K.s.heap t.heap ss0 ∧ Sf Z EL n0 t.vm t.heap ss0 K.s.heap gs ∧ Old Z n0 t.heap ∧ EndW w K.s (.returned v) t L K.R.cells K.R.slots
def Go (w : Bool) (K : IV) (Z : State) (EL : List (String × Nat)) (n0 : Nat) (ss0 : List Addr) (Q : Option Value → Heap → List Addr → Prop) (pc : Nat) (L : Array Slot) (st : List Value) (h : Heap) (ss : List Addr) (k n : Nat) : Prop :=
  ∀ T, Here w K Z EL n0 ss0 T h ss k n → Fns w K Z EL n0 ss0 Q (T.setTop (mkF K.m pc L st))
def Cx (w : Bool) (K : IV) (Z : State) (a0 : Array Value) (EL : List (String × Nat)) (own : String) (code : ByteArray) (ml : Nat) (rt : Option FieldType) (mn : String) (R : Room) : Prop :=
  K.p.tables.exec = Jvm.exec ∧ K.c.code = code ∧ K.c.maxLocals = ml ∧ K.s.vm.findClass own = some K.m.cls ∧ K.meth.sig.returnType = rt ∧ K.meth.locks = false ∧ K.meth.name = mn ∧ K.R = R ∧ EW Z a0 EL ∧ (w = false → EL = [])
abbrev Rm (f c s l : Nat) : Room := { frames := f, cells := c, slots := s, locals := l }
def Con (w : Bool) (Z : State) (EL : List (String × Nat)) (n0 : Nat) (y : MethodName) (bytes : ByteArray) (ml : Nat) (rt : Option FieldType) (R : Room) (as : List Value) (h0 : Heap) (ss0 : List Addr) (Q : Option Value → Heap → List Addr → Prop) : Prop :=
  ∀ (l : Launch) (ws : List Cond), MetFree l y (head1 (Cond.code y bytes ml rt :: ws) R) (fun a U => a = as.toArray ∧ Z.Warmed39 U.vm ∧ U.heap = h0 ∧ CHv Z EL U.vm h0 ∧ ∀ x ∈ ss0, n0 ≤ x ∧ x < h0.size ∧ Safe Z EL U.vm h0 x) (fun _ _ _ _ _ => True)
    (fun _ U o U' => ∃ (v : Option Value) (L : List Loc) (gs : List Addr), o = .returned v ∧ Q v U'.heap gs ∧ Fr n0 L ∧ CHr Z EL U.vm h0 U'.vm U'.heap ∧ Keep h0 U'.heap ss0 ∧ Sf Z EL n0 U'.vm U'.heap ss0 h0 gs ∧ Old Z n0 U'.heap ∧ EndW w U o U' L R.cells R.slots)
theorem dle {a b : Nat} (h : Nat.ble a b = true) : a ≤ b := Nat.le_of_ble_eq_true h
theorem dlt {a b : Nat} (h : Nat.ble (a + 1) b = true) : a < b := Nat.le_of_ble_eq_true h
section Kit
variable {w : Bool} {K : IV} {Z : State} {a0 : Array Value} {EL : List (String × Nat)} {n0 : Nat} {ss0 ss : List Addr} {Q : Option Value → Heap → List Addr → Prop} {pc pc' pcT : Nat} {L L' : Array Slot} {st st' : List Value} {h h' : Heap} {k n : Nat} {own : String} {code : ByteArray} {ml : Nat} {rt : Option FieldType} {mn : String} {R : Room}
theorem chr_nil {vm vm' : Vm} (q : h.size ≤ h'.size) : CHr Z [] vm h vm' h' := ⟨fun _ hp => absurd hp List.not_mem_nil, q, fun y ⟨p, hp, _⟩ => absurd hp List.not_mem_nil⟩
theorem Fns.steps {u u' : State} (hs : ∀ t, Steps K.p.tables K.e K.below u' t → Steps K.p.tables K.e K.below u t) (F : Fns w K Z EL n0 ss0 Q u') : Fns w K Z EL n0 ss0 Q u := by
  obtain ⟨t, v, L, gs, h1, r⟩ := F
  exact ⟨t, v, L, gs, hs t h1, r⟩
theorem Go.plain (hs : ∀ {T : State}, At T K.m K.c K.below → ∀ t, Steps K.p.tables K.e K.below (T.setTop (mkF K.m pc' L' st')) t → Steps K.p.tables K.e K.below (T.setTop (mkF K.m pc L st)) t) (G : Go w K Z EL n0 ss0 Q pc' L' st' h ss k n) : Go w K Z EL n0 ss0 Q pc L st h ss k n := by
  intro T H
  have H' := H
  obtain ⟨vm0, locs, k0, X, -⟩ := H
  exact Fns.steps (hs X.here) (G T H')
theorem fcl {vm0 : Vm} {k0 : Nat} (C : Cx w K Z a0 EL own code ml rt mn R) (hS : K.s.Since vm0 k0) : vm0.findClass own = some K.m.cls := by
  rw [hS.1.alike.findClass]; exact C.2.2.2.1
/-- a step that moves the tables alone -/
theorem Go.same (C : Cx w K Z a0 EL own code ml rt mn R) (hs : ∀ {T : State} {vm0 : Vm} {locs : List Loc}, Stand K.p K.l K.e K.R (K.s.setVm vm0) K.m K.args K.below K.meth K.c T locs k n → T.heap = h → Z.Warmed39 (K.s.setVm vm0).vm → (K.s.setVm vm0).vm.findClass own = some K.m.cls → Ext Z.heap h →
      ∃ T', Stand K.p K.l K.e K.R (K.s.setVm vm0) K.m K.args K.below K.meth K.c T' locs k n ∧ T'.heap = h ∧ ∀ t, Steps K.p.tables K.e K.below (T'.setTop (mkF K.m pc' L' st')) t → Steps K.p.tables K.e K.below (T.setTop (mkF K.m pc L st)) t)
    (G : Go w K Z EL n0 ss0 Q pc' L' st' h ss k n) : Go w K Z EL n0 ss0 Q pc L st h ss k n := by
  intro T H
  obtain ⟨vm0, locs, k0, X, N, eT, hS, hk, hZ, hv, hC, hF, hO, hK⟩ := H
  obtain ⟨T', X', eT', st'⟩ := hs X eT hZ (fcl C hS) hO.2
  exact Fns.steps st' (G T' ⟨vm0, locs, k0, X', N, eT', hS, hk, hZ, hv, hC, hF, hO, hK⟩)
theorem Sf.ext {vm : Vm} {h0 : Heap} (E : Ext h h') (H : CHv Z EL vm h) (S : Sf Z EL n0 vm h ss0 h0 ss) : Sf Z EL n0 vm h' ss0 h0 ss := fun x hx => by
  obtain ⟨a, b, c, d⟩ := S x hx
  exact ⟨a, Nat.lt_of_lt_of_le b E.1, Safe.ext E H c, d⟩
/-- a step that makes one cell (or more) at the heap's end, the first at h.size -/
theorem Go.grow (C : Cx w K Z a0 EL own code ml rt mn R) {dk dn : Nat} {P : Heap → Prop} (hsz : ∀ h', P h' → h.size < h'.size) (hs : ∀ {T : State} {vm0 : Vm} {locs : List Loc}, Stand K.p K.l K.e K.R (K.s.setVm vm0) K.m K.args K.below K.meth K.c T locs k n → T.heap = h → Z.Warmed39 (K.s.setVm vm0).vm → (K.s.setVm vm0).vm.findClass own = some K.m.cls →
      ∃ T' h', Stand K.p K.l K.e K.R (K.s.setVm vm0) K.m K.args K.below K.meth K.c T' locs (k + dk) (n + dn) ∧ T'.heap = h' ∧ Ext h h' ∧ P h' ∧ ∀ t, Steps K.p.tables K.e K.below (T'.setTop (mkF K.m pc' L' st')) t → Steps K.p.tables K.e K.below (T.setTop (mkF K.m pc L st)) t)
    (G : ∀ h', Keep h h' [] → h.size < h'.size → n0 ≤ h.size → P h' → Go w K Z EL n0 ss0 Q pc' L' st' h' (h.size :: ss) (k + dk) (n + dn)) : Go w K Z EL n0 ss0 Q pc L st h ss k n := by
  intro T H
  obtain ⟨vm0, locs, k0, X, N, eT, hS, hk, hZ, hv, hC, hF, hO, hK⟩ := H
  obtain ⟨T', h', X', eT', E, hP, st'⟩ := hs X eT hZ (fcl C hS)
  have hn0 : n0 ≤ h.size := hO.1 ▸ hO.2.1
  refine Fns.steps st' (G h' ((Keep.refl h []).ext E) (hsz _ hP) hn0 hP T' ⟨vm0, locs, k0, X', N, eT', hS, Nat.le_trans hk E.1, hZ, hv, hC.trans (CHr.ext E hC.1), ?_, hO.ext E, hK.ext E⟩)
  intro x hx
  rcases List.mem_cons.mp hx with rfl | hx
  · exact ⟨hn0, hsz _ hP, Safe.ext E hC.1 (Safe.new (Nat.le_refl _)), Or.inr hK.1⟩
  · exact hF.ext E hC.1 x hx
/-- a step that writes one slot of a writable cell -/
theorem Go.write (C : Cx w K Z a0 EL own code ml rt mn R) {a : Addr} {sl : Nat} {v : Value} (ha : a ∈ ss) (hs : ∀ {T : State} {vm0 : Vm} {locs : List Loc}, Stand K.p K.l K.e K.R (K.s.setVm vm0) K.m K.args K.below K.meth K.c T locs k n → T.heap = h → Z.Warmed39 (K.s.setVm vm0).vm → (K.s.setVm vm0).vm.findClass own = some K.m.cls →
      ∃ T' h', Stand K.p K.l K.e K.R (K.s.setVm vm0) K.m K.args K.below K.meth K.c T' (locs ++ [⟨a, sl⟩]) k n ∧ T'.heap = h' ∧ Wr h h' a sl v ∧ ∀ t, Steps K.p.tables K.e K.below (T'.setTop (mkF K.m pc' L' st')) t → Steps K.p.tables K.e K.below (T.setTop (mkF K.m pc L st)) t)
    (G : ∀ h', Wr h h' a sl v → Go w K Z EL n0 ss0 Q pc' L' st' h' ss k n) : Go w K Z EL n0 ss0 Q pc L st h ss k n := by
  intro T H
  obtain ⟨vm0, locs, k0, X, N, eT, hS, hk, hZ, hv, hC, hF, hO, hK⟩ := H
  obtain ⟨T', h', X', eT', W, st'⟩ := hs X eT hZ (fcl C hS)
  obtain ⟨f1, f2, f3, f4⟩ := hF a ha
  refine Fns.steps st' (G h' W T' ⟨vm0, _, k0, X', Fr.snoc X' N f1, eT', hS, by rw [W.size]; exact hk, hZ, hv, hC.trans (CHr.wr W f3 hC.1), ?_, hO.wr W f1, hK.wr W f4⟩)
  intro x hx
  obtain ⟨g1, g2, g3, g4⟩ := hF x hx
  exact ⟨g1, by rw [W.size]; exact g2, Safe.wr W f3 hC.1 g3, g4⟩
/-- the end -/
theorem Go.leave (C : Cx w K Z a0 EL own code ml rt mn R) {v : Option Value} {gs : List Addr} (hv : rt = none → v = none) (hs : ∀ {T : State} {vm0 : Vm} {locs : List Loc}, Stand K.p K.l K.e K.R (K.s.setVm vm0) K.m K.args K.below K.meth K.c T locs k n → ∀ {fs : List Frame}, (∀ (f : JFrame) (acts : List Action), f.method = K.m → f.locked = none → f.entered = [] → (doReturn K.e (T.setTop f) acts v).1 = T.setFrames fs) →
      Steps K.p.tables K.e K.below (T.setTop (mkF K.m pc L st)) (T.setFrames fs)) (hQ : Q v h gs) (hg : ∀ x ∈ gs, x ∈ ss) (hc : k ≤ R.cells) (hn : n ≤ R.slots) : Go w K Z EL n0 ss0 Q pc L st h ss k n := by
  intro T H
  obtain ⟨vm0, locs, k0, X, N, eT, hS, hk, hZ, hw, hC, hF, hO, hK⟩ := H
  have hlk : K.meth.locks = false := C.2.2.2.2.2.1
  have hR : K.R = R := C.2.2.2.2.2.2.2.1
  have hrt : K.meth.sig.returnType = rt := C.2.2.2.2.1
  have A := CHv.at X hZ C.2.2.2.2.2.2.2.2.1 hC.1
  have hvm : ∀ fs, (T.setFrames fs).vm = T.vm := fun _ => rfl
  have hhp : ∀ fs, (T.setFrames fs).heap = h := fun _ => eT
  obtain ⟨fs, r1, r2, r3, r4, r5⟩ := X.leave (v := v) (fun q => hv (hrt ▸ q)) hlk
  refine ⟨T.setFrames fs, v, locs, gs, hs X r1, r2, r3, by rw [hhp]; exact hQ, N, by rw [hhp, hvm]; exact hC.trans A, by rw [hhp]; exact hK, ?_, by rw [hhp]; exact hO, ?_⟩
  · rw [hhp, hvm]
    intro x hx
    obtain ⟨g1, g2, g3, g4⟩ := hF x (hg x hx)
    exact ⟨g1, g2, A.safe g2 g3, g4⟩
  · cases w with
    | false =>
      obtain rfl := hw rfl
      exact ⟨⟨_, rfl⟩, r4, r5.mono (by rw [hR]; exact hc) (by rw [hR]; exact hn)⟩
    | true =>
      obtain ⟨a, b, c'⟩ := hS.ended (U := T.setFrames fs) r4 (by rw [hhp]; exact hk) r5
      exact ⟨⟨_, rfl⟩, a, b, c'.mono (by rw [hR]; exact hc) (by rw [hR]; exact hn)⟩
/-- a body's walk gives its contract -/
theorem Con.of {y : MethodName} {bytes : ByteArray} {as : List Value} {h0 : Heap} {L0 : Array Slot} (hpn : plainName y.cls = true) (hE : EW Z a0 EL) (hwE : w = false → EL = []) (hO : Old Z n0 h0) (hef : ∀ m, entryFrame m as.toArray ml = mkF m 0 L0 [])
    (B : ∀ K : IV, Cx w K Z a0 EL y.cls bytes ml rt y.name R → K.s.heap = h0 → Go w K Z EL n0 ss0 Q 0 L0 [] h0 ss0 0 0) : Con w Z EL n0 y bytes ml rt R as h0 ss0 Q := by
  intro l ws
  refine MetFree.of_bodySF (plainFor_of_name hpn) hisR ?_
  intro p e s m args below meth c s₁ Bd hml0 hP hK
  obtain ⟨rfl, hZ, hh, hCH, hss⟩ := hP
  have X0 : Stand p l e R s m as.toArray below meth c s₁ [] 0 0 := Stand.of_body Bd
  have e0 : s₁.heap = h0 := by rw [← hh, Bd.state]; rfl
  obtain ⟨t, v, L, gs, r1, r2, r3, r4, r5, r6, r7, r8, r9, r10⟩ := B (p, l, e, R, s, m, as.toArray, below, meth, c)
    ⟨Bd.exec, Bd.bytes, hml0, findClass_of_methodNamed Bd.named, Bd.returns, BodyLoose.notSynchronized Bd, (name_of_methodNamed Bd.named Bd.method).1, rfl, hE, hwE⟩ hh s₁
    ⟨s.vm, [], s.heap.size, X0, Fr.nil n0, e0, State.WarmedH.since (State.WarmedH.refl s) _, by rw [hh]; exact Nat.le_refl _, hZ, fun _ => rfl, by show CHr Z EL s.vm s.heap s.vm h0; rw [hh]; exact CHr.refl hCH, fun x hx => ⟨(hss x hx).1, (hss x hx).2.1, (hss x hx).2.2, Or.inl hx⟩, hO, by show Keep s.heap h0 ss0; rw [hh]; exact Keep.refl _ _⟩
  refine ⟨t, _, castTop (hef m) r1, r2, r3, v, L, gs, rfl, r4, r5, ?_, ?_, ?_, r9, r10⟩
  · rw [← hh]; exact r6
  · rw [← hh]; exact r7
  · rw [← hh]; exact r8
end Kit
end Jvm.Own
namespace Jvm.Own
open Jvm Jvm.ClassFile Sem Op Lib Jvm.Free Jvm.Stand Jvm.LawKit Jvm.RoadKit
def Dc (code : ByteArray) (pc : Nat) (i : Instr) (len pc' : Nat) : Prop := decode code pc = .ok (i, len) ∧ pc + len = pc'
def Db (code : ByteArray) (pc : Nat) (i : Instr) (len pc' : Nat) (o : Int) (pcT : Nat) : Prop := decode code pc = .ok (i, len) ∧ pc + len = pc' ∧ 0 ≤ (pc : Int) + o ∧ ((pc : Int) + o).toNat = pcT
/-- Java's x >>> y -/
def ushr (x y : Int32) : Int32 := (x.toUInt32 >>> (y &&& 31).toUInt32).toInt32
def ushrL (x : Int64) (y : Int32) : Int64 := (x.toUInt64 >>> (y &&& 0x3f).toInt64.toUInt64).toInt64
section Ops
variable {w : Bool} {K : IV} {Z : State} {a0 : Array Value} {EL : List (String × Nat)} {n0 : Nat} {ss0 ss : List Addr} {Q : Option Value → Heap → List Addr → Prop} {pc pc' pcT : Nat} {L L' : Array Slot} {st st' : List Value} {h h' : Heap} {k n : Nat} {own : String} {code : ByteArray} {ml : Nat} {rt : Option FieldType} {mn : String} {rf rc rs rl : Nat}
theorem irem_mod (x y : Int32) : x - (x / y) * y = x % y := by
  apply Int32.toInt_inj.mp
  have h1 := Int32.le_toInt (x % y)
  have h2 := Int32.toInt_lt (x % y)
  rw [Int32.toInt_sub, Int32.toInt_mul, Int32.toInt_div, Int.bmod_mul_bmod, Int.sub_bmod_bmod, Int.mul_comm (x.toInt.tdiv y.toInt), ← Int.tmod_def, ← Int32.toInt_mod]
  exact Int.bmod_eq_of_le_mul_two (by omega) (by omega)
theorem iadd (C : Cx w K Z a0 EL own code ml rt mn (Rm rf rc rs rl)) {x y : Int32} (d : Dc code pc .iadd 1 pc')  (G : Go w K Z EL n0 ss0 Q pc' L (.int (x + y) :: st) h ss k n) : Go w K Z EL n0 ss0 Q pc L (.int y :: .int x :: st) h ss k n := by
  obtain ⟨d1, rfl⟩ := d
  exact Go.plain (fun X t r => XS.iadd X C.1 rfl (hb C.2.1 d1) rfl r) G
theorem isub (C : Cx w K Z a0 EL own code ml rt mn (Rm rf rc rs rl)) {x y : Int32} (d : Dc code pc .isub 1 pc')  (G : Go w K Z EL n0 ss0 Q pc' L (.int (x - y) :: st) h ss k n) : Go w K Z EL n0 ss0 Q pc L (.int y :: .int x :: st) h ss k n := by
  obtain ⟨d1, rfl⟩ := d
  exact Go.plain (fun X t r => XS.isub X C.1 rfl (hb C.2.1 d1) rfl r) G
theorem imul (C : Cx w K Z a0 EL own code ml rt mn (Rm rf rc rs rl)) {x y : Int32} (d : Dc code pc .imul 1 pc')  (G : Go w K Z EL n0 ss0 Q pc' L (.int (x * y) :: st) h ss k n) : Go w K Z EL n0 ss0 Q pc L (.int y :: .int x :: st) h ss k n := by
  obtain ⟨d1, rfl⟩ := d
  exact Go.plain (fun X t r => XS.imul X C.1 rfl (hb C.2.1 d1) rfl r) G
theorem iand (C : Cx w K Z a0 EL own code ml rt mn (Rm rf rc rs rl)) {x y : Int32} (d : Dc code pc .iand 1 pc')  (G : Go w K Z EL n0 ss0 Q pc' L (.int (x &&& y) :: st) h ss k n) : Go w K Z EL n0 ss0 Q pc L (.int y :: .int x :: st) h ss k n := by
  obtain ⟨d1, rfl⟩ := d
  exact Go.plain (fun X t r => XS.iand X C.1 rfl (hb C.2.1 d1) rfl r) G
theorem ior (C : Cx w K Z a0 EL own code ml rt mn (Rm rf rc rs rl)) {x y : Int32} (d : Dc code pc .ior 1 pc')  (G : Go w K Z EL n0 ss0 Q pc' L (.int (x ||| y) :: st) h ss k n) : Go w K Z EL n0 ss0 Q pc L (.int y :: .int x :: st) h ss k n := by
  obtain ⟨d1, rfl⟩ := d
  exact Go.plain (fun X t r => XS.ior X C.1 rfl (hb C.2.1 d1) rfl r) G
theorem ixor (C : Cx w K Z a0 EL own code ml rt mn (Rm rf rc rs rl)) {x y : Int32} (d : Dc code pc .ixor 1 pc')  (G : Go w K Z EL n0 ss0 Q pc' L (.int (x ^^^ y) :: st) h ss k n) : Go w K Z EL n0 ss0 Q pc L (.int y :: .int x :: st) h ss k n := by
  obtain ⟨d1, rfl⟩ := d
  exact Go.plain (fun X t r => XS.ixor X C.1 rfl (hb C.2.1 d1) rfl r) G
theorem ishl (C : Cx w K Z a0 EL own code ml rt mn (Rm rf rc rs rl)) {x y : Int32} (d : Dc code pc .ishl 1 pc')  (G : Go w K Z EL n0 ss0 Q pc' L (.int (x <<< (y &&& 31)) :: st) h ss k n) : Go w K Z EL n0 ss0 Q pc L (.int y :: .int x :: st) h ss k n := by
  obtain ⟨d1, rfl⟩ := d
  exact Go.plain (fun X t r => XS.ishl X C.1 rfl (hb C.2.1 d1) rfl r) G
theorem ishr (C : Cx w K Z a0 EL own code ml rt mn (Rm rf rc rs rl)) {x y : Int32} (d : Dc code pc .ishr 1 pc')  (G : Go w K Z EL n0 ss0 Q pc' L (.int (x >>> (y &&& 31)) :: st) h ss k n) : Go w K Z EL n0 ss0 Q pc L (.int y :: .int x :: st) h ss k n := by
  obtain ⟨d1, rfl⟩ := d
  exact Go.plain (fun X t r => XS.ishr X C.1 rfl (hb C.2.1 d1) rfl r) G
theorem iushr (C : Cx w K Z a0 EL own code ml rt mn (Rm rf rc rs rl)) {x y : Int32} (d : Dc code pc .iushr 1 pc')  (G : Go w K Z EL n0 ss0 Q pc' L (.int (ushr x y) :: st) h ss k n) : Go w K Z EL n0 ss0 Q pc L (.int y :: .int x :: st) h ss k n := by
  obtain ⟨d1, rfl⟩ := d
  exact Go.plain (fun X t r => XS.iushr X C.1 rfl (hb C.2.1 d1) rfl r) G
theorem ladd (C : Cx w K Z a0 EL own code ml rt mn (Rm rf rc rs rl)) {x y : Int64} (d : Dc code pc .ladd 1 pc')  (G : Go w K Z EL n0 ss0 Q pc' L (.long (x + y) :: st) h ss k n) : Go w K Z EL n0 ss0 Q pc L (.long y :: .long x :: st) h ss k n := by
  obtain ⟨d1, rfl⟩ := d
  exact Go.plain (fun X t r => XS.ladd X C.1 rfl (hb C.2.1 d1) rfl r) G
theorem lsub (C : Cx w K Z a0 EL own code ml rt mn (Rm rf rc rs rl)) {x y : Int64} (d : Dc code pc .lsub 1 pc')  (G : Go w K Z EL n0 ss0 Q pc' L (.long (x - y) :: st) h ss k n) : Go w K Z EL n0 ss0 Q pc L (.long y :: .long x :: st) h ss k n := by
  obtain ⟨d1, rfl⟩ := d
  exact Go.plain (fun X t r => XS.lsub X C.1 rfl (hb C.2.1 d1) rfl r) G
theorem lmul (C : Cx w K Z a0 EL own code ml rt mn (Rm rf rc rs rl)) {x y : Int64} (d : Dc code pc .lmul 1 pc')  (G : Go w K Z EL n0 ss0 Q pc' L (.long (x * y) :: st) h ss k n) : Go w K Z EL n0 ss0 Q pc L (.long y :: .long x :: st) h ss k n := by
  obtain ⟨d1, rfl⟩ := d
  exact Go.plain (fun X t r => XS.lmul X C.1 rfl (hb C.2.1 d1) rfl r) G
theorem land (C : Cx w K Z a0 EL own code ml rt mn (Rm rf rc rs rl)) {x y : Int64} (d : Dc code pc .land 1 pc')  (G : Go w K Z EL n0 ss0 Q pc' L (.long (x &&& y) :: st) h ss k n) : Go w K Z EL n0 ss0 Q pc L (.long y :: .long x :: st) h ss k n := by
  obtain ⟨d1, rfl⟩ := d
  exact Go.plain (fun X t r => XS.land X C.1 rfl (hb C.2.1 d1) rfl r) G
theorem lor (C : Cx w K Z a0 EL own code ml rt mn (Rm rf rc rs rl)) {x y : Int64} (d : Dc code pc .lor 1 pc')  (G : Go w K Z EL n0 ss0 Q pc' L (.long (x ||| y) :: st) h ss k n) : Go w K Z EL n0 ss0 Q pc L (.long y :: .long x :: st) h ss k n := by
  obtain ⟨d1, rfl⟩ := d
  exact Go.plain (fun X t r => XS.lor X C.1 rfl (hb C.2.1 d1) rfl r) G
theorem lushr (C : Cx w K Z a0 EL own code ml rt mn (Rm rf rc rs rl)) {x : Int64} {y : Int32} (d : Dc code pc .lushr 1 pc')  (G : Go w K Z EL n0 ss0 Q pc' L (.long (ushrL x y) :: st) h ss k n) : Go w K Z EL n0 ss0 Q pc L (.int y :: .long x :: st) h ss k n := by
  obtain ⟨d1, rfl⟩ := d
  exact Go.plain (fun X t r => XS.lushr X C.1 rfl (hb C.2.1 d1) rfl r) G
theorem idiv (C : Cx w K Z a0 EL own code ml rt mn (Rm rf rc rs rl)) {x y : Int32} (d : Dc code pc .idiv 1 pc') (hy : y ≠ 0) (G : Go w K Z EL n0 ss0 Q pc' L (.int (x / y) :: st) h ss k n) : Go w K Z EL n0 ss0 Q pc L (.int y :: .int x :: st) h ss k n := by
  obtain ⟨d1, rfl⟩ := d
  exact Go.plain (fun X t r => XS.idiv X C.1 rfl (hb C.2.1 d1) rfl hy r) G
theorem irem (C : Cx w K Z a0 EL own code ml rt mn (Rm rf rc rs rl)) {x y : Int32} (d : Dc code pc .irem 1 pc') (hy : y ≠ 0) (G : Go w K Z EL n0 ss0 Q pc' L (.int (x % y) :: st) h ss k n) : Go w K Z EL n0 ss0 Q pc L (.int y :: .int x :: st) h ss k n := by
  obtain ⟨d1, rfl⟩ := d
  rw [← irem_mod] at G
  exact Go.plain (fun X t r => XS.irem X C.1 rfl (hb C.2.1 d1) rfl hy r) G
theorem lrem (C : Cx w K Z a0 EL own code ml rt mn (Rm rf rc rs rl)) {x y : Int64} (d : Dc code pc .lrem 1 pc') (hy : y ≠ 0) (G : Go w K Z EL n0 ss0 Q pc' L (.long (x % y) :: st) h ss k n) : Go w K Z EL n0 ss0 Q pc L (.long y :: .long x :: st) h ss k n := by
  obtain ⟨d1, rfl⟩ := d
  rw [← lrem_mod] at G
  exact Go.plain (fun X t r => XS.lrem X C.1 rfl (hb C.2.1 d1) rfl hy r) G
theorem lcmp (C : Cx w K Z a0 EL own code ml rt mn (Rm rf rc rs rl)) {x y : Int64} (d : Dc code pc .lcmp 1 pc')  (G : Go w K Z EL n0 ss0 Q pc' L (.int (lcmpW x y) :: st) h ss k n) : Go w K Z EL n0 ss0 Q pc L (.long y :: .long x :: st) h ss k n := by
  obtain ⟨d1, rfl⟩ := d
  exact Go.plain (fun X t r => XS.lcmp X C.1 rfl (hb C.2.1 d1) rfl r) G
theorem ineg (C : Cx w K Z a0 EL own code ml rt mn (Rm rf rc rs rl)) {x : Int32} (d : Dc code pc .ineg 1 pc')  (G : Go w K Z EL n0 ss0 Q pc' L (.int (-x) :: st) h ss k n) : Go w K Z EL n0 ss0 Q pc L (.int x :: st) h ss k n := by
  obtain ⟨d1, rfl⟩ := d
  exact Go.plain (fun X t r => XS.ineg X C.1 rfl (hb C.2.1 d1) rfl r) G
theorem l2i (C : Cx w K Z a0 EL own code ml rt mn (Rm rf rc rs rl)) {x : Int64} (d : Dc code pc .l2i 1 pc')  (G : Go w K Z EL n0 ss0 Q pc' L (.int x.toInt32 :: st) h ss k n) : Go w K Z EL n0 ss0 Q pc L (.long x :: st) h ss k n := by
  obtain ⟨d1, rfl⟩ := d
  exact Go.plain (fun X t r => XS.l2i X C.1 rfl (hb C.2.1 d1) rfl r) G
theorem i2l (C : Cx w K Z a0 EL own code ml rt mn (Rm rf rc rs rl)) {x : Int32} (d : Dc code pc .i2l 1 pc')  (G : Go w K Z EL n0 ss0 Q pc' L (.long x.toInt64 :: st) h ss k n) : Go w K Z EL n0 ss0 Q pc L (.int x :: st) h ss k n := by
  obtain ⟨d1, rfl⟩ := d
  exact Go.plain (fun X t r => XS.i2l X C.1 rfl (hb C.2.1 d1) rfl r) G
theorem i2c (C : Cx w K Z a0 EL own code ml rt mn (Rm rf rc rs rl)) {x : Int32} (d : Dc code pc .i2c 1 pc')  (G : Go w K Z EL n0 ss0 Q pc' L (.int (nar .char x) :: st) h ss k n) : Go w K Z EL n0 ss0 Q pc L (.int x :: st) h ss k n := by
  obtain ⟨d1, rfl⟩ := d
  exact Go.plain (fun X t r => XS.i2c X C.1 rfl (hb C.2.1 d1) rfl r) G
theorem i2b (C : Cx w K Z a0 EL own code ml rt mn (Rm rf rc rs rl)) {x : Int32} (d : Dc code pc .i2b 1 pc')  (G : Go w K Z EL n0 ss0 Q pc' L (.int (nar .byte x) :: st) h ss k n) : Go w K Z EL n0 ss0 Q pc L (.int x :: st) h ss k n := by
  obtain ⟨d1, rfl⟩ := d
  exact Go.plain (fun X t r => XS.i2b X C.1 rfl (hb C.2.1 d1) rfl r) G
theorem i2s (C : Cx w K Z a0 EL own code ml rt mn (Rm rf rc rs rl)) {x : Int32} (d : Dc code pc .i2s 1 pc')  (G : Go w K Z EL n0 ss0 Q pc' L (.int (nar .short x) :: st) h ss k n) : Go w K Z EL n0 ss0 Q pc L (.int x :: st) h ss k n := by
  obtain ⟨d1, rfl⟩ := d
  exact Go.plain (fun X t r => XS.i2s X C.1 rfl (hb C.2.1 d1) rfl r) G
theorem dup (C : Cx w K Z a0 EL own code ml rt mn (Rm rf rc rs rl)) {x : Value} (d : Dc code pc .dup 1 pc') (hc : x.category = 1) (G : Go w K Z EL n0 ss0 Q pc' L (x :: x :: st) h ss k n) : Go w K Z EL n0 ss0 Q pc L (x :: st) h ss k n := by
  obtain ⟨d1, rfl⟩ := d
  exact Go.plain (fun X t r => XS.dup X C.1 rfl (hb C.2.1 d1) rfl hc r) G
theorem pop (C : Cx w K Z a0 EL own code ml rt mn (Rm rf rc rs rl)) {x : Value} (d : Dc code pc .pop 1 pc') (hc : x.category = 1) (G : Go w K Z EL n0 ss0 Q pc' L st h ss k n) : Go w K Z EL n0 ss0 Q pc L (x :: st) h ss k n := by
  obtain ⟨d1, rfl⟩ := d
  exact Go.plain (fun X t r => XS.pop X C.1 rfl (hb C.2.1 d1) rfl hc r) G
theorem dupX1 (C : Cx w K Z a0 EL own code ml rt mn (Rm rf rc rs rl)) {x y : Value} (d : Dc code pc .dup_x1 1 pc') (hc : x.category = 1) (hc' : y.category = 1) (G : Go w K Z EL n0 ss0 Q pc' L (x :: y :: x :: st) h ss k n) : Go w K Z EL n0 ss0 Q pc L (x :: y :: st) h ss k n := by
  obtain ⟨d1, rfl⟩ := d
  exact Go.plain (fun X t r => XS.dupX1 X C.1 rfl (hb C.2.1 d1) rfl hc hc' r) G
theorem dup2 (C : Cx w K Z a0 EL own code ml rt mn (Rm rf rc rs rl)) {x y : Value} (d : Dc code pc .dup2 1 pc') (hc : x.category = 1) (hc' : y.category = 1) (G : Go w K Z EL n0 ss0 Q pc' L (x :: y :: x :: y :: st) h ss k n) : Go w K Z EL n0 ss0 Q pc L (x :: y :: st) h ss k n := by
  obtain ⟨d1, rfl⟩ := d
  exact Go.plain (fun X t r => XT.dup2 X C.1 rfl (hb C.2.1 d1) rfl hc hc' r) G
theorem aconstNull (C : Cx w K Z a0 EL own code ml rt mn (Rm rf rc rs rl))  (d : Dc code pc .aconst_null 1 pc')  (G : Go w K Z EL n0 ss0 Q pc' L (.null :: st) h ss k n) : Go w K Z EL n0 ss0 Q pc L st h ss k n := by
  obtain ⟨d1, rfl⟩ := d
  exact Go.plain (fun X t r => XS.aconstNull X C.1 rfl (hb C.2.1 d1)  r) G
theorem iconst (C : Cx w K Z a0 EL own code ml rt mn (Rm rf rc rs rl)) {i : Int} {v : Int32} (d : Dc code pc (.iconst i) 1 pc') (hv : Int32.ofInt i = v) (G : Go w K Z EL n0 ss0 Q pc' L (.int v :: st) h ss k n) : Go w K Z EL n0 ss0 Q pc L st h ss k n := by
  obtain ⟨d1, rfl⟩ := d
  subst hv
  exact Go.plain (fun X t r => XS.iconst X C.1 rfl (hb C.2.1 d1) r) G
theorem bipush (C : Cx w K Z a0 EL own code ml rt mn (Rm rf rc rs rl)) {i : Int} {v : Int32} (d : Dc code pc (.bipush i) 2 pc') (hv : (Int8.ofInt i).toInt32 = v) (G : Go w K Z EL n0 ss0 Q pc' L (.int v :: st) h ss k n) : Go w K Z EL n0 ss0 Q pc L st h ss k n := by
  obtain ⟨d1, rfl⟩ := d
  subst hv
  exact Go.plain (fun X t r => XS.bipush X C.1 rfl (hb C.2.1 d1) r) G
theorem sipush (C : Cx w K Z a0 EL own code ml rt mn (Rm rf rc rs rl)) {i : Int} {v : Int32} (d : Dc code pc (.sipush i) 3 pc') (hv : (Int16.ofInt i).toInt32 = v) (G : Go w K Z EL n0 ss0 Q pc' L (.int v :: st) h ss k n) : Go w K Z EL n0 ss0 Q pc L st h ss k n := by
  obtain ⟨d1, rfl⟩ := d
  subst hv
  exact Go.plain (fun X t r => XS.sipush X C.1 rfl (hb C.2.1 d1) r) G
theorem lconst (C : Cx w K Z a0 EL own code ml rt mn (Rm rf rc rs rl)) {i : Fin 2} {v : Int64} (d : Dc code pc (.lconst i) 1 pc') (hv : Int64.ofNat i = v) (G : Go w K Z EL n0 ss0 Q pc' L (.long v :: st) h ss k n) : Go w K Z EL n0 ss0 Q pc L st h ss k n := by
  obtain ⟨d1, rfl⟩ := d
  subst hv
  exact Go.plain (fun X t r => XS.lconst X C.1 rfl (hb C.2.1 d1) r) G
theorem iloadN (C : Cx w K Z a0 EL own code ml rt mn (Rm rf rc rs rl)) {j : Fin 4} {v : Int32} (d : Dc code pc (.iload_n j) 1 pc') (hl : L[j.val]? = some (.val (.int v))) (G : Go w K Z EL n0 ss0 Q pc' L (.int v :: st) h ss k n) : Go w K Z EL n0 ss0 Q pc L st h ss k n := by
  obtain ⟨d1, rfl⟩ := d
  exact Go.plain (fun X t r => XS.iloadN X C.1 rfl (hb C.2.1 d1) hl r) G
theorem iload (C : Cx w K Z a0 EL own code ml rt mn (Rm rf rc rs rl)) {j : Nat} {v : Int32} (d : Dc code pc (.iload j) 2 pc') (hl : L[j]? = some (.val (.int v))) (G : Go w K Z EL n0 ss0 Q pc' L (.int v :: st) h ss k n) : Go w K Z EL n0 ss0 Q pc L st h ss k n := by
  obtain ⟨d1, rfl⟩ := d
  exact Go.plain (fun X t r => XS.iload X C.1 rfl (hb C.2.1 d1) hl r) G
theorem lloadN (C : Cx w K Z a0 EL own code ml rt mn (Rm rf rc rs rl)) {j : Fin 4} {v : Int64} (d : Dc code pc (.lload_n j) 1 pc') (hl : L[j.val]? = some (.val (.long v))) (G : Go w K Z EL n0 ss0 Q pc' L (.long v :: st) h ss k n) : Go w K Z EL n0 ss0 Q pc L st h ss k n := by
  obtain ⟨d1, rfl⟩ := d
  exact Go.plain (fun X t r => XS.lloadN X C.1 rfl (hb C.2.1 d1) hl r) G
theorem lload (C : Cx w K Z a0 EL own code ml rt mn (Rm rf rc rs rl)) {j : Nat} {v : Int64} (d : Dc code pc (.lload j) 2 pc') (hl : L[j]? = some (.val (.long v))) (G : Go w K Z EL n0 ss0 Q pc' L (.long v :: st) h ss k n) : Go w K Z EL n0 ss0 Q pc L st h ss k n := by
  obtain ⟨d1, rfl⟩ := d
  exact Go.plain (fun X t r => XS.lload X C.1 rfl (hb C.2.1 d1) hl r) G
theorem aloadN (C : Cx w K Z a0 EL own code ml rt mn (Rm rf rc rs rl)) {j : Fin 4} {v : Value} (d : Dc code pc (.aload_n j) 1 pc') (hl : L[j.val]? = some (.val v)) (hv : v.isRef = true) (G : Go w K Z EL n0 ss0 Q pc' L (v :: st) h ss k n) : Go w K Z EL n0 ss0 Q pc L st h ss k n := by
  obtain ⟨d1, rfl⟩ := d
  exact Go.plain (fun X t r => XS.aloadN X C.1 rfl (hb C.2.1 d1) hl hv r) G
theorem aload (C : Cx w K Z a0 EL own code ml rt mn (Rm rf rc rs rl)) {j : Nat} {v : Value} (d : Dc code pc (.aload j) 2 pc') (hl : L[j]? = some (.val v)) (hv : v.isRef = true) (G : Go w K Z EL n0 ss0 Q pc' L (v :: st) h ss k n) : Go w K Z EL n0 ss0 Q pc L st h ss k n := by
  obtain ⟨d1, rfl⟩ := d
  exact Go.plain (fun X t r => XS.aload X C.1 rfl (hb C.2.1 d1) hl hv r) G
theorem istoreN (C : Cx w K Z a0 EL own code ml rt mn (Rm rf rc rs rl)) {j : Fin 4} {v : Int32} (d : Dc code pc (.istore_n j) 1 pc') (hl : storeLocals L j (.int v) = some L') (G : Go w K Z EL n0 ss0 Q pc' L' st h ss k n) : Go w K Z EL n0 ss0 Q pc L (.int v :: st) h ss k n := by
  obtain ⟨d1, rfl⟩ := d
  exact Go.plain (fun X t r => XS.istoreN X C.1 rfl (hb C.2.1 d1) rfl hl r) G
theorem istore (C : Cx w K Z a0 EL own code ml rt mn (Rm rf rc rs rl)) {j : Nat} {v : Int32} (d : Dc code pc (.istore j) 2 pc') (hl : storeLocals L j (.int v) = some L') (G : Go w K Z EL n0 ss0 Q pc' L' st h ss k n) : Go w K Z EL n0 ss0 Q pc L (.int v :: st) h ss k n := by
  obtain ⟨d1, rfl⟩ := d
  exact Go.plain (fun X t r => XS.istore X C.1 rfl (hb C.2.1 d1) rfl hl r) G
theorem lstoreN (C : Cx w K Z a0 EL own code ml rt mn (Rm rf rc rs rl)) {j : Fin 4} {v : Int64} (d : Dc code pc (.lstore_n j) 1 pc') (hl : storeLocals L j (.long v) = some L') (G : Go w K Z EL n0 ss0 Q pc' L' st h ss k n) : Go w K Z EL n0 ss0 Q pc L (.long v :: st) h ss k n := by
  obtain ⟨d1, rfl⟩ := d
  exact Go.plain (fun X t r => XS.lstoreN X C.1 rfl (hb C.2.1 d1) rfl hl r) G
theorem lstore (C : Cx w K Z a0 EL own code ml rt mn (Rm rf rc rs rl)) {j : Nat} {v : Int64} (d : Dc code pc (.lstore j) 2 pc') (hl : storeLocals L j (.long v) = some L') (G : Go w K Z EL n0 ss0 Q pc' L' st h ss k n) : Go w K Z EL n0 ss0 Q pc L (.long v :: st) h ss k n := by
  obtain ⟨d1, rfl⟩ := d
  exact Go.plain (fun X t r => XS.lstore X C.1 rfl (hb C.2.1 d1) rfl hl r) G
theorem astoreN (C : Cx w K Z a0 EL own code ml rt mn (Rm rf rc rs rl)) {j : Fin 4} {v : Value} (d : Dc code pc (.astore_n j) 1 pc') (hv : v.isRef = true) (hl : storeLocals L j v = some L') (G : Go w K Z EL n0 ss0 Q pc' L' st h ss k n) : Go w K Z EL n0 ss0 Q pc L (v :: st) h ss k n := by
  obtain ⟨d1, rfl⟩ := d
  exact Go.plain (fun X t r => XS.astoreN X C.1 rfl (hb C.2.1 d1) rfl hv hl r) G
theorem astore (C : Cx w K Z a0 EL own code ml rt mn (Rm rf rc rs rl)) {j : Nat} {v : Value} (d : Dc code pc (.astore j) 2 pc') (hv : v.isRef = true) (hl : storeLocals L j v = some L') (G : Go w K Z EL n0 ss0 Q pc' L' st h ss k n) : Go w K Z EL n0 ss0 Q pc L (v :: st) h ss k n := by
  obtain ⟨d1, rfl⟩ := d
  exact Go.plain (fun X t r => XS.astore X C.1 rfl (hb C.2.1 d1) rfl hv hl r) G
theorem iinc (C : Cx w K Z a0 EL own code ml rt mn (Rm rf rc rs rl)) {j : Nat} {cst : Int} {x y : Int32} (d : Dc code pc (.iinc j cst) 3 pc') (hl : L[j]? = some (.val (.int x))) (hy : x + Int32.ofInt cst = y) (hl' : storeLocals L j (.int y) = some L') (G : Go w K Z EL n0 ss0 Q pc' L' st h ss k n) : Go w K Z EL n0 ss0 Q pc L st h ss k n := by
  obtain ⟨d1, rfl⟩ := d
  subst hy
  exact Go.plain (fun X t r => XS.iinc X C.1 rfl (hb C.2.1 d1) hl hl' r) G
theorem goto_ (C : Cx w K Z a0 EL own code ml rt mn (Rm rf rc rs rl)) {o : Int} (d : Db code pc (.goto o) 3 pc' o pcT) (G : Go w K Z EL n0 ss0 Q pcT L st h ss k n) : Go w K Z EL n0 ss0 Q pc L st h ss k n := by
  obtain ⟨d1, rfl, d3, d4⟩ := d
  exact Go.plain (fun X t r => XS.goto X C.1 rfl rfl (hb C.2.1 d1) d3 d4 r) G
theorem cmp_eq {x y : Int32} (q : x = y) : if_icmp.holds .eq x y = true := by simp [if_icmp.holds, q]
theorem cmp_neq {x y : Int32} (q : ¬ x = y) : if_icmp.holds .eq x y = false := by simp [if_icmp.holds, q]
theorem cmp_ne {x y : Int32} (q : ¬ x = y) : if_icmp.holds .ne x y = true := by simp [if_icmp.holds, q]
theorem cmp_nne {x y : Int32} (q : ¬ ¬ x = y) : if_icmp.holds .ne x y = false := by simp [if_icmp.holds, Classical.not_not.mp q]
theorem cmp_lt {x y : Int32} (q : x < y) : if_icmp.holds .lt x y = true := by simp [if_icmp.holds, q]
theorem cmp_nlt {x y : Int32} (q : ¬ x < y) : if_icmp.holds .lt x y = false := by simp [if_icmp.holds, q]
theorem cmp_ge {x y : Int32} (q : ¬ x < y) : if_icmp.holds .ge x y = true := by simp [if_icmp.holds, Int32.not_lt.mp q]
theorem cmp_nge {x y : Int32} (q : ¬ ¬ x < y) : if_icmp.holds .ge x y = false := by simp [if_icmp.holds, Classical.not_not.mp q]
theorem cmp_gt {x y : Int32} (q : y < x) : if_icmp.holds .gt x y = true := by simp [if_icmp.holds, q]
theorem cmp_ngt {x y : Int32} (q : ¬ y < x) : if_icmp.holds .gt x y = false := by simp [if_icmp.holds, q]
theorem cmp_le {x y : Int32} (q : ¬ y < x) : if_icmp.holds .le x y = true := by simp [if_icmp.holds, Int32.not_lt.mp q]
theorem cmp_nle {x y : Int32} (q : ¬ ¬ y < x) : if_icmp.holds .le x y = false := by simp [if_icmp.holds, Classical.not_not.mp q]
theorem icmp_eq (C : Cx w K Z a0 EL own code ml rt mn (Rm rf rc rs rl)) {x y : Int32} {o : Int} (d : Db code pc (.if_icmp .eq o) 3 pc' o pcT) (G1 : x = y → Go w K Z EL n0 ss0 Q pcT L st h ss k n) (G2 : ¬ x = y → Go w K Z EL n0 ss0 Q pc' L st h ss k n) : Go w K Z EL n0 ss0 Q pc L (.int y :: .int x :: st) h ss k n := by
  obtain ⟨d1, rfl, d3, d4⟩ := d
  by_cases q : x = y
  · exact Go.plain (fun X t r => XS.icmpYes X C.1 rfl rfl (hb C.2.1 d1) rfl (cmp_eq q) d3 d4 r) (G1 q)
  · exact Go.plain (fun X t r => XS.icmpNo X C.1 rfl (hb C.2.1 d1) rfl (cmp_neq q) r) (G2 q)
theorem if_eq (C : Cx w K Z a0 EL own code ml rt mn (Rm rf rc rs rl)) {x : Int32} {o : Int} (d : Db code pc (.ifCond .eq o) 3 pc' o pcT) (G1 : x = (0 : Int32) → Go w K Z EL n0 ss0 Q pcT L st h ss k n) (G2 : ¬ x = (0 : Int32) → Go w K Z EL n0 ss0 Q pc' L st h ss k n) : Go w K Z EL n0 ss0 Q pc L (.int x :: st) h ss k n := by
  obtain ⟨d1, rfl, d3, d4⟩ := d
  by_cases q : x = (0 : Int32)
  · exact Go.plain (fun X t r => XS.ifYes X C.1 rfl rfl (hb C.2.1 d1) rfl ((if0 _ _).trans (cmp_eq q)) d3 d4 r) (G1 q)
  · exact Go.plain (fun X t r => XS.ifNo X C.1 rfl (hb C.2.1 d1) rfl ((if0 _ _).trans (cmp_neq q)) r) (G2 q)
theorem icmp_ne (C : Cx w K Z a0 EL own code ml rt mn (Rm rf rc rs rl)) {x y : Int32} {o : Int} (d : Db code pc (.if_icmp .ne o) 3 pc' o pcT) (G1 : ¬ x = y → Go w K Z EL n0 ss0 Q pcT L st h ss k n) (G2 : x = y → Go w K Z EL n0 ss0 Q pc' L st h ss k n) : Go w K Z EL n0 ss0 Q pc L (.int y :: .int x :: st) h ss k n := by
  obtain ⟨d1, rfl, d3, d4⟩ := d
  by_cases q : ¬ x = y
  · exact Go.plain (fun X t r => XS.icmpYes X C.1 rfl rfl (hb C.2.1 d1) rfl (cmp_ne q) d3 d4 r) (G1 q)
  · exact Go.plain (fun X t r => XS.icmpNo X C.1 rfl (hb C.2.1 d1) rfl (cmp_nne q) r) (G2 (Classical.not_not.mp q))
theorem if_ne (C : Cx w K Z a0 EL own code ml rt mn (Rm rf rc rs rl)) {x : Int32} {o : Int} (d : Db code pc (.ifCond .ne o) 3 pc' o pcT) (G1 : ¬ x = (0 : Int32) → Go w K Z EL n0 ss0 Q pcT L st h ss k n) (G2 : x = (0 : Int32) → Go w K Z EL n0 ss0 Q pc' L st h ss k n) : Go w K Z EL n0 ss0 Q pc L (.int x :: st) h ss k n := by
  obtain ⟨d1, rfl, d3, d4⟩ := d
  by_cases q : ¬ x = (0 : Int32)
  · exact Go.plain (fun X t r => XS.ifYes X C.1 rfl rfl (hb C.2.1 d1) rfl ((if0 _ _).trans (cmp_ne q)) d3 d4 r) (G1 q)
  · exact Go.plain (fun X t r => XS.ifNo X C.1 rfl (hb C.2.1 d1) rfl ((if0 _ _).trans (cmp_nne q)) r) (G2 (Classical.not_not.mp q))
theorem icmp_lt (C : Cx w K Z a0 EL own code ml rt mn (Rm rf rc rs rl)) {x y : Int32} {o : Int} (d : Db code pc (.if_icmp .lt o) 3 pc' o pcT) (G1 : x < y → Go w K Z EL n0 ss0 Q pcT L st h ss k n) (G2 : ¬ x < y → Go w K Z EL n0 ss0 Q pc' L st h ss k n) : Go w K Z EL n0 ss0 Q pc L (.int y :: .int x :: st) h ss k n := by
  obtain ⟨d1, rfl, d3, d4⟩ := d
  by_cases q : x < y
  · exact Go.plain (fun X t r => XS.icmpYes X C.1 rfl rfl (hb C.2.1 d1) rfl (cmp_lt q) d3 d4 r) (G1 q)
  · exact Go.plain (fun X t r => XS.icmpNo X C.1 rfl (hb C.2.1 d1) rfl (cmp_nlt q) r) (G2 q)
theorem if_lt (C : Cx w K Z a0 EL own code ml rt mn (Rm rf rc rs rl)) {x : Int32} {o : Int} (d : Db code pc (.ifCond .lt o) 3 pc' o pcT) (G1 : x < (0 : Int32) → Go w K Z EL n0 ss0 Q pcT L st h ss k n) (G2 : ¬ x < (0 : Int32) → Go w K Z EL n0 ss0 Q pc' L st h ss k n) : Go w K Z EL n0 ss0 Q pc L (.int x :: st) h ss k n := by
  obtain ⟨d1, rfl, d3, d4⟩ := d
  by_cases q : x < (0 : Int32)
  · exact Go.plain (fun X t r => XS.ifYes X C.1 rfl rfl (hb C.2.1 d1) rfl ((if0 _ _).trans (cmp_lt q)) d3 d4 r) (G1 q)
  · exact Go.plain (fun X t r => XS.ifNo X C.1 rfl (hb C.2.1 d1) rfl ((if0 _ _).trans (cmp_nlt q)) r) (G2 q)
theorem icmp_ge (C : Cx w K Z a0 EL own code ml rt mn (Rm rf rc rs rl)) {x y : Int32} {o : Int} (d : Db code pc (.if_icmp .ge o) 3 pc' o pcT) (G1 : ¬ x < y → Go w K Z EL n0 ss0 Q pcT L st h ss k n) (G2 : x < y → Go w K Z EL n0 ss0 Q pc' L st h ss k n) : Go w K Z EL n0 ss0 Q pc L (.int y :: .int x :: st) h ss k n := by
  obtain ⟨d1, rfl, d3, d4⟩ := d
  by_cases q : ¬ x < y
  · exact Go.plain (fun X t r => XS.icmpYes X C.1 rfl rfl (hb C.2.1 d1) rfl (cmp_ge q) d3 d4 r) (G1 q)
  · exact Go.plain (fun X t r => XS.icmpNo X C.1 rfl (hb C.2.1 d1) rfl (cmp_nge q) r) (G2 (Classical.not_not.mp q))
theorem if_ge (C : Cx w K Z a0 EL own code ml rt mn (Rm rf rc rs rl)) {x : Int32} {o : Int} (d : Db code pc (.ifCond .ge o) 3 pc' o pcT) (G1 : ¬ x < (0 : Int32) → Go w K Z EL n0 ss0 Q pcT L st h ss k n) (G2 : x < (0 : Int32) → Go w K Z EL n0 ss0 Q pc' L st h ss k n) : Go w K Z EL n0 ss0 Q pc L (.int x :: st) h ss k n := by
  obtain ⟨d1, rfl, d3, d4⟩ := d
  by_cases q : ¬ x < (0 : Int32)
  · exact Go.plain (fun X t r => XS.ifYes X C.1 rfl rfl (hb C.2.1 d1) rfl ((if0 _ _).trans (cmp_ge q)) d3 d4 r) (G1 q)
  · exact Go.plain (fun X t r => XS.ifNo X C.1 rfl (hb C.2.1 d1) rfl ((if0 _ _).trans (cmp_nge q)) r) (G2 (Classical.not_not.mp q))
theorem icmp_gt (C : Cx w K Z a0 EL own code ml rt mn (Rm rf rc rs rl)) {x y : Int32} {o : Int} (d : Db code pc (.if_icmp .gt o) 3 pc' o pcT) (G1 : y < x → Go w K Z EL n0 ss0 Q pcT L st h ss k n) (G2 : ¬ y < x → Go w K Z EL n0 ss0 Q pc' L st h ss k n) : Go w K Z EL n0 ss0 Q pc L (.int y :: .int x :: st) h ss k n := by
  obtain ⟨d1, rfl, d3, d4⟩ := d
  by_cases q : y < x
  · exact Go.plain (fun X t r => XS.icmpYes X C.1 rfl rfl (hb C.2.1 d1) rfl (cmp_gt q) d3 d4 r) (G1 q)
  · exact Go.plain (fun X t r => XS.icmpNo X C.1 rfl (hb C.2.1 d1) rfl (cmp_ngt q) r) (G2 q)
theorem if_gt (C : Cx w K Z a0 EL own code ml rt mn (Rm rf rc rs rl)) {x : Int32} {o : Int} (d : Db code pc (.ifCond .gt o) 3 pc' o pcT) (G1 : (0 : Int32) < x → Go w K Z EL n0 ss0 Q pcT L st h ss k n) (G2 : ¬ (0 : Int32) < x → Go w K Z EL n0 ss0 Q pc' L st h ss k n) : Go w K Z EL n0 ss0 Q pc L (.int x :: st) h ss k n := by
  obtain ⟨d1, rfl, d3, d4⟩ := d
  by_cases q : (0 : Int32) < x
  · exact Go.plain (fun X t r => XS.ifYes X C.1 rfl rfl (hb C.2.1 d1) rfl ((if0 _ _).trans (cmp_gt q)) d3 d4 r) (G1 q)
  · exact Go.plain (fun X t r => XS.ifNo X C.1 rfl (hb C.2.1 d1) rfl ((if0 _ _).trans (cmp_ngt q)) r) (G2 q)
theorem icmp_le (C : Cx w K Z a0 EL own code ml rt mn (Rm rf rc rs rl)) {x y : Int32} {o : Int} (d : Db code pc (.if_icmp .le o) 3 pc' o pcT) (G1 : ¬ y < x → Go w K Z EL n0 ss0 Q pcT L st h ss k n) (G2 : y < x → Go w K Z EL n0 ss0 Q pc' L st h ss k n) : Go w K Z EL n0 ss0 Q pc L (.int y :: .int x :: st) h ss k n := by
  obtain ⟨d1, rfl, d3, d4⟩ := d
  by_cases q : ¬ y < x
  · exact Go.plain (fun X t r => XS.icmpYes X C.1 rfl rfl (hb C.2.1 d1) rfl (cmp_le q) d3 d4 r) (G1 q)
  · exact Go.plain (fun X t r => XS.icmpNo X C.1 rfl (hb C.2.1 d1) rfl (cmp_nle q) r) (G2 (Classical.not_not.mp q))
theorem if_le (C : Cx w K Z a0 EL own code ml rt mn (Rm rf rc rs rl)) {x : Int32} {o : Int} (d : Db code pc (.ifCond .le o) 3 pc' o pcT) (G1 : ¬ (0 : Int32) < x → Go w K Z EL n0 ss0 Q pcT L st h ss k n) (G2 : (0 : Int32) < x → Go w K Z EL n0 ss0 Q pc' L st h ss k n) : Go w K Z EL n0 ss0 Q pc L (.int x :: st) h ss k n := by
  obtain ⟨d1, rfl, d3, d4⟩ := d
  by_cases q : ¬ (0 : Int32) < x
  · exact Go.plain (fun X t r => XS.ifYes X C.1 rfl rfl (hb C.2.1 d1) rfl ((if0 _ _).trans (cmp_le q)) d3 d4 r) (G1 q)
  · exact Go.plain (fun X t r => XS.ifNo X C.1 rfl (hb C.2.1 d1) rfl ((if0 _ _).trans (cmp_nle q)) r) (G2 (Classical.not_not.mp q))
theorem ifnullY (C : Cx w K Z a0 EL own code ml rt mn (Rm rf rc rs rl)) {b : Addr} {o : Int} (d : Db code pc (.ifnull o) 3 pc' o pcT) (G : Go w K Z EL n0 ss0 Q pcT L st h ss k n) : Go w K Z EL n0 ss0 Q pc L (.null :: st) h ss k n := by
  obtain ⟨d1, rfl, d3, d4⟩ := d
  exact Go.plain (fun X t r => XS.ifnullYes X C.1 rfl rfl (hb C.2.1 d1) rfl d3 d4 r) G
theorem ifnullN (C : Cx w K Z a0 EL own code ml rt mn (Rm rf rc rs rl)) {b : Addr} {o : Int} (d : Db code pc (.ifnull o) 3 pc' o pcT) (G : Go w K Z EL n0 ss0 Q pc' L st h ss k n) : Go w K Z EL n0 ss0 Q pc L (.ref b :: st) h ss k n := by
  obtain ⟨d1, rfl, d3, d4⟩ := d
  exact Go.plain (fun X t r => XS.ifnullNo X C.1 rfl (hb C.2.1 d1) rfl r) G
theorem ifnonnullY (C : Cx w K Z a0 EL own code ml rt mn (Rm rf rc rs rl)) {b : Addr} {o : Int} (d : Db code pc (.ifnonnull o) 3 pc' o pcT) (G : Go w K Z EL n0 ss0 Q pcT L st h ss k n) : Go w K Z EL n0 ss0 Q pc L (.ref b :: st) h ss k n := by
  obtain ⟨d1, rfl, d3, d4⟩ := d
  exact Go.plain (fun X t r => XS.ifnonnullYes X C.1 rfl rfl (hb C.2.1 d1) rfl d3 d4 r) G
theorem ifnonnullN (C : Cx w K Z a0 EL own code ml rt mn (Rm rf rc rs rl)) {b : Addr} {o : Int} (d : Db code pc (.ifnonnull o) 3 pc' o pcT) (G : Go w K Z EL n0 ss0 Q pc' L st h ss k n) : Go w K Z EL n0 ss0 Q pc L (.null :: st) h ss k n := by
  obtain ⟨d1, rfl, d3, d4⟩ := d
  exact Go.plain (fun X t r => XS.ifnonnullNo X C.1 rfl (hb C.2.1 d1) rfl r) G
theorem acmp_eq (C : Cx w K Z a0 EL own code ml rt mn (Rm rf rc rs rl)) {x y : Value} (hx : x.isRef = true) (hy : y.isRef = true) {o : Int} (d : Db code pc (.if_acmp .eq o) 3 pc' o pcT) (G1 : x = y → Go w K Z EL n0 ss0 Q pcT L st h ss k n) (G2 : ¬ x = y → Go w K Z EL n0 ss0 Q pc' L st h ss k n) : Go w K Z EL n0 ss0 Q pc L (y :: x :: st) h ss k n := by
  obtain ⟨d1, rfl, d3, d4⟩ := d
  by_cases q : x = y
  · refine Go.same C (fun X _ _ _ _ => ⟨_, X, ‹_›, fun t r => RoadKit.acmp (g := mkF K.m pc L (y :: x :: st)) X C.1 rfl hx hy (same := true) rfl (hb C.2.1 d1) rfl (decide_eq_true q) d3 (pc' := pcT) (by rw [← d4]; rfl) r⟩) (G1 q)
  · refine Go.same C (fun X _ _ _ _ => ⟨_, X, ‹_›, fun t r => RoadKit.acmp (g := mkF K.m pc L (y :: x :: st)) X C.1 rfl hx hy (same := false) rfl (hb C.2.1 d1) rfl (decide_eq_false q) d3 (pc' := pc + 3) rfl r⟩) (G2 q)
theorem acmp_ne (C : Cx w K Z a0 EL own code ml rt mn (Rm rf rc rs rl)) {x y : Value} (hx : x.isRef = true) (hy : y.isRef = true) {o : Int} (d : Db code pc (.if_acmp .ne o) 3 pc' o pcT) (G1 : ¬ x = y → Go w K Z EL n0 ss0 Q pcT L st h ss k n) (G2 : x = y → Go w K Z EL n0 ss0 Q pc' L st h ss k n) : Go w K Z EL n0 ss0 Q pc L (y :: x :: st) h ss k n := by
  obtain ⟨d1, rfl, d3, d4⟩ := d
  by_cases q : x = y
  · refine Go.same C (fun X _ _ _ _ => ⟨_, X, ‹_›, fun t r => RoadKit.acmp (g := mkF K.m pc L (y :: x :: st)) X C.1 rfl hx hy (same := true) rfl (hb C.2.1 d1) rfl (decide_eq_true q) d3 (pc' := pc + 3) rfl r⟩) (G2 q)
  · refine Go.same C (fun X _ _ _ _ => ⟨_, X, ‹_›, fun t r => RoadKit.acmp (g := mkF K.m pc L (y :: x :: st)) X C.1 rfl hx hy (same := false) rfl (hb C.2.1 d1) rfl (decide_eq_false q) d3 (pc' := pcT) (by rw [← d4]; rfl) r⟩) (G1 q)
theorem ldcI (C : Cx w K Z a0 EL own code ml rt mn (Rm rf rc rs rl)) {i : Nat} {v : Int32} (wc : (Cond.constant own i v).before a0 Z = true) (d : Dc code pc (.ldc i) 2 pc') (G : Go w K Z EL n0 ss0 Q pc' L (.int v :: st) h ss k n) : Go w K Z EL n0 ss0 Q pc L st h ss k n := by
  obtain ⟨d1, rfl⟩ := d
  exact Go.same C (fun X e hZ hown _ => ⟨_, X, e, X.ldcInt C.1 hown (mvT hZ wc) (g := mkF K.m pc L st) rfl (hb C.2.1 d1)⟩) G
theorem ldcwI (C : Cx w K Z a0 EL own code ml rt mn (Rm rf rc rs rl)) {i : Nat} {v : Int32} (wc : (Cond.constant own i v).before a0 Z = true) (d : Dc code pc (.ldc_w i) 3 pc') (G : Go w K Z EL n0 ss0 Q pc' L (.int v :: st) h ss k n) : Go w K Z EL n0 ss0 Q pc L st h ss k n := by
  obtain ⟨d1, rfl⟩ := d
  exact Go.same C (fun X e hZ hown _ => ⟨_, X, e, X.ldcwInt C.1 hown (mvT hZ wc) (g := mkF K.m pc L st) rfl (hb C.2.1 d1)⟩) G
theorem ldc2J (C : Cx w K Z a0 EL own code ml rt mn (Rm rf rc rs rl)) {i : Nat} {v : Int64} (wc : (Cond.constantLong own i v).before a0 Z = true) (d : Dc code pc (.ldc2_w i) 3 pc') (G : Go w K Z EL n0 ss0 Q pc' L (.long v :: st) h ss k n) : Go w K Z EL n0 ss0 Q pc L st h ss k n := by
  obtain ⟨d1, rfl⟩ := d
  exact Go.same C (fun X e hZ hown _ => ⟨_, X, e, X.ldc2Long C.1 hown (mvT hZ wc) (g := mkF K.m pc L st) rfl (hb C.2.1 d1)⟩) G
theorem getF_ (C : Cx w K Z a0 EL own code ml rt mn (Rm rf rc rs rl)) {i : Nat} {O f D : String} {a : Addr} {v : Value} (wl : (Cond.fieldLink own i O f D).before a0 Z = true) (F : Fld Z h a O f D v) (d : Dc code pc (.getfield i) 3 pc') (G : Go w K Z EL n0 ss0 Q pc' L (v :: st) h ss k n) : Go w K Z EL n0 ss0 Q pc L (.ref a :: st) h ss k n := by
  obtain ⟨d1, rfl⟩ := d
  exact Go.same C (fun X e hZ hown _ => getF X C.1 hZ hown (host := "") (Or.inl wl) Via.refl e F (g := mkF K.m pc L (.ref a :: st)) rfl rfl (hb C.2.1 d1)) G
theorem getS_ (C : Cx w K Z a0 EL own code ml rt mn (Rm rf rc rs rl)) {i : Nat} {O f D : String} {v : Value} (wl : (Cond.fieldLink own i O f D).before a0 Z = true) (F : Sta Z Z.heap O f D v) (d : Dc code pc (.getstatic i) 3 pc') (G : Go w K Z EL n0 ss0 Q pc' L (v :: st) h ss k n) : Go w K Z EL n0 ss0 Q pc L st h ss k n := by
  obtain ⟨d1, rfl⟩ := d
  exact Go.same C (fun X e hZ hown E => getS X C.1 hZ hown (host := "") wl Via.refl e (F.ext E) (g := mkF K.m pc L st) rfl (hb C.2.1 d1)) G
theorem cast_ (C : Cx w K Z a0 EL own code ml rt mn (Rm rf rc rs rl)) {i : Nat} {O : String} {a : Addr} (wl : (Cond.classLink own i O).before a0 Z = true) (F : Ins Z h a O true) (d : Dc code pc (.checkcast i) 3 pc') (G : Go w K Z EL n0 ss0 Q pc' L (.ref a :: st) h ss k n) : Go w K Z EL n0 ss0 Q pc L (.ref a :: st) h ss k n := by
  obtain ⟨d1, rfl⟩ := d
  exact Go.same C (fun X e hZ hown _ => castY X C.1 hZ hown wl e F (g := mkF K.m pc L (.ref a :: st)) rfl rfl (hb C.2.1 d1)) G
theorem instY_ (C : Cx w K Z a0 EL own code ml rt mn (Rm rf rc rs rl)) {i : Nat} {O : String} {a : Addr} (wl : (Cond.classLink own i O).before a0 Z = true) (F : Ins Z h a O true) (d : Dc code pc (.instanceof i) 3 pc') (G : Go w K Z EL n0 ss0 Q pc' L (.int 1 :: st) h ss k n) : Go w K Z EL n0 ss0 Q pc L (.ref a :: st) h ss k n := by
  obtain ⟨d1, rfl⟩ := d
  exact Go.same C (fun X e hZ hown _ => instY X C.1 hZ hown wl e F (g := mkF K.m pc L (.ref a :: st)) rfl rfl (hb C.2.1 d1)) G
theorem instN_ (C : Cx w K Z a0 EL own code ml rt mn (Rm rf rc rs rl)) {i : Nat} {O O' : String} {a : Addr} (wl : (Cond.classLink own i O).before a0 Z = true) (E : Exa Z h a O') (F : ∃ c t, Z.vm.findClass O' = some c ∧ Z.vm.findClass O = some t ∧ Z.vm.assignable c t = false) (d : Dc code pc (.instanceof i) 3 pc') (G : Go w K Z EL n0 ss0 Q pc' L (.int 0 :: st) h ss k n) : Go w K Z EL n0 ss0 Q pc L (.ref a :: st) h ss k n := by
  obtain ⟨d1, rfl⟩ := d
  exact Go.same C (fun X e hZ hown _ => instNo X C.1 hZ hown wl e E F (g := mkF K.m pc L (.ref a :: st)) rfl rfl (hb C.2.1 d1)) G
theorem inst0_ (C : Cx w K Z a0 EL own code ml rt mn (Rm rf rc rs rl)) {i : Nat} {O : String} (wl : (Cond.classLink own i O).before a0 Z = true) (d : Dc code pc (.instanceof i) 3 pc') (G : Go w K Z EL n0 ss0 Q pc' L (.int 0 :: st) h ss k n) : Go w K Z EL n0 ss0 Q pc L (.null :: st) h ss k n := by
  obtain ⟨d1, rfl⟩ := d
  exact Go.same C (fun X e hZ hown _ => ⟨_, X, e, X.instanceofNull C.1 (g := mkF K.m pc L (.null :: st)) rfl rfl (hb C.2.1 d1)⟩) G
/-- the array at a holds just vs -/
def Ary (Z : State) (h : Heap) (a : Addr) (ty : FieldType) (vs : List Value) : Prop := ∃ c : Cell, Arr Z h a c ty ∧ c.slots = vs.toArray ∧ vs.length < 2 ^ 31
theorem Ary.keep {a : Addr} {ty : FieldType} {vs : List Value} {ws : List Addr} (F : Ary Z h a ty vs) (K : Keep h h' ws) (q : a ∉ ws) : Ary Z h' a ty vs := by
  obtain ⟨c, A, r⟩ := F; exact ⟨c, ⟨K.2.1 a c A.1 q, A.2⟩, r⟩
theorem Ary.lt {a : Addr} {ty : FieldType} {vs : List Value} (F : Ary Z h a ty vs) : a < h.size := by obtain ⟨c, A, -⟩ := F; exact A.lt
theorem Ary.set {a : Addr} {ty : FieldType} {vs : List Value} {i : Nat} {v : Value} (F : Ary Z h a ty vs) (W : Wr h h' a i v) : Ary Z h' a ty (vs.set i v) := by
  obtain ⟨c, A, e, l⟩ := F
  exact ⟨_, A.same W, by simp [Cell.setSlot, e], by simpa using l⟩
theorem Ary.new {a : Addr} {ty : FieldType} {cA : ClassId} {x : Int32} (A : Arr Z h a (newA cA ty x) ty) : Ary Z h a ty (List.replicate x.toNatClampNeg (defaultValue ty)) := ⟨_, A, by simp [newA], by
  have := rng32 x
  simp only [List.length_replicate, Int32.toNatClampNeg]; omega⟩
theorem newarr (C : Cx w K Z a0 EL own code ml rt mn (Rm rf rc rs rl)) {aty : ArrayType} {x : Int32} (wa : (Cond.arrayClass (newarray.typeOf aty)).before a0 Z = true) (hx : ¬ x < 0) (cap : Nat) (hcap : x.toNatClampNeg ≤ cap) (hb8 : cap * 8 ≤ 536870912) (hc : k + 1 ≤ rc) (hl : n + cap ≤ rs) (d : Dc code pc (.newarray aty) 2 pc') (G : ∀ h', Keep h h' [] → h.size < h'.size → n0 ≤ h.size → Ary Z h' h.size (newarray.typeOf aty) (List.replicate x.toNatClampNeg (defaultValue (newarray.typeOf aty))) → Go w K Z EL n0 ss0 Q pc' L (.ref h.size :: st) h' (h.size :: ss) (k + 1) (n + cap)) : Go w K Z EL n0 ss0 Q pc L (.int x :: st) h ss k n := by
  obtain ⟨d1, rfl⟩ := d
  have hR : K.R = Rm rf rc rs rl := C.2.2.2.2.2.2.2.1
  refine Go.grow C (dk := 1) (dn := cap) (P := fun h' => Ary Z h' h.size (newarray.typeOf aty) (List.replicate x.toNatClampNeg (defaultValue (newarray.typeOf aty)))) (fun _ q => q.lt) (fun X e hZ hown => ?_) G
  obtain ⟨T', h', cA, X', e', E, A, r⟩ := newP X C.1 hZ wa e (g := mkF K.m pc L (.int x :: st)) rfl (hb C.2.1 d1) rfl hx hcap hb8 (by rw [hR]; exact hc) (by rw [hR]; exact hl)
  exact ⟨T', h', X', e', E, Ary.new A, r⟩
theorem castore_ (C : Cx w K Z a0 EL own code ml rt mn (Rm rf rc rs rl)) {a : Addr} {j x : Int32} {vs : List Value} (A : Ary Z h a .char vs) (i : Nat) (hj : j.toInt = i) (hi : i < vs.length) (ha : a ∈ ss) (d : Dc code pc .castore 1 pc') (G : ∀ h', Wr h h' a i (.int (nar .char x)) → Ary Z h' a .char (vs.set i (.int (nar .char x))) → Go w K Z EL n0 ss0 Q pc' L st h' ss k n) : Go w K Z EL n0 ss0 Q pc L (.int x :: .int j :: .ref a :: st) h ss k n := by
  obtain ⟨d1, rfl⟩ := d
  have A' := A
  obtain ⟨c, A, e, l⟩ := A
  have ej : j.toNatClampNeg = i := by simp [Int32.toNatClampNeg, hj]
  subst ej
  refine Go.write C ha (fun X eT hZ hown => stC X C.1 hZ eT A (j := j) ?_ (g := mkF K.m pc L (.int x :: .int j :: .ref a :: st)) rfl rfl (hb C.2.1 d1)) (fun h' W => G h' W (A'.set W))
  rintro (q | q)
  · rw [Int32.lt_iff_toInt_lt, hj] at q; have : (0 : Int32).toInt = 0 := rfl; omega
  · rw [e] at q; simp at q; omega
theorem bastore_ (C : Cx w K Z a0 EL own code ml rt mn (Rm rf rc rs rl)) {a : Addr} {j x : Int32} {vs : List Value} (A : Ary Z h a .byte vs) (i : Nat) (hj : j.toInt = i) (hi : i < vs.length) (ha : a ∈ ss) (d : Dc code pc .bastore 1 pc') (G : ∀ h', Wr h h' a i (.int (nar .byte x)) → Ary Z h' a .byte (vs.set i (.int (nar .byte x))) → Go w K Z EL n0 ss0 Q pc' L st h' ss k n) : Go w K Z EL n0 ss0 Q pc L (.int x :: .int j :: .ref a :: st) h ss k n := by
  obtain ⟨d1, rfl⟩ := d
  have A' := A
  obtain ⟨c, A, e, l⟩ := A
  have ej : j.toNatClampNeg = i := by simp [Int32.toNatClampNeg, hj]
  subst ej
  refine Go.write C ha (fun X eT hZ hown => stB X C.1 hZ eT A (j := j) ?_ (g := mkF K.m pc L (.int x :: .int j :: .ref a :: st)) rfl rfl (hb C.2.1 d1)) (fun h' W => G h' W (A'.set W))
  rintro (q | q)
  · rw [Int32.lt_iff_toInt_lt, hj] at q; have : (0 : Int32).toInt = 0 := rfl; omega
  · rw [e] at q; simp at q; omega
theorem caload_ (C : Cx w K Z a0 EL own code ml rt mn (Rm rf rc rs rl)) {a : Addr} {j : Int32} {v : Value} {vs : List Value} (A : Ary Z h a .char vs) (i : Nat) (hj : j.toInt = i) (hv : vs[i]? = some v) (d : Dc code pc .caload 1 pc') (G : Go w K Z EL n0 ss0 Q pc' L (v :: st) h ss k n) : Go w K Z EL n0 ss0 Q pc L (.int j :: .ref a :: st) h ss k n := by
  obtain ⟨d1, rfl⟩ := d
  obtain ⟨c, A, e, l⟩ := A
  have ej : j.toNatClampNeg = i := by simp [Int32.toNatClampNeg, hj]
  have hi : i < vs.length := (List.getElem?_eq_some_iff.mp hv).1
  subst ej
  refine Go.same C (fun X eT hZ hown _ => ⟨_, X, eT, X.caload C.1 (j := j) (v := v) (by rw [eT]; exact A.1) (State.isArrayOf_alike hZ.alike A.2.1) A.2.2 ?_ (by rw [e]; simpa using hv) (g := mkF K.m pc L (.int j :: .ref a :: st)) rfl rfl (hb C.2.1 d1)⟩) G
  rintro (q | q)
  · rw [Int32.lt_iff_toInt_lt, hj] at q; have : (0 : Int32).toInt = 0 := rfl; omega
  · rw [e] at q; simp at q; omega
theorem baload_ (C : Cx w K Z a0 EL own code ml rt mn (Rm rf rc rs rl)) {a : Addr} {j : Int32} {v : Value} {vs : List Value} (A : Ary Z h a .byte vs) (i : Nat) (hj : j.toInt = i) (hv : vs[i]? = some v) (d : Dc code pc .baload 1 pc') (G : Go w K Z EL n0 ss0 Q pc' L (v :: st) h ss k n) : Go w K Z EL n0 ss0 Q pc L (.int j :: .ref a :: st) h ss k n := by
  obtain ⟨d1, rfl⟩ := d
  obtain ⟨c, A, e, l⟩ := A
  have ej : j.toNatClampNeg = i := by simp [Int32.toNatClampNeg, hj]
  have hi : i < vs.length := (List.getElem?_eq_some_iff.mp hv).1
  subst ej
  refine Go.same C (fun X eT hZ hown _ => ⟨_, X, eT, X.baloadBytes C.1 (j := j) (v := v) (by rw [eT]; exact A.1) (State.isArrayOf_alike hZ.alike A.2.1) A.2.2 ?_ (by rw [e]; simpa using hv) (g := mkF K.m pc L (.int j :: .ref a :: st)) rfl rfl (hb C.2.1 d1)⟩) G
  rintro (q | q)
  · rw [Int32.lt_iff_toInt_lt, hj] at q; have : (0 : Int32).toInt = 0 := rfl; omega
  · rw [e] at q; simp at q; omega
theorem iaload_ (C : Cx w K Z a0 EL own code ml rt mn (Rm rf rc rs rl)) {a : Addr} {j : Int32} {v : Value} {vs : List Value} (A : Ary Z h a .int vs) (i : Nat) (hj : j.toInt = i) (hv : vs[i]? = some v) (d : Dc code pc .iaload 1 pc') (G : Go w K Z EL n0 ss0 Q pc' L (v :: st) h ss k n) : Go w K Z EL n0 ss0 Q pc L (.int j :: .ref a :: st) h ss k n := by
  obtain ⟨d1, rfl⟩ := d
  obtain ⟨c, A, e, l⟩ := A
  have ej : j.toNatClampNeg = i := by simp [Int32.toNatClampNeg, hj]
  have hi : i < vs.length := (List.getElem?_eq_some_iff.mp hv).1
  subst ej
  refine Go.same C (fun X eT hZ hown _ => ⟨_, X, eT, X.iaload C.1 (j := j) (v := v) (by rw [eT]; exact A.1) (State.isArrayOf_alike hZ.alike A.2.1) A.2.2 ?_ (by rw [e]; simpa using hv) (g := mkF K.m pc L (.int j :: .ref a :: st)) rfl rfl (hb C.2.1 d1)⟩) G
  rintro (q | q)
  · rw [Int32.lt_iff_toInt_lt, hj] at q; have : (0 : Int32).toInt = 0 := rfl; omega
  · rw [e] at q; simp at q; omega
theorem arrlen (C : Cx w K Z a0 EL own code ml rt mn (Rm rf rc rs rl)) {a : Addr} {ty : FieldType} {vs : List Value} (A : Ary Z h a ty vs) {z : Int32} (hz : z.toInt = vs.length) (d : Dc code pc .arraylength 1 pc') (G : Go w K Z EL n0 ss0 Q pc' L (.int z :: st) h ss k n) : Go w K Z EL n0 ss0 Q pc L (.ref a :: st) h ss k n := by
  obtain ⟨d1, rfl⟩ := d
  obtain ⟨c, A, e, l⟩ := A
  have ez : c.slots.size.toInt32 = z := by
    rw [← Int32.toInt_inj, hz, len_toInt (by rw [e]; simpa using l), e]; simp
  refine Go.same C (fun X eT hZ hown _ => ⟨_, X, eT, fun t r => X.arraylength C.1 (by rw [eT]; exact A.1) (State.isArrayOf_alike hZ.alike A.2.1) (g := mkF K.m pc L (.ref a :: st)) rfl rfl (hb C.2.1 d1) t (by rw [ez]; exact r)⟩) G
theorem new_ (C : Cx w K Z a0 EL own code ml rt mn (Rm rf rc rs rl)) {i : Nat} {O : String} {nn : Nat} (wl : (Cond.classLink own i O).before a0 Z = true) (wi : (Cond.instantiable O nn).before a0 Z = true) (wz : (Cond.initialized O).before a0 Z = true) (hc : k + 1 ≤ rc) (hl : n + nn ≤ rs) (d : Dc code pc (.new i) 3 pc')
    (G : ∀ h', Keep h h' [] → h.size < h'.size → n0 ≤ h.size → (Exa Z h' h.size O ∧ ∀ {O' nm d : String} {ty : FieldType}, Laid Z a0 O O' nm d → parseFieldDescriptor d = some ty → Fld Z h' h.size O' nm d (defaultValue ty)) → Go w K Z EL n0 ss0 Q pc' L (.ref h.size :: st) h' (h.size :: ss) (k + 1) (n + nn)) : Go w K Z EL n0 ss0 Q pc L st h ss k n := by
  obtain ⟨d1, rfl⟩ := d
  have hR : K.R = Rm rf rc rs rl := C.2.2.2.2.2.2.2.1
  refine Go.grow C (dk := 1) (dn := nn) (P := fun h' => Exa Z h' h.size O ∧ ∀ {O' nm d : String} {ty : FieldType}, Laid Z a0 O O' nm d → parseFieldDescriptor d = some ty → Fld Z h' h.size O' nm d (defaultValue ty)) (fun _ q => q.1.lt) (fun X e hZ hown => ?_) G
  obtain ⟨T', h', X', e', E, A, D, -, r⟩ := newO X C.1 hZ hown wl wi wz e (g := mkF K.m pc L st) rfl (hb C.2.1 d1) (by rw [hR]; exact hc) (by rw [hR]; exact hl)
  exact ⟨T', h', X', e', E, ⟨A, D⟩, r⟩
theorem putF_ (C : Cx w K Z a0 EL own code ml rt mn (Rm rf rc rs rl)) {i kk : Nat} {O f D O' : String} {a : Addr} {v v' old : Value} {ty : FieldType} (wl : (Cond.fieldLink own i O f D).before a0 Z = true) (F : Fld Z h a O f D old) (E : Exa Z h a O') (Ly : (Cond.lays O' O f D).before a0 Z = true ∨ ((Cond.laysFinal O' O f D).before a0 Z = true ∧ own = O ∧ mn = "<init>")) (wi : (Cond.instantiable O' kk).before a0 Z = true)
    (hty : parseFieldDescriptor D = some ty) (hn : narrow ty v = v') (hf : fits ty v' = true) (ha : a ∈ ss) (d : Dc code pc (.putfield i) 3 pc')
    (G : ∀ h', Wr h h' a (RoadKit.slotOf Z O f D) v' → Go w K Z EL n0 ss0 Q pc' L st h' ss k n) : Go w K Z EL n0 ss0 Q pc L (v :: .ref a :: st) h ss k n := by
  obtain ⟨d1, rfl⟩ := d
  have hm : K.meth.name = mn := C.2.2.2.2.2.2.1
  exact Go.write C ha (fun X eT hZ hown => putFN X C.1 hZ hown wl Via.refl eT F E (Ly.imp id fun q => ⟨q.1, q.2.1, hm.trans q.2.2⟩) wi hty hn hf (g := mkF K.m pc L (v :: .ref a :: st)) rfl rfl (hb C.2.1 d1)) G
theorem initO_ (C : Cx w K Z a0 EL own code ml rt mn (Rm rf rc rs rl)) {i : Nat} {a : Addr} (w1 : (Cond.methodLink own i Lib.objectInit).before a0 Z = true) (w2 : (Cond.instanceMethod Lib.objectInit).before a0 Z = true) (w3 : (Cond.code Lib.objectInit ⟨#[0xb1]⟩ 1 none).before a0 Z = true) (hL : L.size = ml) (hf : 1 ≤ rf) (hlo : (st.map fun v => v.category).sum + 12 ≤ rl) (d : Dc code pc (.invokespecial i) 3 pc') (G : Go w K Z EL n0 ss0 Q pc' L st h ss k n) : Go w K Z EL n0 ss0 Q pc L (.ref a :: st) h ss k n := by
  obtain ⟨d1, rfl⟩ := d
  have hR : K.R = Rm rf rc rs rl := C.2.2.2.2.2.2.2.1
  exact Go.same C (fun X e hZ hown _ => initO X C.1 hZ hown w1 w2 w3 e (g := mkF K.m pc L (.ref a :: st)) rfl (hL.trans C.2.2.1.symm) rfl (hb C.2.1 d1) (by rw [hR]; exact hf) (W := (st.map fun v => v.category).sum) (by show 2 * 0 + _ ≤ _; omega) (by rw [hR]; exact hlo)) G
theorem retZ (C : Cx w K Z a0 EL own code ml (some .boolean) mn (Rm rf rc rs rl)) {z : Int32} {gs : List Addr} (d : Dc code pc .ireturn 1 pc') (hc : k ≤ rc) (hn : n ≤ rs) (hg : ∀ x ∈ gs, x ∈ ss) (hQ : Q (some (.int (nar .boolean z))) h gs) : Go w K Z EL n0 ss0 Q pc L (.int z :: st) h ss k n := by
  obtain ⟨d1, rfl⟩ := d
  exact Go.leave C nofun (fun X _ r => retN X C.1 (t := .boolean) C.2.2.2.2.1 (by simp) (hb C.2.1 d1) r) hQ hg hc hn
theorem retB (C : Cx w K Z a0 EL own code ml (some .byte) mn (Rm rf rc rs rl)) {z : Int32} {gs : List Addr} (d : Dc code pc .ireturn 1 pc') (hc : k ≤ rc) (hn : n ≤ rs) (hg : ∀ x ∈ gs, x ∈ ss) (hQ : Q (some (.int (nar .byte z))) h gs) : Go w K Z EL n0 ss0 Q pc L (.int z :: st) h ss k n := by
  obtain ⟨d1, rfl⟩ := d
  exact Go.leave C nofun (fun X _ r => retN X C.1 (t := .byte) C.2.2.2.2.1 (by simp) (hb C.2.1 d1) r) hQ hg hc hn
theorem retC (C : Cx w K Z a0 EL own code ml (some .char) mn (Rm rf rc rs rl)) {z : Int32} {gs : List Addr} (d : Dc code pc .ireturn 1 pc') (hc : k ≤ rc) (hn : n ≤ rs) (hg : ∀ x ∈ gs, x ∈ ss) (hQ : Q (some (.int (nar .char z))) h gs) : Go w K Z EL n0 ss0 Q pc L (.int z :: st) h ss k n := by
  obtain ⟨d1, rfl⟩ := d
  exact Go.leave C nofun (fun X _ r => retN X C.1 (t := .char) C.2.2.2.2.1 (by simp) (hb C.2.1 d1) r) hQ hg hc hn
theorem retS (C : Cx w K Z a0 EL own code ml (some .short) mn (Rm rf rc rs rl)) {z : Int32} {gs : List Addr} (d : Dc code pc .ireturn 1 pc') (hc : k ≤ rc) (hn : n ≤ rs) (hg : ∀ x ∈ gs, x ∈ ss) (hQ : Q (some (.int (nar .short z))) h gs) : Go w K Z EL n0 ss0 Q pc L (.int z :: st) h ss k n := by
  obtain ⟨d1, rfl⟩ := d
  exact Go.leave C nofun (fun X _ r => retN X C.1 (t := .short) C.2.2.2.2.1 (by simp) (hb C.2.1 d1) r) hQ hg hc hn
theorem retI_ (C : Cx w K Z a0 EL own code ml (some .int) mn (Rm rf rc rs rl)) {z : Int32} {gs : List Addr} (d : Dc code pc .ireturn 1 pc') (hc : k ≤ rc) (hn : n ≤ rs) (hg : ∀ x ∈ gs, x ∈ ss) (hQ : Q (some (.int z)) h gs) : Go w K Z EL n0 ss0 Q pc L (.int z :: st) h ss k n := by
  obtain ⟨d1, rfl⟩ := d
  refine Go.leave C nofun (fun {T vm0 locs} X {fs} hr => ?_) hQ hg hc hn
  have hret : K.meth.sig.returnType = some .int := C.2.2.2.2.1
  have hx := C.1
  have hm' := X.method'
  have hnn : narrow .int (.int z) = .int z := rfl
  have hd := hb C.2.1 d1
  show Steps K.p.tables K.e K.below (T.setTop { method := K.m, pc := pc, locals := L, stack := _ :: st, locked := none }) _
  jvm_step X.here [X.here.top, hx, hd, hm', hret, hnn]
  first | (intro acts; rw [hr _ acts rfl rfl rfl]) | rw [hr _ _ rfl rfl rfl]
  exact Steps.refl _
theorem retA {ty : FieldType} (C : Cx w K Z a0 EL own code ml (some ty) mn (Rm rf rc rs rl)) {v : Value} {gs : List Addr} (hty : ty.isReference = true) (hv : v.isRef = true) (d : Dc code pc .areturn 1 pc') (hc : k ≤ rc) (hn : n ≤ rs) (hg : ∀ x ∈ gs, x ∈ ss) (hQ : Q (some v) h gs) : Go w K Z EL n0 ss0 Q pc L (v :: st) h ss k n := by
  obtain ⟨d1, rfl⟩ := d
  refine Go.leave C nofun (fun {T vm0 locs} X {fs} hr => ?_) hQ hg hc hn
  have hret : K.meth.sig.returnType = some ty := C.2.2.2.2.1
  have hx := C.1
  have hm' := X.method'
  have hd := hb C.2.1 d1
  show Steps K.p.tables K.e K.below (T.setTop { method := K.m, pc := pc, locals := L, stack := _ :: st, locked := none }) _
  jvm_step X.here [X.here.top, hx, hd, hm', hret, hv, hty]
  first | (intro acts; rw [hr _ acts rfl rfl rfl]) | rw [hr _ _ rfl rfl rfl]
  exact Steps.refl _
theorem retV (C : Cx w K Z a0 EL own code ml none mn (Rm rf rc rs rl)) {gs : List Addr} (d : Dc code pc .return_ 1 pc') (hc : k ≤ rc) (hn : n ≤ rs) (hg : ∀ x ∈ gs, x ∈ ss) (hQ : Q none h gs) : Go w K Z EL n0 ss0 Q pc L [] h ss k n := by
  obtain ⟨d1, rfl⟩ := d
  exact Go.leave C (fun _ => rfl) (fun X _ r => X.returnOut C.1 C.2.2.2.2.1 (hb C.2.1 d1) r) hQ hg hc hn
end Ops
end Jvm.Own
namespace Jvm.Own
open Jvm Jvm.ClassFile Sem Op Lib Jvm.Free Jvm.Stand Jvm.LawKit Jvm.RoadKit
section Calls
variable {w : Bool} {K : IV} {Z : State} {a0 : Array Value} {EL : List (String × Nat)} {n0 : Nat} {ss0 ss : List Addr} {Q : Option Value → Heap → List Addr → Prop} {pc pc' pcT : Nat} {L L' : Array Slot} {st st' stk : List Value} {h h' : Heap} {k n : Nat} {own : String} {code : ByteArray} {ml : Nat} {rt : Option FieldType} {mn : String} {R : Room}
variable {y : MethodName} {bytes : ByteArray} {maxL : Nat} {ret : Option FieldType} {rm : Room} {as : List Value} {ssc : List Addr} {Qc : Option Value → Heap → List Addr → Prop}
def PreC (Z : State) (EL : List (String × Nat)) (n0 : Nat) (R rm : Room) (as : List Value) (h : Heap) (ssc : List Addr) (A : Pt) (a : Array Value) : Prop := a = as.toArray ∧ A.U.heap = h ∧ A.cells + rm.cells ≤ R.cells ∧ A.slots + rm.slots ≤ R.slots ∧ CHv Z EL A.U.vm h ∧ ∀ x ∈ ssc, n0 ≤ x ∧ x < h.size ∧ Safe Z EL A.U.vm h x
def PostC (Z : State) (EL : List (String × Nat)) (n0 : Nat) (rm : Room) (h : Heap) (ssc : List Addr) (Qc : Option Value → Heap → List Addr → Prop) (A : Pt) (_ : Array Value) (v : Option Value) (B : Pt) : Prop := ∃ (L : List Loc) (gs : List Addr), Qc v B.U.heap gs ∧ Fr n0 L ∧ CHr Z EL A.U.vm h B.U.vm B.U.heap ∧ Keep h B.U.heap ssc ∧ Sf Z EL n0 B.U.vm B.U.heap ssc h gs ∧ Old Z n0 B.U.heap ∧ B.locs = A.locs ++ L ∧ B.cells = A.cells + rm.cells ∧ B.slots = A.slots + rm.slots
theorem conBack {p : Program} {l : Launch} {e : Env} {below : List Frame} {s : State} {args : Array Value} {len W : Nat} (M : Con false Z EL n0 y bytes maxL ret rm as h ssc Qc) (hZ : Z.Warmed39 s.vm) (wc : (Cond.code y bytes maxL ret).before a0 Z = true) (wz : (Cond.initialized y.cls).before a0 Z = true) (hf : rm.frames + 1 ≤ R.frames) (hl : W + (maxL + 11) + rm.locals ≤ R.locals) :
    Back l R p e below s args y len W (PreC Z EL n0 R rm as h ssc) (PostC Z EL n0 rm h ssc Qc) :=
  Back.of_free (bytes := bytes) (maxL := maxL) (ret := ret) (E := fun _ first o t L k n => k = rm.cells ∧ n = rm.slots ∧ ∃ v gs, o = .returned v ∧ Qc v t.heap gs ∧ Fr n0 L ∧ CHr Z EL first.vm h t.vm t.heap ∧ Keep h t.heap ssc ∧ Sf Z EL n0 t.vm t.heap ssc h gs ∧ Old Z n0 t.heap) (M l []) hf hl
    (fun m meth c A a Y hp => have hU : Z.Warmed39 A.U.vm := wtrans hZ Y.warmed
      ⟨by show (Cond.and _ .tt).before a A.U = true; rw [Cond.before_and, mv hU wc]; rfl, mv hU wc, mv hU wz, hp.2.2.1, hp.2.2.2.1⟩)
    (fun m meth c A a g mk Y hp => ⟨hp.1, wtrans hZ Y.warmed, hp.2.1, hp.2.2.2.2.1, hp.2.2.2.2.2⟩) (fun _ _ _ _ _ _ _ _ _ => trivial)
    (fun _ _ _ _ ⟨v, L, gs, h1, h2, h3, h4, h5, h6, h7, h8⟩ => ⟨L, _, _, h8, rfl, rfl, v, gs, h1, h2, h3, h4, h5, h6, h7⟩)
    (fun m meth c A a g mk v t L k n Y hp _ _ ⟨e1, e2, v', gs, e3, r⟩ => by cases e3; subst e1 e2; exact ⟨L, gs, r.1, r.2.1, r.2.2.1, r.2.2.2.1, r.2.2.2.2.1, r.2.2.2.2.2, rfl, rfl, rfl⟩)
theorem conBackS {p : Program} {l : Launch} {e : Env} {below : List Frame} {s : State} {args : Array Value} {len W : Nat} (M : Con true Z EL n0 y bytes maxL ret rm as h ssc Qc) (hZ : Z.Warmed39 s.vm) (wc : (Cond.code y bytes maxL ret).before a0 Z = true) (wz : (Cond.initialized y.cls).before a0 Z = true) (hf : rm.frames + 1 ≤ R.frames) (hl : W + (maxL + 11) + rm.locals ≤ R.locals) :
    BackS l R p e below s args y len W (PreC Z EL n0 R rm as h ssc) (PostC Z EL n0 rm h ssc Qc) :=
  BackS.of_freeW (bytes := bytes) (maxL := maxL) (ret := ret) (E := fun _ first o t L k n => k = rm.cells ∧ n = rm.slots ∧ ∃ v gs, o = .returned v ∧ Qc v t.heap gs ∧ Fr n0 L ∧ CHr Z EL first.vm h t.vm t.heap ∧ Keep h t.heap ssc ∧ Sf Z EL n0 t.vm t.heap ssc h gs ∧ Old Z n0 t.heap) (M l []) hf hl
    (fun m meth c A a Y hp => have hU : Z.Warmed39 A.U.vm := wtrans hZ Y.warmed
      ⟨by show (Cond.and _ .tt).before a A.U = true; rw [Cond.before_and, mv hU wc]; rfl, mv hU wc, mv hU wz, hp.2.2.1, hp.2.2.2.1⟩)
    (fun m meth c A a g mk Y hp => ⟨hp.1, wtrans hZ Y.warmed, hp.2.1, hp.2.2.2.2.1, hp.2.2.2.2.2⟩) (fun _ _ _ _ _ _ _ _ _ => trivial)
    (fun _ _ _ _ ⟨v, L, gs, h1, h2, h3, h4, h5, h6, h7, h8⟩ => ⟨L, _, _, h8, rfl, rfl, v, gs, h1, h2, h3, h4, h5, h6, h7⟩)
    (fun m meth c A a g mk v t L k n Y hp _ _ ⟨e1, e2, v', gs, e3, r⟩ => by cases e3; subst e1 e2; exact ⟨L, gs, r.1, r.2.1, r.2.2.1, r.2.2.2.1, r.2.2.2.2.1, r.2.2.2.2.2, rfl, rfl, rfl⟩)
theorem warm1 {vm0 vm₁ : Vm} {s : State} (hZ : Z.Warmed39 vm0) (hE : EW Z a0 EL) (hW : (s.setVm vm0).WarmedH vm₁) (H : CHv Z EL vm0 h) : CHr Z EL vm0 h vm₁ h := by
  have q := CHv.later (h' := h) hZ (hW := (show (Wst Z vm0 h).Warmed39 vm₁ from hW.wide)) hE ⟨Nat.le_refl _, fun _ _ q => q⟩ (Or.inl hW.interned_eq) H
  exact ⟨q.1, Nat.le_refl _, q.2⟩
/-- behind a call -/
theorem after {T : State} {vm0 vm₁ : Vm} {locs : List Loc} {k0 : Nat} (C : Cx w K Z a0 EL own code ml rt mn R) (N : Fr n0 locs) (hS : K.s.Since vm0 k0) (hk : k0 ≤ h.size) (hZ : Z.Warmed39 vm0) (hv : w = false → vm0 = K.s.vm) (hC : CHr Z EL K.s.vm K.s.heap vm0 h) (hF : Sf Z EL n0 vm0 h ss0 K.s.heap ss) (hK : Keep K.s.heap h ss0)
    (hsub : ∀ x ∈ ssc, x ∈ ss) (hW : (K.s.setVm vm0).WarmedH vm₁) {B : Pt} {a : Array Value} {v : Option Value} (hp : PostC Z EL n0 rm h ssc Qc ⟨T.setVm vm₁, locs, k, n⟩ a v B)
    (hX : (w = false ∧ Stand K.p K.l K.e K.R (K.s.setVm vm0) K.m K.args K.below K.meth K.c B.U B.locs B.cells B.slots) ∨ (w = true ∧ Stand K.p K.l K.e K.R (K.s.setVm B.U.vm) K.m K.args K.below K.meth K.c B.U B.locs B.cells B.slots ∧ (K.s.setVm vm0).Since B.U.vm B.U.heap.size)) :
    ∃ gs, Here w K Z EL n0 ss0 B.U B.U.heap (gs ++ ss) (k + rm.cells) (n + rm.slots) ∧ Qc v B.U.heap gs ∧ Keep h B.U.heap ssc := by
  obtain ⟨Lc, gs, hQ, N', hC', hK', hF', hO', l1, l2, l3⟩ := hp
  obtain ⟨U, Ls, kk, nn⟩ := B
  dsimp only [Pt.U, Pt.locs, Pt.cells, Pt.slots] at *
  subst l1 l2 l3
  have D1 := warm1 hZ C.2.2.2.2.2.2.2.2.1 hW hC.1
  have D := D1.trans hC'
  have hKs : Keep K.s.heap U.heap ss0 := hK.trans hK' fun x hx => (hF x (hsub x hx)).2.2.2
  have hFa : Sf Z EL n0 U.vm U.heap ss0 K.s.heap (gs ++ ss) := fun x hx => by
    rcases List.mem_append.mp hx with hx | hx
    · obtain ⟨g1, g2, g3, g4⟩ := hF' x hx
      exact ⟨g1, g2, g3, g4.elim (fun q => (hF x (hsub x q)).2.2.2) fun q => Or.inr (Nat.le_trans hK.1 q)⟩
    · obtain ⟨g1, g2, g3, g4⟩ := hF x hx
      exact ⟨g1, Nat.lt_of_lt_of_le g2 hK'.1, D.safe g2 g3, g4⟩
  refine ⟨gs, ?_, hQ, hK'⟩
  rcases hX with ⟨hw, X⟩ | ⟨hw, X, hS'⟩
  · have hEL : EL = [] := C.2.2.2.2.2.2.2.2.2 hw
    subst hEL
    refine ⟨vm0, _, k0, X, N.app N', rfl, hS, Nat.le_trans hk hK'.1, hZ, hv, chr_nil (Nat.le_trans hK.1 hK'.1), fun x hx => ?_, hO', hKs⟩
    obtain ⟨g1, g2, g3, g4⟩ := hFa x hx
    exact ⟨g1, g2, fun ⟨p, hp, _⟩ => by (cases hp), g4⟩
  · exact ⟨U.vm, _, U.heap.size, X, N.app N', rfl, hS.trans hS' (Nat.le_trans hk hK'.1), Nat.le_refl _, State.Warmed39.trans (t := K.s.setVm vm0) hZ hS'.1, (fun q => by rw [hw] at q; cases q), hC.trans D, hFa, hO', hKs⟩
theorem pre {T : State} {vm0 vm₁ : Vm} {locs : List Loc} (C : Cx w K Z a0 EL own code ml rt mn R) (eT : T.heap = h) (hZ : Z.Warmed39 vm0) (hC : CHr Z EL K.s.vm K.s.heap vm0 h) (hF : Sf Z EL n0 vm0 h ss0 K.s.heap ss) (hsub : ∀ x ∈ ssc, x ∈ ss) (hW : (K.s.setVm vm0).WarmedH vm₁) (hc : k + rm.cells ≤ R.cells) (hn : n + rm.slots ≤ R.slots) :
    PreC Z EL n0 K.R rm as h ssc ⟨T.setVm vm₁, locs, k, n⟩ as.toArray := by
  have hR : K.R = R := C.2.2.2.2.2.2.2.1
  have D1 := warm1 hZ C.2.2.2.2.2.2.2.2.1 hW hC.1
  exact ⟨rfl, eT, by rw [hR]; exact hc, by rw [hR]; exact hn, D1.1, fun x hx => by
    obtain ⟨g1, g2, g3, g4⟩ := hF x (hsub x hx)
    exact ⟨g1, g2, D1.safe g2 g3⟩⟩
theorem callS_ {rf rc rs rl cf cc cs cl : Nat} (C : Cx w K Z a0 EL own code ml rt mn (Rm rf rc rs rl)) {i : Nat} {ps : List FieldType} {r : Option FieldType} (wl : (Cond.methodLink own i y).before a0 Z = true) (ws : (Cond.static y).before a0 Z = true) (wi : (Cond.initialized y.cls).before a0 Z = true) (wc : (Cond.code y bytes maxL ret).before a0 Z = true) (hy : y.cls ≠ "java/lang/invoke/MethodHandle" ∧ y.cls ≠ "java/lang/invoke/VarHandle") (pd : parseMethodDescriptor y.desc = some ⟨ps, r⟩) (hl : as.length = ps.length) (M : Old Z n0 h → Con w Z EL n0 y bytes maxL ret (Rm cf cc cs cl) as h ssc Qc) (hsub : ∀ x ∈ ssc, x ∈ ss) (hL : L.size = ml) (hfr : cf + 1 ≤ rf) (hlo : (st.map fun v => v.category).sum + (maxL + 11) + cl ≤ rl) (hc : k + cc ≤ rc) (hn : n + cs ≤ rs) (d : Dc code pc (.invokestatic i) 3 pc') (hst : stk = as.reverse ++ st) (G : ∀ v h' gs, Keep h h' ssc → Qc v h' gs → Go w K Z EL n0 ss0 Q pc' L (v.toList ++ st) h' (gs ++ ss) (k + cc) (n + cs)) : Go w K Z EL n0 ss0 Q pc L stk h ss k n := by
  obtain ⟨d1, rfl⟩ := d
  subst hst
  intro T H
  obtain ⟨vm0, locs, k0, X, N, eT, hS, hk, hZ, hv, hC, hF, hO, hK⟩ := H
  have hR : K.R = Rm rf rc rs rl := C.2.2.2.2.2.2.2.1
  have hown : (K.s.setVm vm0).vm.findClass own = some K.m.cls := fcl C hS
  have hZ' : Z.Warmed39 (K.s.setVm vm0).vm := hZ
  have hsz : L.size = K.c.maxLocals := hL.trans C.2.2.1.symm
  cases w with
  | false =>
    obtain ⟨v, vm₁, B, hW, X', hp, stp⟩ := Jvm.LawKit.callS X C.1 (y := y) hown (mvT hZ' wl) (mvT hZ' ws) (mvT hZ' wi) (mvT hZ' wc) hy (conBack (W := (st.map fun v => v.category).sum) (M hO) hZ' wc wi (by rw [hR]; exact hfr) (by rw [hR]; exact hlo)) (g := mkF K.m pc L (as.reverse ++ st)) rfl hsz (argsL := as) (rest := st) (lenOf pd hl) rfl (by show 2 * 0 + _ ≤ _; omega) (hb C.2.1 d1) (fun vm₁ hW => pre C eT hZ hC hF hsub hW hc hn)
    obtain ⟨gs, H', hQ, hKe⟩ := after C N hS hk hZ hv hC hF hK hsub hW hp (Or.inl ⟨rfl, X'⟩)
    exact Fns.steps stp (G v _ gs hKe hQ _ H')
  | true =>
    obtain ⟨v, vm₁, B, hW, X', hS', -, hp, stp⟩ := callSS X C.1 (y := y) hown (mvT hZ' wl) (mvT hZ' ws) (mvT hZ' wi) (mvT hZ' wc) hy (conBackS (W := (st.map fun v => v.category).sum) (M hO) hZ' wc wi (by rw [hR]; exact hfr) (by rw [hR]; exact hlo)) (g := mkF K.m pc L (as.reverse ++ st)) rfl hsz (argsL := as) (rest := st) (lenOf pd hl) rfl (by show 2 * 0 + _ ≤ _; omega) (hb C.2.1 d1) (fun vm₁ hW => pre C eT hZ hC hF hsub hW hc hn)
    obtain ⟨gs, H', hQ, hKe⟩ := after C N hS hk hZ hv hC hF hK hsub hW hp (Or.inr ⟨rfl, X', hS'⟩)
    exact Fns.steps (fun t r => stp.trans r) (G v _ gs hKe hQ _ H')
theorem callI_ {rf rc rs rl cf cc cs cl : Nat} (C : Cx w K Z a0 EL own code ml rt mn (Rm rf rc rs rl)) {i : Nat} {ps : List FieldType} {r : Option FieldType} {a : Addr} {as' : List Value} (hy1 : y.name = "<init>") (wl : (Cond.methodLink own i y).before a0 Z = true) (wm : (Cond.instanceMethod y).before a0 Z = true) (wi : (Cond.initialized y.cls).before a0 Z = true) (wc : (Cond.code y bytes maxL none).before a0 Z = true) (hy : y.cls ≠ "java/lang/invoke/MethodHandle" ∧ y.cls ≠ "java/lang/invoke/VarHandle") (pd : parseMethodDescriptor y.desc = some ⟨ps, r⟩) (hl : as'.length = ps.length) (M : Old Z n0 h → Con w Z EL n0 y bytes maxL none (Rm cf cc cs cl) (.ref a :: as') h ssc Qc) (hsub : ∀ x ∈ ssc, x ∈ ss) (hL : L.size = ml) (hfr : cf + 1 ≤ rf) (hlo : (st.map fun v => v.category).sum + (maxL + 11) + cl ≤ rl) (hc : k + cc ≤ rc) (hn : n + cs ≤ rs) (d : Dc code pc (.invokespecial i) 3 pc') (hst : stk = as'.reverse ++ .ref a :: st) (G : ∀ v h' gs, Keep h h' ssc → Qc v h' gs → Go w K Z EL n0 ss0 Q pc' L (v.toList ++ st) h' (gs ++ ss) (k + cc) (n + cs)) : Go w K Z EL n0 ss0 Q pc L stk h ss k n := by
  obtain ⟨d1, rfl⟩ := d
  subst hst
  intro T H
  obtain ⟨vm0, locs, k0, X, N, eT, hS, hk, hZ, hv, hC, hF, hO, hK⟩ := H
  have hR : K.R = Rm rf rc rs rl := C.2.2.2.2.2.2.2.1
  have hown : (K.s.setVm vm0).vm.findClass own = some K.m.cls := fcl C hS
  have hZ' : Z.Warmed39 (K.s.setVm vm0).vm := hZ
  have hsz : L.size = K.c.maxLocals := hL.trans C.2.2.1.symm
  cases w with
  | false =>
    obtain ⟨v, vm₁, B, hW, X', hp, stp⟩ := X.specialBack C.1 (y := y) hy1 hown (mvT hZ' wl) (mvT hZ' wm) (mvT hZ' wc) hy (conBack (W := (st.map fun v => v.category).sum) (M hO) hZ' wc wi (by rw [hR]; exact hfr) (by rw [hR]; exact hlo)) (g := mkF K.m pc L (as'.reverse ++ .ref a :: st)) rfl hsz (Steps.refl _) (a := a) (argsL := as') (rest := st) (lenOf pd hl) rfl (by show 2 * 0 + _ ≤ _; omega) (hb C.2.1 d1) (fun vm₁ hW => pre C eT hZ hC hF hsub hW hc hn)
    obtain ⟨gs, H', hQ, hKe⟩ := after C N hS hk hZ hv hC hF hK hsub hW hp (Or.inl ⟨rfl, X'⟩)
    exact Fns.steps (fun t r => stp.trans r) (G v _ gs hKe hQ _ H')
  | true =>
    obtain ⟨v, vm₁, B, hW, X', hS', -, hp, stp⟩ := X.specialBackS C.1 (y := y) hy1 hown (mvT hZ' wl) (mvT hZ' wm) (mvT hZ' wc) hy (conBackS (W := (st.map fun v => v.category).sum) (M hO) hZ' wc wi (by rw [hR]; exact hfr) (by rw [hR]; exact hlo)) (g := mkF K.m pc L (as'.reverse ++ .ref a :: st)) rfl hsz (Steps.refl _) (a := a) (argsL := as') (rest := st) (lenOf pd hl) rfl (by show 2 * 0 + _ ≤ _; omega) (hb C.2.1 d1) (fun vm₁ hW => pre C eT hZ hC hF hsub hW hc hn)
    obtain ⟨gs, H', hQ, hKe⟩ := after C N hS hk hZ hv hC hF hK hsub hW hp (Or.inr ⟨rfl, X', hS'⟩)
    exact Fns.steps (fun t r => stp.trans r) (G v _ gs hKe hQ _ H')
theorem callV_ {rf rc rs rl cf cc cs cl : Nat} (C : Cx w K Z a0 EL own code ml rt mn (Rm rf rc rs rl)) {i : Nat} {ps : List FieldType} {r : Option FieldType} {a : Addr} {as' : List Value} {O : String} {x : MethodName} (wl : (Cond.methodLink own i x).before a0 Z = true) (wd : (Cond.declares x).before a0 Z = true) (hnf : ∀ s : State, Z.Warmed39 s.vm → NotFace s x) (wse : (Cond.selects O x y).before a0 Z = true) (wm : (Cond.instanceMethod y).before a0 Z = true) (wi : (Cond.initialized y.cls).before a0 Z = true) (wc : (Cond.code y bytes maxL ret).before a0 Z = true) (hy : x.cls ≠ "java/lang/invoke/MethodHandle" ∧ x.cls ≠ "java/lang/invoke/VarHandle") (E : Exa Z h a O) (pd : parseMethodDescriptor x.desc = some ⟨ps, r⟩) (hl : as'.length = ps.length) (M : Old Z n0 h → Con w Z EL n0 y bytes maxL ret (Rm cf cc cs cl) (.ref a :: as') h ssc Qc) (hsub : ∀ x ∈ ssc, x ∈ ss) (hL : L.size = ml) (hfr : cf + 1 ≤ rf) (hlo : (st.map fun v => v.category).sum + (maxL + 11) + cl ≤ rl) (hc : k + cc ≤ rc) (hn : n + cs ≤ rs) (d : Dc code pc (.invokevirtual i) 3 pc') (hst : stk = as'.reverse ++ .ref a :: st) (G : ∀ v h' gs, Keep h h' ssc → Qc v h' gs → Go w K Z EL n0 ss0 Q pc' L (v.toList ++ st) h' (gs ++ ss) (k + cc) (n + cs)) : Go w K Z EL n0 ss0 Q pc L stk h ss k n := by
  obtain ⟨d1, rfl⟩ := d
  subst hst
  intro T H
  obtain ⟨vm0, locs, k0, X, N, eT, hS, hk, hZ, hv, hC, hF, hO, hK⟩ := H
  have hR : K.R = Rm rf rc rs rl := C.2.2.2.2.2.2.2.1
  have hown : (K.s.setVm vm0).vm.findClass own = some K.m.cls := fcl C hS
  have hZ' : Z.Warmed39 (K.s.setVm vm0).vm := hZ
  have hsz : L.size = K.c.maxLocals := hL.trans C.2.2.1.symm
  obtain ⟨cq, kq, qa, qb, qc⟩ := isOf (T := T) hZ' eT E
  cases w with
  | false =>
    obtain ⟨v, vm₁, B, hW, X', hp, stp⟩ := X.virtualBack C.1 (y := x) (z := y) hown (mvT hZ' wl) (mvT hZ' wd) (hnf _ hZ') (mvT hZ' wse) (mvT hZ' wm) hy (conBack (W := (st.map fun v => v.category).sum) (M hO) hZ' wc wi (by rw [hR]; exact hfr) (by rw [hR]; exact hlo)) qa qc (g := mkF K.m pc L (as'.reverse ++ .ref a :: st)) rfl hsz (Steps.refl _) (argsL := as') (rest := st) (lenOf pd hl) rfl (by show 2 * 0 + _ ≤ _; omega) (hb C.2.1 d1) (fun vm₁ hW => pre C eT hZ hC hF hsub hW hc hn)
    obtain ⟨gs, H', hQ, hKe⟩ := after C N hS hk hZ hv hC hF hK hsub hW hp (Or.inl ⟨rfl, X'⟩)
    exact Fns.steps (fun t r => stp.trans r) (G v _ gs hKe hQ _ H')
  | true =>
    obtain ⟨v, vm₁, B, hW, X', hS', -, hp, stp⟩ := X.virtualBackS C.1 (y := x) (z := y) hown (mvT hZ' wl) (mvT hZ' wd) (hnf _ hZ') (mvT hZ' wse) (mvT hZ' wm) hy (conBackS (W := (st.map fun v => v.category).sum) (M hO) hZ' wc wi (by rw [hR]; exact hfr) (by rw [hR]; exact hlo)) qa qc (g := mkF K.m pc L (as'.reverse ++ .ref a :: st)) rfl hsz (Steps.refl _) (argsL := as') (rest := st) (lenOf pd hl) rfl (by show 2 * 0 + _ ≤ _; omega) (hb C.2.1 d1) (fun vm₁ hW => pre C eT hZ hC hF hsub hW hc hn)
    obtain ⟨gs, H', hQ, hKe⟩ := after C N hS hk hZ hv hC hF hK hsub hW hp (Or.inr ⟨rfl, X', hS'⟩)
    exact Fns.steps (fun t r => stp.trans r) (G v _ gs hKe hQ _ H')
theorem callP_ {rf rc rs rl cf cc cs cl : Nat} (C : Cx w K Z a0 EL own code ml rt mn (Rm rf rc rs rl)) {i : Nat} {ps : List FieldType} {r : Option FieldType} {a : Addr} {as' : List Value} {O : String} (wl : (Cond.methodLink own i y).before a0 Z = true) (wm : (Cond.instanceMethod y).before a0 Z = true) (wse : (Cond.selects y.cls y y).before a0 Z = true) (wp : (Cond.privateMethod y).before a0 Z = true) (wi : (Cond.initialized y.cls).before a0 Z = true) (wc : (Cond.code y bytes maxL ret).before a0 Z = true) (hy : y.cls ≠ "java/lang/invoke/MethodHandle" ∧ y.cls ≠ "java/lang/invoke/VarHandle") (E : Exa Z h a O) (pd : parseMethodDescriptor y.desc = some ⟨ps, r⟩) (hl : as'.length = ps.length) (M : Old Z n0 h → Con w Z EL n0 y bytes maxL ret (Rm cf cc cs cl) (.ref a :: as') h ssc Qc) (hsub : ∀ x ∈ ssc, x ∈ ss) (hL : L.size = ml) (hfr : cf + 1 ≤ rf) (hlo : (st.map fun v => v.category).sum + (maxL + 11) + cl ≤ rl) (hc : k + cc ≤ rc) (hn : n + cs ≤ rs) (d : Dc code pc (.invokevirtual i) 3 pc') (hst : stk = as'.reverse ++ .ref a :: st) (G : ∀ v h' gs, Keep h h' ssc → Qc v h' gs → Go w K Z EL n0 ss0 Q pc' L (v.toList ++ st) h' (gs ++ ss) (k + cc) (n + cs)) : Go w K Z EL n0 ss0 Q pc L stk h ss k n := by
  obtain ⟨d1, rfl⟩ := d
  subst hst
  intro T H
  obtain ⟨vm0, locs, k0, X, N, eT, hS, hk, hZ, hv, hC, hF, hO, hK⟩ := H
  have hR : K.R = Rm rf rc rs rl := C.2.2.2.2.2.2.2.1
  have hown : (K.s.setVm vm0).vm.findClass own = some K.m.cls := fcl C hS
  have hZ' : Z.Warmed39 (K.s.setVm vm0).vm := hZ
  have hsz : L.size = K.c.maxLocals := hL.trans C.2.2.1.symm
  obtain ⟨cq, q1, q2⟩ := E.cell
  cases w with
  | false =>
    obtain ⟨v, vm₁, B, hW, X', hp, stp⟩ := X.privateBack C.1 (y := y) hown (mvT hZ' wl) (mvT hZ' wm) (mvT hZ' wse) (Cond.privateMethod_at (mvP hZ' wp (args := #[]))) (mvT hZ' wc) hy (conBack (W := (st.map fun v => v.category).sum) (M hO) hZ' wc wi (by rw [hR]; exact hfr) (by rw [hR]; exact hlo)) (g := mkF K.m pc L (as'.reverse ++ .ref a :: st)) rfl hsz (Steps.refl _) (a := a) (by rw [eT]; exact q1) q2 (argsL := as') (rest := st) (lenOf pd hl) rfl (by show 2 * 0 + _ ≤ _; omega) (hb C.2.1 d1) (fun vm₁ hW => pre C eT hZ hC hF hsub hW hc hn)
    obtain ⟨gs, H', hQ, hKe⟩ := after C N hS hk hZ hv hC hF hK hsub hW hp (Or.inl ⟨rfl, X'⟩)
    exact Fns.steps (fun t r => stp.trans r) (G v _ gs hKe hQ _ H')
  | true =>
    obtain ⟨v, vm₁, B, hW, X', hS', -, hp, stp⟩ := X.privateBackS C.1 (y := y) hown (mvT hZ' wl) (mvT hZ' wm) (mvT hZ' wse) (Cond.privateMethod_at (mvP hZ' wp (args := #[]))) (mvT hZ' wc) hy (conBackS (W := (st.map fun v => v.category).sum) (M hO) hZ' wc wi (by rw [hR]; exact hfr) (by rw [hR]; exact hlo)) (g := mkF K.m pc L (as'.reverse ++ .ref a :: st)) rfl hsz (Steps.refl _) (a := a) (by rw [eT]; exact q1) q2 (argsL := as') (rest := st) (lenOf pd hl) rfl (by show 2 * 0 + _ ≤ _; omega) (hb C.2.1 d1) (fun vm₁ hW => pre C eT hZ hC hF hsub hW hc hn)
    obtain ⟨gs, H', hQ, hKe⟩ := after C N hS hk hZ hv hC hF hK hsub hW hp (Or.inr ⟨rfl, X', hS'⟩)
    exact Fns.steps (fun t r => stp.trans r) (G v _ gs hKe hQ _ H')
theorem Ary.ofArv {b : Addr} {kc : ClassId} {ty : FieldType} {z : Int32} {vs : List Value} {dv : Value} (F : Arv Z h b kc ty z vs dv) (hl : z.toNatClampNeg = vs.length) : Ary Z h b ty vs := by
  obtain ⟨c, A, -, e2, -, H, -⟩ := F
  have hlt := rng32 z
  refine ⟨c, A, ?_, by rw [← hl]; simp only [Int32.toNatClampNeg]; omega⟩
  apply Array.ext_getElem?
  intro j
  by_cases q : j < c.slots.size
  · rw [H j q]
    have q' : j < vs.length := by omega
    simp [q']
  · have q' : ¬ j < vs.length := by omega
    rw [Array.getElem?_eq_none (by omega)]
    simp; omega
theorem ldcS_ {w : Bool} {rf rc rs rl : Nat} (hw : w = true) (C : Cx w K Z a0 EL own code ml rt mn (Rm rf rc rs rl)) {i : Nat} {text : String} (wl : (Cond.stringLink own i text).before a0 Z = true) (wS : ∀ a ∈ Bundle.stringAtoms, a.before a0 Z = true) (hmem : (own, i) ∈ EL)
    {vs : List Value} {z : Int32} (ht : (∀ c ∈ text.toList, c.toNat < 256) ∧ text.toList.map (fun c => Value.int (Jvm.Lit.byteI c.toNat.toUInt16)) = vs) (hz : ¬ z < 0) (hl : z.toNatClampNeg = vs.length) {nn : Nat} (hnn : 4 * text.toList.length ≤ nn) (hbig : nn ≤ 536870912) (hc : k + 2 ≤ rc) (hn : n + (nn + 4) ≤ rs)
    (d : Dc code pc (.ldc i) 2 pc') (G : ∀ h' a b, Keep h h' [] → Exa Z h' a "java/lang/String" → Fld Z h' a "java/lang/String" "coder" "B" (.int 0) → Fld Z h' a "java/lang/String" "value" "[B" (.ref b) → Ary Z h' b .byte vs → (∀ x ∈ ss, x ≠ a ∧ x ≠ b) → Go w K Z EL n0 ss0 Q pc' L (.ref a :: st) h' ss (k + 2) (n + (nn + 4))) : Go w K Z EL n0 ss0 Q pc L st h ss k n := by
  obtain ⟨d1, rfl⟩ := d
  intro T H
  obtain ⟨vm0, locs, k0, X, N, eT, hS, hk, hZ, hv, hC, hF, hO, hK⟩ := H
  have hR : K.R = Rm rf rc rs rl := C.2.2.2.2.2.2.2.1
  have hown : vm0.findClass own = some K.m.cls := fcl C hS
  obtain ⟨a, T', h', k1, b, kb, X', e', E, hS', hk', hZ', -, g1, g2, g3, g4, -, -, hCr, -, hSf, stp⟩ := ldcCH X C.1 hZ hown wl wS eT hS hk C.2.2.2.2.2.2.2.2.1 hmem hC.1 ht hz hl (g := mkF K.m pc L st) rfl (hb C.2.1 d1) hnn hbig (by rw [hR]; exact hc) (by rw [hR]; exact hn)
  have hF' : Sf Z EL n0 T'.vm h' ss0 K.s.heap ss := fun x hx => by
    obtain ⟨f1, f2, f3, f4⟩ := hF x hx
    exact ⟨f1, Nat.lt_of_lt_of_le f2 E.1, hCr.safe f2 f3, f4⟩
  exact Fns.steps stp (G h' a b ((Keep.refl h []).ext E) g1 g2 g3 (Ary.ofArv g4 hl) (fun x hx => hSf x (hF' x hx).2.2.1) T' ⟨T'.vm, locs, k1, X', N, e', hS', hk', hZ', (fun q => by rw [hw] at q; cases q), hC.trans hCr, hF', hO.ext E, hK.ext E⟩)
end Calls
end Jvm.Own
namespace Jvm.Own
open Jvm Jvm.ClassFile Sem Op Lib Jvm.Free Jvm.Stand Jvm.LawKit Jvm.RoadKit
/-- two roads that meet again with an int on the stack -/
theorem Go.join {w : Bool} {K : IV} {Z : State} {EL : List (String × Nat)} {n0 : Nat} {ss0 ss : List Addr} {Q : Option Value → Heap → List Addr → Prop} {pc pcJ : Nat} {L LJ : Array Slot} {st stJ : List Value} {h : Heap} {k n : Nat} {c : Prop} [Decidable c] {x y : Int32}
    (B : (c → Go w K Z EL n0 ss0 Q pcJ LJ (.int x :: stJ) h ss k n) → (¬ c → Go w K Z EL n0 ss0 Q pcJ LJ (.int y :: stJ) h ss k n) → Go w K Z EL n0 ss0 Q pc L st h ss k n) (G : Go w K Z EL n0 ss0 Q pcJ LJ (.int (if c then x else y) :: stJ) h ss k n) : Go w K Z EL n0 ss0 Q pc L st h ss k n :=
  B (fun q => by rw [if_pos q] at G; exact G) (fun q => by rw [if_neg q] at G; exact G)
end Jvm.Own
namespace Jvm.Own
open Jvm Jvm.ClassFile Sem Op Lib Jvm.Free Jvm.Stand Jvm.LawKit Jvm.RoadKit
/-! OWN KIT 4: Strings, plain facts on chars and indices -/
theorem catR {v : Value} (h : v.isRef = true) : v.category = 1 := by cases v <;> simp_all [Value.isRef, Value.category]
theorem st1 {L L' : Array Slot} {j : Nat} {v : Value} {o : Slot} (hold : L[j]? = some o) (ho : o = .unset ∨ ∃ w, o = .val w ∧ w.category = 1) (hv : v.category = 1) (e : L.setIfInBounds j (.val v) = L') : storeLocals L j v = some L' := e ▸ XS.store1 hold ho hv
def isCh (c : Int32) : Prop := 0 ≤ c.toInt ∧ c.toInt < 65536
def chs (cs : List Int32) : List Value := cs.map Value.int
def lat (cs : List Int32) : List Value := cs.map fun c => Value.int (nar .byte c)
def utf (cs : List Int32) : List Value := cs.flatMap fun c => [Value.int (nar .byte c), Value.int (nar .byte (c >>> 8))]
theorem chs_len (cs : List Int32) : (chs cs).length = cs.length := by simp [chs]
theorem lat_len (cs : List Int32) : (lat cs).length = cs.length := by simp [lat]
theorem utf_len (cs : List Int32) : (utf cs).length = 2 * cs.length := by
  induction cs with
  | nil => rfl
  | cons c r ih => simp [utf] at ih ⊢; omega
theorem i32e {x y : Int32} (h : x.toInt = y.toInt) : x = y := Int32.toInt_inj.mp h
theorem lt32 (x y : Int32) : x < y ↔ x.toInt < y.toInt := Int32.lt_iff_toInt_lt
theorem narc (x : Int32) : ((nar .char x).toInt - x.toInt) % 65536 = 0 ∧ 0 ≤ (nar .char x).toInt ∧ (nar .char x).toInt < 65536 := c_i2c x
theorem narb (x : Int32) : ((nar .byte x).toInt - x.toInt) % 256 = 0 ∧ -128 ≤ (nar .byte x).toInt ∧ (nar .byte x).toInt < 128 := c_i2b x
theorem narc_id {x : Int32} (h : isCh x) : nar .char x = x := i32e (by have := narc x; have := h.1; have := h.2; omega)
theorem narc_ch (x : Int32) : isCh (nar .char x) := (narc x).2
theorem narb_id {x : Int32} (h : -128 ≤ x.toInt ∧ x.toInt < 128) : nar .byte x = x := i32e (by have := narb x; omega)
theorem narb_idem (x : Int32) : nar .byte (nar .byte x) = nar .byte x := narb_id (narb x).2
theorem narc_idem (x : Int32) : nar .char (nar .char x) = nar .char x := narc_id (narc_ch x)
theorem mask8 (x : Int32) : (x &&& 255).toInt = x.toInt % 256 := c_mask x 255 8 (by decide) (by decide)
theorem lat_char {c : Int32} (h : 0 ≤ c.toInt ∧ c.toInt < 256) : nar .char (nar .byte c &&& 255) = c := by
  have e := mask8 (nar .byte c)
  have := narb c
  rw [narc_id (by unfold isCh; omega)]
  exact i32e (by omega)
theorem narb_inj {x y : Int32} (hx : 0 ≤ x.toInt ∧ x.toInt < 256) (hy : 0 ≤ y.toInt ∧ y.toInt < 256) (h : nar .byte x = nar .byte y) : x = y := i32e (by
  have a := narb x; have b := narb y; rw [h] at a; omega)
def natI (i : Nat) : Int32 := Nat.toInt32 i
theorem natI_toInt {i : Nat} (h : i < 2 ^ 31) : (natI i).toInt = i := len_toInt h
theorem natI_clamp {i : Nat} (h : i < 2 ^ 31) : (natI i).toNatClampNeg = i := by
  show (natI i).toInt.toNat = i
  rw [natI_toInt h]; rfl
theorem natI_succ {i : Nat} (h : i + 1 < 2 ^ 31) : natI i + 1 = natI (i + 1) := i32e (by
  have a := c_iadd (natI i) 1
  have b := natI_toInt (i := i) (by omega)
  have c := natI_toInt h
  have d : (1 : Int32).toInt = 1 := rfl
  have := rng32 (natI i + 1)
  omega)
/-- the bytes of a String that spells cs -/
def Byt (cs : List Int32) (z : Int32) (vs : List Value) : Prop := ((∀ c ∈ cs, c.toInt < 256) ∧ z = 0 ∧ vs = lat cs) ∨ ((∃ c ∈ cs, 256 ≤ c.toInt) ∧ z = 1 ∧ vs = utf cs)
abbrev sS : String := "java/lang/String"
/-- at a lies a String that spells cs -/
def Str (Z : State) (h : Heap) (a : Addr) (cs : List Int32) : Prop := Exa Z h a "java/lang/String" ∧ (∀ c ∈ cs, isCh c) ∧ cs.length ≤ 4096 ∧ ∃ (b : Addr) (z : Int32) (vs : List Value), Fld Z h a "java/lang/String" "value" "[B" (.ref b) ∧ Fld Z h a "java/lang/String" "coder" "B" (.int z) ∧ Ary Z h b .byte vs ∧ Byt cs z vs
section Facts
variable {Z : State} {h h' : Heap} {a b x : Addr} {cs cs' : List Int32} {a0 : Array Value}
theorem Str.keep (F : Str Z h a cs) (K : Keep h h' []) : Str Z h' a cs := by
  obtain ⟨E, h1, h2, b, z, vs, F1, F2, A, B⟩ := F
  exact ⟨E.keep K, h1, h2, b, z, vs, F1.keep K nin0, F2.keep K nin0, A.keep K nin0, B⟩
theorem Str.keepX {C : String} {kk : Nat} (F : Str Z h a cs) (K : Keep h h' [x]) (E : Exa Z h x C) (hC : "java/lang/String" ≠ C) (wi : (Cond.instantiable C kk).before a0 Z = true) : Str Z h' a cs := by
  obtain ⟨E0, h1, h2, b, z, vs, F1, F2, A, B⟩ := F
  have n1 : a ∉ [x] := ninS (ne_exa E0 E hC) nin0
  have n2 : b ∉ [x] := ninS (by obtain ⟨c, A', -⟩ := A; exact (ne_arr E wi A').symm) nin0
  exact ⟨E0.keep K, h1, h2, b, z, vs, F1.keep K n1, F2.keep K n1, A.keep K n2, B⟩
theorem Str.lt (F : Str Z h a cs) : a < h.size := F.1.lt
theorem Fld.fn {C n d : String} {v w : Value} (F : Fld Z h a C n d v) (G : Fld Z h a C n d w) : v = w := by
  by_cases q : v = w
  · exact q
  · exact absurd rfl (F.ne G q)
theorem Ary.fn {ty : FieldType} {vs ws : List Value} (F : Ary Z h a ty vs) (G : Ary Z h a ty ws) : vs = ws := by
  obtain ⟨c, A, e, -⟩ := F
  obtain ⟨c', A', e', -⟩ := G
  cases A.1.symm.trans A'.1
  rw [e] at e'
  simpa using e'
theorem lat_inj {cs cs' : List Int32} (h : ∀ c ∈ cs, 0 ≤ c.toInt ∧ c.toInt < 256) (h' : ∀ c ∈ cs', 0 ≤ c.toInt ∧ c.toInt < 256) (e : lat cs = lat cs') : cs = cs' := by
  induction cs generalizing cs' with
  | nil => cases cs' with
    | nil => rfl
    | cons _ _ => simp [lat] at e
  | cons c r ih => cases cs' with
    | nil => simp [lat] at e
    | cons c' r' =>
      simp only [lat, List.map_cons, List.cons.injEq, Value.int.injEq] at e
      rw [narb_inj (h c (by simp)) (h' c' (by simp)) e.1, ih (fun x hx => h x (by simp [hx])) (fun x hx => h' x (by simp [hx])) e.2]
theorem utf1_inj {x y : Int32} (hx : isCh x) (hy : isCh y) (h : nar .byte x = nar .byte y) (h' : nar .byte (x >>> 8) = nar .byte (y >>> 8)) : x = y := i32e (by
  have a := narb x; have b := narb y; rw [h] at a
  have a' := narb (x >>> 8); have b' := narb (y >>> 8); rw [h'] at a'
  have e1 : (x >>> 8).toInt = x.toInt / 256 := c_ishr x 8 8 (by decide)
  have e2 : (y >>> 8).toInt = y.toInt / 256 := c_ishr y 8 8 (by decide)
  have := hx.1; have := hx.2; have := hy.1; have := hy.2
  omega)
theorem utf_inj {cs cs' : List Int32} (h : ∀ c ∈ cs, isCh c) (h' : ∀ c ∈ cs', isCh c) (e : utf cs = utf cs') : cs = cs' := by
  induction cs generalizing cs' with
  | nil => cases cs' with
    | nil => rfl
    | cons _ _ => simp [utf] at e
  | cons c r ih => cases cs' with
    | nil => simp [utf] at e
    | cons c' r' =>
      simp only [utf, List.flatMap_cons, List.cons_append, List.nil_append, List.cons.injEq, Value.int.injEq] at e
      rw [utf1_inj (h c (by simp)) (h' c' (by simp)) e.1 e.2.1, ih (fun x hx => h x (by simp [hx])) (fun x hx => h' x (by simp [hx])) e.2.2]
theorem Byt.iff {z z' : Int32} {vs vs' : List Value} (h : ∀ c ∈ cs, isCh c) (h' : ∀ c ∈ cs', isCh c) (B : Byt cs z vs) (B' : Byt cs' z' vs') : (z = z' ∧ vs = vs') ↔ cs = cs' := by
  constructor
  · rintro ⟨rfl, rfl⟩
    rcases B with ⟨q, rfl, rfl⟩ | ⟨q, rfl, rfl⟩ <;> rcases B' with ⟨q', e1, e2⟩ | ⟨q', e1, e2⟩
    · exact lat_inj (fun c hc => ⟨(h c hc).1, q c hc⟩) (fun c hc => ⟨(h' c hc).1, q' c hc⟩) e2
    · exact absurd e1 (by decide)
    · exact absurd e1 (by decide)
    · exact utf_inj h h' e2
  · rintro rfl
    rcases B with ⟨q, rfl, rfl⟩ | ⟨⟨c, hc, q⟩, rfl, rfl⟩ <;> rcases B' with ⟨q', e1, e2⟩ | ⟨⟨c', hc', q'⟩, e1, e2⟩
    · exact ⟨e1.symm, e2.symm⟩
    · have := q c' hc'; omega
    · have := q' c hc; omega
    · exact ⟨e1.symm, e2.symm⟩
theorem Str.fn (F : Str Z h a cs) (G : Str Z h a cs') : cs = cs' := by
  obtain ⟨-, h1, -, b, z, vs, F1, F2, A, B⟩ := F
  obtain ⟨-, h1', -, b', z', vs', F1', F2', A', B'⟩ := G
  have e1 := Fld.fn F1 F1'
  have e2 := Fld.fn F2 F2'
  simp only [Value.ref.injEq, Value.int.injEq] at e1 e2
  subst e1
  exact (Byt.iff h1 h1' B B').mp ⟨e2, A.fn A'⟩
end Facts
end Jvm.Own
namespace Jvm.Own
open Jvm Jvm.ClassFile Sem Op Lib Jvm.Free Jvm.Stand Jvm.LawKit Jvm.RoadKit
section Facts2
variable {Z : State} {h h' : Heap} {a b x : Addr} {cs cs' : List Int32} {a0 : Array Value}
theorem Ary.ne {ty ty' : FieldType} {vs ws : List Value} (F : Ary Z h a ty vs) (G : Ary Z h b ty' ws) (q : ty ≠ ty') : a ≠ b := fun e => by
  subst e
  obtain ⟨c, A, -⟩ := F
  obtain ⟨c', A', -⟩ := G
  cases A.1.symm.trans A'.1
  obtain ⟨-, k, hk, comp, hkind⟩ := A.2.1
  obtain ⟨-, k', hk', comp', hkind'⟩ := A'.2.1
  cases hk.symm.trans hk'
  have := hkind.symm.trans hkind'
  injection this with _ e
  exact q e
theorem Ary.neX {ty : FieldType} {vs : List Value} {C : String} {kk : Nat} (F : Ary Z h a ty vs) (E : Exa Z h x C) (wi : (Cond.instantiable C kk).before a0 Z = true) : a ≠ x := by
  obtain ⟨c, A, -⟩ := F
  exact (ne_arr E wi A).symm
theorem Ary.other {ty : FieldType} {vs : List Value} {sl : Nat} {v : Value} (F : Ary Z h a ty vs) (W : Wr h h' b sl v) (q : a ≠ b) : Ary Z h' a ty vs := F.keep (Keep.of_wr W) (ninS q nin0)
/-- how many chars ahead of the first above 255 -/
def pfx (cs : List Int32) : Nat := (cs.takeWhile fun c => decide (c.toInt < 256)).length
theorem pfx_all (h : ∀ c ∈ cs, c.toInt < 256) : pfx cs = cs.length := by
  induction cs with
  | nil => rfl
  | cons x r ih =>
    have e := ih (fun c hc => h c (by simp [hc]))
    have hx := h x (by simp)
    simp only [pfx] at e
    simp [pfx, List.takeWhile_cons, hx, e]
theorem pfx_at {i : Nat} {c : Int32} (h : ∀ c ∈ cs.take i, c.toInt < 256) (hc : cs[i]? = some c) (q : 256 ≤ c.toInt) : pfx cs = i := by
  induction cs generalizing i with
  | nil => simp at hc
  | cons x r ih =>
    cases i with
    | zero =>
      simp at hc; subst hc
      simp [pfx, List.takeWhile_cons, show ¬ x.toInt < 256 by omega]
    | succ i =>
      have hx : x.toInt < 256 := h x (by simp)
      have := ih (i := i) (fun c hc => h c (by simp [hc])) (by simpa using hc)
      simp only [pfx] at this
      simp [pfx, List.takeWhile_cons, hx, this]
theorem lat_set {i m : Nat} {c : Int32} (hm : i + (m + 1) = cs.length) (hc : cs[i]? = some c) : (lat (cs.take i) ++ List.replicate (m + 1) (Value.int 0)).set i (.int (nar .byte (nar .byte c))) = lat (cs.take (i + 1)) ++ List.replicate m (Value.int 0) := by
  have hi : i < cs.length := by omega
  have hl : (lat (cs.take i)).length = i := by rw [lat_len, List.length_take]; omega
  rw [List.set_append_right _ _ (by omega), hl, Nat.sub_self, List.replicate_succ, List.set_cons_zero, narb_idem]
  have e : cs.take (i + 1) = cs.take i ++ [c] := by
    rw [List.take_add_one, hc]; rfl
  rw [e]
  simp [lat]
theorem take_lt {i : Nat} {c : Int32} (h : ∀ c ∈ cs.take i, c.toInt < 256) (hc : cs[i]? = some c) (q : c.toInt < 256) : ∀ c ∈ cs.take (i + 1), c.toInt < 256 := by
  have e : cs.take (i + 1) = cs.take i ++ [c] := by
    rw [List.take_add_one, hc]; rfl
  rw [e]
  intro x hx
  rcases List.mem_append.mp hx with hx | hx
  · exact h x hx
  · simp at hx; subst hx; exact q
theorem chs_at {i : Nat} {c : Int32} (hc : cs[i]? = some c) : (chs cs)[i]? = some (.int c) := by simp [chs, hc]
theorem lat_at {i : Nat} {c : Int32} (hc : cs[i]? = some c) : (lat cs)[i]? = some (.int (nar .byte c)) := by simp [lat, hc]
theorem utf_at {i : Nat} {c : Int32} (hc : cs[i]? = some c) : (utf cs)[2 * i]? = some (.int (nar .byte c)) ∧ (utf cs)[2 * i + 1]? = some (.int (nar .byte (c >>> 8))) := by
  induction cs generalizing i with
  | nil => simp at hc
  | cons x r ih =>
    cases i with
    | zero => simp at hc; subst hc; simp [utf]
    | succ i =>
      have := ih (i := i) (by simpa using hc)
      simp only [utf] at this ⊢
      simp only [List.flatMap_cons, List.cons_append, List.nil_append]
      have e1 : 2 * (i + 1) = (2 * i) + 1 + 1 := by omega
      have e2 : 2 * (i + 1) + 1 = (2 * i + 1) + 1 + 1 := by omega
      rw [e2, e1]
      simpa using this
end Facts2
end Jvm.Own
namespace Jvm.Own
open Jvm Jvm.ClassFile Sem Op Lib Jvm.Free Jvm.Stand Jvm.LawKit Jvm.RoadKit
section Facts3
variable {cs cs' : List Int32}
theorem pfx_le (cs : List Int32) : pfx cs ≤ cs.length := (List.takeWhile_sublist _).length_le
theorem pfx_take (cs : List Int32) : ∀ c ∈ cs.take (pfx cs), c.toInt < 256 := by
  induction cs with
  | nil => simp
  | cons x r ih =>
    by_cases hx : x.toInt < 256
    · intro c hc
      have e : pfx (x :: r) = pfx r + 1 := by simp [pfx, List.takeWhile_cons, hx]
      rw [e, List.take_succ_cons] at hc
      rcases List.mem_cons.mp hc with rfl | hc
      · exact hx
      · exact ih c hc
    · intro c hc
      have e : pfx (x :: r) = 0 := by simp [pfx, List.takeWhile_cons, hx]
      rw [e] at hc; simp at hc
theorem pfx_full (h : pfx cs = cs.length) : ∀ c ∈ cs, c.toInt < 256 := by
  have := pfx_take cs; rw [h, List.take_length] at this; exact this
theorem pfx_next (h : pfx cs < cs.length) : ∃ c, cs[pfx cs]? = some c ∧ 256 ≤ c.toInt := by
  induction cs with
  | nil => simp at h
  | cons x r ih =>
    by_cases hx : x.toInt < 256
    · have e : pfx (x :: r) = pfx r + 1 := by simp [pfx, List.takeWhile_cons, hx]
      obtain ⟨c, h1, h2⟩ := ih (by rw [e] at h; simpa using h)
      exact ⟨c, by rw [e]; simpa using h1, h2⟩
    · have e : pfx (x :: r) = 0 := by simp [pfx, List.takeWhile_cons, hx]
      exact ⟨x, by rw [e]; simp, by omega⟩
theorem Byt.length {z : Int32} {vs : List Value} (B : Byt cs z vs) : (z = 0 ∧ vs.length = cs.length) ∨ (z = 1 ∧ vs.length = 2 * cs.length) := by
  rcases B with ⟨-, rfl, rfl⟩ | ⟨-, rfl, rfl⟩
  · exact Or.inl ⟨rfl, lat_len _⟩
  · exact Or.inr ⟨rfl, utf_len _⟩
theorem Byt.len_lt {z : Int32} {vs : List Value} (B : Byt cs z vs) (hl : cs.length ≤ 4096) : vs.length < 2 ^ 31 := by rcases B.length with ⟨-, e⟩ | ⟨-, e⟩ <;> omega
theorem Byt.coder {z y : Int32} {vs : List Value} (B : Byt cs z vs) (h1 : 1 ≤ cs.length) (hl : cs.length ≤ 4096) (hy : y.toInt = vs.length) : nar .byte (nar .byte (ushr (natI cs.length - y) 31)) = z := by
  have e1 := natI_toInt (i := cs.length) (by omega)
  have e2 := c_isub (natI cs.length) y
  have e3 := rng32 (natI cs.length - y)
  have e4 : (ushr (natI cs.length - y) 31).toInt = ((natI cs.length - y).toInt % 4294967296) / (2 ^ 31 : Nat) := c_iushr _ 31 31 (by decide) (by decide)
  have e6 : ((2 ^ 31 : Nat) : Int) = 2147483648 := by decide
  rw [e6] at e4
  have e5 : (ushr (natI cs.length - y) 31) = z := i32e (by
    rcases B.length with ⟨rfl, e⟩ | ⟨rfl, e⟩
    · have : (0 : Int32).toInt = 0 := rfl; omega
    · have : (1 : Int32).toInt = 1 := rfl; omega)
  rw [e5]
  rcases B.length with ⟨rfl, e⟩ | ⟨rfl, e⟩ <;> rfl
theorem Byt.ints {z : Int32} {vs : List Value} (B : Byt cs z vs) (hl : cs.length ≤ 4096) : ∃ xs : List Int32, vs = xs.map Value.int ∧ xs.length ≤ 8192 := by
  rcases B with ⟨-, -, rfl⟩ | ⟨-, -, rfl⟩
  · exact ⟨cs.map (nar .byte), by simp [lat], by simp; omega⟩
  · refine ⟨cs.flatMap fun c => [nar .byte c, nar .byte (c >>> 8)], by simp [utf, List.map_flatMap], ?_⟩
    have := utf_len cs
    have e : (utf cs).length = (cs.flatMap fun c => [nar .byte c, nar .byte (c >>> 8)]).length := by
      rw [← List.length_map Value.int]; simp [utf, List.map_flatMap]
    omega
end Facts3
end Jvm.Own
namespace Jvm.Own
open Jvm Jvm.ClassFile Sem Op Lib Jvm.Free Jvm.Stand Jvm.LawKit Jvm.RoadKit
section Facts4
variable {cs : List Int32}
theorem shl1 {x : Int32} {i : Nat} (h : x.toInt = i) (hi : i < 2 ^ 30) : (x <<< (1 &&& 31)).toInt = (2 * i : Nat) := by
  have a := c_ishl x 1 1 (by decide)
  have b := rng32 (x <<< (1 &&& 31))
  have e : ((2 ^ 1 : Nat) : Int) = 2 := by decide
  rw [e] at a
  have c : (x <<< (1 &&& 31)).toInt = 2 * i := by omega
  rw [c]; rfl
theorem shr1 {x : Int32} {m : Nat} (h : x.toInt = (2 * m : Nat)) : (x >>> (1 &&& 31)).toInt = m := by
  have a := c_ishr x 1 1 (by decide)
  have e : ((2 ^ 1 : Nat) : Int) = 2 := by decide
  rw [e] at a
  omega
theorem shr0 (x : Int32) : x >>> (0 &&& 31) = x := i32e (by
  have a := c_ishr x 0 0 (by decide)
  have e : ((2 ^ 0 : Nat) : Int) = 1 := by decide
  rw [e] at a; omega)
theorem utf_char {c : Int32} (h : isCh c) : nar .char (((nar .byte c &&& 255) <<< (0 &&& 31)) ||| ((nar .byte (c >>> 8) &&& 255) <<< (8 &&& 31))) = c := by
  obtain ⟨h1, h2⟩ := h
  have e8 : (c >>> 8).toInt = c.toInt / 256 := c_ishr c 8 8 (by decide)
  have m1 := mask8 (nar .byte c)
  have m2 := mask8 (nar .byte (c >>> 8))
  have n1 := narb c
  have n2 := narb (c >>> 8)
  have s1 := c_ishl (nar .byte c &&& 255) 0 0 (by decide)
  have s2 := c_ishl (nar .byte (c >>> 8) &&& 255) 8 8 (by decide)
  have r1 := rng32 ((nar .byte c &&& 255) <<< (0 &&& 31))
  have r2 := rng32 ((nar .byte (c >>> 8) &&& 255) <<< (8 &&& 31))
  have z0 : ((2 ^ 0 : Nat) : Int) = 1 := by decide
  have z8 : ((2 ^ 8 : Nat) : Int) = 256 := by decide
  rw [z0] at s1
  rw [z8] at s2
  have f1 : ((nar .byte c &&& 255) <<< (0 &&& 31)).toInt = c.toInt % 256 := by omega
  have f2 : ((nar .byte (c >>> 8) &&& 255) <<< (8 &&& 31)).toInt = c.toInt / 256 * 256 := by omega
  have o := c_or' ((nar .byte c &&& 255) <<< (0 &&& 31)) ((nar .byte (c >>> 8) &&& 255) <<< (8 &&& 31)) 8 (by decide) 256 z8.symm (by rw [f2]; omega) (by rw [f1]; omega) (by rw [f1]; omega)
  have r3 := rng32 (((nar .byte c &&& 255) <<< (0 &&& 31)) ||| ((nar .byte (c >>> 8) &&& 255) <<< (8 &&& 31)))
  have f3 : (((nar .byte c &&& 255) <<< (0 &&& 31)) ||| ((nar .byte (c >>> 8) &&& 255) <<< (8 &&& 31))) = c := i32e (by omega)
  rw [f3, narc_id ⟨h1, h2⟩]
theorem utf_set {i m : Nat} {c : Int32} (hm : i + (m + 1) = cs.length) (hc : cs[i]? = some c) : ((utf (cs.take i) ++ List.replicate (2 * (m + 1)) (Value.int 0)).set (2 * i) (.int (nar .byte c))).set (2 * i + 1) (.int (nar .byte (c >>> 8))) = utf (cs.take (i + 1)) ++ List.replicate (2 * m) (Value.int 0) := by
  have hi : i < cs.length := by omega
  have hl : (utf (cs.take i)).length = 2 * i := by rw [utf_len, List.length_take]; omega
  rw [List.set_append_right _ _ (by omega), hl, Nat.sub_self, List.set_append_right _ _ (by omega), hl, show 2 * (m + 1) = 2 * m + 1 + 1 by omega, List.replicate_succ, List.replicate_succ, List.set_cons_zero, show 2 * i + 1 - 2 * i = 1 by omega, List.set_cons_succ, List.set_cons_zero]
  have e : cs.take (i + 1) = cs.take i ++ [c] := by
    rw [List.take_add_one, hc]; rfl
  rw [e]
  simp [utf]
theorem Byt.isr {z y : Int32} {vs : List Value} (B : Byt cs z vs) (hl : cs.length ≤ 4096) (hy : y.toInt = vs.length) : y >>> (z &&& 31) = natI cs.length := i32e (by
  rw [natI_toInt (by omega)]
  rcases B.length with ⟨rfl, e⟩ | ⟨rfl, e⟩
  · rw [shr0, hy, e]
  · exact shr1 (by rw [hy, e]))
theorem Byt.z01 {z : Int32} {vs : List Value} (B : Byt cs z vs) : z = 0 ∨ z = 1 := B.length.imp (·.1) (·.1)
theorem Byt.nb {z : Int32} {vs : List Value} (B : Byt cs z vs) : nar .byte z = z := by rcases B.z01 with rfl | rfl <;> rfl
theorem Byt.zero {vs : List Value} (B : Byt cs 0 vs) : (∀ c ∈ cs, c.toInt < 256) ∧ vs = lat cs := by
  rcases B with ⟨q, -, e⟩ | ⟨-, q, -⟩
  · exact ⟨q, e⟩
  · exact absurd q (by decide)
theorem Byt.one {vs : List Value} (B : Byt cs 1 vs) : vs = utf cs := by
  rcases B with ⟨-, q, -⟩ | ⟨-, -, e⟩
  · exact absurd q (by decide)
  · exact e
end Facts4
end Jvm.Own
namespace Jvm.Own
open Jvm Jvm.ClassFile Sem Op Lib Jvm.Free Jvm.Stand Jvm.LawKit Jvm.RoadKit
theorem eq_val {args : Array Value} {first s : State} {o : Option Outcome} {idx : List Nat} {t : Term} {q : Int32} (h : (Jvm.Cond.eq t (.int q)).value args first o s idx = some true) : t.eval args first o idx s = some (.int q) := by
  obtain ⟨x, y, h1, h2, k1, k2⟩ := cmp_v (Or.inl h)
  cases (Term.int_eval q).symm.trans h2
  obtain ⟨z, rfl⟩ := k2
  have := gotT (Cond.eq_ints h1 h2) h
  rw [h1, this]
end Jvm.Own
namespace Jvm.Own
open Jvm Jvm.ClassFile Sem Op Lib Jvm.Free Jvm.Stand Jvm.LawKit Jvm.RoadKit
theorem Ary.fill {Z : State} {h : Heap} {b : Addr} {ty : FieldType} {v w : Value} {i j m n : Nat} (F : Ary Z h b ty ((List.replicate i v ++ List.replicate m w).set i v)) (hm : m = n + 1) (hj : j = i + 1) : Ary Z h b ty (List.replicate j v ++ List.replicate n w) := by
  subst hm hj
  have e : (List.replicate i v ++ List.replicate (n + 1) w).set i v = List.replicate (i + 1) v ++ List.replicate n w := by
    rw [List.set_append_right _ _ (by simp), List.length_replicate, Nat.sub_self, List.replicate_succ, List.set_cons_zero, List.replicate_succ', List.append_assoc]; rfl
  rw [e] at F; exact F
end Jvm.Own
namespace Jvm.Pilot.@@N@@
open Jvm Jvm.ClassFile Sem Op Lib Jvm.Free Jvm.Stand Jvm.LawKit Jvm.RoadKit Jvm.Own Jvm.Pilot.@@N@@.Jvm.D
abbrev WD : Bool := true
abbrev EL0 : List (String × Nat) := [("java/lang/String", 7)]
theorem hWE : WD = false → EL0 = [] := fun h => by cases h
theorem hEL {Z : State} {a0 : Array Value} (hw : ∀ d ∈ tables_1, d.before a0 Z = true) : EW Z a0 EL0 := EW.cons (hw _ (List.mem_of_getElem? (i := 23) rfl)) (by decide +kernel) (EW.nil)
theorem wS {Z : State} {a0 : Array Value} (hw : ∀ d ∈ tables_1, d.before a0 Z = true) : ∀ a ∈ Bundle.stringAtoms, a.before a0 Z = true := by
  intro d hd
  simp only [Bundle.stringAtoms, List.mem_cons, List.not_mem_nil, or_false] at hd
  rcases hd with rfl | rfl | rfl | rfl | rfl | rfl | rfl
  · exact (hw _ (List.mem_of_getElem? (i := 11) rfl))
  · exact (hw _ (List.mem_of_getElem? (i := 10) rfl))
  · exact (hw _ (List.mem_of_getElem? (i := 24) rfl))
  · exact (hw _ (List.mem_of_getElem? (i := 25) rfl))
  · exact (hw _ (List.mem_of_getElem? (i := 26) rfl))
  · exact (hw _ (List.mem_of_getElem? (i := 27) rfl))
  · exact (hw _ (List.mem_of_getElem? (i := 28) rfl))
def Stt (Z : State) : Prop := (∃ cv : Int32, ¬ cv = 0 ∧ Sta Z Z.heap "java/lang/String" "COMPACT_STRINGS" "Z" (.int cv)) ∧ (∃ v : Value, v.isRef = true ∧ Sta Z Z.heap "jdk/internal/util/Preconditions" "SIOOBE_FORMATTER" "Ljava/util/function/BiFunction;" v) ∧ Sta Z Z.heap "java/lang/StringUTF16" "$assertionsDisabled" "Z" (.int 1) ∧ Sta Z Z.heap "java/lang/StringUTF16" "HI_BYTE_SHIFT" "I" (.int 0) ∧ Sta Z Z.heap "java/lang/StringUTF16" "LO_BYTE_SHIFT" "I" (.int 8) ∧ True
theorem st_c {Z : State} (hs : Stt Z) : (∃ cv : Int32, ¬ cv = 0 ∧ Sta Z Z.heap "java/lang/String" "COMPACT_STRINGS" "Z" (.int cv)) := hs.1
theorem st_f {Z : State} (hs : Stt Z) : (∃ v : Value, v.isRef = true ∧ Sta Z Z.heap "jdk/internal/util/Preconditions" "SIOOBE_FORMATTER" "Ljava/util/function/BiFunction;" v) := hs.2.1
theorem st_a {Z : State} (hs : Stt Z) : Sta Z Z.heap "java/lang/StringUTF16" "$assertionsDisabled" "Z" (.int 1) := hs.2.2.1
theorem st_hi {Z : State} (hs : Stt Z) : Sta Z Z.heap "java/lang/StringUTF16" "HI_BYTE_SHIFT" "I" (.int 0) := hs.2.2.2.1
theorem st_lo {Z : State} (hs : Stt Z) : Sta Z Z.heap "java/lang/StringUTF16" "LO_BYTE_SHIFT" "I" (.int 8) := hs.2.2.2.2.1
theorem d0_0 : Dc method_2_code 0 (.iload_n 0) 1 1 := ⟨by decide +kernel, rfl⟩
theorem d0_1 : Dc method_2_code 1 (.iconst 1) 1 2 := ⟨by decide +kernel, rfl⟩
theorem d0_2 : Dc method_2_code 2 (.iand) 1 3 := ⟨by decide +kernel, rfl⟩
theorem d0_3 : Db method_2_code 3 (.ifCond .eq 6) 3 6 (6) 9 := ⟨by decide +kernel, rfl, by decide, by decide⟩
theorem d0_6 : Dc method_2_code 6 (.bipush 46) 2 8 := ⟨by decide +kernel, rfl⟩
theorem d0_8 : Dc method_2_code 8 (.ireturn) 1 9 := ⟨by decide +kernel, rfl⟩
theorem d0_9 : Dc method_2_code 9 (.iload_n 0) 1 10 := ⟨by decide +kernel, rfl⟩
theorem d0_10 : Dc method_2_code 10 (.iconst 1) 1 11 := ⟨by decide +kernel, rfl⟩
theorem d0_11 : Dc method_2_code 11 (.iushr) 1 12 := ⟨by decide +kernel, rfl⟩
theorem d0_12 : Dc method_2_code 12 (.ldc 7) 2 14 := ⟨by decide +kernel, rfl⟩
theorem d0_14 : Dc method_2_code 14 (.iand) 1 15 := ⟨by decide +kernel, rfl⟩
theorem d0_15 : Dc method_2_code 15 (.i2c) 1 16 := ⟨by decide +kernel, rfl⟩
theorem d0_16 : Dc method_2_code 16 (.ireturn) 1 17 := ⟨by decide +kernel, rfl⟩
theorem d1_0 : Dc method_4_code 0 (.iload_n 0) 1 1 := ⟨by decide +kernel, rfl⟩
theorem d1_1 : Db method_4_code 1 (.ifCond .ne 14) 3 4 (14) 15 := ⟨by decide +kernel, rfl, by decide, by decide⟩
theorem d1_4 : Dc method_4_code 4 (.new 8) 3 7 := ⟨by decide +kernel, rfl⟩
theorem d1_7 : Dc method_4_code 7 (.dup) 1 8 := ⟨by decide +kernel, rfl⟩
theorem d1_8 : Dc method_4_code 8 (.iconst 0) 1 9 := ⟨by decide +kernel, rfl⟩
theorem d1_9 : Dc method_4_code 9 (.newarray .char) 2 11 := ⟨by decide +kernel, rfl⟩
theorem d1_11 : Dc method_4_code 11 (.invokespecial 10) 3 14 := ⟨by decide +kernel, rfl⟩
theorem d1_14 : Dc method_4_code 14 (.areturn) 1 15 := ⟨by decide +kernel, rfl⟩
theorem d1_15 : Dc method_4_code 15 (.iload_n 0) 1 16 := ⟨by decide +kernel, rfl⟩
theorem d1_16 : Dc method_4_code 16 (.iconst 1) 1 17 := ⟨by decide +kernel, rfl⟩
theorem d1_17 : Db method_4_code 17 (.if_icmp .ne 18) 3 20 (18) 35 := ⟨by decide +kernel, rfl, by decide, by decide⟩
theorem d1_20 : Dc method_4_code 20 (.new 8) 3 23 := ⟨by decide +kernel, rfl⟩
theorem d1_23 : Dc method_4_code 23 (.dup) 1 24 := ⟨by decide +kernel, rfl⟩
theorem d1_24 : Dc method_4_code 24 (.iconst 1) 1 25 := ⟨by decide +kernel, rfl⟩
theorem d1_25 : Dc method_4_code 25 (.newarray .char) 2 27 := ⟨by decide +kernel, rfl⟩
theorem d1_27 : Dc method_4_code 27 (.dup) 1 28 := ⟨by decide +kernel, rfl⟩
theorem d1_28 : Dc method_4_code 28 (.iconst 0) 1 29 := ⟨by decide +kernel, rfl⟩
theorem d1_29 : Dc method_4_code 29 (.iload_n 1) 1 30 := ⟨by decide +kernel, rfl⟩
theorem d1_30 : Dc method_4_code 30 (.castore) 1 31 := ⟨by decide +kernel, rfl⟩
theorem d1_31 : Dc method_4_code 31 (.invokespecial 10) 3 34 := ⟨by decide +kernel, rfl⟩
theorem d1_34 : Dc method_4_code 34 (.areturn) 1 35 := ⟨by decide +kernel, rfl⟩
theorem d1_35 : Dc method_4_code 35 (.iload_n 0) 1 36 := ⟨by decide +kernel, rfl⟩
theorem d1_36 : Dc method_4_code 36 (.iconst 2) 1 37 := ⟨by decide +kernel, rfl⟩
theorem d1_37 : Db method_4_code 37 (.if_icmp .ne 22) 3 40 (22) 59 := ⟨by decide +kernel, rfl, by decide, by decide⟩
theorem d1_40 : Dc method_4_code 40 (.new 8) 3 43 := ⟨by decide +kernel, rfl⟩
theorem d1_43 : Dc method_4_code 43 (.dup) 1 44 := ⟨by decide +kernel, rfl⟩
theorem d1_44 : Dc method_4_code 44 (.iconst 2) 1 45 := ⟨by decide +kernel, rfl⟩
theorem d1_45 : Dc method_4_code 45 (.newarray .char) 2 47 := ⟨by decide +kernel, rfl⟩
theorem d1_47 : Dc method_4_code 47 (.dup) 1 48 := ⟨by decide +kernel, rfl⟩
theorem d1_48 : Dc method_4_code 48 (.iconst 0) 1 49 := ⟨by decide +kernel, rfl⟩
theorem d1_49 : Dc method_4_code 49 (.iload_n 1) 1 50 := ⟨by decide +kernel, rfl⟩
theorem d1_50 : Dc method_4_code 50 (.castore) 1 51 := ⟨by decide +kernel, rfl⟩
theorem d1_51 : Dc method_4_code 51 (.dup) 1 52 := ⟨by decide +kernel, rfl⟩
theorem d1_52 : Dc method_4_code 52 (.iconst 1) 1 53 := ⟨by decide +kernel, rfl⟩
theorem d1_53 : Dc method_4_code 53 (.iload_n 2) 1 54 := ⟨by decide +kernel, rfl⟩
theorem d1_54 : Dc method_4_code 54 (.castore) 1 55 := ⟨by decide +kernel, rfl⟩
theorem d1_55 : Dc method_4_code 55 (.invokespecial 10) 3 58 := ⟨by decide +kernel, rfl⟩
theorem d1_58 : Dc method_4_code 58 (.areturn) 1 59 := ⟨by decide +kernel, rfl⟩
theorem d1_59 : Dc method_4_code 59 (.iload_n 0) 1 60 := ⟨by decide +kernel, rfl⟩
theorem d1_60 : Dc method_4_code 60 (.iconst 3) 1 61 := ⟨by decide +kernel, rfl⟩
theorem d1_61 : Db method_4_code 61 (.if_icmp .ne 26) 3 64 (26) 87 := ⟨by decide +kernel, rfl, by decide, by decide⟩
theorem d1_64 : Dc method_4_code 64 (.new 8) 3 67 := ⟨by decide +kernel, rfl⟩
theorem d1_67 : Dc method_4_code 67 (.dup) 1 68 := ⟨by decide +kernel, rfl⟩
theorem d1_68 : Dc method_4_code 68 (.iconst 3) 1 69 := ⟨by decide +kernel, rfl⟩
theorem d1_69 : Dc method_4_code 69 (.newarray .char) 2 71 := ⟨by decide +kernel, rfl⟩
theorem d1_71 : Dc method_4_code 71 (.dup) 1 72 := ⟨by decide +kernel, rfl⟩
theorem d1_72 : Dc method_4_code 72 (.iconst 0) 1 73 := ⟨by decide +kernel, rfl⟩
theorem d1_73 : Dc method_4_code 73 (.iload_n 1) 1 74 := ⟨by decide +kernel, rfl⟩
theorem d1_74 : Dc method_4_code 74 (.castore) 1 75 := ⟨by decide +kernel, rfl⟩
theorem d1_75 : Dc method_4_code 75 (.dup) 1 76 := ⟨by decide +kernel, rfl⟩
theorem d1_76 : Dc method_4_code 76 (.iconst 1) 1 77 := ⟨by decide +kernel, rfl⟩
theorem d1_77 : Dc method_4_code 77 (.iload_n 2) 1 78 := ⟨by decide +kernel, rfl⟩
theorem d1_78 : Dc method_4_code 78 (.castore) 1 79 := ⟨by decide +kernel, rfl⟩
theorem d1_79 : Dc method_4_code 79 (.dup) 1 80 := ⟨by decide +kernel, rfl⟩
theorem d1_80 : Dc method_4_code 80 (.iconst 2) 1 81 := ⟨by decide +kernel, rfl⟩
theorem d1_81 : Dc method_4_code 81 (.iload_n 3) 1 82 := ⟨by decide +kernel, rfl⟩
theorem d1_82 : Dc method_4_code 82 (.castore) 1 83 := ⟨by decide +kernel, rfl⟩
theorem d1_83 : Dc method_4_code 83 (.invokespecial 10) 3 86 := ⟨by decide +kernel, rfl⟩
theorem d1_86 : Dc method_4_code 86 (.areturn) 1 87 := ⟨by decide +kernel, rfl⟩
theorem d1_87 : Dc method_4_code 87 (.iload_n 0) 1 88 := ⟨by decide +kernel, rfl⟩
theorem d1_88 : Dc method_4_code 88 (.iconst 4) 1 89 := ⟨by decide +kernel, rfl⟩
theorem d1_89 : Db method_4_code 89 (.if_icmp .ne 31) 3 92 (31) 120 := ⟨by decide +kernel, rfl, by decide, by decide⟩
theorem d1_92 : Dc method_4_code 92 (.new 8) 3 95 := ⟨by decide +kernel, rfl⟩
theorem d1_95 : Dc method_4_code 95 (.dup) 1 96 := ⟨by decide +kernel, rfl⟩
theorem d1_96 : Dc method_4_code 96 (.iconst 4) 1 97 := ⟨by decide +kernel, rfl⟩
theorem d1_97 : Dc method_4_code 97 (.newarray .char) 2 99 := ⟨by decide +kernel, rfl⟩
theorem d1_99 : Dc method_4_code 99 (.dup) 1 100 := ⟨by decide +kernel, rfl⟩
theorem d1_100 : Dc method_4_code 100 (.iconst 0) 1 101 := ⟨by decide +kernel, rfl⟩
theorem d1_101 : Dc method_4_code 101 (.iload_n 1) 1 102 := ⟨by decide +kernel, rfl⟩
theorem d1_102 : Dc method_4_code 102 (.castore) 1 103 := ⟨by decide +kernel, rfl⟩
theorem d1_103 : Dc method_4_code 103 (.dup) 1 104 := ⟨by decide +kernel, rfl⟩
theorem d1_104 : Dc method_4_code 104 (.iconst 1) 1 105 := ⟨by decide +kernel, rfl⟩
theorem d1_105 : Dc method_4_code 105 (.iload_n 2) 1 106 := ⟨by decide +kernel, rfl⟩
theorem d1_106 : Dc method_4_code 106 (.castore) 1 107 := ⟨by decide +kernel, rfl⟩
theorem d1_107 : Dc method_4_code 107 (.dup) 1 108 := ⟨by decide +kernel, rfl⟩
theorem d1_108 : Dc method_4_code 108 (.iconst 2) 1 109 := ⟨by decide +kernel, rfl⟩
theorem d1_109 : Dc method_4_code 109 (.iload_n 3) 1 110 := ⟨by decide +kernel, rfl⟩
theorem d1_110 : Dc method_4_code 110 (.castore) 1 111 := ⟨by decide +kernel, rfl⟩
theorem d1_111 : Dc method_4_code 111 (.dup) 1 112 := ⟨by decide +kernel, rfl⟩
theorem d1_112 : Dc method_4_code 112 (.iconst 3) 1 113 := ⟨by decide +kernel, rfl⟩
theorem d1_113 : Dc method_4_code 113 (.iload 4) 2 115 := ⟨by decide +kernel, rfl⟩
theorem d1_115 : Dc method_4_code 115 (.castore) 1 116 := ⟨by decide +kernel, rfl⟩
theorem d1_116 : Dc method_4_code 116 (.invokespecial 10) 3 119 := ⟨by decide +kernel, rfl⟩
theorem d1_119 : Dc method_4_code 119 (.areturn) 1 120 := ⟨by decide +kernel, rfl⟩
theorem d1_120 : Dc method_4_code 120 (.new 8) 3 123 := ⟨by decide +kernel, rfl⟩
theorem d1_123 : Dc method_4_code 123 (.dup) 1 124 := ⟨by decide +kernel, rfl⟩
theorem d1_124 : Dc method_4_code 124 (.iconst 5) 1 125 := ⟨by decide +kernel, rfl⟩
theorem d1_125 : Dc method_4_code 125 (.newarray .char) 2 127 := ⟨by decide +kernel, rfl⟩
theorem d1_127 : Dc method_4_code 127 (.dup) 1 128 := ⟨by decide +kernel, rfl⟩
theorem d1_128 : Dc method_4_code 128 (.iconst 0) 1 129 := ⟨by decide +kernel, rfl⟩
theorem d1_129 : Dc method_4_code 129 (.iload_n 1) 1 130 := ⟨by decide +kernel, rfl⟩
theorem d1_130 : Dc method_4_code 130 (.castore) 1 131 := ⟨by decide +kernel, rfl⟩
theorem d1_131 : Dc method_4_code 131 (.dup) 1 132 := ⟨by decide +kernel, rfl⟩
theorem d1_132 : Dc method_4_code 132 (.iconst 1) 1 133 := ⟨by decide +kernel, rfl⟩
theorem d1_133 : Dc method_4_code 133 (.iload_n 2) 1 134 := ⟨by decide +kernel, rfl⟩
theorem d1_134 : Dc method_4_code 134 (.castore) 1 135 := ⟨by decide +kernel, rfl⟩
theorem d1_135 : Dc method_4_code 135 (.dup) 1 136 := ⟨by decide +kernel, rfl⟩
theorem d1_136 : Dc method_4_code 136 (.iconst 2) 1 137 := ⟨by decide +kernel, rfl⟩
theorem d1_137 : Dc method_4_code 137 (.iload_n 3) 1 138 := ⟨by decide +kernel, rfl⟩
theorem d1_138 : Dc method_4_code 138 (.castore) 1 139 := ⟨by decide +kernel, rfl⟩
theorem d1_139 : Dc method_4_code 139 (.dup) 1 140 := ⟨by decide +kernel, rfl⟩
theorem d1_140 : Dc method_4_code 140 (.iconst 3) 1 141 := ⟨by decide +kernel, rfl⟩
theorem d1_141 : Dc method_4_code 141 (.iload 4) 2 143 := ⟨by decide +kernel, rfl⟩
theorem d1_143 : Dc method_4_code 143 (.castore) 1 144 := ⟨by decide +kernel, rfl⟩
theorem d1_144 : Dc method_4_code 144 (.dup) 1 145 := ⟨by decide +kernel, rfl⟩
theorem d1_145 : Dc method_4_code 145 (.iconst 4) 1 146 := ⟨by decide +kernel, rfl⟩
theorem d1_146 : Dc method_4_code 146 (.iload 5) 2 148 := ⟨by decide +kernel, rfl⟩
theorem d1_148 : Dc method_4_code 148 (.castore) 1 149 := ⟨by decide +kernel, rfl⟩
theorem d1_149 : Dc method_4_code 149 (.invokespecial 10) 3 152 := ⟨by decide +kernel, rfl⟩
theorem d1_152 : Dc method_4_code 152 (.areturn) 1 153 := ⟨by decide +kernel, rfl⟩
theorem d2_0 : Dc jdk_42_method_3_code 0 (.aload_n 0) 1 1 := ⟨by decide +kernel, rfl⟩
theorem d2_1 : Dc jdk_42_method_3_code 1 (.aload_n 1) 1 2 := ⟨by decide +kernel, rfl⟩
theorem d2_2 : Dc jdk_42_method_3_code 2 (.iconst 0) 1 3 := ⟨by decide +kernel, rfl⟩
theorem d2_3 : Dc jdk_42_method_3_code 3 (.aload_n 1) 1 4 := ⟨by decide +kernel, rfl⟩
theorem d2_4 : Dc jdk_42_method_3_code 4 (.arraylength) 1 5 := ⟨by decide +kernel, rfl⟩
theorem d2_5 : Dc jdk_42_method_3_code 5 (.aconst_null) 1 6 := ⟨by decide +kernel, rfl⟩
theorem d2_6 : Dc jdk_42_method_3_code 6 (.invokespecial 27) 3 9 := ⟨by decide +kernel, rfl⟩
theorem d2_9 : Dc jdk_42_method_3_code 9 (.return_) 1 10 := ⟨by decide +kernel, rfl⟩
theorem d3_0 : Dc jdk_42_method_149_code 0 (.aload_n 0) 1 1 := ⟨by decide +kernel, rfl⟩
theorem d3_1 : Dc jdk_42_method_149_code 1 (.invokespecial 1) 3 4 := ⟨by decide +kernel, rfl⟩
theorem d3_4 : Dc jdk_42_method_149_code 4 (.iload_n 3) 1 5 := ⟨by decide +kernel, rfl⟩
theorem d3_5 : Db jdk_42_method_149_code 5 (.ifCond .ne 22) 3 8 (22) 27 := ⟨by decide +kernel, rfl, by decide, by decide⟩
theorem d3_8 : Dc jdk_42_method_149_code 8 (.aload_n 0) 1 9 := ⟨by decide +kernel, rfl⟩
theorem d3_9 : Dc jdk_42_method_149_code 9 (.ldc 7) 2 11 := ⟨by decide +kernel, rfl⟩
theorem d3_11 : Dc jdk_42_method_149_code 11 (.getfield 9) 3 14 := ⟨by decide +kernel, rfl⟩
theorem d3_14 : Dc jdk_42_method_149_code 14 (.putfield 9) 3 17 := ⟨by decide +kernel, rfl⟩
theorem d3_17 : Dc jdk_42_method_149_code 17 (.aload_n 0) 1 18 := ⟨by decide +kernel, rfl⟩
theorem d3_18 : Dc jdk_42_method_149_code 18 (.ldc 7) 2 20 := ⟨by decide +kernel, rfl⟩
theorem d3_20 : Dc jdk_42_method_149_code 20 (.getfield 15) 3 23 := ⟨by decide +kernel, rfl⟩
theorem d3_23 : Dc jdk_42_method_149_code 23 (.putfield 15) 3 26 := ⟨by decide +kernel, rfl⟩
theorem d3_26 : Dc jdk_42_method_149_code 26 (.return_) 1 27 := ⟨by decide +kernel, rfl⟩
theorem d3_27 : Dc jdk_42_method_149_code 27 (.getstatic 38) 3 30 := ⟨by decide +kernel, rfl⟩
theorem d3_30 : Db jdk_42_method_149_code 30 (.ifCond .eq 28) 3 33 (28) 58 := ⟨by decide +kernel, rfl, by decide, by decide⟩
theorem d3_33 : Dc jdk_42_method_149_code 33 (.aload_n 1) 1 34 := ⟨by decide +kernel, rfl⟩
theorem d3_34 : Dc jdk_42_method_149_code 34 (.iload_n 2) 1 35 := ⟨by decide +kernel, rfl⟩
theorem d3_35 : Dc jdk_42_method_149_code 35 (.iload_n 3) 1 36 := ⟨by decide +kernel, rfl⟩
theorem d3_36 : Dc jdk_42_method_149_code 36 (.invokestatic 177) 3 39 := ⟨by decide +kernel, rfl⟩
theorem d3_39 : Dc jdk_42_method_149_code 39 (.astore 5) 2 41 := ⟨by decide +kernel, rfl⟩
theorem d3_41 : Dc jdk_42_method_149_code 41 (.aload_n 0) 1 42 := ⟨by decide +kernel, rfl⟩
theorem d3_42 : Dc jdk_42_method_149_code 42 (.aload 5) 2 44 := ⟨by decide +kernel, rfl⟩
theorem d3_44 : Dc jdk_42_method_149_code 44 (.iload_n 3) 1 45 := ⟨by decide +kernel, rfl⟩
theorem d3_45 : Dc jdk_42_method_149_code 45 (.invokestatic 47) 3 48 := ⟨by decide +kernel, rfl⟩
theorem d3_48 : Dc jdk_42_method_149_code 48 (.putfield 15) 3 51 := ⟨by decide +kernel, rfl⟩
theorem d3_51 : Dc jdk_42_method_149_code 51 (.aload_n 0) 1 52 := ⟨by decide +kernel, rfl⟩
theorem d3_52 : Dc jdk_42_method_149_code 52 (.aload 5) 2 54 := ⟨by decide +kernel, rfl⟩
theorem d3_54 : Dc jdk_42_method_149_code 54 (.putfield 9) 3 57 := ⟨by decide +kernel, rfl⟩
theorem d3_57 : Dc jdk_42_method_149_code 57 (.return_) 1 58 := ⟨by decide +kernel, rfl⟩
theorem d5_0 : Dc method_3_code 0 (.iload_n 0) 1 1 := ⟨by decide +kernel, rfl⟩
theorem d5_1 : Db method_3_code 1 (.ifCond .eq 11) 3 4 (11) 12 := ⟨by decide +kernel, rfl, by decide, by decide⟩
theorem d5_4 : Dc method_3_code 4 (.iload_n 1) 1 5 := ⟨by decide +kernel, rfl⟩
theorem d5_5 : Dc method_3_code 5 (.bipush 46) 2 7 := ⟨by decide +kernel, rfl⟩
theorem d5_7 : Db method_3_code 7 (.if_icmp .ne 5) 3 10 (5) 12 := ⟨by decide +kernel, rfl, by decide, by decide⟩
theorem d5_10 : Dc method_3_code 10 (.iconst 1) 1 11 := ⟨by decide +kernel, rfl⟩
theorem d5_11 : Dc method_3_code 11 (.ireturn) 1 12 := ⟨by decide +kernel, rfl⟩
theorem d5_12 : Dc method_3_code 12 (.iconst 0) 1 13 := ⟨by decide +kernel, rfl⟩
theorem d5_13 : Dc method_3_code 13 (.ireturn) 1 14 := ⟨by decide +kernel, rfl⟩
theorem d6_0 : Dc prog_4_method_2_code 0 (.iconst 1) 1 1 := ⟨by decide +kernel, rfl⟩
theorem d6_1 : Dc prog_4_method_2_code 1 (.istore_n 1) 1 2 := ⟨by decide +kernel, rfl⟩
theorem d6_2 : Dc prog_4_method_2_code 2 (.iconst 0) 1 3 := ⟨by decide +kernel, rfl⟩
theorem d6_3 : Dc prog_4_method_2_code 3 (.istore_n 2) 1 4 := ⟨by decide +kernel, rfl⟩
theorem d6_4 : Dc prog_4_method_2_code 4 (.iload_n 2) 1 5 := ⟨by decide +kernel, rfl⟩
theorem d6_5 : Dc prog_4_method_2_code 5 (.aload_n 0) 1 6 := ⟨by decide +kernel, rfl⟩
theorem d6_6 : Dc prog_4_method_2_code 6 (.invokevirtual 7) 3 9 := ⟨by decide +kernel, rfl⟩
theorem d6_9 : Db prog_4_method_2_code 9 (.if_icmp .ge 22) 3 12 (22) 31 := ⟨by decide +kernel, rfl, by decide, by decide⟩
theorem d6_12 : Dc prog_4_method_2_code 12 (.aload_n 0) 1 13 := ⟨by decide +kernel, rfl⟩
theorem d6_13 : Dc prog_4_method_2_code 13 (.iload_n 2) 1 14 := ⟨by decide +kernel, rfl⟩
theorem d6_14 : Dc prog_4_method_2_code 14 (.invokevirtual 13) 3 17 := ⟨by decide +kernel, rfl⟩
theorem d6_17 : Dc prog_4_method_2_code 17 (.bipush 46) 2 19 := ⟨by decide +kernel, rfl⟩
theorem d6_19 : Db prog_4_method_2_code 19 (.if_icmp .ne 6) 3 22 (6) 25 := ⟨by decide +kernel, rfl, by decide, by decide⟩
theorem d6_22 : Dc prog_4_method_2_code 22 (.iinc 1 1) 3 25 := ⟨by decide +kernel, rfl⟩
theorem d6_25 : Dc prog_4_method_2_code 25 (.iinc 2 1) 3 28 := ⟨by decide +kernel, rfl⟩
theorem d6_28 : Db prog_4_method_2_code 28 (.goto (-24)) 3 31 (-24) 4 := ⟨by decide +kernel, rfl, by decide, by decide⟩
theorem d6_31 : Dc prog_4_method_2_code 31 (.iload_n 1) 1 32 := ⟨by decide +kernel, rfl⟩
theorem d6_32 : Dc prog_4_method_2_code 32 (.ireturn) 1 33 := ⟨by decide +kernel, rfl⟩
theorem d7_0 : Dc jdk_42_method_54_code 0 (.aload_n 0) 1 1 := ⟨by decide +kernel, rfl⟩
theorem d7_1 : Dc jdk_42_method_54_code 1 (.getfield 9) 3 4 := ⟨by decide +kernel, rfl⟩
theorem d7_4 : Dc jdk_42_method_54_code 4 (.arraylength) 1 5 := ⟨by decide +kernel, rfl⟩
theorem d7_5 : Dc jdk_42_method_54_code 5 (.aload_n 0) 1 6 := ⟨by decide +kernel, rfl⟩
theorem d7_6 : Dc jdk_42_method_54_code 6 (.invokevirtual 335) 3 9 := ⟨by decide +kernel, rfl⟩
theorem d7_9 : Dc jdk_42_method_54_code 9 (.ishr) 1 10 := ⟨by decide +kernel, rfl⟩
theorem d7_10 : Dc jdk_42_method_54_code 10 (.ireturn) 1 11 := ⟨by decide +kernel, rfl⟩
theorem d8_0 : Dc jdk_42_method_152_code 0 (.getstatic 38) 3 3 := ⟨by decide +kernel, rfl⟩
theorem d8_3 : Db jdk_42_method_152_code 3 (.ifCond .eq 10) 3 6 (10) 13 := ⟨by decide +kernel, rfl, by decide, by decide⟩
theorem d8_6 : Dc jdk_42_method_152_code 6 (.aload_n 0) 1 7 := ⟨by decide +kernel, rfl⟩
theorem d8_7 : Dc jdk_42_method_152_code 7 (.getfield 15) 3 10 := ⟨by decide +kernel, rfl⟩
theorem d8_10 : Db jdk_42_method_152_code 10 (.goto 4) 3 13 (4) 14 := ⟨by decide +kernel, rfl, by decide, by decide⟩
theorem d8_14 : Dc jdk_42_method_152_code 14 (.ireturn) 1 15 := ⟨by decide +kernel, rfl⟩
theorem d9_0 : Dc jdk_52_method_16_code 0 (.iload_n 2) 1 1 := ⟨by decide +kernel, rfl⟩
theorem d9_1 : Dc jdk_52_method_16_code 1 (.newarray .byte) 2 3 := ⟨by decide +kernel, rfl⟩
theorem d9_3 : Dc jdk_52_method_16_code 3 (.astore_n 3) 1 4 := ⟨by decide +kernel, rfl⟩
theorem d9_4 : Dc jdk_52_method_16_code 4 (.aload_n 0) 1 5 := ⟨by decide +kernel, rfl⟩
theorem d9_5 : Dc jdk_52_method_16_code 5 (.iload_n 1) 1 6 := ⟨by decide +kernel, rfl⟩
theorem d9_6 : Dc jdk_52_method_16_code 6 (.aload_n 3) 1 7 := ⟨by decide +kernel, rfl⟩
theorem d9_7 : Dc jdk_52_method_16_code 7 (.iconst 0) 1 8 := ⟨by decide +kernel, rfl⟩
theorem d9_8 : Dc jdk_52_method_16_code 8 (.iload_n 2) 1 9 := ⟨by decide +kernel, rfl⟩
theorem d9_9 : Dc jdk_52_method_16_code 9 (.invokestatic 115) 3 12 := ⟨by decide +kernel, rfl⟩
theorem d9_12 : Dc jdk_52_method_16_code 12 (.istore 4) 2 14 := ⟨by decide +kernel, rfl⟩
theorem d9_14 : Dc jdk_52_method_16_code 14 (.iload 4) 2 16 := ⟨by decide +kernel, rfl⟩
theorem d9_16 : Dc jdk_52_method_16_code 16 (.iload_n 2) 1 17 := ⟨by decide +kernel, rfl⟩
theorem d9_17 : Db jdk_52_method_16_code 17 (.if_icmp .eq 40) 3 20 (40) 57 := ⟨by decide +kernel, rfl, by decide, by decide⟩
theorem d9_20 : Dc jdk_52_method_16_code 20 (.aload_n 0) 1 21 := ⟨by decide +kernel, rfl⟩
theorem d9_21 : Dc jdk_52_method_16_code 21 (.iload_n 1) 1 22 := ⟨by decide +kernel, rfl⟩
theorem d9_22 : Dc jdk_52_method_16_code 22 (.iload_n 2) 1 23 := ⟨by decide +kernel, rfl⟩
theorem d9_23 : Dc jdk_52_method_16_code 23 (.invokestatic 119) 3 26 := ⟨by decide +kernel, rfl⟩
theorem d9_26 : Dc jdk_52_method_16_code 26 (.astore 5) 2 28 := ⟨by decide +kernel, rfl⟩
theorem d9_28 : Dc jdk_52_method_16_code 28 (.aload 5) 2 30 := ⟨by decide +kernel, rfl⟩
theorem d9_30 : Dc jdk_52_method_16_code 30 (.iload 4) 2 32 := ⟨by decide +kernel, rfl⟩
theorem d9_32 : Dc jdk_52_method_16_code 32 (.invokestatic 71) 3 35 := ⟨by decide +kernel, rfl⟩
theorem d9_35 : Dc jdk_52_method_16_code 35 (.sipush 255) 3 38 := ⟨by decide +kernel, rfl⟩
theorem d9_38 : Db jdk_52_method_16_code 38 (.if_icmp .gt 16) 3 41 (16) 54 := ⟨by decide +kernel, rfl, by decide, by decide⟩
theorem d9_54 : Dc jdk_52_method_16_code 54 (.aload 5) 2 56 := ⟨by decide +kernel, rfl⟩
theorem d9_56 : Dc jdk_52_method_16_code 56 (.areturn) 1 57 := ⟨by decide +kernel, rfl⟩
theorem d9_57 : Dc jdk_52_method_16_code 57 (.aload_n 3) 1 58 := ⟨by decide +kernel, rfl⟩
theorem d9_58 : Dc jdk_52_method_16_code 58 (.areturn) 1 59 := ⟨by decide +kernel, rfl⟩
theorem d10_0 : Dc jdk_52_method_21_code 0 (.iconst 0) 1 1 := ⟨by decide +kernel, rfl⟩
theorem d10_1 : Dc jdk_52_method_21_code 1 (.istore 5) 2 3 := ⟨by decide +kernel, rfl⟩
theorem d10_3 : Dc jdk_52_method_21_code 3 (.iload 5) 2 5 := ⟨by decide +kernel, rfl⟩
theorem d10_5 : Dc jdk_52_method_21_code 5 (.iload 4) 2 7 := ⟨by decide +kernel, rfl⟩
theorem d10_7 : Db jdk_52_method_21_code 7 (.if_icmp .ge 37) 3 10 (37) 44 := ⟨by decide +kernel, rfl, by decide, by decide⟩
theorem d10_10 : Dc jdk_52_method_21_code 10 (.aload_n 0) 1 11 := ⟨by decide +kernel, rfl⟩
theorem d10_11 : Dc jdk_52_method_21_code 11 (.iload_n 1) 1 12 := ⟨by decide +kernel, rfl⟩
theorem d10_12 : Dc jdk_52_method_21_code 12 (.caload) 1 13 := ⟨by decide +kernel, rfl⟩
theorem d10_13 : Dc jdk_52_method_21_code 13 (.istore 6) 2 15 := ⟨by decide +kernel, rfl⟩
theorem d10_15 : Dc jdk_52_method_21_code 15 (.iload 6) 2 17 := ⟨by decide +kernel, rfl⟩
theorem d10_17 : Dc jdk_52_method_21_code 17 (.sipush 255) 3 20 := ⟨by decide +kernel, rfl⟩
theorem d10_20 : Db jdk_52_method_21_code 20 (.if_icmp .le 6) 3 23 (6) 26 := ⟨by decide +kernel, rfl, by decide, by decide⟩
theorem d10_23 : Dc jdk_52_method_21_code 23 (.iload 5) 2 25 := ⟨by decide +kernel, rfl⟩
theorem d10_25 : Dc jdk_52_method_21_code 25 (.ireturn) 1 26 := ⟨by decide +kernel, rfl⟩
theorem d10_26 : Dc jdk_52_method_21_code 26 (.aload_n 2) 1 27 := ⟨by decide +kernel, rfl⟩
theorem d10_27 : Dc jdk_52_method_21_code 27 (.iload_n 3) 1 28 := ⟨by decide +kernel, rfl⟩
theorem d10_28 : Dc jdk_52_method_21_code 28 (.iload 6) 2 30 := ⟨by decide +kernel, rfl⟩
theorem d10_30 : Dc jdk_52_method_21_code 30 (.i2b) 1 31 := ⟨by decide +kernel, rfl⟩
theorem d10_31 : Dc jdk_52_method_21_code 31 (.bastore) 1 32 := ⟨by decide +kernel, rfl⟩
theorem d10_32 : Dc jdk_52_method_21_code 32 (.iinc 1 1) 3 35 := ⟨by decide +kernel, rfl⟩
theorem d10_35 : Dc jdk_52_method_21_code 35 (.iinc 3 1) 3 38 := ⟨by decide +kernel, rfl⟩
theorem d10_38 : Dc jdk_52_method_21_code 38 (.iinc 5 1) 3 41 := ⟨by decide +kernel, rfl⟩
theorem d10_41 : Db jdk_52_method_21_code 41 (.goto (-38)) 3 44 (-38) 3 := ⟨by decide +kernel, rfl, by decide, by decide⟩
theorem d10_44 : Dc jdk_52_method_21_code 44 (.iload 4) 2 46 := ⟨by decide +kernel, rfl⟩
theorem d10_46 : Dc jdk_52_method_21_code 46 (.ireturn) 1 47 := ⟨by decide +kernel, rfl⟩
theorem d11_0 : Dc jdk_52_method_15_code 0 (.iload_n 1) 1 1 := ⟨by decide +kernel, rfl⟩
theorem d11_1 : Dc jdk_52_method_15_code 1 (.aload_n 0) 1 2 := ⟨by decide +kernel, rfl⟩
theorem d11_2 : Dc jdk_52_method_15_code 2 (.arraylength) 1 3 := ⟨by decide +kernel, rfl⟩
theorem d11_3 : Dc jdk_52_method_15_code 3 (.isub) 1 4 := ⟨by decide +kernel, rfl⟩
theorem d11_4 : Dc jdk_52_method_15_code 4 (.bipush 31) 2 6 := ⟨by decide +kernel, rfl⟩
theorem d11_6 : Dc jdk_52_method_15_code 6 (.iushr) 1 7 := ⟨by decide +kernel, rfl⟩
theorem d11_7 : Dc jdk_52_method_15_code 7 (.i2b) 1 8 := ⟨by decide +kernel, rfl⟩
theorem d11_8 : Dc jdk_52_method_15_code 8 (.ireturn) 1 9 := ⟨by decide +kernel, rfl⟩
theorem d12_0 : Dc jdk_42_method_56_code 0 (.aload_n 0) 1 1 := ⟨by decide +kernel, rfl⟩
theorem d12_1 : Dc jdk_42_method_56_code 1 (.invokevirtual 492) 3 4 := ⟨by decide +kernel, rfl⟩
theorem d12_4 : Db jdk_42_method_56_code 4 (.ifCond .eq 12) 3 7 (12) 16 := ⟨by decide +kernel, rfl, by decide, by decide⟩
theorem d12_7 : Dc jdk_42_method_56_code 7 (.aload_n 0) 1 8 := ⟨by decide +kernel, rfl⟩
theorem d12_8 : Dc jdk_42_method_56_code 8 (.getfield 9) 3 11 := ⟨by decide +kernel, rfl⟩
theorem d12_11 : Dc jdk_42_method_56_code 11 (.iload_n 1) 1 12 := ⟨by decide +kernel, rfl⟩
theorem d12_12 : Dc jdk_42_method_56_code 12 (.invokestatic 495) 3 15 := ⟨by decide +kernel, rfl⟩
theorem d12_15 : Dc jdk_42_method_56_code 15 (.ireturn) 1 16 := ⟨by decide +kernel, rfl⟩
theorem d12_16 : Dc jdk_42_method_56_code 16 (.aload_n 0) 1 17 := ⟨by decide +kernel, rfl⟩
theorem d12_17 : Dc jdk_42_method_56_code 17 (.getfield 9) 3 20 := ⟨by decide +kernel, rfl⟩
theorem d12_20 : Dc jdk_42_method_56_code 20 (.iload_n 1) 1 21 := ⟨by decide +kernel, rfl⟩
theorem d12_21 : Dc jdk_42_method_56_code 21 (.invokestatic 498) 3 24 := ⟨by decide +kernel, rfl⟩
theorem d12_24 : Dc jdk_42_method_56_code 24 (.ireturn) 1 25 := ⟨by decide +kernel, rfl⟩
theorem d13_0 : Dc jdk_42_method_154_code 0 (.getstatic 38) 3 3 := ⟨by decide +kernel, rfl⟩
theorem d13_3 : Db jdk_42_method_154_code 3 (.ifCond .eq 14) 3 6 (14) 17 := ⟨by decide +kernel, rfl, by decide, by decide⟩
theorem d13_6 : Dc jdk_42_method_154_code 6 (.aload_n 0) 1 7 := ⟨by decide +kernel, rfl⟩
theorem d13_7 : Dc jdk_42_method_154_code 7 (.getfield 15) 3 10 := ⟨by decide +kernel, rfl⟩
theorem d13_10 : Db jdk_42_method_154_code 10 (.ifCond .ne 7) 3 13 (7) 17 := ⟨by decide +kernel, rfl, by decide, by decide⟩
theorem d13_13 : Dc jdk_42_method_154_code 13 (.iconst 1) 1 14 := ⟨by decide +kernel, rfl⟩
theorem d13_14 : Db jdk_42_method_154_code 14 (.goto 4) 3 17 (4) 18 := ⟨by decide +kernel, rfl, by decide, by decide⟩
theorem d13_17 : Dc jdk_42_method_154_code 17 (.iconst 0) 1 18 := ⟨by decide +kernel, rfl⟩
theorem d13_18 : Dc jdk_42_method_154_code 18 (.ireturn) 1 19 := ⟨by decide +kernel, rfl⟩
theorem d14_0 : Dc jdk_43_method_2_code 0 (.iload_n 1) 1 1 := ⟨by decide +kernel, rfl⟩
theorem d14_1 : Dc jdk_43_method_2_code 1 (.aload_n 0) 1 2 := ⟨by decide +kernel, rfl⟩
theorem d14_2 : Dc jdk_43_method_2_code 2 (.arraylength) 1 3 := ⟨by decide +kernel, rfl⟩
theorem d14_3 : Dc jdk_43_method_2_code 3 (.invokestatic 9) 3 6 := ⟨by decide +kernel, rfl⟩
theorem d14_6 : Dc jdk_43_method_2_code 6 (.aload_n 0) 1 7 := ⟨by decide +kernel, rfl⟩
theorem d14_7 : Dc jdk_43_method_2_code 7 (.iload_n 1) 1 8 := ⟨by decide +kernel, rfl⟩
theorem d14_8 : Dc jdk_43_method_2_code 8 (.baload) 1 9 := ⟨by decide +kernel, rfl⟩
theorem d14_9 : Dc jdk_43_method_2_code 9 (.sipush 255) 3 12 := ⟨by decide +kernel, rfl⟩
theorem d14_12 : Dc jdk_43_method_2_code 12 (.iand) 1 13 := ⟨by decide +kernel, rfl⟩
theorem d14_13 : Dc jdk_43_method_2_code 13 (.i2c) 1 14 := ⟨by decide +kernel, rfl⟩
theorem d14_14 : Dc jdk_43_method_2_code 14 (.ireturn) 1 15 := ⟨by decide +kernel, rfl⟩
theorem d15_0 : Dc jdk_42_method_155_code 0 (.iload_n 0) 1 1 := ⟨by decide +kernel, rfl⟩
theorem d15_1 : Dc jdk_42_method_155_code 1 (.iload_n 1) 1 2 := ⟨by decide +kernel, rfl⟩
theorem d15_2 : Dc jdk_42_method_155_code 2 (.getstatic 1053) 3 5 := ⟨by decide +kernel, rfl⟩
theorem d15_5 : Dc jdk_42_method_155_code 5 (.invokestatic 1059) 3 8 := ⟨by decide +kernel, rfl⟩
theorem d15_8 : Dc jdk_42_method_155_code 8 (.pop) 1 9 := ⟨by decide +kernel, rfl⟩
theorem d15_9 : Dc jdk_42_method_155_code 9 (.return_) 1 10 := ⟨by decide +kernel, rfl⟩
theorem d16_0 : Dc jdk_41_method_11_code 0 (.iload_n 0) 1 1 := ⟨by decide +kernel, rfl⟩
theorem d16_1 : Db jdk_41_method_11_code 1 (.ifCond .lt 8) 3 4 (8) 9 := ⟨by decide +kernel, rfl, by decide, by decide⟩
theorem d16_4 : Dc jdk_41_method_11_code 4 (.iload_n 0) 1 5 := ⟨by decide +kernel, rfl⟩
theorem d16_5 : Dc jdk_41_method_11_code 5 (.iload_n 1) 1 6 := ⟨by decide +kernel, rfl⟩
theorem d16_6 : Db jdk_41_method_11_code 6 (.if_icmp .lt 10) 3 9 (10) 16 := ⟨by decide +kernel, rfl, by decide, by decide⟩
theorem d16_16 : Dc jdk_41_method_11_code 16 (.iload_n 0) 1 17 := ⟨by decide +kernel, rfl⟩
theorem d16_17 : Dc jdk_41_method_11_code 17 (.ireturn) 1 18 := ⟨by decide +kernel, rfl⟩
theorem d17_0 : Dc jdk_52_method_14_code 0 (.iload_n 2) 1 1 := ⟨by decide +kernel, rfl⟩
theorem d17_1 : Dc jdk_52_method_14_code 1 (.invokestatic 107) 3 4 := ⟨by decide +kernel, rfl⟩
theorem d17_4 : Dc jdk_52_method_14_code 4 (.astore_n 3) 1 5 := ⟨by decide +kernel, rfl⟩
theorem d17_5 : Dc jdk_52_method_14_code 5 (.iconst 0) 1 6 := ⟨by decide +kernel, rfl⟩
theorem d17_6 : Dc jdk_52_method_14_code 6 (.istore 4) 2 8 := ⟨by decide +kernel, rfl⟩
theorem d17_8 : Dc jdk_52_method_14_code 8 (.iload 4) 2 10 := ⟨by decide +kernel, rfl⟩
theorem d17_10 : Dc jdk_52_method_14_code 10 (.iload_n 2) 1 11 := ⟨by decide +kernel, rfl⟩
theorem d17_11 : Db jdk_52_method_14_code 11 (.if_icmp .ge 21) 3 14 (21) 32 := ⟨by decide +kernel, rfl, by decide, by decide⟩
theorem d17_14 : Dc jdk_52_method_14_code 14 (.aload_n 3) 1 15 := ⟨by decide +kernel, rfl⟩
theorem d17_15 : Dc jdk_52_method_14_code 15 (.iload 4) 2 17 := ⟨by decide +kernel, rfl⟩
theorem d17_17 : Dc jdk_52_method_14_code 17 (.aload_n 0) 1 18 := ⟨by decide +kernel, rfl⟩
theorem d17_18 : Dc jdk_52_method_14_code 18 (.iload_n 1) 1 19 := ⟨by decide +kernel, rfl⟩
theorem d17_19 : Dc jdk_52_method_14_code 19 (.caload) 1 20 := ⟨by decide +kernel, rfl⟩
theorem d17_20 : Dc jdk_52_method_14_code 20 (.invokestatic 111) 3 23 := ⟨by decide +kernel, rfl⟩
theorem d17_23 : Dc jdk_52_method_14_code 23 (.iinc 1 1) 3 26 := ⟨by decide +kernel, rfl⟩
theorem d17_26 : Dc jdk_52_method_14_code 26 (.iinc 4 1) 3 29 := ⟨by decide +kernel, rfl⟩
theorem d17_29 : Db jdk_52_method_14_code 29 (.goto (-21)) 3 32 (-21) 8 := ⟨by decide +kernel, rfl, by decide, by decide⟩
theorem d17_32 : Dc jdk_52_method_14_code 32 (.aload_n 3) 1 33 := ⟨by decide +kernel, rfl⟩
theorem d17_33 : Dc jdk_52_method_14_code 33 (.areturn) 1 34 := ⟨by decide +kernel, rfl⟩
theorem d18_0 : Dc jdk_52_method_2_code 0 (.iload_n 0) 1 1 := ⟨by decide +kernel, rfl⟩
theorem d18_1 : Dc jdk_52_method_2_code 1 (.invokestatic 11) 3 4 := ⟨by decide +kernel, rfl⟩
theorem d18_4 : Dc jdk_52_method_2_code 4 (.newarray .byte) 2 6 := ⟨by decide +kernel, rfl⟩
theorem d18_6 : Dc jdk_52_method_2_code 6 (.areturn) 1 7 := ⟨by decide +kernel, rfl⟩
theorem d19_0 : Dc jdk_52_method_3_code 0 (.iload_n 0) 1 1 := ⟨by decide +kernel, rfl⟩
theorem d19_1 : Db jdk_52_method_3_code 1 (.ifCond .ge 11) 3 4 (11) 12 := ⟨by decide +kernel, rfl, by decide, by decide⟩
theorem d19_12 : Dc jdk_52_method_3_code 12 (.iload_n 0) 1 13 := ⟨by decide +kernel, rfl⟩
theorem d19_13 : Dc jdk_52_method_3_code 13 (.ldc 20) 2 15 := ⟨by decide +kernel, rfl⟩
theorem d19_15 : Db jdk_52_method_3_code 15 (.if_icmp .lt 40) 3 18 (40) 55 := ⟨by decide +kernel, rfl, by decide, by decide⟩
theorem d19_55 : Dc jdk_52_method_3_code 55 (.iload_n 0) 1 56 := ⟨by decide +kernel, rfl⟩
theorem d19_56 : Dc jdk_52_method_3_code 56 (.iconst 1) 1 57 := ⟨by decide +kernel, rfl⟩
theorem d19_57 : Dc jdk_52_method_3_code 57 (.ishl) 1 58 := ⟨by decide +kernel, rfl⟩
theorem d19_58 : Dc jdk_52_method_3_code 58 (.ireturn) 1 59 := ⟨by decide +kernel, rfl⟩
theorem d20_0 : Dc jdk_52_method_4_code 0 (.getstatic 44) 3 3 := ⟨by decide +kernel, rfl⟩
theorem d20_3 : Db jdk_52_method_4_code 3 (.ifCond .ne 25) 3 6 (25) 28 := ⟨by decide +kernel, rfl, by decide, by decide⟩
theorem d20_28 : Dc jdk_52_method_4_code 28 (.iload_n 1) 1 29 := ⟨by decide +kernel, rfl⟩
theorem d20_29 : Dc jdk_52_method_4_code 29 (.iconst 1) 1 30 := ⟨by decide +kernel, rfl⟩
theorem d20_30 : Dc jdk_52_method_4_code 30 (.ishl) 1 31 := ⟨by decide +kernel, rfl⟩
theorem d20_31 : Dc jdk_52_method_4_code 31 (.istore_n 1) 1 32 := ⟨by decide +kernel, rfl⟩
theorem d20_32 : Dc jdk_52_method_4_code 32 (.aload_n 0) 1 33 := ⟨by decide +kernel, rfl⟩
theorem d20_33 : Dc jdk_52_method_4_code 33 (.iload_n 1) 1 34 := ⟨by decide +kernel, rfl⟩
theorem d20_34 : Dc jdk_52_method_4_code 34 (.iinc 1 1) 3 37 := ⟨by decide +kernel, rfl⟩
theorem d20_37 : Dc jdk_52_method_4_code 37 (.iload_n 2) 1 38 := ⟨by decide +kernel, rfl⟩
theorem d20_38 : Dc jdk_52_method_4_code 38 (.getstatic 59) 3 41 := ⟨by decide +kernel, rfl⟩
theorem d20_41 : Dc jdk_52_method_4_code 41 (.ishr) 1 42 := ⟨by decide +kernel, rfl⟩
theorem d20_42 : Dc jdk_52_method_4_code 42 (.i2b) 1 43 := ⟨by decide +kernel, rfl⟩
theorem d20_43 : Dc jdk_52_method_4_code 43 (.bastore) 1 44 := ⟨by decide +kernel, rfl⟩
theorem d20_44 : Dc jdk_52_method_4_code 44 (.aload_n 0) 1 45 := ⟨by decide +kernel, rfl⟩
theorem d20_45 : Dc jdk_52_method_4_code 45 (.iload_n 1) 1 46 := ⟨by decide +kernel, rfl⟩
theorem d20_46 : Dc jdk_52_method_4_code 46 (.iload_n 2) 1 47 := ⟨by decide +kernel, rfl⟩
theorem d20_47 : Dc jdk_52_method_4_code 47 (.getstatic 63) 3 50 := ⟨by decide +kernel, rfl⟩
theorem d20_50 : Dc jdk_52_method_4_code 50 (.ishr) 1 51 := ⟨by decide +kernel, rfl⟩
theorem d20_51 : Dc jdk_52_method_4_code 51 (.i2b) 1 52 := ⟨by decide +kernel, rfl⟩
theorem d20_52 : Dc jdk_52_method_4_code 52 (.bastore) 1 53 := ⟨by decide +kernel, rfl⟩
theorem d20_53 : Dc jdk_52_method_4_code 53 (.return_) 1 54 := ⟨by decide +kernel, rfl⟩
theorem d21_0 : Dc jdk_52_method_5_code 0 (.getstatic 44) 3 3 := ⟨by decide +kernel, rfl⟩
theorem d21_3 : Db jdk_52_method_5_code 3 (.ifCond .ne 25) 3 6 (25) 28 := ⟨by decide +kernel, rfl, by decide, by decide⟩
theorem d21_28 : Dc jdk_52_method_5_code 28 (.iload_n 1) 1 29 := ⟨by decide +kernel, rfl⟩
theorem d21_29 : Dc jdk_52_method_5_code 29 (.iconst 1) 1 30 := ⟨by decide +kernel, rfl⟩
theorem d21_30 : Dc jdk_52_method_5_code 30 (.ishl) 1 31 := ⟨by decide +kernel, rfl⟩
theorem d21_31 : Dc jdk_52_method_5_code 31 (.istore_n 1) 1 32 := ⟨by decide +kernel, rfl⟩
theorem d21_32 : Dc jdk_52_method_5_code 32 (.aload_n 0) 1 33 := ⟨by decide +kernel, rfl⟩
theorem d21_33 : Dc jdk_52_method_5_code 33 (.iload_n 1) 1 34 := ⟨by decide +kernel, rfl⟩
theorem d21_34 : Dc jdk_52_method_5_code 34 (.iinc 1 1) 3 37 := ⟨by decide +kernel, rfl⟩
theorem d21_37 : Dc jdk_52_method_5_code 37 (.baload) 1 38 := ⟨by decide +kernel, rfl⟩
theorem d21_38 : Dc jdk_52_method_5_code 38 (.sipush 255) 3 41 := ⟨by decide +kernel, rfl⟩
theorem d21_41 : Dc jdk_52_method_5_code 41 (.iand) 1 42 := ⟨by decide +kernel, rfl⟩
theorem d21_42 : Dc jdk_52_method_5_code 42 (.getstatic 59) 3 45 := ⟨by decide +kernel, rfl⟩
theorem d21_45 : Dc jdk_52_method_5_code 45 (.ishl) 1 46 := ⟨by decide +kernel, rfl⟩
theorem d21_46 : Dc jdk_52_method_5_code 46 (.aload_n 0) 1 47 := ⟨by decide +kernel, rfl⟩
theorem d21_47 : Dc jdk_52_method_5_code 47 (.iload_n 1) 1 48 := ⟨by decide +kernel, rfl⟩
theorem d21_48 : Dc jdk_52_method_5_code 48 (.baload) 1 49 := ⟨by decide +kernel, rfl⟩
theorem d21_49 : Dc jdk_52_method_5_code 49 (.sipush 255) 3 52 := ⟨by decide +kernel, rfl⟩
theorem d21_52 : Dc jdk_52_method_5_code 52 (.iand) 1 53 := ⟨by decide +kernel, rfl⟩
theorem d21_53 : Dc jdk_52_method_5_code 53 (.getstatic 63) 3 56 := ⟨by decide +kernel, rfl⟩
theorem d21_56 : Dc jdk_52_method_5_code 56 (.ishl) 1 57 := ⟨by decide +kernel, rfl⟩
theorem d21_57 : Dc jdk_52_method_5_code 57 (.ior) 1 58 := ⟨by decide +kernel, rfl⟩
theorem d21_58 : Dc jdk_52_method_5_code 58 (.i2c) 1 59 := ⟨by decide +kernel, rfl⟩
theorem d21_59 : Dc jdk_52_method_5_code 59 (.ireturn) 1 60 := ⟨by decide +kernel, rfl⟩
theorem d22_0 : Dc jdk_52_method_83_code 0 (.iload_n 1) 1 1 := ⟨by decide +kernel, rfl⟩
theorem d22_1 : Dc jdk_52_method_83_code 1 (.aload_n 0) 1 2 := ⟨by decide +kernel, rfl⟩
theorem d22_2 : Dc jdk_52_method_83_code 2 (.invokestatic 67) 3 5 := ⟨by decide +kernel, rfl⟩
theorem d22_5 : Dc jdk_52_method_83_code 5 (.aload_n 0) 1 6 := ⟨by decide +kernel, rfl⟩
theorem d22_6 : Dc jdk_52_method_83_code 6 (.iload_n 1) 1 7 := ⟨by decide +kernel, rfl⟩
theorem d22_7 : Dc jdk_52_method_83_code 7 (.invokestatic 71) 3 10 := ⟨by decide +kernel, rfl⟩
theorem d22_10 : Dc jdk_52_method_83_code 10 (.ireturn) 1 11 := ⟨by decide +kernel, rfl⟩
theorem d23_0 : Dc jdk_52_method_91_code 0 (.iload_n 0) 1 1 := ⟨by decide +kernel, rfl⟩
theorem d23_1 : Dc jdk_52_method_91_code 1 (.aload_n 1) 1 2 := ⟨by decide +kernel, rfl⟩
theorem d23_2 : Dc jdk_52_method_91_code 2 (.invokestatic 48) 3 5 := ⟨by decide +kernel, rfl⟩
theorem d23_5 : Dc jdk_52_method_91_code 5 (.invokestatic 414) 3 8 := ⟨by decide +kernel, rfl⟩
theorem d23_8 : Dc jdk_52_method_91_code 8 (.return_) 1 9 := ⟨by decide +kernel, rfl⟩
theorem d24_0 : Dc jdk_52_method_6_code 0 (.aload_n 0) 1 1 := ⟨by decide +kernel, rfl⟩
theorem d24_1 : Dc jdk_52_method_6_code 1 (.arraylength) 1 2 := ⟨by decide +kernel, rfl⟩
theorem d24_2 : Dc jdk_52_method_6_code 2 (.iconst 1) 1 3 := ⟨by decide +kernel, rfl⟩
theorem d24_3 : Dc jdk_52_method_6_code 3 (.ishr) 1 4 := ⟨by decide +kernel, rfl⟩
theorem d24_4 : Dc jdk_52_method_6_code 4 (.ireturn) 1 5 := ⟨by decide +kernel, rfl⟩
theorem d25_0 : Dc code 0 (.iload_n 0) 1 1 := ⟨by decide +kernel, rfl⟩
theorem d25_1 : Dc code 1 (.ldc 13) 2 3 := ⟨by decide +kernel, rfl⟩
theorem d25_3 : Dc code 3 (.iand) 1 4 := ⟨by decide +kernel, rfl⟩
theorem d25_4 : Dc code 4 (.bipush 6) 2 6 := ⟨by decide +kernel, rfl⟩
theorem d25_6 : Dc code 6 (.irem) 1 7 := ⟨by decide +kernel, rfl⟩
theorem d25_7 : Dc code 7 (.istore 6) 2 9 := ⟨by decide +kernel, rfl⟩
theorem d25_9 : Dc code 9 (.iload_n 1) 1 10 := ⟨by decide +kernel, rfl⟩
theorem d25_10 : Dc code 10 (.invokestatic 14) 3 13 := ⟨by decide +kernel, rfl⟩
theorem d25_13 : Dc code 13 (.istore 7) 2 15 := ⟨by decide +kernel, rfl⟩
theorem d25_15 : Dc code 15 (.iload_n 2) 1 16 := ⟨by decide +kernel, rfl⟩
theorem d25_16 : Dc code 16 (.invokestatic 14) 3 19 := ⟨by decide +kernel, rfl⟩
theorem d25_19 : Dc code 19 (.istore 8) 2 21 := ⟨by decide +kernel, rfl⟩
theorem d25_21 : Dc code 21 (.iload_n 3) 1 22 := ⟨by decide +kernel, rfl⟩
theorem d25_22 : Dc code 22 (.invokestatic 14) 3 25 := ⟨by decide +kernel, rfl⟩
theorem d25_25 : Dc code 25 (.istore 9) 2 27 := ⟨by decide +kernel, rfl⟩
theorem d25_27 : Dc code 27 (.iload 4) 2 29 := ⟨by decide +kernel, rfl⟩
theorem d25_29 : Dc code 29 (.invokestatic 14) 3 32 := ⟨by decide +kernel, rfl⟩
theorem d25_32 : Dc code 32 (.istore 10) 2 34 := ⟨by decide +kernel, rfl⟩
theorem d25_34 : Dc code 34 (.iload 5) 2 36 := ⟨by decide +kernel, rfl⟩
theorem d25_36 : Dc code 36 (.invokestatic 14) 3 39 := ⟨by decide +kernel, rfl⟩
theorem d25_39 : Dc code 39 (.istore 11) 2 41 := ⟨by decide +kernel, rfl⟩
theorem d25_41 : Dc code 41 (.iload 6) 2 43 := ⟨by decide +kernel, rfl⟩
theorem d25_43 : Dc code 43 (.iload 7) 2 45 := ⟨by decide +kernel, rfl⟩
theorem d25_45 : Dc code 45 (.iload 8) 2 47 := ⟨by decide +kernel, rfl⟩
theorem d25_47 : Dc code 47 (.iload 9) 2 49 := ⟨by decide +kernel, rfl⟩
theorem d25_49 : Dc code 49 (.iload 10) 2 51 := ⟨by decide +kernel, rfl⟩
theorem d25_51 : Dc code 51 (.iload 11) 2 53 := ⟨by decide +kernel, rfl⟩
theorem d25_53 : Dc code 53 (.invokestatic 20) 3 56 := ⟨by decide +kernel, rfl⟩
theorem d25_56 : Dc code 56 (.astore 12) 2 58 := ⟨by decide +kernel, rfl⟩
theorem d25_58 : Dc code 58 (.iconst 1) 1 59 := ⟨by decide +kernel, rfl⟩
theorem d25_59 : Dc code 59 (.iload 6) 2 61 := ⟨by decide +kernel, rfl⟩
theorem d25_61 : Db code 61 (.ifCond .le 7) 3 64 (7) 68 := ⟨by decide +kernel, rfl, by decide, by decide⟩
theorem d25_64 : Dc code 64 (.iconst 1) 1 65 := ⟨by decide +kernel, rfl⟩
theorem d25_65 : Db code 65 (.goto 4) 3 68 (4) 69 := ⟨by decide +kernel, rfl, by decide, by decide⟩
theorem d25_68 : Dc code 68 (.iconst 0) 1 69 := ⟨by decide +kernel, rfl⟩
theorem d25_69 : Dc code 69 (.iload 7) 2 71 := ⟨by decide +kernel, rfl⟩
theorem d25_71 : Dc code 71 (.invokestatic 24) 3 74 := ⟨by decide +kernel, rfl⟩
theorem d25_74 : Dc code 74 (.iadd) 1 75 := ⟨by decide +kernel, rfl⟩
theorem d25_75 : Dc code 75 (.iload 6) 2 77 := ⟨by decide +kernel, rfl⟩
theorem d25_77 : Dc code 77 (.iconst 1) 1 78 := ⟨by decide +kernel, rfl⟩
theorem d25_78 : Db code 78 (.if_icmp .le 7) 3 81 (7) 85 := ⟨by decide +kernel, rfl, by decide, by decide⟩
theorem d25_81 : Dc code 81 (.iconst 1) 1 82 := ⟨by decide +kernel, rfl⟩
theorem d25_82 : Db code 82 (.goto 4) 3 85 (4) 86 := ⟨by decide +kernel, rfl, by decide, by decide⟩
theorem d25_85 : Dc code 85 (.iconst 0) 1 86 := ⟨by decide +kernel, rfl⟩
theorem d25_86 : Dc code 86 (.iload 8) 2 88 := ⟨by decide +kernel, rfl⟩
theorem d25_88 : Dc code 88 (.invokestatic 24) 3 91 := ⟨by decide +kernel, rfl⟩
theorem d25_91 : Dc code 91 (.iadd) 1 92 := ⟨by decide +kernel, rfl⟩
theorem d25_92 : Dc code 92 (.iload 6) 2 94 := ⟨by decide +kernel, rfl⟩
theorem d25_94 : Dc code 94 (.iconst 2) 1 95 := ⟨by decide +kernel, rfl⟩
theorem d25_95 : Db code 95 (.if_icmp .le 7) 3 98 (7) 102 := ⟨by decide +kernel, rfl, by decide, by decide⟩
theorem d25_98 : Dc code 98 (.iconst 1) 1 99 := ⟨by decide +kernel, rfl⟩
theorem d25_99 : Db code 99 (.goto 4) 3 102 (4) 103 := ⟨by decide +kernel, rfl, by decide, by decide⟩
theorem d25_102 : Dc code 102 (.iconst 0) 1 103 := ⟨by decide +kernel, rfl⟩
theorem d25_103 : Dc code 103 (.iload 9) 2 105 := ⟨by decide +kernel, rfl⟩
theorem d25_105 : Dc code 105 (.invokestatic 24) 3 108 := ⟨by decide +kernel, rfl⟩
theorem d25_108 : Dc code 108 (.iadd) 1 109 := ⟨by decide +kernel, rfl⟩
theorem d25_109 : Dc code 109 (.iload 6) 2 111 := ⟨by decide +kernel, rfl⟩
theorem d25_111 : Dc code 111 (.iconst 3) 1 112 := ⟨by decide +kernel, rfl⟩
theorem d25_112 : Db code 112 (.if_icmp .le 7) 3 115 (7) 119 := ⟨by decide +kernel, rfl, by decide, by decide⟩
theorem d25_115 : Dc code 115 (.iconst 1) 1 116 := ⟨by decide +kernel, rfl⟩
theorem d25_116 : Db code 116 (.goto 4) 3 119 (4) 120 := ⟨by decide +kernel, rfl, by decide, by decide⟩
theorem d25_119 : Dc code 119 (.iconst 0) 1 120 := ⟨by decide +kernel, rfl⟩
theorem d25_120 : Dc code 120 (.iload 10) 2 122 := ⟨by decide +kernel, rfl⟩
theorem d25_122 : Dc code 122 (.invokestatic 24) 3 125 := ⟨by decide +kernel, rfl⟩
theorem d25_125 : Dc code 125 (.iadd) 1 126 := ⟨by decide +kernel, rfl⟩
theorem d25_126 : Dc code 126 (.iload 6) 2 128 := ⟨by decide +kernel, rfl⟩
theorem d25_128 : Dc code 128 (.iconst 4) 1 129 := ⟨by decide +kernel, rfl⟩
theorem d25_129 : Db code 129 (.if_icmp .le 7) 3 132 (7) 136 := ⟨by decide +kernel, rfl, by decide, by decide⟩
theorem d25_132 : Dc code 132 (.iconst 1) 1 133 := ⟨by decide +kernel, rfl⟩
theorem d25_133 : Db code 133 (.goto 4) 3 136 (4) 137 := ⟨by decide +kernel, rfl, by decide, by decide⟩
theorem d25_136 : Dc code 136 (.iconst 0) 1 137 := ⟨by decide +kernel, rfl⟩
theorem d25_137 : Dc code 137 (.iload 11) 2 139 := ⟨by decide +kernel, rfl⟩
theorem d25_139 : Dc code 139 (.invokestatic 24) 3 142 := ⟨by decide +kernel, rfl⟩
theorem d25_142 : Dc code 142 (.iadd) 1 143 := ⟨by decide +kernel, rfl⟩
theorem d25_143 : Dc code 143 (.istore 13) 2 145 := ⟨by decide +kernel, rfl⟩
theorem d25_145 : Dc code 145 (.aload 12) 2 147 := ⟨by decide +kernel, rfl⟩
theorem d25_147 : Dc code 147 (.invokestatic 28) 3 150 := ⟨by decide +kernel, rfl⟩
theorem d25_150 : Dc code 150 (.iload 13) 2 152 := ⟨by decide +kernel, rfl⟩
theorem d25_152 : Db code 152 (.if_icmp .ne 7) 3 155 (7) 159 := ⟨by decide +kernel, rfl, by decide, by decide⟩
theorem d25_155 : Dc code 155 (.iconst 1) 1 156 := ⟨by decide +kernel, rfl⟩
theorem d25_156 : Db code 156 (.goto 4) 3 159 (4) 160 := ⟨by decide +kernel, rfl, by decide, by decide⟩
theorem d25_160 : Dc code 160 (.ireturn) 1 161 := ⟨by decide +kernel, rfl⟩
theorem pd__28ICCCCC_29Ljava_2flang_2fString_3b : parseMethodDescriptor "(ICCCCC)Ljava/lang/String;" = some ⟨[.int, .char, .char, .char, .char, .char], some (.object "java/lang/String")⟩ := by decide +kernel
theorem pd__28IILjava_2futil_2ffunction_2fBiFunction_3b_29I : parseMethodDescriptor "(IILjava/util/function/BiFunction;)I" = some ⟨[.int, .int, (.object "java/util/function/BiFunction")], some .int⟩ := by decide +kernel
theorem pd__28II_29V : parseMethodDescriptor "(II)V" = some ⟨[.int, .int], none⟩ := by decide +kernel
theorem pd__28I_29C : parseMethodDescriptor "(I)C" = some ⟨[.int], some .char⟩ := by decide +kernel
theorem pd__28I_29I : parseMethodDescriptor "(I)I" = some ⟨[.int], some .int⟩ := by decide +kernel
theorem pd__28I_29_5bB : parseMethodDescriptor "(I)[B" = some ⟨[.int], some (.array .byte)⟩ := by decide +kernel
theorem pd__28I_5bB_29V : parseMethodDescriptor "(I[B)V" = some ⟨[.int, (.array .byte)], none⟩ := by decide +kernel
theorem pd__28Ljava_2flang_2fString_3b_29I : parseMethodDescriptor "(Ljava/lang/String;)I" = some ⟨[(.object "java/lang/String")], some .int⟩ := by decide +kernel
theorem pd__28ZC_29I : parseMethodDescriptor "(ZC)I" = some ⟨[.boolean, .char], some .int⟩ := by decide +kernel
theorem pd__28_29B : parseMethodDescriptor "()B" = some ⟨[], some .byte⟩ := by decide +kernel
theorem pd__28_29I : parseMethodDescriptor "()I" = some ⟨[], some .int⟩ := by decide +kernel
theorem pd__28_29Z : parseMethodDescriptor "()Z" = some ⟨[], some .boolean⟩ := by decide +kernel
theorem pd__28_5bBII_29V : parseMethodDescriptor "([BII)V" = some ⟨[(.array .byte), .int, .int], none⟩ := by decide +kernel
theorem pd__28_5bBI_29B : parseMethodDescriptor "([BI)B" = some ⟨[(.array .byte), .int], some .byte⟩ := by decide +kernel
theorem pd__28_5bBI_29C : parseMethodDescriptor "([BI)C" = some ⟨[(.array .byte), .int], some .char⟩ := by decide +kernel
theorem pd__28_5bB_29I : parseMethodDescriptor "([B)I" = some ⟨[(.array .byte)], some .int⟩ := by decide +kernel
theorem pd__28_5bCIILjava_2flang_2fVoid_3b_29V : parseMethodDescriptor "([CIILjava/lang/Void;)V" = some ⟨[(.array .char), .int, .int, (.object "java/lang/Void")], none⟩ := by decide +kernel
theorem pd__28_5bCII_29_5bB : parseMethodDescriptor "([CII)[B" = some ⟨[(.array .char), .int, .int], some (.array .byte)⟩ := by decide +kernel
theorem pd__28_5bCI_5bBII_29I : parseMethodDescriptor "([CI[BII)I" = some ⟨[(.array .char), .int, (.array .byte), .int, .int], some .int⟩ := by decide +kernel
theorem pd__28_5bC_29V : parseMethodDescriptor "([C)V" = some ⟨[(.array .char)], none⟩ := by decide +kernel
set_option maxRecDepth 65536 in
set_option maxHeartbeats 4000000 in
theorem k_pci {Z : State} {a0 : Array Value} (hw : ∀ d ∈ tables_1, d.before a0 Z = true) (hs : Stt Z) {n0 : Nat} {h0 : Heap} {i n : Int32} {f : Value} (h1 : ¬ i < 0) (h2 : i < n) (hf : f.isRef = true) (O : Old Z n0 h0) :
    Con WD Z EL0 n0 (⟨"jdk/internal/util/Preconditions", "checkIndex", "(IILjava/util/function/BiFunction;)I"⟩ : MethodName) jdk_41_method_11_code 3 (some .int) (Rm 0 0 0 0) [(.int i), (.int n), f] h0 [] (fun v h gs => v = some (.int i) ∧ gs = []) := by
  rcases ref_cases hf with rfl | ⟨r, rfl⟩
  · refine Con.of (a0 := a0) (by first | (simp [plainName, overriddenIn]; done) | decide +kernel) (hEL hw) hWE O (L0 := #[.val (.int i), .val (.int n), .val .null]) (fun m => by first | rfl | (simp [entryFrame, mkF, argsToLocals, Value.category]; done)) ?_
    intro K C hh
    refine Own.iloadN C d16_0 rfl ?_
    refine if_lt C d16_1 (fun q1 => ?_) (fun q1 => ?_)
    · exact absurd q1 h1
    · refine Own.iloadN C d16_4 rfl ?_
      refine Own.iloadN C d16_5 rfl ?_
      refine icmp_lt C d16_6 (fun q2 => ?_) (fun q2 => ?_)
      · refine Own.iloadN C d16_16 rfl ?_
        exact retI_ C (gs := []) d16_17 (dle rfl) (dle rfl) (fun _ q => nomatch q) ⟨rfl, rfl⟩
      · exact absurd h2 q2
  · refine Con.of (a0 := a0) (by first | (simp [plainName, overriddenIn]; done) | decide +kernel) (hEL hw) hWE O (L0 := #[.val (.int i), .val (.int n), .val (.ref r)]) (fun m => by first | rfl | (simp [entryFrame, mkF, argsToLocals, Value.category]; done)) ?_
    intro K C hh
    refine Own.iloadN C d16_0 rfl ?_
    refine if_lt C d16_1 (fun q1 => ?_) (fun q1 => ?_)
    · exact absurd q1 h1
    · refine Own.iloadN C d16_4 rfl ?_
      refine Own.iloadN C d16_5 rfl ?_
      refine icmp_lt C d16_6 (fun q2 => ?_) (fun q2 => ?_)
      · refine Own.iloadN C d16_16 rfl ?_
        exact retI_ C (gs := []) d16_17 (dle rfl) (dle rfl) (fun _ q => nomatch q) ⟨rfl, rfl⟩
      · exact absurd h2 q2
set_option maxRecDepth 65536 in
set_option maxHeartbeats 4000000 in
theorem k_ci {Z : State} {a0 : Array Value} (hw : ∀ d ∈ tables_1, d.before a0 Z = true) (hs : Stt Z) {n0 : Nat} {h0 : Heap} {i n : Int32} (h1 : ¬ i < 0) (h2 : i < n) (O : Old Z n0 h0) :
    Con WD Z EL0 n0 (⟨"java/lang/String", "checkIndex", "(II)V"⟩ : MethodName) jdk_42_method_155_code 2 none (Rm 1 0 0 14) [(.int i), (.int n)] h0 [] (fun v h gs => v = none ∧ gs = []) := by
  refine Con.of (a0 := a0) (by first | (simp [plainName, overriddenIn]; done) | decide +kernel) (hEL hw) hWE O (L0 := #[.val (.int i), .val (.int n)]) (fun m => by first | rfl | (simp [entryFrame, mkF, argsToLocals, Value.category]; done)) ?_
  intro K C hh
  obtain ⟨fv, hfv, Sf⟩ := st_f hs
  refine Own.iloadN C d15_0 rfl ?_
  refine Own.iloadN C d15_1 rfl ?_
  refine getS_ C (hw _ (List.mem_of_getElem? (i := 76) rfl)) Sf d15_2 ?_
  refine callS_ C (as := [(.int i), (.int n), fv]) (st := []) (hw _ (List.mem_of_getElem? (i := 78) rfl)) (hw _ (List.mem_of_getElem? (i := 79) rfl)) (hw _ (List.mem_of_getElem? (i := 77) rfl)) (hw _ (List.mem_of_getElem? (i := 80) rfl)) ⟨by decide, by decide⟩ pd__28IILjava_2futil_2ffunction_2fBiFunction_3b_29I rfl (fun O => k_pci hw hs h1 h2 hfv O) (fun _ q => nomatch q) rfl (dle rfl) (dle rfl) (dle rfl) (dle rfl) d15_5 rfl (fun v1 hp1 gs1 K1 Q1 => ?_)
  obtain ⟨rfl, rfl⟩ := Q1
  show Go _ K Z _ n0 _ _ 8 #[.val (.int i), .val (.int n)] [(.int i)] hp1 _ _ _
  refine Own.pop C d15_8 rfl ?_
  exact retV C (gs := []) d15_9 (dle rfl) (dle rfl) (fun _ q => nomatch q) ⟨rfl, rfl⟩
set_option maxRecDepth 65536 in
set_option maxHeartbeats 4000000 in
theorem k_lcharAt {Z : State} {a0 : Array Value} (hw : ∀ d ∈ tables_1, d.before a0 Z = true) (hs : Stt Z) {n0 : Nat} {h0 : Heap} {b : Addr} {cs : List Int32} {j c : Int32} {i : Nat} (hl : cs.length ≤ 4096) (A : Ary Z h0 b .byte (lat cs)) (hj : j.toInt = i) (hc : cs[i]? = some c) (hr : 0 ≤ c.toInt ∧ c.toInt < 256) (O : Old Z n0 h0) :
    Con WD Z EL0 n0 (⟨"java/lang/StringLatin1", "charAt", "([BI)C"⟩ : MethodName) jdk_43_method_2_code 2 (some .char) (Rm 2 0 0 27) [(.ref b), (.int j)] h0 [] (fun v h gs => v = some (.int c) ∧ gs = []) := by
  refine Con.of (a0 := a0) (by first | (simp [plainName, overriddenIn]; done) | decide +kernel) (hEL hw) hWE O (L0 := #[.val (.ref b), .val (.int j)]) (fun m => by first | rfl | (simp [entryFrame, mkF, argsToLocals, Value.category]; done)) ?_
  intro K C hh
  have hi : i < cs.length := (List.getElem?_eq_some_iff.mp hc).1
  have e2 := natI_toInt (i := cs.length) (by omega)
  refine Own.iloadN C d14_0 rfl ?_
  refine Own.aloadN C d14_1 rfl rfl ?_
  refine arrlen C A (z := (natI cs.length)) (by rw [e2, lat_len]) d14_2 ?_
  refine callS_ C (as := [(.int j), (.int (natI cs.length))]) (st := []) (hw _ (List.mem_of_getElem? (i := 73) rfl)) (hw _ (List.mem_of_getElem? (i := 74) rfl)) (hw _ (List.mem_of_getElem? (i := 11) rfl)) (hw _ (List.mem_of_getElem? (i := 75) rfl)) ⟨by decide, by decide⟩ pd__28II_29V rfl (fun O => k_ci hw hs (by rw [lt32, hj]; exact Int.not_lt.mpr (Int.natCast_nonneg _)) (by rw [lt32, hj, e2]; omega) O) (fun _ q => nomatch q) rfl (dle rfl) (dle rfl) (dle rfl) (dle rfl) d14_3 rfl (fun v1 hp1 gs1 K1 Q1 => ?_)
  obtain ⟨rfl, rfl⟩ := Q1
  show Go _ K Z _ n0 _ _ 6 #[.val (.ref b), .val (.int j)] [] hp1 _ _ _
  refine Own.aloadN C d14_6 rfl rfl ?_
  refine Own.iloadN C d14_7 rfl ?_
  refine baload_ C (v := .int (nar .byte c)) (A.keep K1 nin0) i hj (lat_at hc) d14_8 ?_
  refine Own.sipush (v := 255) C d14_9 rfl ?_
  refine Own.iand C d14_12 ?_
  refine Own.i2c C d14_13 ?_
  exact retC C (gs := []) d14_14 (dle rfl) (dle rfl) (fun _ q => nomatch q) ⟨by rw [narc_idem, lat_char hr], rfl⟩
set_option maxRecDepth 65536 in
set_option maxHeartbeats 4000000 in
theorem k_ulength {Z : State} {a0 : Array Value} (hw : ∀ d ∈ tables_1, d.before a0 Z = true) (hs : Stt Z) {n0 : Nat} {h0 : Heap} {b : Addr} {vs : List Value} {m : Nat} (hm : m ≤ 4096) (A : Ary Z h0 b .byte vs) (hv : vs.length = 2 * m) (O : Old Z n0 h0) :
    Con WD Z EL0 n0 (⟨"java/lang/StringUTF16", "length", "([B)I"⟩ : MethodName) jdk_52_method_6_code 1 (some .int) (Rm 0 0 0 0) [(.ref b)] h0 [] (fun v h gs => v = some (.int (natI m)) ∧ gs = []) := by
  refine Con.of (a0 := a0) (by first | (simp [plainName, overriddenIn]; done) | decide +kernel) (hEL hw) hWE O (L0 := #[.val (.ref b)]) (fun m => by first | rfl | (simp [entryFrame, mkF, argsToLocals, Value.category]; done)) ?_
  intro K C hh
  obtain ⟨y, hy⟩ : ∃ y : Int32, y.toInt = (2 * m : Nat) := ⟨natI (2 * m), natI_toInt (by omega)⟩
  have e := shr1 hy
  have e' : y >>> (1 &&& 31) = natI m := i32e (by rw [e, natI_toInt (by omega)])
  refine Own.aloadN C d24_0 rfl rfl ?_
  refine arrlen C A (z := y) (by rw [hy, hv]) d24_1 ?_
  refine Own.iconst (v := 1) C d24_2 rfl ?_
  refine Own.ishr C d24_3 ?_
  exact retI_ C (gs := []) d24_4 (dle rfl) (dle rfl) (fun _ q => nomatch q) ⟨by rw [e'], rfl⟩
set_option maxRecDepth 65536 in
set_option maxHeartbeats 4000000 in
theorem k_getChar {Z : State} {a0 : Array Value} (hw : ∀ d ∈ tables_1, d.before a0 Z = true) (hs : Stt Z) {n0 : Nat} {h0 : Heap} {b : Addr} {cs : List Int32} {j c : Int32} {i : Nat} (hcs : ∀ c ∈ cs, isCh c) (hl : cs.length ≤ 4096) (A : Ary Z h0 b .byte (utf cs)) (hj : j.toInt = i) (hc : cs[i]? = some c) (O : Old Z n0 h0) :
    Con WD Z EL0 n0 (⟨"java/lang/StringUTF16", "getChar", "([BI)C"⟩ : MethodName) jdk_52_method_5_code 2 (some .char) (Rm 0 0 0 0) [(.ref b), (.int j)] h0 [] (fun v h gs => v = some (.int c) ∧ gs = []) := by
  refine Con.of (a0 := a0) (by first | (simp [plainName, overriddenIn]; done) | decide +kernel) (hEL hw) hWE O (L0 := #[.val (.ref b), .val (.int j)]) (fun m => by first | rfl | (simp [entryFrame, mkF, argsToLocals, Value.category]; done)) ?_
  intro K C hh
  have hi : i < cs.length := (List.getElem?_eq_some_iff.mp hc).1
  have hch := hcs c (List.mem_of_getElem? hc)
  obtain ⟨u1, u2⟩ := utf_at hc
  have j1 := shl1 hj (by omega)
  have j2 : ((j <<< (1 &&& 31)) + 1).toInt = (2 * i + 1 : Nat) := by have a := c_iadd (j <<< (1 &&& 31)) 1; have r := rng32 ((j <<< (1 &&& 31)) + 1); have e : (1 : Int32).toInt = 1 := rfl; omega
  refine getS_ C (hw _ (List.mem_of_getElem? (i := 94) rfl)) (st_a hs) d21_0 ?_
  refine if_ne C d21_3 (fun q1 => ?_) (fun q1 => ?_)
  · refine Own.iloadN C d21_28 rfl ?_
    refine Own.iconst (v := 1) C d21_29 rfl ?_
    refine Own.ishl C d21_30 ?_
    refine Own.istoreN (L' := #[.val (.ref b), .val (.int (j <<< ((1 : Int32) &&& 31)))]) C d21_31 rfl ?_
    refine Own.aloadN C d21_32 rfl rfl ?_
    refine Own.iloadN C d21_33 rfl ?_
    refine Own.iinc (L' := #[.val (.ref b), .val (.int ((j <<< ((1 : Int32) &&& 31)) + (1 : Int32)))]) (y := ((j <<< ((1 : Int32) &&& 31)) + (1 : Int32))) C d21_34 rfl rfl rfl ?_
    refine baload_ C (v := .int (nar .byte c)) A (2 * i) j1 u1 d21_37 ?_
    refine Own.sipush (v := 255) C d21_38 rfl ?_
    refine Own.iand C d21_41 ?_
    refine getS_ C (hw _ (List.mem_of_getElem? (i := 95) rfl)) (st_hi hs) d21_42 ?_
    refine Own.ishl C d21_45 ?_
    refine Own.aloadN C d21_46 rfl rfl ?_
    refine Own.iloadN C d21_47 rfl ?_
    refine baload_ C (v := .int (nar .byte (c >>> 8))) A (2 * i + 1) j2 u2 d21_48 ?_
    refine Own.sipush (v := 255) C d21_49 rfl ?_
    refine Own.iand C d21_52 ?_
    refine getS_ C (hw _ (List.mem_of_getElem? (i := 96) rfl)) (st_lo hs) d21_53 ?_
    refine Own.ishl C d21_56 ?_
    refine Own.ior C d21_57 ?_
    refine Own.i2c C d21_58 ?_
    exact retC C (gs := []) d21_59 (dle rfl) (dle rfl) (fun _ q => nomatch q) ⟨by rw [narc_idem, utf_char hch], rfl⟩
  · exact absurd q1 (by decide)
set_option maxRecDepth 65536 in
set_option maxHeartbeats 4000000 in
theorem k_uci {Z : State} {a0 : Array Value} (hw : ∀ d ∈ tables_1, d.before a0 Z = true) (hs : Stt Z) {n0 : Nat} {h0 : Heap} {b : Addr} {vs : List Value} {j : Int32} {i m : Nat} (hm : m ≤ 4096) (A : Ary Z h0 b .byte vs) (hv : vs.length = 2 * m) (hj : j.toInt = i) (hi : i < m) (O : Old Z n0 h0) :
    Con WD Z EL0 n0 (⟨"java/lang/StringUTF16", "checkIndex", "(I[B)V"⟩ : MethodName) jdk_52_method_91_code 2 none (Rm 2 0 0 27) [(.int j), (.ref b)] h0 [] (fun v h gs => v = none ∧ gs = []) := by
  refine Con.of (a0 := a0) (by first | (simp [plainName, overriddenIn]; done) | decide +kernel) (hEL hw) hWE O (L0 := #[.val (.int j), .val (.ref b)]) (fun m => by first | rfl | (simp [entryFrame, mkF, argsToLocals, Value.category]; done)) ?_
  intro K C hh
  have e2 := natI_toInt (i := m) (by omega)
  refine Own.iloadN C d23_0 rfl ?_
  refine Own.aloadN C d23_1 rfl rfl ?_
  refine callS_ C (as := [(.ref b)]) (st := [(.int j)]) (hw _ (List.mem_of_getElem? (i := 106) rfl)) (hw _ (List.mem_of_getElem? (i := 107) rfl)) (hw _ (List.mem_of_getElem? (i := 51) rfl)) (hw _ (List.mem_of_getElem? (i := 108) rfl)) ⟨by decide, by decide⟩ pd__28_5bB_29I rfl (fun O => k_ulength hw hs hm A hv O) (fun _ q => nomatch q) rfl (dle rfl) (dle rfl) (dle rfl) (dle rfl) d23_2 rfl (fun v1 hp1 gs1 K1 Q1 => ?_)
  obtain ⟨rfl, rfl⟩ := Q1
  show Go _ K Z _ n0 _ _ 5 #[.val (.int j), .val (.ref b)] [(.int (natI m)), (.int j)] hp1 _ _ _
  refine callS_ C (as := [(.int j), (.int (natI m))]) (st := []) (hw _ (List.mem_of_getElem? (i := 109) rfl)) (hw _ (List.mem_of_getElem? (i := 74) rfl)) (hw _ (List.mem_of_getElem? (i := 11) rfl)) (hw _ (List.mem_of_getElem? (i := 75) rfl)) ⟨by decide, by decide⟩ pd__28II_29V rfl (fun O => k_ci hw hs (by rw [lt32, hj]; exact Int.not_lt.mpr (Int.natCast_nonneg _)) (by rw [lt32, hj, e2]; omega) O) (fun _ q => nomatch q) rfl (dle rfl) (dle rfl) (dle rfl) (dle rfl) d23_5 rfl (fun v2 hp2 gs2 K2 Q2 => ?_)
  obtain ⟨rfl, rfl⟩ := Q2
  show Go _ K Z _ n0 _ _ 8 #[.val (.int j), .val (.ref b)] [] hp2 _ _ _
  exact retV C (gs := []) d23_8 (dle rfl) (dle rfl) (fun _ q => nomatch q) ⟨rfl, rfl⟩
set_option maxRecDepth 65536 in
set_option maxHeartbeats 4000000 in
theorem k_ucharAt {Z : State} {a0 : Array Value} (hw : ∀ d ∈ tables_1, d.before a0 Z = true) (hs : Stt Z) {n0 : Nat} {h0 : Heap} {b : Addr} {cs : List Int32} {j c : Int32} {i : Nat} (hcs : ∀ c ∈ cs, isCh c) (hl : cs.length ≤ 4096) (A : Ary Z h0 b .byte (utf cs)) (hj : j.toInt = i) (hc : cs[i]? = some c) (O : Old Z n0 h0) :
    Con WD Z EL0 n0 (⟨"java/lang/StringUTF16", "charAt", "([BI)C"⟩ : MethodName) jdk_52_method_83_code 2 (some .char) (Rm 3 0 0 40) [(.ref b), (.int j)] h0 [] (fun v h gs => v = some (.int c) ∧ gs = []) := by
  refine Con.of (a0 := a0) (by first | (simp [plainName, overriddenIn]; done) | decide +kernel) (hEL hw) hWE O (L0 := #[.val (.ref b), .val (.int j)]) (fun m => by first | rfl | (simp [entryFrame, mkF, argsToLocals, Value.category]; done)) ?_
  intro K C hh
  have hi : i < cs.length := (List.getElem?_eq_some_iff.mp hc).1
  refine Own.iloadN C d22_0 rfl ?_
  refine Own.aloadN C d22_1 rfl rfl ?_
  refine callS_ C (as := [(.int j), (.ref b)]) (st := []) (hw _ (List.mem_of_getElem? (i := 103) rfl)) (hw _ (List.mem_of_getElem? (i := 104) rfl)) (hw _ (List.mem_of_getElem? (i := 51) rfl)) (hw _ (List.mem_of_getElem? (i := 105) rfl)) ⟨by decide, by decide⟩ pd__28I_5bB_29V rfl (fun O => k_uci hw hs hl A (utf_len cs) hj hi O) (fun _ q => nomatch q) rfl (dle rfl) (dle rfl) (dle rfl) (dle rfl) d22_2 rfl (fun v1 hp1 gs1 K1 Q1 => ?_)
  obtain ⟨rfl, rfl⟩ := Q1
  show Go _ K Z _ n0 _ _ 5 #[.val (.ref b), .val (.int j)] [] hp1 _ _ _
  refine Own.aloadN C d22_5 rfl rfl ?_
  refine Own.iloadN C d22_6 rfl ?_
  refine callS_ C (as := [(.ref b), (.int j)]) (st := []) (hw _ (List.mem_of_getElem? (i := 97) rfl)) (hw _ (List.mem_of_getElem? (i := 98) rfl)) (hw _ (List.mem_of_getElem? (i := 51) rfl)) (hw _ (List.mem_of_getElem? (i := 99) rfl)) ⟨by decide, by decide⟩ pd__28_5bBI_29C rfl (fun O => k_getChar hw hs hcs hl (A.keep K1 nin0) hj hc O) (fun _ q => nomatch q) rfl (dle rfl) (dle rfl) (dle rfl) (dle rfl) d22_7 rfl (fun v2 hp2 gs2 K2 Q2 => ?_)
  obtain ⟨rfl, rfl⟩ := Q2
  show Go _ K Z _ n0 _ _ 10 #[.val (.ref b), .val (.int j)] [(.int c)] hp2 _ _ _
  exact retC C (gs := []) d22_10 (dle rfl) (dle rfl) (fun _ q => nomatch q) ⟨by rw [narc_id (hcs c (List.mem_of_getElem? hc))], rfl⟩
set_option maxRecDepth 65536 in
set_option maxHeartbeats 4000000 in
theorem k_nbl {Z : State} {a0 : Array Value} (hw : ∀ d ∈ tables_1, d.before a0 Z = true) (hs : Stt Z) {n0 : Nat} {h0 : Heap} {m : Nat} (hm : m ≤ 4096) (O : Old Z n0 h0) :
    Con WD Z EL0 n0 (⟨"java/lang/StringUTF16", "newBytesLength", "(I)I"⟩ : MethodName) jdk_52_method_3_code 1 (some .int) (Rm 0 0 0 0) [(.int (natI m))] h0 [] (fun v h gs => v = some (.int (natI (2 * m))) ∧ gs = []) := by
  refine Con.of (a0 := a0) (by first | (simp [plainName, overriddenIn]; done) | decide +kernel) (hEL hw) hWE O (L0 := #[.val (.int (natI m))]) (fun m => by first | rfl | (simp [entryFrame, mkF, argsToLocals, Value.category]; done)) ?_
  intro K C hh
  have e2 := natI_toInt (i := m) (by omega)
  have e1 := shl1 e2 (by omega)
  have e' : natI m <<< (1 &&& 31) = natI (2 * m) := i32e (by rw [e1, natI_toInt (by omega)])
  refine Own.iloadN C d19_0 rfl ?_
  refine if_ge C d19_1 (fun q1 => ?_) (fun q1 => ?_)
  · refine Own.iloadN C d19_12 rfl ?_
    refine Own.ldcI C (hw _ (List.mem_of_getElem? (i := 90) rfl)) d19_13 ?_
    refine icmp_lt C d19_15 (fun q2 => ?_) (fun q2 => ?_)
    · refine Own.iloadN C d19_55 rfl ?_
      refine Own.iconst (v := 1) C d19_56 rfl ?_
      refine Own.ishl C d19_57 ?_
      exact retI_ C (gs := []) d19_58 (dle rfl) (dle rfl) (fun _ q => nomatch q) ⟨by rw [e'], rfl⟩
    · exact absurd (by rw [lt32, e2]; have e : (1073741823 : Int32).toInt = 1073741823 := rfl; omega) q2
  · rw [lt32, e2] at q1
    have e0 : (0 : Int32).toInt = 0 := rfl
    omega
set_option maxRecDepth 65536 in
set_option maxHeartbeats 4000000 in
theorem k_nbf {Z : State} {a0 : Array Value} (hw : ∀ d ∈ tables_1, d.before a0 Z = true) (hs : Stt Z) {n0 : Nat} {h0 : Heap} {N m : Nat} (hm : m ≤ N ∧ N ≤ 4096) (O : Old Z n0 h0) :
    Con WD Z EL0 n0 (⟨"java/lang/StringUTF16", "newBytesFor", "(I)[B"⟩ : MethodName) jdk_52_method_2_code 1 (some (.array .byte)) (Rm 1 1 (0 + 2 * N) 12) [(.int (natI m))] h0 [] (fun v h gs => ∃ d : Addr, v = some (.ref d) ∧ gs = [d] ∧ h0.size ≤ d ∧ Ary Z h d .byte (List.replicate (2 * m) (.int 0))) := by
  refine Con.of (a0 := a0) (by first | (simp [plainName, overriddenIn]; done) | decide +kernel) (hEL hw) hWE O (L0 := #[.val (.int (natI m))]) (fun m => by first | rfl | (simp [entryFrame, mkF, argsToLocals, Value.category]; done)) ?_
  intro K C hh
  have e2 := natI_toInt (i := 2 * m) (by omega)
  have e3 : (natI (2 * m)).toNatClampNeg = 2 * m := natI_clamp (by omega)
  refine Own.iloadN C d18_0 rfl ?_
  refine callS_ C (as := [(.int (natI m))]) (st := []) (hw _ (List.mem_of_getElem? (i := 87) rfl)) (hw _ (List.mem_of_getElem? (i := 88) rfl)) (hw _ (List.mem_of_getElem? (i := 51) rfl)) (hw _ (List.mem_of_getElem? (i := 89) rfl)) ⟨by decide, by decide⟩ pd__28I_29I rfl (fun O => k_nbl hw hs (by omega) O) (fun _ q => nomatch q) rfl (dle rfl) (dle rfl) (dle rfl) (by omega) d18_1 rfl (fun v1 hp1 gs1 K1 Q1 => ?_)
  obtain ⟨rfl, rfl⟩ := Q1
  show Go _ K Z _ n0 _ _ 4 #[.val (.int (natI m))] [(.int (natI (2 * m)))] hp1 _ _ _
  refine newarr C (hw _ (List.mem_of_getElem? (i := 24) rfl)) (by rw [lt32, e2]; exact Int.not_lt.mpr (Int.natCast_nonneg _)) (2 * N) (by omega) (by omega) (dle rfl) (by omega) d18_4 (fun hp2 K2 lt2 le2 A2 => ?_)
  obtain ⟨a2, g2⟩ : ∃ z, z = hp1.size := ⟨_, rfl⟩
  rw [← g2] at A2 lt2 le2 ⊢
  rw [e3] at A2
  exact retA C (gs := [a2]) rfl rfl d18_6 (dle rfl) (by omega) (by simp) ⟨_, rfl, rfl, (by have := K1.1; omega), A2⟩
set_option maxRecDepth 65536 in
set_option maxHeartbeats 4000000 in
theorem k_putChar {Z : State} {a0 : Array Value} (hw : ∀ d ∈ tables_1, d.before a0 Z = true) (hs : Stt Z) {n0 : Nat} {h0 : Heap} {b : Addr} {vs : List Value} {j c : Int32} {i : Nat} (hi : 2 * i + 1 < vs.length) (hi' : i ≤ 8192) (A : Ary Z h0 b .byte vs) (hj : j.toInt = i) (O : Old Z n0 h0) :
    Con WD Z EL0 n0 (⟨"java/lang/StringUTF16", "putChar", "([BII)V"⟩ : MethodName) jdk_52_method_4_code 3 none (Rm 0 0 0 0) [(.ref b), (.int j), (.int c)] h0 [b] (fun v h gs => v = none ∧ gs = [] ∧ Ary Z h b .byte ((vs.set (2 * i) (.int (nar .byte c))).set (2 * i + 1) (.int (nar .byte (c >>> 8))))) := by
  refine Con.of (a0 := a0) (by first | (simp [plainName, overriddenIn]; done) | decide +kernel) (hEL hw) hWE O (L0 := #[.val (.ref b), .val (.int j), .val (.int c)]) (fun m => by first | rfl | (simp [entryFrame, mkF, argsToLocals, Value.category]; done)) ?_
  intro K C hh
  have j1 := shl1 hj (by omega)
  have j2 : ((j <<< (1 &&& 31)) + 1).toInt = (2 * i + 1 : Nat) := by have a := c_iadd (j <<< (1 &&& 31)) 1; have r := rng32 ((j <<< (1 &&& 31)) + 1); have e : (1 : Int32).toInt = 1 := rfl; omega
  refine getS_ C (hw _ (List.mem_of_getElem? (i := 94) rfl)) (st_a hs) d20_0 ?_
  refine if_ne C d20_3 (fun q1 => ?_) (fun q1 => ?_)
  · refine Own.iloadN C d20_28 rfl ?_
    refine Own.iconst (v := 1) C d20_29 rfl ?_
    refine Own.ishl C d20_30 ?_
    refine Own.istoreN (L' := #[.val (.ref b), .val (.int (j <<< ((1 : Int32) &&& 31))), .val (.int c)]) C d20_31 rfl ?_
    refine Own.aloadN C d20_32 rfl rfl ?_
    refine Own.iloadN C d20_33 rfl ?_
    refine Own.iinc (L' := #[.val (.ref b), .val (.int ((j <<< ((1 : Int32) &&& 31)) + (1 : Int32))), .val (.int c)]) (y := ((j <<< ((1 : Int32) &&& 31)) + (1 : Int32))) C d20_34 rfl rfl rfl ?_
    refine Own.iloadN C d20_37 rfl ?_
    refine getS_ C (hw _ (List.mem_of_getElem? (i := 95) rfl)) (st_hi hs) d20_38 ?_
    refine Own.ishr C d20_41 ?_
    refine Own.i2b C d20_42 ?_
    refine bastore_ C A (2 * i) j1 (by omega) (by simp) d20_43 (fun hp2 W2 A2 => ?_)
    refine Own.aloadN C d20_44 rfl rfl ?_
    refine Own.iloadN C d20_45 rfl ?_
    refine Own.iloadN C d20_46 rfl ?_
    refine getS_ C (hw _ (List.mem_of_getElem? (i := 96) rfl)) (st_lo hs) d20_47 ?_
    refine Own.ishr C d20_50 ?_
    refine Own.i2b C d20_51 ?_
    refine bastore_ C A2 (2 * i + 1) j2 (by simp; omega) (by simp) d20_52 (fun hp3 W3 A3 => ?_)
    exact retV C (gs := []) d20_53 (dle rfl) (dle rfl) (fun _ q => nomatch q) ⟨rfl, rfl, by rw [shr0, narb_idem, narb_idem] at A3; exact A3⟩
  · exact absurd q1 (by decide)
set_option maxRecDepth 65536 in
set_option maxHeartbeats 4000000 in
theorem k_toBytes {Z : State} {a0 : Array Value} (hw : ∀ d ∈ tables_1, d.before a0 Z = true) (hs : Stt Z) {n0 : Nat} {h0 : Heap} {N : Nat} {a : Addr} {cs : List Int32} (hcs : ∀ c ∈ cs, isCh c) (hl : cs.length ≤ 4096) (hN : cs.length ≤ N ∧ N ≤ 4096) (A : Ary Z h0 a .char (chs cs)) (O : Old Z n0 h0) :
    Con WD Z EL0 n0 (⟨"java/lang/StringUTF16", "toBytes", "([CII)[B"⟩ : MethodName) jdk_52_method_14_code 5 (some (.array .byte)) (Rm 2 1 (0 + 2 * N) 24) [(.ref a), (.int (0 : Int32)), (.int (natI cs.length))] h0 [] (fun v h gs => gs = [] ∧ ∃ d : Addr, v = some (.ref d) ∧ h0.size ≤ d ∧ Ary Z h d .byte (utf cs)) := by
  refine Con.of (a0 := a0) (by first | (simp [plainName, overriddenIn]; done) | decide +kernel) (hEL hw) hWE O (L0 := #[.val (.ref a), .val (.int (0 : Int32)), .val (.int (natI cs.length)), .unset, .unset]) (fun m => by first | rfl | (simp [entryFrame, mkF, argsToLocals, Value.category]; done)) ?_
  intro K C hh
  have e2 := natI_toInt (i := cs.length) (by omega)
  have loop : ∀ (m i : Nat) (h : Heap) (d : Addr), i + m = cs.length → h0.size ≤ d → Ary Z h a .char (chs cs) → Ary Z h d .byte (utf (cs.take i) ++ List.replicate (2 * m) (.int 0)) → Go WD K Z EL0 n0 [] (fun v h gs => gs = [] ∧ ∃ d : Addr, v = some (.ref d) ∧ h0.size ≤ d ∧ Ary Z h d .byte (utf cs)) 8 #[.val (.ref a), .val (.int (natI i)), .val (.int (natI cs.length)), .val (.ref d), .val (.int (natI i))] [] h [d] (0 + 1) (0 + (0 + 2 * N)) := by
    intro m
    induction m with
    | zero =>
      intro i h d hm hd A B
      have e1 := natI_toInt (i := i) (by omega)
      refine Own.iload C d17_8 rfl ?_
      refine Own.iloadN C d17_10 rfl ?_
      refine icmp_ge C d17_11 (fun q1 => ?_) (fun q1 => ?_)
      · have h1 : i = cs.length := by omega
        subst h1
        refine Own.aloadN C d17_32 rfl rfl ?_
        exact retA C (gs := []) rfl rfl d17_33 (dle rfl) (by omega) (fun _ q => nomatch q) ⟨rfl, d, rfl, hd, by simpa using B⟩
      · rw [lt32] at q1
        omega
    | succ m ih =>
      intro i h d hm hd A B
      have e1 := natI_toInt (i := i) (by omega)
      refine Own.iload C d17_8 rfl ?_
      refine Own.iloadN C d17_10 rfl ?_
      refine icmp_ge C d17_11 (fun q2 => ?_) (fun q2 => ?_)
      · rw [lt32] at q2
        omega
      · obtain ⟨c, hc⟩ : ∃ c, cs[i]? = some c := ⟨_, List.getElem?_eq_getElem (by omega)⟩
        refine Own.aloadN C d17_14 rfl rfl ?_
        refine Own.iload C d17_15 rfl ?_
        refine Own.aloadN C d17_17 rfl rfl ?_
        refine Own.iloadN C d17_18 rfl ?_
        refine caload_ C (v := .int c) A i e1 (chs_at hc) d17_19 ?_
        refine callS_ C (as := [(.ref d), (.int (natI i)), (.int c)]) (st := []) (hw _ (List.mem_of_getElem? (i := 91) rfl)) (hw _ (List.mem_of_getElem? (i := 92) rfl)) (hw _ (List.mem_of_getElem? (i := 51) rfl)) (hw _ (List.mem_of_getElem? (i := 93) rfl)) ⟨by decide, by decide⟩ pd__28_5bBII_29V rfl (fun O => k_putChar hw hs (i := i) (by simp [utf_len]; omega) (by omega) B e1 O) (by simp) rfl (dle rfl) (dle rfl) (dle rfl) (by omega) d17_20 rfl (fun v3 hp3 gs3 K3 Q3 => ?_)
        obtain ⟨rfl, rfl, B3⟩ := Q3
        rw [utf_set hm hc] at B3
        show Go _ K Z _ n0 _ _ 23 #[.val (.ref a), .val (.int (natI i)), .val (.int (natI cs.length)), .val (.ref d), .val (.int (natI i))] [] hp3 _ _ _
        have e3 := natI_succ (i := i) (by omega)
        refine Own.iinc (L' := #[.val (.ref a), .val (.int (natI (i + 1))), .val (.int (natI cs.length)), .val (.ref d), .val (.int (natI i))]) (y := (natI (i + 1))) C d17_23 rfl e3 rfl ?_
        refine Own.iinc (L' := #[.val (.ref a), .val (.int (natI (i + 1))), .val (.int (natI cs.length)), .val (.ref d), .val (.int (natI (i + 1)))]) (y := (natI (i + 1))) C d17_26 rfl e3 rfl ?_
        refine Own.goto_ C d17_29 ?_
        exact ih (i + 1) hp3 d (by omega) hd (A.keep K3 (ninS (A.ne B (by decide)) nin0)) B3
  refine Own.iloadN C d17_0 rfl ?_
  refine callS_ C (as := [(.int (natI cs.length))]) (st := []) (hw _ (List.mem_of_getElem? (i := 84) rfl)) (hw _ (List.mem_of_getElem? (i := 85) rfl)) (hw _ (List.mem_of_getElem? (i := 51) rfl)) (hw _ (List.mem_of_getElem? (i := 86) rfl)) ⟨by decide, by decide⟩ pd__28I_29_5bB rfl (fun O => k_nbf (N := N) hw hs hN O) (fun _ q => nomatch q) rfl (dle rfl) (dle rfl) (dle rfl) (by omega) d17_1 rfl (fun v4 hp4 gs4 K4 Q4 => ?_)
  obtain ⟨d, rfl, rfl, hd, B4⟩ := Q4
  show Go _ K Z _ n0 _ _ 4 #[.val (.ref a), .val (.int (0 : Int32)), .val (.int (natI cs.length)), .unset, .unset] [(.ref d)] hp4 _ _ _
  refine Own.astoreN (L' := #[.val (.ref a), .val (.int (0 : Int32)), .val (.int (natI cs.length)), .val (.ref d), .unset]) C d17_4 rfl rfl ?_
  refine Own.iconst (v := 0) C d17_5 rfl ?_
  refine Own.istore (L' := #[.val (.ref a), .val (.int (0 : Int32)), .val (.int (natI cs.length)), .val (.ref d), .val (.int (0 : Int32))]) C d17_6 rfl ?_
  exact loop cs.length 0 hp4 d (by omega) hd (A.keep K4 nin0) (by simpa [utf] using B4)
set_option maxRecDepth 65536 in
set_option maxHeartbeats 4000000 in
theorem k_compress5 {Z : State} {a0 : Array Value} (hw : ∀ d ∈ tables_1, d.before a0 Z = true) (hs : Stt Z) {n0 : Nat} {h0 : Heap} {a b : Addr} {cs : List Int32} (hcs : ∀ c ∈ cs, isCh c) (hl : cs.length ≤ 4096) (A : Ary Z h0 a .char (chs cs)) (B : Ary Z h0 b .byte (List.replicate cs.length (.int 0))) (O : Old Z n0 h0) :
    Con WD Z EL0 n0 (⟨"java/lang/StringUTF16", "compress", "([CI[BII)I"⟩ : MethodName) jdk_52_method_21_code 7 (some .int) (Rm 0 0 0 0) [(.ref a), (.int (0 : Int32)), (.ref b), (.int (0 : Int32)), (.int (natI cs.length))] h0 [b] (fun v h gs => v = some (.int (natI (pfx cs))) ∧ gs = [] ∧ Ary Z h b .byte (lat (cs.take (pfx cs)) ++ List.replicate (cs.length - pfx cs) (.int 0))) := by
  refine Con.of (a0 := a0) (by first | (simp [plainName, overriddenIn]; done) | decide +kernel) (hEL hw) hWE O (L0 := #[.val (.ref a), .val (.int (0 : Int32)), .val (.ref b), .val (.int (0 : Int32)), .val (.int (natI cs.length)), .unset, .unset]) (fun m => by first | rfl | (simp [entryFrame, mkF, argsToLocals, Value.category]; done)) ?_
  intro K C hh
  have loop : ∀ (m i : Nat) (h : Heap) (s6 : Slot), i + m = cs.length → (∀ c ∈ cs.take i, c.toInt < 256) → (s6 = .unset ∨ ∃ w, s6 = .val w ∧ w.category = 1) → Ary Z h a .char (chs cs) → Ary Z h b .byte (lat (cs.take i) ++ List.replicate m (.int 0)) → Go WD K Z EL0 n0 [b] (fun v h gs => v = some (.int (natI (pfx cs))) ∧ gs = [] ∧ Ary Z h b .byte (lat (cs.take (pfx cs)) ++ List.replicate (cs.length - pfx cs) (.int 0))) 3 #[.val (.ref a), .val (.int (natI i)), .val (.ref b), .val (.int (natI i)), .val (.int (natI cs.length)), .val (.int (natI i)), s6] [] h [b] 0 0 := by
    intro m
    induction m with
    | zero =>
      intro i h s6 hm hp hs6 A B
      have e1 := natI_toInt (i := i) (by omega)
      have e2 := natI_toInt (i := cs.length) (by omega)
      refine Own.iload C d10_3 rfl ?_
      refine Own.iload C d10_5 rfl ?_
      refine icmp_ge C d10_7 (fun q1 => ?_) (fun q1 => ?_)
      · refine Own.iload C d10_44 rfl ?_
        have hi : i = cs.length := by omega
        subst hi
        rw [List.take_length] at hp B
        have hq := pfx_all hp
        exact retI_ C (gs := []) d10_46 (dle rfl) (dle rfl) (fun _ q => nomatch q) ⟨by rw [hq], rfl, by rw [hq, List.take_length, Nat.sub_self]; exact B⟩
      · rw [lt32] at q1
        omega
    | succ m ih =>
      intro i h s6 hm hp hs6 A B
      have e1 := natI_toInt (i := i) (by omega)
      have e2 := natI_toInt (i := cs.length) (by omega)
      refine Own.iload C d10_3 rfl ?_
      refine Own.iload C d10_5 rfl ?_
      refine icmp_ge C d10_7 (fun q2 => ?_) (fun q2 => ?_)
      · rw [lt32] at q2
        omega
      · obtain ⟨c, hc⟩ : ∃ c, cs[i]? = some c := ⟨_, List.getElem?_eq_getElem (by omega)⟩
        have hch := hcs c (List.mem_of_getElem? hc)
        refine Own.aloadN C d10_10 rfl rfl ?_
        refine Own.iloadN C d10_11 rfl ?_
        refine caload_ C (v := .int c) A i e1 (chs_at hc) d10_12 ?_
        refine Own.istore (L' := #[.val (.ref a), .val (.int (natI i)), .val (.ref b), .val (.int (natI i)), .val (.int (natI cs.length)), .val (.int (natI i)), .val (.int c)]) C d10_13 (st1 rfl hs6 rfl rfl) ?_
        refine Own.iload C d10_15 rfl ?_
        refine Own.sipush (v := 255) C d10_17 rfl ?_
        refine icmp_le C d10_20 (fun q3 => ?_) (fun q3 => ?_)
        · have hlt : c.toInt < 256 := by have e : (255 : Int32).toInt = 255 := rfl; rw [lt32] at q3; omega
          refine Own.aloadN C d10_26 rfl rfl ?_
          refine Own.iloadN C d10_27 rfl ?_
          refine Own.iload C d10_28 rfl ?_
          refine Own.i2b C d10_30 ?_
          refine bastore_ C B i e1 (by simp [lat_len]; omega) (by simp) d10_31 (fun hp4 W4 A4 => ?_)
          rw [lat_set hm hc] at A4
          have e3 := natI_succ (i := i) (by omega)
          refine Own.iinc (L' := #[.val (.ref a), .val (.int (natI (i + 1))), .val (.ref b), .val (.int (natI i)), .val (.int (natI cs.length)), .val (.int (natI i)), .val (.int c)]) (y := (natI (i + 1))) C d10_32 rfl e3 rfl ?_
          refine Own.iinc (L' := #[.val (.ref a), .val (.int (natI (i + 1))), .val (.ref b), .val (.int (natI (i + 1))), .val (.int (natI cs.length)), .val (.int (natI i)), .val (.int c)]) (y := (natI (i + 1))) C d10_35 rfl e3 rfl ?_
          refine Own.iinc (L' := #[.val (.ref a), .val (.int (natI (i + 1))), .val (.ref b), .val (.int (natI (i + 1))), .val (.int (natI cs.length)), .val (.int (natI (i + 1))), .val (.int c)]) (y := (natI (i + 1))) C d10_38 rfl e3 rfl ?_
          refine Own.goto_ C d10_41 ?_
          exact ih (i + 1) hp4 _ (by omega) (take_lt hp hc hlt) (Or.inr ⟨_, rfl, rfl⟩) (A.other W4 (A.ne B (by decide))) A4
        · have hge : 256 ≤ c.toInt := by have e : (255 : Int32).toInt = 255 := rfl; rw [lt32] at q3; omega
          refine Own.iload C d10_23 rfl ?_
          have hq := pfx_at hp hc hge
          exact retI_ C (gs := []) d10_25 (dle rfl) (dle rfl) (fun _ q => nomatch q) ⟨by rw [hq], rfl, by rw [hq, show cs.length - i = m + 1 by omega]; exact B⟩
  refine Own.iconst (v := 0) C d10_0 rfl ?_
  refine Own.istore (L' := #[.val (.ref a), .val (.int (0 : Int32)), .val (.ref b), .val (.int (0 : Int32)), .val (.int (natI cs.length)), .val (.int (0 : Int32)), .unset]) C d10_1 rfl ?_
  exact loop cs.length 0 h0 .unset (by omega) (by simp) (Or.inl rfl) A (by simpa [lat] using B)
set_option maxRecDepth 65536 in
set_option maxHeartbeats 4000000 in
theorem k_compress3 {Z : State} {a0 : Array Value} (hw : ∀ d ∈ tables_1, d.before a0 Z = true) (hs : Stt Z) {n0 : Nat} {h0 : Heap} {N : Nat} {a : Addr} {cs : List Int32} (hcs : ∀ c ∈ cs, isCh c) (hl : cs.length ≤ 4096) (hN : cs.length ≤ N ∧ N ≤ 4096) (A : Ary Z h0 a .char (chs cs)) (O : Old Z n0 h0) :
    Con WD Z EL0 n0 (⟨"java/lang/StringUTF16", "compress", "([CII)[B"⟩ : MethodName) jdk_52_method_16_code 6 (some (.array .byte)) (Rm 3 2 (0 + 3 * N) 40) [(.ref a), (.int (0 : Int32)), (.int (natI cs.length))] h0 [] (fun v h gs => gs = [] ∧ ∃ (b : Addr) (z : Int32) (vs : List Value), v = some (.ref b) ∧ h0.size ≤ b ∧ Ary Z h b .byte vs ∧ Byt cs z vs) := by
  refine Con.of (a0 := a0) (by first | (simp [plainName, overriddenIn]; done) | decide +kernel) (hEL hw) hWE O (L0 := #[.val (.ref a), .val (.int (0 : Int32)), .val (.int (natI cs.length)), .unset, .unset, .unset]) (fun m => by first | rfl | (simp [entryFrame, mkF, argsToLocals, Value.category]; done)) ?_
  intro K C hh
  have e2 := natI_toInt (i := cs.length) (by omega)
  have e3 : (natI cs.length).toNatClampNeg = cs.length := natI_clamp (by omega)
  refine Own.iloadN C d9_0 rfl ?_
  refine newarr C (hw _ (List.mem_of_getElem? (i := 24) rfl)) (by rw [lt32, e2]; exact Int.not_lt.mpr (Int.natCast_nonneg _)) N (by omega) (by omega) (dle rfl) (by omega) d9_1 (fun hp1 K1 lt1 le1 A1 => ?_)
  obtain ⟨b, g1⟩ : ∃ z, z = h0.size := ⟨_, rfl⟩
  rw [← g1] at A1 lt1 le1 ⊢
  rw [e3] at A1
  have A' := A.keep K1 nin0
  refine Own.astoreN (L' := #[.val (.ref a), .val (.int (0 : Int32)), .val (.int (natI cs.length)), .val (.ref b), .unset, .unset]) C d9_3 rfl rfl ?_
  refine Own.aloadN C d9_4 rfl rfl ?_
  refine Own.iloadN C d9_5 rfl ?_
  refine Own.aloadN C d9_6 rfl rfl ?_
  refine Own.iconst (v := 0) C d9_7 rfl ?_
  refine Own.iloadN C d9_8 rfl ?_
  refine callS_ C (as := [(.ref a), (.int (0 : Int32)), (.ref b), (.int (0 : Int32)), (.int (natI cs.length))]) (st := []) (hw _ (List.mem_of_getElem? (i := 53) rfl)) (hw _ (List.mem_of_getElem? (i := 54) rfl)) (hw _ (List.mem_of_getElem? (i := 51) rfl)) (hw _ (List.mem_of_getElem? (i := 55) rfl)) ⟨by decide, by decide⟩ pd__28_5bCI_5bBII_29I rfl (fun O => k_compress5 hw hs hcs hl A' A1 O) (by simp) rfl (dle rfl) (dle rfl) (dle rfl) (by omega) d9_9 rfl (fun v2 hp2 gs2 K2 Q2 => ?_)
  obtain ⟨rfl, rfl, B2⟩ := Q2
  show Go _ K Z _ n0 _ _ 12 #[.val (.ref a), .val (.int (0 : Int32)), .val (.int (natI cs.length)), .val (.ref b), .unset, .unset] [(.int (natI (pfx cs)))] hp2 _ _ _
  refine Own.istore (L' := #[.val (.ref a), .val (.int (0 : Int32)), .val (.int (natI cs.length)), .val (.ref b), .val (.int (natI (pfx cs))), .unset]) C d9_12 rfl ?_
  refine Own.iload C d9_14 rfl ?_
  refine Own.iloadN C d9_16 rfl ?_
  refine icmp_eq C d9_17 (fun q3 => ?_) (fun q3 => ?_)
  · have hp : pfx cs = cs.length := by have e4 := natI_toInt (i := pfx cs) (by have := pfx_le cs; omega); have e5 := congrArg Int32.toInt q3; omega
    rw [hp, List.take_length, Nat.sub_self] at B2
    refine Own.aloadN C d9_57 rfl rfl ?_
    exact retA C (gs := []) rfl rfl d9_58 (dle rfl) (by omega) (fun _ q => nomatch q) ⟨rfl, b, 0, lat cs, rfl, by omega, by simpa using B2, Or.inl ⟨pfx_full hp, rfl, rfl⟩⟩
  · have hp : pfx cs < cs.length := by have := pfx_le cs; rcases Nat.lt_or_ge (pfx cs) cs.length with z | z; exact z; exact absurd (by rw [Nat.le_antisymm this z]) q3
    obtain ⟨c, hc, hge⟩ := pfx_next hp
    have A2 := A'.keep K2 (ninS (A'.ne A1 (by decide)) nin0)
    refine Own.aloadN C d9_20 rfl rfl ?_
    refine Own.iloadN C d9_21 rfl ?_
    refine Own.iloadN C d9_22 rfl ?_
    refine callS_ C (as := [(.ref a), (.int (0 : Int32)), (.int (natI cs.length))]) (st := []) (hw _ (List.mem_of_getElem? (i := 81) rfl)) (hw _ (List.mem_of_getElem? (i := 82) rfl)) (hw _ (List.mem_of_getElem? (i := 51) rfl)) (hw _ (List.mem_of_getElem? (i := 83) rfl)) ⟨by decide, by decide⟩ pd__28_5bCII_29_5bB rfl (fun O => k_toBytes (N := N) hw hs hcs hl hN A2 O) (fun _ q => nomatch q) rfl (dle rfl) (dle rfl) (dle rfl) (by omega) d9_23 rfl (fun v4 hp4 gs4 K4 Q4 => ?_)
    obtain ⟨rfl, d, rfl, hd, B4⟩ := Q4
    show Go _ K Z _ n0 _ _ 26 #[.val (.ref a), .val (.int (0 : Int32)), .val (.int (natI cs.length)), .val (.ref b), .val (.int (natI (pfx cs))), .unset] [(.ref d)] hp4 _ _ _
    refine Own.astore (L' := #[.val (.ref a), .val (.int (0 : Int32)), .val (.int (natI cs.length)), .val (.ref b), .val (.int (natI (pfx cs))), .val (.ref d)]) C d9_26 rfl rfl ?_
    refine Own.aload C d9_28 rfl rfl ?_
    refine Own.iload C d9_30 rfl ?_
    refine callS_ C (as := [(.ref d), (.int (natI (pfx cs)))]) (st := []) (hw _ (List.mem_of_getElem? (i := 97) rfl)) (hw _ (List.mem_of_getElem? (i := 98) rfl)) (hw _ (List.mem_of_getElem? (i := 51) rfl)) (hw _ (List.mem_of_getElem? (i := 99) rfl)) ⟨by decide, by decide⟩ pd__28_5bBI_29C rfl (fun O => k_getChar hw hs hcs hl B4 (natI_toInt (by omega)) hc O) (fun _ q => nomatch q) rfl (dle rfl) (dle rfl) (dle rfl) (by omega) d9_32 rfl (fun v5 hp5 gs5 K5 Q5 => ?_)
    obtain ⟨rfl, rfl⟩ := Q5
    show Go _ K Z _ n0 _ _ 35 #[.val (.ref a), .val (.int (0 : Int32)), .val (.int (natI cs.length)), .val (.ref b), .val (.int (natI (pfx cs))), .val (.ref d)] [(.int c)] hp5 _ _ _
    refine Own.sipush (v := 255) C d9_35 rfl ?_
    refine icmp_gt C d9_38 (fun q6 => ?_) (fun q6 => ?_)
    · refine Own.aload C d9_54 rfl rfl ?_
      exact retA C (gs := []) rfl rfl d9_56 (dle rfl) (by omega) (fun _ q => nomatch q) ⟨rfl, d, 1, utf cs, rfl, (by have := K1.1; have := K2.1; omega), B4.keep K5 nin0, Or.inr ⟨⟨c, List.mem_of_getElem? hc, hge⟩, rfl, rfl⟩⟩
    · have e : (255 : Int32).toInt = 255 := rfl
      rw [lt32] at q6
      omega
set_option maxRecDepth 65536 in
set_option maxHeartbeats 4000000 in
theorem k_coder {Z : State} {a0 : Array Value} (hw : ∀ d ∈ tables_1, d.before a0 Z = true) (hs : Stt Z) {n0 : Nat} {h0 : Heap} {b : Addr} {cs : List Int32} {z : Int32} {vs : List Value} (h1 : 1 ≤ cs.length) (hl : cs.length ≤ 4096) (A : Ary Z h0 b .byte vs) (B : Byt cs z vs) (O : Old Z n0 h0) :
    Con WD Z EL0 n0 (⟨"java/lang/StringUTF16", "coderFromArrayLen", "([BI)B"⟩ : MethodName) jdk_52_method_15_code 2 (some .byte) (Rm 0 0 0 0) [(.ref b), (.int (natI cs.length))] h0 [] (fun v h gs => v = some (.int z) ∧ gs = []) := by
  refine Con.of (a0 := a0) (by first | (simp [plainName, overriddenIn]; done) | decide +kernel) (hEL hw) hWE O (L0 := #[.val (.ref b), .val (.int (natI cs.length))]) (fun m => by first | rfl | (simp [entryFrame, mkF, argsToLocals, Value.category]; done)) ?_
  intro K C hh
  obtain ⟨y, hy⟩ : ∃ y : Int32, y.toInt = vs.length := ⟨natI vs.length, natI_toInt (Byt.len_lt B hl)⟩
  refine Own.iloadN C d11_0 rfl ?_
  refine Own.aloadN C d11_1 rfl rfl ?_
  refine arrlen C A (z := y) hy d11_2 ?_
  refine Own.isub C d11_3 ?_
  refine Own.bipush (v := 31) C d11_4 rfl ?_
  refine Own.iushr C d11_6 ?_
  refine Own.i2b C d11_7 ?_
  exact retB C (gs := []) d11_8 (dle rfl) (dle rfl) (fun _ q => nomatch q) ⟨by rw [Byt.coder B h1 hl hy], rfl⟩
set_option maxRecDepth 65536 in
set_option maxHeartbeats 4000000 in
theorem k_init4 {Z : State} {a0 : Array Value} (hw : ∀ d ∈ tables_1, d.before a0 Z = true) (hs : Stt Z) {n0 : Nat} {h0 : Heap} {N : Nat} {a b0 : Addr} {cs : List Int32} {u1 u2 : Value} (hcs : ∀ c ∈ cs, isCh c) (hl : cs.length ≤ 4096) (hN : cs.length ≤ N ∧ N ≤ 4096) (A : Ary Z h0 b0 .char (chs cs)) (E : Exa Z h0 a "java/lang/String") (Fv : Fld Z h0 a "java/lang/String" "value" "[B" u1) (Fc : Fld Z h0 a "java/lang/String" "coder" "B" u2) (O : Old Z n0 h0) :
    Con WD Z EL0 n0 (⟨"java/lang/String", "<init>", "([CIILjava/lang/Void;)V"⟩ : MethodName) jdk_42_method_149_code 6 none (Rm 4 4 (8 + 3 * N) 57) [(.ref a), (.ref b0), (.int (0 : Int32)), (.int (natI cs.length)), .null] h0 [a] (fun v h gs => v = none ∧ gs = [] ∧ Str Z h a cs) := by
  refine Con.of (a0 := a0) (by first | (simp [plainName, overriddenIn]; done) | decide +kernel) (hEL hw) hWE O (L0 := #[.val (.ref a), .val (.ref b0), .val (.int (0 : Int32)), .val (.int (natI cs.length)), .val .null, .unset]) (fun m => by first | rfl | (simp [entryFrame, mkF, argsToLocals, Value.category]; done)) ?_
  intro K C hh
  have e2 := natI_toInt (i := cs.length) (by omega)
  obtain ⟨cv, hcv, Sc⟩ := st_c hs
  refine Own.aloadN C d3_0 rfl rfl ?_
  refine initO_ C (hw _ (List.mem_of_getElem? (i := 20) rfl)) (hw _ (List.mem_of_getElem? (i := 21) rfl)) (hw _ (List.mem_of_getElem? (i := 22) rfl)) rfl (dle rfl) (dle rfl) d3_1 ?_
  refine Own.iloadN C d3_4 rfl ?_
  refine if_ne C d3_5 (fun q1 => ?_) (fun q1 => ?_)
  · have h1 : 1 ≤ cs.length := by rcases Nat.eq_zero_or_pos cs.length with z | z; exact absurd (by rw [z]; rfl) q1; exact z
    refine getS_ C (hw _ (List.mem_of_getElem? (i := 48) rfl)) Sc d3_27 ?_
    refine if_eq C d3_30 (fun q2 => ?_) (fun q2 => ?_)
    · exact absurd q2 hcv
    · refine Own.aloadN C d3_33 rfl rfl ?_
      refine Own.iloadN C d3_34 rfl ?_
      refine Own.iloadN C d3_35 rfl ?_
      refine callS_ C (as := [(.ref b0), (.int (0 : Int32)), (.int (natI cs.length))]) (st := []) (hw _ (List.mem_of_getElem? (i := 49) rfl)) (hw _ (List.mem_of_getElem? (i := 50) rfl)) (hw _ (List.mem_of_getElem? (i := 51) rfl)) (hw _ (List.mem_of_getElem? (i := 52) rfl)) ⟨by decide, by decide⟩ pd__28_5bCII_29_5bB rfl (fun O => k_compress3 (N := N) hw hs hcs hl hN A O) (fun _ q => nomatch q) rfl (dle rfl) (dle rfl) (dle rfl) (by omega) d3_36 rfl (fun v3 hp3 gs3 K3 Q3 => ?_)
      obtain ⟨rfl, b, z, vs, rfl, hb, B, hB⟩ := Q3
      show Go _ K Z _ n0 _ _ 39 #[.val (.ref a), .val (.ref b0), .val (.int (0 : Int32)), .val (.int (natI cs.length)), .val .null, .unset] [(.ref b)] hp3 _ _ _
      refine Own.astore (L' := #[.val (.ref a), .val (.ref b0), .val (.int (0 : Int32)), .val (.int (natI cs.length)), .val .null, .val (.ref b)]) C d3_39 rfl rfl ?_
      refine Own.aloadN C d3_41 rfl rfl ?_
      refine Own.aload C d3_42 rfl rfl ?_
      refine Own.iloadN C d3_44 rfl ?_
      refine callS_ C (as := [(.ref b), (.int (natI cs.length))]) (st := [(.ref a)]) (hw _ (List.mem_of_getElem? (i := 56) rfl)) (hw _ (List.mem_of_getElem? (i := 57) rfl)) (hw _ (List.mem_of_getElem? (i := 51) rfl)) (hw _ (List.mem_of_getElem? (i := 58) rfl)) ⟨by decide, by decide⟩ pd__28_5bBI_29B rfl (fun O => k_coder hw hs h1 hl B hB O) (fun _ q => nomatch q) rfl (dle rfl) (dle rfl) (dle rfl) (by omega) d3_45 rfl (fun v4 hp4 gs4 K4 Q4 => ?_)
      obtain ⟨rfl, rfl⟩ := Q4
      show Go _ K Z _ n0 _ _ 48 #[.val (.ref a), .val (.ref b0), .val (.int (0 : Int32)), .val (.int (natI cs.length)), .val .null, .val (.ref b)] [(.int z), (.ref a)] hp4 _ _ _
      have K1 := K3.trans K4 (fun _ q => nomatch q)
      have E1 := E.keep K1
      have C1 := Fc.keep K1 nin0
      have V1 := Fv.keep K1 nin0
      refine putF_ C (v' := .int z) (ty := .byte) (hw _ (List.mem_of_getElem? (i := 30) rfl)) C1 E1 (Or.inr ⟨(hw _ (List.mem_of_getElem? (i := 26) rfl)), rfl, rfl⟩) (hw _ (List.mem_of_getElem? (i := 10) rfl)) (by decide) (by rcases hB with ⟨-, rfl, -⟩ | ⟨-, rfl, -⟩ <;> rfl) (by rcases hB with ⟨-, rfl, -⟩ | ⟨-, rfl, -⟩ <;> rfl) (by simp) d3_48 (fun hp5 W6 => ?_)
      have hne := slot_ne (Or.inr (hw _ (List.mem_of_getElem? (i := 25) rfl)) : Laid Z a0 "java/lang/String" "java/lang/String" "value" "[B") (Or.inr (hw _ (List.mem_of_getElem? (i := 26) rfl)) : Laid Z a0 "java/lang/String" "java/lang/String" "coder" "B") (by decide) (t := .array .byte) (t' := .byte) (by decide) (by decide)
      have E2 := E1.wr W6
      have C2 := C1.same W6
      have V2 := V1.other W6 (Or.inr hne)
      have B2 := (B.keep K4 nin0).other W6 ((B.keep K4 nin0).neX E1 (hw _ (List.mem_of_getElem? (i := 10) rfl)))
      refine Own.aloadN C d3_51 rfl rfl ?_
      refine Own.aload C d3_52 rfl rfl ?_
      refine putF_ C (v' := .ref b) (ty := (.array .byte)) (hw _ (List.mem_of_getElem? (i := 29) rfl)) V2 E2 (Or.inr ⟨(hw _ (List.mem_of_getElem? (i := 25) rfl)), rfl, rfl⟩) (hw _ (List.mem_of_getElem? (i := 10) rfl)) (by decide) rfl rfl (by simp) d3_54 (fun hp7 W8 => ?_)
      have E3 := E2.wr W8
      have V3 := V2.same W8
      have C3 := C2.other W8 (Or.inr hne.symm)
      have B3 := B2.other W8 (B2.neX E2 (hw _ (List.mem_of_getElem? (i := 10) rfl)))
      exact retV C (gs := []) d3_57 (dle rfl) (by omega) (fun _ q => nomatch q) ⟨rfl, rfl, E3, hcs, hl, b, z, vs, V3, C3, B3, hB⟩
  · have hn0 : cs = [] := by have e0 : (0 : Int32).toInt = 0 := rfl; have := congrArg Int32.toInt q1; exact List.eq_nil_of_length_eq_zero (by omega)
    subst hn0
    refine Own.aloadN C d3_8 rfl rfl ?_
    refine ldcS_ rfl C (text := "") (vs := []) (z := 0) (nn := 0) (hw _ (List.mem_of_getElem? (i := 23) rfl)) (wS hw) (by simp) ⟨by decide +kernel, by decide +kernel⟩ (by decide) (by decide) (by decide +kernel) (by decide) (dle rfl) (by omega) d3_9 (fun hp9 s9 b9 K9 E9 C9 V9 A9 ne9 => ?_)
    refine getF_ C (hw _ (List.mem_of_getElem? (i := 29) rfl)) V9 d3_11 ?_
    have E1 := E.keep K9
    have V1 := Fv.keep K9 nin0
    have C1 := Fc.keep K9 nin0
    refine putF_ C (v' := .ref b9) (ty := (.array .byte)) (hw _ (List.mem_of_getElem? (i := 29) rfl)) V1 E1 (Or.inr ⟨(hw _ (List.mem_of_getElem? (i := 25) rfl)), rfl, rfl⟩) (hw _ (List.mem_of_getElem? (i := 10) rfl)) (by decide) rfl rfl (by simp) d3_14 (fun hp10 W11 => ?_)
    have hne := slot_ne (Or.inr (hw _ (List.mem_of_getElem? (i := 25) rfl)) : Laid Z a0 "java/lang/String" "java/lang/String" "value" "[B") (Or.inr (hw _ (List.mem_of_getElem? (i := 26) rfl)) : Laid Z a0 "java/lang/String" "java/lang/String" "coder" "B") (by decide) (t := .array .byte) (t' := .byte) (by decide) (by decide)
    have E2 := E1.wr W11
    have V2 := V1.same W11
    have C2 := C1.other W11 (Or.inr hne.symm)
    have A2 := A9.other W11 (A9.neX E1 (hw _ (List.mem_of_getElem? (i := 10) rfl)))
    refine Own.aloadN C d3_17 rfl rfl ?_
    refine ldcS_ rfl C (text := "") (vs := []) (z := 0) (nn := 0) (hw _ (List.mem_of_getElem? (i := 23) rfl)) (wS hw) (by simp) ⟨by decide +kernel, by decide +kernel⟩ (by decide) (by decide) (by decide +kernel) (by decide) (dle rfl) (by omega) d3_18 (fun hp12 s12 b12 K12 E12 C12 V12 A12 ne12 => ?_)
    refine getF_ C (hw _ (List.mem_of_getElem? (i := 30) rfl)) C12 d3_20 ?_
    have E3 := E2.keep K12
    have V3 := V2.keep K12 nin0
    have C3 := C2.keep K12 nin0
    have A3 := A2.keep K12 nin0
    refine putF_ C (v' := .int (0 : Int32)) (ty := .byte) (hw _ (List.mem_of_getElem? (i := 30) rfl)) C3 E3 (Or.inr ⟨(hw _ (List.mem_of_getElem? (i := 26) rfl)), rfl, rfl⟩) (hw _ (List.mem_of_getElem? (i := 10) rfl)) (by decide) rfl rfl (by simp) d3_23 (fun hp13 W14 => ?_)
    have E4 := E3.wr W14
    have V4 := V3.other W14 (Or.inr hne)
    have C4 := C3.same W14
    have A4 := A3.other W14 (A3.neX E3 (hw _ (List.mem_of_getElem? (i := 10) rfl)))
    exact retV C (gs := []) d3_26 (dle rfl) (by omega) (fun _ q => nomatch q) ⟨rfl, rfl, E4, hcs, hl, b9, 0, [], V4, C4, A4, Or.inl ⟨by simp, rfl, rfl⟩⟩
set_option maxRecDepth 65536 in
set_option maxHeartbeats 4000000 in
theorem k_init {Z : State} {a0 : Array Value} (hw : ∀ d ∈ tables_1, d.before a0 Z = true) (hs : Stt Z) {n0 : Nat} {h0 : Heap} {N : Nat} {a b0 : Addr} {cs : List Int32} {u1 u2 : Value} (hcs : ∀ c ∈ cs, isCh c) (hl : cs.length ≤ 4096) (hN : cs.length ≤ N ∧ N ≤ 4096) (A : Ary Z h0 b0 .char (chs cs)) (E : Exa Z h0 a "java/lang/String") (Fv : Fld Z h0 a "java/lang/String" "value" "[B" u1) (Fc : Fld Z h0 a "java/lang/String" "coder" "B" u2) (O : Old Z n0 h0) :
    Con WD Z EL0 n0 (⟨"java/lang/String", "<init>", "([C)V"⟩ : MethodName) jdk_42_method_3_code 2 none (Rm 5 4 (8 + 3 * N) 74) [(.ref a), (.ref b0)] h0 [a] (fun v h gs => v = none ∧ gs = [] ∧ Str Z h a cs) := by
  refine Con.of (a0 := a0) (by first | (simp [plainName, overriddenIn]; done) | decide +kernel) (hEL hw) hWE O (L0 := #[.val (.ref a), .val (.ref b0)]) (fun m => by first | rfl | (simp [entryFrame, mkF, argsToLocals, Value.category]; done)) ?_
  intro K C hh
  have e2 := natI_toInt (i := cs.length) (by omega)
  refine Own.aloadN C d2_0 rfl rfl ?_
  refine Own.aloadN C d2_1 rfl rfl ?_
  refine Own.iconst (v := 0) C d2_2 rfl ?_
  refine Own.aloadN C d2_3 rfl rfl ?_
  refine arrlen C A (z := (natI cs.length)) (by rw [e2, chs_len]) d2_4 ?_
  refine Own.aconstNull C d2_5 ?_
  refine callI_ C (as' := [(.ref b0), (.int (0 : Int32)), (.int (natI cs.length)), .null]) (st := []) rfl (hw _ (List.mem_of_getElem? (i := 16) rfl)) (hw _ (List.mem_of_getElem? (i := 17) rfl)) (hw _ (List.mem_of_getElem? (i := 11) rfl)) (hw _ (List.mem_of_getElem? (i := 19) rfl)) ⟨by decide, by decide⟩ pd__28_5bCIILjava_2flang_2fVoid_3b_29V rfl (fun O => k_init4 (N := N) hw hs hcs hl hN A E Fv Fc O) (by simp) rfl (dle rfl) (dle rfl) (dle rfl) (by omega) d2_6 rfl (fun v1 hp1 gs1 K1 Q1 => ?_)
  obtain ⟨rfl, rfl, S1⟩ := Q1
  show Go _ K Z _ n0 _ _ 9 #[.val (.ref a), .val (.ref b0)] [] hp1 _ _ _
  exact retV C (gs := []) d2_9 (dle rfl) (by omega) (fun _ q => nomatch q) ⟨rfl, rfl, S1⟩
set_option maxRecDepth 65536 in
set_option maxHeartbeats 4000000 in
theorem k_scoder {Z : State} {a0 : Array Value} (hw : ∀ d ∈ tables_1, d.before a0 Z = true) (hs : Stt Z) {n0 : Nat} {h0 : Heap} {a : Addr} {z : Int32} (hz : nar .byte z = z) (Fc : Fld Z h0 a "java/lang/String" "coder" "B" (.int z)) (O : Old Z n0 h0) :
    Con WD Z EL0 n0 (⟨"java/lang/String", "coder", "()B"⟩ : MethodName) jdk_42_method_152_code 1 (some .byte) (Rm 0 0 0 0) [(.ref a)] h0 [] (fun v h gs => v = some (.int z) ∧ gs = []) := by
  refine Con.of (a0 := a0) (by first | (simp [plainName, overriddenIn]; done) | decide +kernel) (hEL hw) hWE O (L0 := #[.val (.ref a)]) (fun m => by first | rfl | (simp [entryFrame, mkF, argsToLocals, Value.category]; done)) ?_
  intro K C hh
  obtain ⟨cv, hcv, Sc⟩ := st_c hs
  refine getS_ C (hw _ (List.mem_of_getElem? (i := 48) rfl)) Sc d8_0 ?_
  refine if_eq C d8_3 (fun q1 => ?_) (fun q1 => ?_)
  · exact absurd q1 hcv
  · refine Own.aloadN C d8_6 rfl rfl ?_
    refine getF_ C (hw _ (List.mem_of_getElem? (i := 30) rfl)) Fc d8_7 ?_
    refine Own.goto_ C d8_10 ?_
    exact retB C (gs := []) d8_14 (dle rfl) (dle rfl) (fun _ q => nomatch q) ⟨by rw [hz], rfl⟩
set_option maxRecDepth 65536 in
set_option maxHeartbeats 4000000 in
theorem k_length {Z : State} {a0 : Array Value} (hw : ∀ d ∈ tables_1, d.before a0 Z = true) (hs : Stt Z) {n0 : Nat} {h0 : Heap} {a : Addr} {cs : List Int32} (F : Str Z h0 a cs) (O : Old Z n0 h0) :
    Con WD Z EL0 n0 (⟨"java/lang/String", "length", "()I"⟩ : MethodName) jdk_42_method_54_code 1 (some .int) (Rm 1 0 0 13) [(.ref a)] h0 [] (fun v h gs => v = some (.int (natI cs.length)) ∧ gs = []) := by
  refine Con.of (a0 := a0) (by first | (simp [plainName, overriddenIn]; done) | decide +kernel) (hEL hw) hWE O (L0 := #[.val (.ref a)]) (fun m => by first | rfl | (simp [entryFrame, mkF, argsToLocals, Value.category]; done)) ?_
  intro K C hh
  obtain ⟨E, hc1, hl1, b, z, vs, Fv, Fc, A, Bt⟩ := F
  obtain ⟨y, hy⟩ : ∃ y : Int32, y.toInt = vs.length := ⟨natI vs.length, natI_toInt (Byt.len_lt Bt hl1)⟩
  refine Own.aloadN C d7_0 rfl rfl ?_
  refine getF_ C (hw _ (List.mem_of_getElem? (i := 29) rfl)) Fv d7_1 ?_
  refine arrlen C A (z := y) hy d7_4 ?_
  refine Own.aloadN C d7_5 rfl rfl ?_
  refine callV_ C (as' := []) (st := [(.int y)]) (hw _ (List.mem_of_getElem? (i := 43) rfl)) (hw _ (List.mem_of_getElem? (i := 44) rfl)) (fun _ hZ => notFace_of_selects (args := #[]) (mvT hZ (hw _ (List.mem_of_getElem? (i := 46) rfl)))) (hw _ (List.mem_of_getElem? (i := 46) rfl)) (hw _ (List.mem_of_getElem? (i := 45) rfl)) (hw _ (List.mem_of_getElem? (i := 11) rfl)) (hw _ (List.mem_of_getElem? (i := 47) rfl)) ⟨by decide, by decide⟩ E pd__28_29B rfl (fun O => k_scoder hw hs Bt.nb Fc O) (fun _ q => nomatch q) rfl (dle rfl) (dle rfl) (dle rfl) (dle rfl) d7_6 rfl (fun v1 hp1 gs1 K1 Q1 => ?_)
  obtain ⟨rfl, rfl⟩ := Q1
  show Go _ K Z _ n0 _ _ 9 #[.val (.ref a)] [(.int z), (.int y)] hp1 _ _ _
  refine Own.ishr C d7_9 ?_
  exact retI_ C (gs := []) d7_10 (dle rfl) (dle rfl) (fun _ q => nomatch q) ⟨by rw [Bt.isr hl1 hy], rfl⟩
set_option maxRecDepth 65536 in
set_option maxHeartbeats 4000000 in
theorem k_isLatin1 {Z : State} {a0 : Array Value} (hw : ∀ d ∈ tables_1, d.before a0 Z = true) (hs : Stt Z) {n0 : Nat} {h0 : Heap} {a : Addr} {z : Int32} (Fc : Fld Z h0 a "java/lang/String" "coder" "B" (.int z)) (O : Old Z n0 h0) :
    Con WD Z EL0 n0 (⟨"java/lang/String", "isLatin1", "()Z"⟩ : MethodName) jdk_42_method_154_code 1 (some .boolean) (Rm 0 0 0 0) [(.ref a)] h0 [] (fun v h gs => v = some (.int (if z = 0 then 1 else 0)) ∧ gs = []) := by
  refine Con.of (a0 := a0) (by first | (simp [plainName, overriddenIn]; done) | decide +kernel) (hEL hw) hWE O (L0 := #[.val (.ref a)]) (fun m => by first | rfl | (simp [entryFrame, mkF, argsToLocals, Value.category]; done)) ?_
  intro K C hh
  obtain ⟨cv, hcv, Sc⟩ := st_c hs
  refine getS_ C (hw _ (List.mem_of_getElem? (i := 48) rfl)) Sc d13_0 ?_
  refine if_eq C d13_3 (fun q1 => ?_) (fun q1 => ?_)
  · exact absurd q1 hcv
  · refine Own.aloadN C d13_6 rfl rfl ?_
    refine getF_ C (hw _ (List.mem_of_getElem? (i := 30) rfl)) Fc d13_7 ?_
    refine if_ne C d13_10 (fun q2 => ?_) (fun q2 => ?_)
    · refine Own.iconst (v := 0) C d13_17 rfl ?_
      exact retZ C (gs := []) d13_18 (dle rfl) (dle rfl) (fun _ q => nomatch q) ⟨by rw [if_neg q2]; rfl, rfl⟩
    · refine Own.iconst (v := 1) C d13_13 rfl ?_
      refine Own.goto_ C d13_14 ?_
      exact retZ C (gs := []) d13_18 (dle rfl) (dle rfl) (fun _ q => nomatch q) ⟨by rw [if_pos q2]; rfl, rfl⟩
set_option maxRecDepth 65536 in
set_option maxHeartbeats 4000000 in
theorem k_charAt {Z : State} {a0 : Array Value} (hw : ∀ d ∈ tables_1, d.before a0 Z = true) (hs : Stt Z) {n0 : Nat} {h0 : Heap} {a : Addr} {cs : List Int32} {j c : Int32} {i : Nat} (F : Str Z h0 a cs) (hj : j.toInt = i) (hc : cs[i]? = some c) (O : Old Z n0 h0) :
    Con WD Z EL0 n0 (⟨"java/lang/String", "charAt", "(I)C"⟩ : MethodName) jdk_42_method_56_code 2 (some .char) (Rm 4 0 0 53) [(.ref a), (.int j)] h0 [] (fun v h gs => v = some (.int c) ∧ gs = []) := by
  refine Con.of (a0 := a0) (by first | (simp [plainName, overriddenIn]; done) | decide +kernel) (hEL hw) hWE O (L0 := #[.val (.ref a), .val (.int j)]) (fun m => by first | rfl | (simp [entryFrame, mkF, argsToLocals, Value.category]; done)) ?_
  intro K C hh
  obtain ⟨E, hc1, hl1, b, z, vs, Fv, Fc, A, Bt⟩ := F
  have hch := hc1 c (List.mem_of_getElem? hc)
  refine Own.aloadN C d12_0 rfl rfl ?_
  refine callV_ C (as' := []) (st := []) (hw _ (List.mem_of_getElem? (i := 64) rfl)) (hw _ (List.mem_of_getElem? (i := 65) rfl)) (fun _ hZ => notFace_of_selects (args := #[]) (mvT hZ (hw _ (List.mem_of_getElem? (i := 67) rfl)))) (hw _ (List.mem_of_getElem? (i := 67) rfl)) (hw _ (List.mem_of_getElem? (i := 66) rfl)) (hw _ (List.mem_of_getElem? (i := 11) rfl)) (hw _ (List.mem_of_getElem? (i := 68) rfl)) ⟨by decide, by decide⟩ E pd__28_29Z rfl (fun O => k_isLatin1 hw hs Fc O) (fun _ q => nomatch q) rfl (dle rfl) (dle rfl) (dle rfl) (dle rfl) d12_1 rfl (fun v1 hp1 gs1 K1 Q1 => ?_)
  obtain ⟨rfl, rfl⟩ := Q1
  show Go _ K Z _ n0 _ _ 4 #[.val (.ref a), .val (.int j)] [(.int (if z = 0 then 1 else 0))] hp1 _ _ _
  refine if_eq C d12_4 (fun q2 => ?_) (fun q2 => ?_)
  · have hz : z = 1 := by rcases Bt.z01 with t | t; rw [if_pos t] at q2; exact absurd q2 (by decide); exact t
    subst hz
    have ev := Bt.one
    subst ev
    refine Own.aloadN C d12_16 rfl rfl ?_
    refine getF_ C (hw _ (List.mem_of_getElem? (i := 29) rfl)) (Fv.keep K1 nin0) d12_17 ?_
    refine Own.iloadN C d12_20 rfl ?_
    refine callS_ C (as := [(.ref b), (.int j)]) (st := []) (hw _ (List.mem_of_getElem? (i := 100) rfl)) (hw _ (List.mem_of_getElem? (i := 101) rfl)) (hw _ (List.mem_of_getElem? (i := 51) rfl)) (hw _ (List.mem_of_getElem? (i := 102) rfl)) ⟨by decide, by decide⟩ pd__28_5bBI_29C rfl (fun O => k_ucharAt hw hs hc1 hl1 (A.keep K1 nin0) hj hc O) (fun _ q => nomatch q) rfl (dle rfl) (dle rfl) (dle rfl) (dle rfl) d12_21 rfl (fun v3 hp3 gs3 K3 Q3 => ?_)
    obtain ⟨rfl, rfl⟩ := Q3
    show Go _ K Z _ n0 _ _ 24 #[.val (.ref a), .val (.int j)] [(.int c)] hp3 _ _ _
    exact retC C (gs := []) d12_24 (dle rfl) (dle rfl) (fun _ q => nomatch q) ⟨by rw [narc_id hch], rfl⟩
  · have hz : z = 0 := by by_cases t : z = 0; exact t; exact absurd (if_neg t) q2
    subst hz
    obtain ⟨hlt, ev⟩ := Bt.zero
    subst ev
    refine Own.aloadN C d12_7 rfl rfl ?_
    refine getF_ C (hw _ (List.mem_of_getElem? (i := 29) rfl)) (Fv.keep K1 nin0) d12_8 ?_
    refine Own.iloadN C d12_11 rfl ?_
    refine callS_ C (as := [(.ref b), (.int j)]) (st := []) (hw _ (List.mem_of_getElem? (i := 69) rfl)) (hw _ (List.mem_of_getElem? (i := 70) rfl)) (hw _ (List.mem_of_getElem? (i := 71) rfl)) (hw _ (List.mem_of_getElem? (i := 72) rfl)) ⟨by decide, by decide⟩ pd__28_5bBI_29C rfl (fun O => k_lcharAt hw hs hl1 (A.keep K1 nin0) hj hc ⟨hch.1, hlt c (List.mem_of_getElem? hc)⟩ O) (fun _ q => nomatch q) rfl (dle rfl) (dle rfl) (dle rfl) (dle rfl) d12_12 rfl (fun v4 hp4 gs4 K4 Q4 => ?_)
    obtain ⟨rfl, rfl⟩ := Q4
    show Go _ K Z _ n0 _ _ 15 #[.val (.ref a), .val (.int j)] [(.int c)] hp4 _ _ _
    exact retC C (gs := []) d12_15 (dle rfl) (dle rfl) (fun _ q => nomatch q) ⟨by rw [narc_id hch], rfl⟩
def dr (x : Int32) : Int32 := if (x &&& 1) = 0 then nar .char (ushr x 1 &&& 65535) else 46
theorem dr_ch (x : Int32) : isCh (dr x) := by
  unfold dr; split
  · exact narc_ch _
  · exact ⟨by decide, by decide⟩
def dt (p c : Int32) : Int32 := if p = 0 then 0 else if c = 46 then 1 else 0
def mk (n c0 c1 c2 c3 c4 : Int32) : List Int32 := if n = 0 then [] else if n = 1 then [c0] else if n = 2 then [c0, c1] else if n = 3 then [c0, c1, c2] else if n = 4 then [c0, c1, c2, c3] else [c0, c1, c2, c3, c4]
def cnt (cs : List Int32) : Int32 := cs.foldl (fun s c => if c = 46 then s + 1 else s) 1
theorem cnt_step {cs : List Int32} {i : Nat} {c : Int32} (hc : cs[i]? = some c) : cnt (cs.take (i + 1)) = if c = 46 then cnt (cs.take i) + 1 else cnt (cs.take i) := by
  rw [List.take_add_one, hc]; simp [cnt, List.foldl_append]
theorem range6 (x : Int32) : (x &&& 2147483647) % 6 = 0 ∨ (x &&& 2147483647) % 6 = 1 ∨ (x &&& 2147483647) % 6 = 2 ∨ (x &&& 2147483647) % 6 = 3 ∨ (x &&& 2147483647) % 6 = 4 ∨ (x &&& 2147483647) % 6 = 5 := by
  have a := c_mask x 2147483647 31 (by decide) (by decide)
  have e : ((2 ^ 31 : Nat) : Int) = 2147483648 := by decide
  rw [e] at a
  have b := (c_irem (x &&& 2147483647) 6 6 (by decide)).1 (by omega)
  have h : ((x &&& 2147483647) % 6).toInt = 0 ∨ ((x &&& 2147483647) % 6).toInt = 1 ∨ ((x &&& 2147483647) % 6).toInt = 2 ∨ ((x &&& 2147483647) % 6).toInt = 3 ∨ ((x &&& 2147483647) % 6).toInt = 4 ∨ ((x &&& 2147483647) % 6).toInt = 5 := by omega
  rcases h with h | h | h | h | h | h
  · exact Or.inl (i32e h)
  · exact Or.inr (Or.inl (i32e h))
  · exact Or.inr (Or.inr (Or.inl (i32e h)))
  · exact Or.inr (Or.inr (Or.inr (Or.inl (i32e h))))
  · exact Or.inr (Or.inr (Or.inr (Or.inr (Or.inl (i32e h)))))
  · exact Or.inr (Or.inr (Or.inr (Or.inr (Or.inr (i32e h)))))
theorem law_eq {n c0 c1 c2 c3 c4 : Int32} (hn : n = 0 ∨ n = 1 ∨ n = 2 ∨ n = 3 ∨ n = 4 ∨ n = 5) : cnt (mk n c0 c1 c2 c3 c4) = 1 + dt (if (0 : Int32) < n then 1 else 0) c0 + dt (if (1 : Int32) < n then 1 else 0) c1 + dt (if (2 : Int32) < n then 1 else 0) c2 + dt (if (3 : Int32) < n then 1 else 0) c3 + dt (if (4 : Int32) < n then 1 else 0) c4 := by
  rcases hn with rfl | rfl | rfl | rfl | rfl | rfl <;> simp [mk, cnt, dt] <;> (repeat' split) <;> rfl
set_option maxRecDepth 65536 in
set_option maxHeartbeats 4000000 in
theorem k_draw {Z : State} {a0 : Array Value} (hw : ∀ d ∈ tables_1, d.before a0 Z = true) (hs : Stt Z) {n0 : Nat} {h0 : Heap} {p : Int32} (O : Old Z n0 h0) :
    Con WD Z EL0 n0 (⟨"com/example/canhash/canhash/LabelsCountPinLaw", "draw", "(I)C"⟩ : MethodName) method_2_code 1 (some .char) (Rm 0 0 0 0) [(.int p)] h0 [] (fun v h gs => v = some (.int (dr p)) ∧ gs = []) := by
  refine Con.of (a0 := a0) (by first | (simp [plainName, overriddenIn]; done) | decide +kernel) (hEL hw) hWE O (L0 := #[.val (.int p)]) (fun m => by first | rfl | (simp [entryFrame, mkF, argsToLocals, Value.category]; done)) ?_
  intro K C hh
  refine Own.iloadN C d0_0 rfl ?_
  refine Own.iconst (v := 1) C d0_1 rfl ?_
  refine Own.iand C d0_2 ?_
  refine if_eq C d0_3 (fun q1 => ?_) (fun q1 => ?_)
  · refine Own.iloadN C d0_9 rfl ?_
    refine Own.iconst (v := 1) C d0_10 rfl ?_
    refine Own.iushr C d0_11 ?_
    refine Own.ldcI C (hw _ (List.mem_of_getElem? (i := 5) rfl)) d0_12 ?_
    refine Own.iand C d0_14 ?_
    refine Own.i2c C d0_15 ?_
    exact retC C (gs := []) d0_16 (dle rfl) (dle rfl) (fun _ q => nomatch q) ⟨by rw [narc_idem]; simp only [dr, if_pos q1], rfl⟩
  · refine Own.bipush (v := 46) C d0_6 rfl ?_
    exact retC C (gs := []) d0_8 (dle rfl) (dle rfl) (fun _ q => nomatch q) ⟨by simp only [dr, if_neg q1]; rfl, rfl⟩
set_option maxRecDepth 65536 in
set_option maxHeartbeats 4000000 in
theorem k_dot {Z : State} {a0 : Array Value} (hw : ∀ d ∈ tables_1, d.before a0 Z = true) (hs : Stt Z) {n0 : Nat} {h0 : Heap} {p c : Int32} (O : Old Z n0 h0) :
    Con WD Z EL0 n0 (⟨"com/example/canhash/canhash/LabelsCountPinLaw", "dot", "(ZC)I"⟩ : MethodName) method_3_code 2 (some .int) (Rm 0 0 0 0) [(.int p), (.int c)] h0 [] (fun v h gs => v = some (.int (dt p c)) ∧ gs = []) := by
  refine Con.of (a0 := a0) (by first | (simp [plainName, overriddenIn]; done) | decide +kernel) (hEL hw) hWE O (L0 := #[.val (.int p), .val (.int c)]) (fun m => by first | rfl | (simp [entryFrame, mkF, argsToLocals, Value.category]; done)) ?_
  intro K C hh
  refine Own.iloadN C d5_0 rfl ?_
  refine if_eq C d5_1 (fun q1 => ?_) (fun q1 => ?_)
  · refine Own.iconst (v := 0) C d5_12 rfl ?_
    exact retI_ C (gs := []) d5_13 (dle rfl) (dle rfl) (fun _ q => nomatch q) ⟨by simp only [dt, if_pos q1], rfl⟩
  · refine Own.iloadN C d5_4 rfl ?_
    refine Own.bipush (v := 46) C d5_5 rfl ?_
    refine icmp_ne C d5_7 (fun q2 => ?_) (fun q2 => ?_)
    · refine Own.iconst (v := 0) C d5_12 rfl ?_
      exact retI_ C (gs := []) d5_13 (dle rfl) (dle rfl) (fun _ q => nomatch q) ⟨by simp only [dt, if_neg q1, if_neg q2], rfl⟩
    · refine Own.iconst (v := 1) C d5_10 rfl ?_
      exact retI_ C (gs := []) d5_11 (dle rfl) (dle rfl) (fun _ q => nomatch q) ⟨by simp only [dt, if_neg q1, if_pos q2], rfl⟩
set_option maxRecDepth 65536 in
set_option maxHeartbeats 4000000 in
theorem k_make {Z : State} {a0 : Array Value} (hw : ∀ d ∈ tables_1, d.before a0 Z = true) (hs : Stt Z) {n0 : Nat} {h0 : Heap} {n c0 c1 c2 c3 c4 : Int32} (hch0 : isCh c0) (hch1 : isCh c1) (hch2 : isCh c2) (hch3 : isCh c3) (hch4 : isCh c4) (O : Old Z n0 h0) :
    Con WD Z EL0 n0 (⟨"com/example/canhash/canhash/LabelsCountPinLaw", "make", "(ICCCCC)Ljava/lang/String;"⟩ : MethodName) method_4_code 6 (some (.object "java/lang/String")) (Rm 6 6 32 88) [(.int n), (.int c0), (.int c1), (.int c2), (.int c3), (.int c4)] h0 [] (fun v h gs => gs = [] ∧ ∃ a : Addr, v = some (.ref a) ∧ Str Z h a (mk n c0 c1 c2 c3 c4)) := by
  refine Con.of (a0 := a0) (by first | (simp [plainName, overriddenIn]; done) | decide +kernel) (hEL hw) hWE O (L0 := #[.val (.int n), .val (.int c0), .val (.int c1), .val (.int c2), .val (.int c3), .val (.int c4)]) (fun m => by first | rfl | (simp [entryFrame, mkF, argsToLocals, Value.category]; done)) ?_
  intro K C hh
  refine Own.iloadN C d1_0 rfl ?_
  refine if_ne C d1_1 (fun q1 => ?_) (fun q1 => ?_)
  · refine Own.iloadN C d1_15 rfl ?_
    refine Own.iconst (v := 1) C d1_16 rfl ?_
    refine icmp_ne C d1_17 (fun q2 => ?_) (fun q2 => ?_)
    · refine Own.iloadN C d1_35 rfl ?_
      refine Own.iconst (v := 2) C d1_36 rfl ?_
      refine icmp_ne C d1_37 (fun q3 => ?_) (fun q3 => ?_)
      · refine Own.iloadN C d1_59 rfl ?_
        refine Own.iconst (v := 3) C d1_60 rfl ?_
        refine icmp_ne C d1_61 (fun q4 => ?_) (fun q4 => ?_)
        · refine Own.iloadN C d1_87 rfl ?_
          refine Own.iconst (v := 4) C d1_88 rfl ?_
          refine icmp_ne C d1_89 (fun q5 => ?_) (fun q5 => ?_)
          · refine new_ C (hw _ (List.mem_of_getElem? (i := 9) rfl)) (hw _ (List.mem_of_getElem? (i := 10) rfl)) (hw _ (List.mem_of_getElem? (i := 11) rfl)) (dle rfl) (dle rfl) d1_120 (fun hp6 K6 lt6 le6 ⟨E6, F6⟩ => ?_)
            obtain ⟨a, g6⟩ : ∃ z, z = h0.size := ⟨_, rfl⟩
            rw [← g6] at E6 F6 lt6 le6 ⊢
            have Fv := F6 (Or.inr (hw _ (List.mem_of_getElem? (i := 25) rfl)) : Laid Z a0 "java/lang/String" "java/lang/String" "value" "[B") (ty := .array .byte) (by decide)
            have Fc := F6 (Or.inr (hw _ (List.mem_of_getElem? (i := 26) rfl)) : Laid Z a0 "java/lang/String" "java/lang/String" "coder" "B") (ty := .byte) (by decide)
            refine Own.dup C d1_123 rfl ?_
            refine Own.iconst (v := 5) C d1_124 rfl ?_
            refine newarr C (hw _ (List.mem_of_getElem? (i := 12) rfl)) (by decide) 5 (by decide) (by decide) (dle rfl) (dle rfl) d1_125 (fun hp7 K7 lt7 le7 A7 => ?_)
            obtain ⟨b0, g7⟩ : ∃ z, z = hp6.size := ⟨_, rfl⟩
            rw [← g7] at A7 lt7 le7 ⊢
            refine Own.dup C d1_127 rfl ?_
            refine Own.iconst (v := 0) C d1_128 rfl ?_
            refine Own.iloadN C d1_129 rfl ?_
            refine castore_ C A7 0 (by decide) (dlt rfl) (by simp) d1_130 (fun hp8 W8 A8 => ?_)
            refine Own.dup C d1_131 rfl ?_
            refine Own.iconst (v := 1) C d1_132 rfl ?_
            refine Own.iloadN C d1_133 rfl ?_
            refine castore_ C A8 1 (by decide) (dlt rfl) (by simp) d1_134 (fun hp9 W9 A9 => ?_)
            refine Own.dup C d1_135 rfl ?_
            refine Own.iconst (v := 2) C d1_136 rfl ?_
            refine Own.iloadN C d1_137 rfl ?_
            refine castore_ C A9 2 (by decide) (dlt rfl) (by simp) d1_138 (fun hp10 W10 A10 => ?_)
            refine Own.dup C d1_139 rfl ?_
            refine Own.iconst (v := 3) C d1_140 rfl ?_
            refine Own.iload C d1_141 rfl ?_
            refine castore_ C A10 3 (by decide) (dlt rfl) (by simp) d1_143 (fun hp11 W11 A11 => ?_)
            refine Own.dup C d1_144 rfl ?_
            refine Own.iconst (v := 4) C d1_145 rfl ?_
            refine Own.iload C d1_146 rfl ?_
            refine castore_ C A11 4 (by decide) (dlt rfl) (by simp) d1_148 (fun hp12 W12 A12 => ?_)
            have hne : a ≠ b0 := by rw [g7]; exact Nat.ne_of_lt lt6
            have KA : Keep hp6 hp12 [b0] := (((((((Keep.refl _ [b0]).trans K7 (fun _ q => nomatch q)).trans (Keep.of_wr W8) (fun x hx => Or.inl hx)).trans (Keep.of_wr W9) (fun x hx => Or.inl hx)).trans (Keep.of_wr W10) (fun x hx => Or.inl hx)).trans (Keep.of_wr W11) (fun x hx => Or.inl hx)).trans (Keep.of_wr W12) (fun x hx => Or.inl hx))
            have A : Ary Z hp12 b0 .char (chs [c0, c1, c2, c3, c4]) := by have q := A12; simp only [narc_id (hch0), narc_id (hch1), narc_id (hch2), narc_id (hch3), narc_id (hch4)] at q; exact q
            refine callI_ C (as' := [(.ref b0)]) (st := [(.ref a)]) rfl (hw _ (List.mem_of_getElem? (i := 13) rfl)) (hw _ (List.mem_of_getElem? (i := 14) rfl)) (hw _ (List.mem_of_getElem? (i := 11) rfl)) (hw _ (List.mem_of_getElem? (i := 15) rfl)) ⟨by decide, by decide⟩ pd__28_5bC_29V rfl (fun O => k_init (N := 5) hw hs (by simp; exact ⟨hch0, hch1, hch2, hch3, hch4⟩) (dle rfl) ⟨dle rfl, by decide⟩ A (E6.keep KA) (Fv.keep KA (ninS hne nin0)) (Fc.keep KA (ninS hne nin0)) O) (by simp) rfl (dle rfl) (dle rfl) (dle rfl) (dle rfl) d1_149 rfl (fun v13 hp13 gs13 K13 Q13 => ?_)
            obtain ⟨rfl, rfl, S13⟩ := Q13
            show Go _ K Z _ n0 _ _ 152 #[.val (.int n), .val (.int c0), .val (.int c1), .val (.int c2), .val (.int c3), .val (.int c4)] [(.ref a)] hp13 _ _ _
            exact retA C (gs := []) rfl rfl d1_152 (dle rfl) (dle rfl) (fun _ q => nomatch q) ⟨rfl, a, rfl, by simp only [mk, if_neg q1, if_neg q2, if_neg q3, if_neg q4, if_neg q5]; exact S13⟩
          · refine new_ C (hw _ (List.mem_of_getElem? (i := 9) rfl)) (hw _ (List.mem_of_getElem? (i := 10) rfl)) (hw _ (List.mem_of_getElem? (i := 11) rfl)) (dle rfl) (dle rfl) d1_92 (fun hp14 K14 lt14 le14 ⟨E14, F14⟩ => ?_)
            obtain ⟨a, g14⟩ : ∃ z, z = h0.size := ⟨_, rfl⟩
            rw [← g14] at E14 F14 lt14 le14 ⊢
            have Fv := F14 (Or.inr (hw _ (List.mem_of_getElem? (i := 25) rfl)) : Laid Z a0 "java/lang/String" "java/lang/String" "value" "[B") (ty := .array .byte) (by decide)
            have Fc := F14 (Or.inr (hw _ (List.mem_of_getElem? (i := 26) rfl)) : Laid Z a0 "java/lang/String" "java/lang/String" "coder" "B") (ty := .byte) (by decide)
            refine Own.dup C d1_95 rfl ?_
            refine Own.iconst (v := 4) C d1_96 rfl ?_
            refine newarr C (hw _ (List.mem_of_getElem? (i := 12) rfl)) (by decide) 4 (by decide) (by decide) (dle rfl) (dle rfl) d1_97 (fun hp15 K15 lt15 le15 A15 => ?_)
            obtain ⟨b0, g15⟩ : ∃ z, z = hp14.size := ⟨_, rfl⟩
            rw [← g15] at A15 lt15 le15 ⊢
            refine Own.dup C d1_99 rfl ?_
            refine Own.iconst (v := 0) C d1_100 rfl ?_
            refine Own.iloadN C d1_101 rfl ?_
            refine castore_ C A15 0 (by decide) (dlt rfl) (by simp) d1_102 (fun hp16 W16 A16 => ?_)
            refine Own.dup C d1_103 rfl ?_
            refine Own.iconst (v := 1) C d1_104 rfl ?_
            refine Own.iloadN C d1_105 rfl ?_
            refine castore_ C A16 1 (by decide) (dlt rfl) (by simp) d1_106 (fun hp17 W17 A17 => ?_)
            refine Own.dup C d1_107 rfl ?_
            refine Own.iconst (v := 2) C d1_108 rfl ?_
            refine Own.iloadN C d1_109 rfl ?_
            refine castore_ C A17 2 (by decide) (dlt rfl) (by simp) d1_110 (fun hp18 W18 A18 => ?_)
            refine Own.dup C d1_111 rfl ?_
            refine Own.iconst (v := 3) C d1_112 rfl ?_
            refine Own.iload C d1_113 rfl ?_
            refine castore_ C A18 3 (by decide) (dlt rfl) (by simp) d1_115 (fun hp19 W19 A19 => ?_)
            have hne : a ≠ b0 := by rw [g15]; exact Nat.ne_of_lt lt14
            have KA : Keep hp14 hp19 [b0] := ((((((Keep.refl _ [b0]).trans K15 (fun _ q => nomatch q)).trans (Keep.of_wr W16) (fun x hx => Or.inl hx)).trans (Keep.of_wr W17) (fun x hx => Or.inl hx)).trans (Keep.of_wr W18) (fun x hx => Or.inl hx)).trans (Keep.of_wr W19) (fun x hx => Or.inl hx))
            have A : Ary Z hp19 b0 .char (chs [c0, c1, c2, c3]) := by have q := A19; simp only [narc_id (hch0), narc_id (hch1), narc_id (hch2), narc_id (hch3)] at q; exact q
            refine callI_ C (as' := [(.ref b0)]) (st := [(.ref a)]) rfl (hw _ (List.mem_of_getElem? (i := 13) rfl)) (hw _ (List.mem_of_getElem? (i := 14) rfl)) (hw _ (List.mem_of_getElem? (i := 11) rfl)) (hw _ (List.mem_of_getElem? (i := 15) rfl)) ⟨by decide, by decide⟩ pd__28_5bC_29V rfl (fun O => k_init (N := 5) hw hs (by simp; exact ⟨hch0, hch1, hch2, hch3⟩) (dle rfl) ⟨dle rfl, by decide⟩ A (E14.keep KA) (Fv.keep KA (ninS hne nin0)) (Fc.keep KA (ninS hne nin0)) O) (by simp) rfl (dle rfl) (dle rfl) (dle rfl) (dle rfl) d1_116 rfl (fun v20 hp20 gs20 K20 Q20 => ?_)
            obtain ⟨rfl, rfl, S20⟩ := Q20
            show Go _ K Z _ n0 _ _ 119 #[.val (.int n), .val (.int c0), .val (.int c1), .val (.int c2), .val (.int c3), .val (.int c4)] [(.ref a)] hp20 _ _ _
            exact retA C (gs := []) rfl rfl d1_119 (dle rfl) (dle rfl) (fun _ q => nomatch q) ⟨rfl, a, rfl, by simp only [mk, if_neg q1, if_neg q2, if_neg q3, if_neg q4, if_pos q5]; exact S20⟩
        · refine new_ C (hw _ (List.mem_of_getElem? (i := 9) rfl)) (hw _ (List.mem_of_getElem? (i := 10) rfl)) (hw _ (List.mem_of_getElem? (i := 11) rfl)) (dle rfl) (dle rfl) d1_64 (fun hp21 K21 lt21 le21 ⟨E21, F21⟩ => ?_)
          obtain ⟨a, g21⟩ : ∃ z, z = h0.size := ⟨_, rfl⟩
          rw [← g21] at E21 F21 lt21 le21 ⊢
          have Fv := F21 (Or.inr (hw _ (List.mem_of_getElem? (i := 25) rfl)) : Laid Z a0 "java/lang/String" "java/lang/String" "value" "[B") (ty := .array .byte) (by decide)
          have Fc := F21 (Or.inr (hw _ (List.mem_of_getElem? (i := 26) rfl)) : Laid Z a0 "java/lang/String" "java/lang/String" "coder" "B") (ty := .byte) (by decide)
          refine Own.dup C d1_67 rfl ?_
          refine Own.iconst (v := 3) C d1_68 rfl ?_
          refine newarr C (hw _ (List.mem_of_getElem? (i := 12) rfl)) (by decide) 3 (by decide) (by decide) (dle rfl) (dle rfl) d1_69 (fun hp22 K22 lt22 le22 A22 => ?_)
          obtain ⟨b0, g22⟩ : ∃ z, z = hp21.size := ⟨_, rfl⟩
          rw [← g22] at A22 lt22 le22 ⊢
          refine Own.dup C d1_71 rfl ?_
          refine Own.iconst (v := 0) C d1_72 rfl ?_
          refine Own.iloadN C d1_73 rfl ?_
          refine castore_ C A22 0 (by decide) (dlt rfl) (by simp) d1_74 (fun hp23 W23 A23 => ?_)
          refine Own.dup C d1_75 rfl ?_
          refine Own.iconst (v := 1) C d1_76 rfl ?_
          refine Own.iloadN C d1_77 rfl ?_
          refine castore_ C A23 1 (by decide) (dlt rfl) (by simp) d1_78 (fun hp24 W24 A24 => ?_)
          refine Own.dup C d1_79 rfl ?_
          refine Own.iconst (v := 2) C d1_80 rfl ?_
          refine Own.iloadN C d1_81 rfl ?_
          refine castore_ C A24 2 (by decide) (dlt rfl) (by simp) d1_82 (fun hp25 W25 A25 => ?_)
          have hne : a ≠ b0 := by rw [g22]; exact Nat.ne_of_lt lt21
          have KA : Keep hp21 hp25 [b0] := (((((Keep.refl _ [b0]).trans K22 (fun _ q => nomatch q)).trans (Keep.of_wr W23) (fun x hx => Or.inl hx)).trans (Keep.of_wr W24) (fun x hx => Or.inl hx)).trans (Keep.of_wr W25) (fun x hx => Or.inl hx))
          have A : Ary Z hp25 b0 .char (chs [c0, c1, c2]) := by have q := A25; simp only [narc_id (hch0), narc_id (hch1), narc_id (hch2)] at q; exact q
          refine callI_ C (as' := [(.ref b0)]) (st := [(.ref a)]) rfl (hw _ (List.mem_of_getElem? (i := 13) rfl)) (hw _ (List.mem_of_getElem? (i := 14) rfl)) (hw _ (List.mem_of_getElem? (i := 11) rfl)) (hw _ (List.mem_of_getElem? (i := 15) rfl)) ⟨by decide, by decide⟩ pd__28_5bC_29V rfl (fun O => k_init (N := 5) hw hs (by simp; exact ⟨hch0, hch1, hch2⟩) (dle rfl) ⟨dle rfl, by decide⟩ A (E21.keep KA) (Fv.keep KA (ninS hne nin0)) (Fc.keep KA (ninS hne nin0)) O) (by simp) rfl (dle rfl) (dle rfl) (dle rfl) (dle rfl) d1_83 rfl (fun v26 hp26 gs26 K26 Q26 => ?_)
          obtain ⟨rfl, rfl, S26⟩ := Q26
          show Go _ K Z _ n0 _ _ 86 #[.val (.int n), .val (.int c0), .val (.int c1), .val (.int c2), .val (.int c3), .val (.int c4)] [(.ref a)] hp26 _ _ _
          exact retA C (gs := []) rfl rfl d1_86 (dle rfl) (dle rfl) (fun _ q => nomatch q) ⟨rfl, a, rfl, by simp only [mk, if_neg q1, if_neg q2, if_neg q3, if_pos q4]; exact S26⟩
      · refine new_ C (hw _ (List.mem_of_getElem? (i := 9) rfl)) (hw _ (List.mem_of_getElem? (i := 10) rfl)) (hw _ (List.mem_of_getElem? (i := 11) rfl)) (dle rfl) (dle rfl) d1_40 (fun hp27 K27 lt27 le27 ⟨E27, F27⟩ => ?_)
        obtain ⟨a, g27⟩ : ∃ z, z = h0.size := ⟨_, rfl⟩
        rw [← g27] at E27 F27 lt27 le27 ⊢
        have Fv := F27 (Or.inr (hw _ (List.mem_of_getElem? (i := 25) rfl)) : Laid Z a0 "java/lang/String" "java/lang/String" "value" "[B") (ty := .array .byte) (by decide)
        have Fc := F27 (Or.inr (hw _ (List.mem_of_getElem? (i := 26) rfl)) : Laid Z a0 "java/lang/String" "java/lang/String" "coder" "B") (ty := .byte) (by decide)
        refine Own.dup C d1_43 rfl ?_
        refine Own.iconst (v := 2) C d1_44 rfl ?_
        refine newarr C (hw _ (List.mem_of_getElem? (i := 12) rfl)) (by decide) 2 (by decide) (by decide) (dle rfl) (dle rfl) d1_45 (fun hp28 K28 lt28 le28 A28 => ?_)
        obtain ⟨b0, g28⟩ : ∃ z, z = hp27.size := ⟨_, rfl⟩
        rw [← g28] at A28 lt28 le28 ⊢
        refine Own.dup C d1_47 rfl ?_
        refine Own.iconst (v := 0) C d1_48 rfl ?_
        refine Own.iloadN C d1_49 rfl ?_
        refine castore_ C A28 0 (by decide) (dlt rfl) (by simp) d1_50 (fun hp29 W29 A29 => ?_)
        refine Own.dup C d1_51 rfl ?_
        refine Own.iconst (v := 1) C d1_52 rfl ?_
        refine Own.iloadN C d1_53 rfl ?_
        refine castore_ C A29 1 (by decide) (dlt rfl) (by simp) d1_54 (fun hp30 W30 A30 => ?_)
        have hne : a ≠ b0 := by rw [g28]; exact Nat.ne_of_lt lt27
        have KA : Keep hp27 hp30 [b0] := ((((Keep.refl _ [b0]).trans K28 (fun _ q => nomatch q)).trans (Keep.of_wr W29) (fun x hx => Or.inl hx)).trans (Keep.of_wr W30) (fun x hx => Or.inl hx))
        have A : Ary Z hp30 b0 .char (chs [c0, c1]) := by have q := A30; simp only [narc_id (hch0), narc_id (hch1)] at q; exact q
        refine callI_ C (as' := [(.ref b0)]) (st := [(.ref a)]) rfl (hw _ (List.mem_of_getElem? (i := 13) rfl)) (hw _ (List.mem_of_getElem? (i := 14) rfl)) (hw _ (List.mem_of_getElem? (i := 11) rfl)) (hw _ (List.mem_of_getElem? (i := 15) rfl)) ⟨by decide, by decide⟩ pd__28_5bC_29V rfl (fun O => k_init (N := 5) hw hs (by simp; exact ⟨hch0, hch1⟩) (dle rfl) ⟨dle rfl, by decide⟩ A (E27.keep KA) (Fv.keep KA (ninS hne nin0)) (Fc.keep KA (ninS hne nin0)) O) (by simp) rfl (dle rfl) (dle rfl) (dle rfl) (dle rfl) d1_55 rfl (fun v31 hp31 gs31 K31 Q31 => ?_)
        obtain ⟨rfl, rfl, S31⟩ := Q31
        show Go _ K Z _ n0 _ _ 58 #[.val (.int n), .val (.int c0), .val (.int c1), .val (.int c2), .val (.int c3), .val (.int c4)] [(.ref a)] hp31 _ _ _
        exact retA C (gs := []) rfl rfl d1_58 (dle rfl) (dle rfl) (fun _ q => nomatch q) ⟨rfl, a, rfl, by simp only [mk, if_neg q1, if_neg q2, if_pos q3]; exact S31⟩
    · refine new_ C (hw _ (List.mem_of_getElem? (i := 9) rfl)) (hw _ (List.mem_of_getElem? (i := 10) rfl)) (hw _ (List.mem_of_getElem? (i := 11) rfl)) (dle rfl) (dle rfl) d1_20 (fun hp32 K32 lt32 le32 ⟨E32, F32⟩ => ?_)
      obtain ⟨a, g32⟩ : ∃ z, z = h0.size := ⟨_, rfl⟩
      rw [← g32] at E32 F32 lt32 le32 ⊢
      have Fv := F32 (Or.inr (hw _ (List.mem_of_getElem? (i := 25) rfl)) : Laid Z a0 "java/lang/String" "java/lang/String" "value" "[B") (ty := .array .byte) (by decide)
      have Fc := F32 (Or.inr (hw _ (List.mem_of_getElem? (i := 26) rfl)) : Laid Z a0 "java/lang/String" "java/lang/String" "coder" "B") (ty := .byte) (by decide)
      refine Own.dup C d1_23 rfl ?_
      refine Own.iconst (v := 1) C d1_24 rfl ?_
      refine newarr C (hw _ (List.mem_of_getElem? (i := 12) rfl)) (by decide) 1 (by decide) (by decide) (dle rfl) (dle rfl) d1_25 (fun hp33 K33 lt33 le33 A33 => ?_)
      obtain ⟨b0, g33⟩ : ∃ z, z = hp32.size := ⟨_, rfl⟩
      rw [← g33] at A33 lt33 le33 ⊢
      refine Own.dup C d1_27 rfl ?_
      refine Own.iconst (v := 0) C d1_28 rfl ?_
      refine Own.iloadN C d1_29 rfl ?_
      refine castore_ C A33 0 (by decide) (dlt rfl) (by simp) d1_30 (fun hp34 W34 A34 => ?_)
      have hne : a ≠ b0 := by rw [g33]; exact Nat.ne_of_lt lt32
      have KA : Keep hp32 hp34 [b0] := (((Keep.refl _ [b0]).trans K33 (fun _ q => nomatch q)).trans (Keep.of_wr W34) (fun x hx => Or.inl hx))
      have A : Ary Z hp34 b0 .char (chs [c0]) := by have q := A34; simp only [narc_id (hch0)] at q; exact q
      refine callI_ C (as' := [(.ref b0)]) (st := [(.ref a)]) rfl (hw _ (List.mem_of_getElem? (i := 13) rfl)) (hw _ (List.mem_of_getElem? (i := 14) rfl)) (hw _ (List.mem_of_getElem? (i := 11) rfl)) (hw _ (List.mem_of_getElem? (i := 15) rfl)) ⟨by decide, by decide⟩ pd__28_5bC_29V rfl (fun O => k_init (N := 5) hw hs (by simp; exact hch0) (dle rfl) ⟨dle rfl, by decide⟩ A (E32.keep KA) (Fv.keep KA (ninS hne nin0)) (Fc.keep KA (ninS hne nin0)) O) (by simp) rfl (dle rfl) (dle rfl) (dle rfl) (dle rfl) d1_31 rfl (fun v35 hp35 gs35 K35 Q35 => ?_)
      obtain ⟨rfl, rfl, S35⟩ := Q35
      show Go _ K Z _ n0 _ _ 34 #[.val (.int n), .val (.int c0), .val (.int c1), .val (.int c2), .val (.int c3), .val (.int c4)] [(.ref a)] hp35 _ _ _
      exact retA C (gs := []) rfl rfl d1_34 (dle rfl) (dle rfl) (fun _ q => nomatch q) ⟨rfl, a, rfl, by simp only [mk, if_neg q1, if_pos q2]; exact S35⟩
  · refine new_ C (hw _ (List.mem_of_getElem? (i := 9) rfl)) (hw _ (List.mem_of_getElem? (i := 10) rfl)) (hw _ (List.mem_of_getElem? (i := 11) rfl)) (dle rfl) (dle rfl) d1_4 (fun hp36 K36 lt36 le36 ⟨E36, F36⟩ => ?_)
    obtain ⟨a, g36⟩ : ∃ z, z = h0.size := ⟨_, rfl⟩
    rw [← g36] at E36 F36 lt36 le36 ⊢
    have Fv := F36 (Or.inr (hw _ (List.mem_of_getElem? (i := 25) rfl)) : Laid Z a0 "java/lang/String" "java/lang/String" "value" "[B") (ty := .array .byte) (by decide)
    have Fc := F36 (Or.inr (hw _ (List.mem_of_getElem? (i := 26) rfl)) : Laid Z a0 "java/lang/String" "java/lang/String" "coder" "B") (ty := .byte) (by decide)
    refine Own.dup C d1_7 rfl ?_
    refine Own.iconst (v := 0) C d1_8 rfl ?_
    refine newarr C (hw _ (List.mem_of_getElem? (i := 12) rfl)) (by decide) 0 (by decide) (by decide) (dle rfl) (dle rfl) d1_9 (fun hp37 K37 lt37 le37 A37 => ?_)
    obtain ⟨b0, g37⟩ : ∃ z, z = hp36.size := ⟨_, rfl⟩
    rw [← g37] at A37 lt37 le37 ⊢
    have hne : a ≠ b0 := by rw [g37]; exact Nat.ne_of_lt lt36
    have KA : Keep hp36 hp37 [b0] := ((Keep.refl _ [b0]).trans K37 (fun _ q => nomatch q))
    have A : Ary Z hp37 b0 .char (chs []) := by exact A37
    refine callI_ C (as' := [(.ref b0)]) (st := [(.ref a)]) rfl (hw _ (List.mem_of_getElem? (i := 13) rfl)) (hw _ (List.mem_of_getElem? (i := 14) rfl)) (hw _ (List.mem_of_getElem? (i := 11) rfl)) (hw _ (List.mem_of_getElem? (i := 15) rfl)) ⟨by decide, by decide⟩ pd__28_5bC_29V rfl (fun O => k_init (N := 5) hw hs (by simp) (dle rfl) ⟨dle rfl, by decide⟩ A (E36.keep KA) (Fv.keep KA (ninS hne nin0)) (Fc.keep KA (ninS hne nin0)) O) (by simp) rfl (dle rfl) (dle rfl) (dle rfl) (dle rfl) d1_11 rfl (fun v38 hp38 gs38 K38 Q38 => ?_)
    obtain ⟨rfl, rfl, S38⟩ := Q38
    show Go _ K Z _ n0 _ _ 14 #[.val (.int n), .val (.int c0), .val (.int c1), .val (.int c2), .val (.int c3), .val (.int c4)] [(.ref a)] hp38 _ _ _
    exact retA C (gs := []) rfl rfl d1_14 (dle rfl) (dle rfl) (fun _ q => nomatch q) ⟨rfl, a, rfl, by simp only [mk, if_pos q1]; exact S38⟩
set_option maxRecDepth 65536 in
set_option maxHeartbeats 4000000 in
theorem k_count {Z : State} {a0 : Array Value} (hw : ∀ d ∈ tables_1, d.before a0 Z = true) (hs : Stt Z) {n0 : Nat} {h0 : Heap} {a : Addr} {cs : List Int32} (F : Str Z h0 a cs) (O : Old Z n0 h0) :
    Con WD Z EL0 n0 (⟨"com/example/canhash/canhash/Labels", "count", "(Ljava/lang/String;)I"⟩ : MethodName) prog_4_method_2_code 3 (some .int) (Rm 5 0 0 66) [(.ref a)] h0 [] (fun v h gs => v = some (.int (cnt cs)) ∧ gs = []) := by
  refine Con.of (a0 := a0) (by first | (simp [plainName, overriddenIn]; done) | decide +kernel) (hEL hw) hWE O (L0 := #[.val (.ref a), .unset, .unset]) (fun m => by first | rfl | (simp [entryFrame, mkF, argsToLocals, Value.category]; done)) ?_
  intro K C hh
  have e2 := natI_toInt (i := cs.length) (by have := F.2.2.1; omega)
  have hl := F.2.2.1
  have loop : ∀ (m i : Nat) (h : Heap), i + m = cs.length → Str Z h a cs → Go WD K Z EL0 n0 [] (fun v h gs => v = some (.int (cnt cs)) ∧ gs = []) 4 #[.val (.ref a), .val (.int (cnt (cs.take i))), .val (.int (natI i))] [] h [] 0 0 := by
    intro m
    induction m with
    | zero =>
      intro i h hm F
      have e1 := natI_toInt (i := i) (by omega)
      refine Own.iloadN C d6_4 rfl ?_
      refine Own.aloadN C d6_5 rfl rfl ?_
      refine callV_ C (as' := []) (st := [(.int (natI i))]) (hw _ (List.mem_of_getElem? (i := 38) rfl)) (hw _ (List.mem_of_getElem? (i := 39) rfl)) (fun _ hZ => notFace_of_selects (args := #[]) (mvT hZ (hw _ (List.mem_of_getElem? (i := 41) rfl)))) (hw _ (List.mem_of_getElem? (i := 41) rfl)) (hw _ (List.mem_of_getElem? (i := 40) rfl)) (hw _ (List.mem_of_getElem? (i := 11) rfl)) (hw _ (List.mem_of_getElem? (i := 42) rfl)) ⟨by decide, by decide⟩ F.1 pd__28_29I rfl (fun O => k_length hw hs F O) (fun _ q => nomatch q) rfl (dle rfl) (dle rfl) (dle rfl) (dle rfl) d6_6 rfl (fun v1 hp1 gs1 K1 Q1 => ?_)
      obtain ⟨rfl, rfl⟩ := Q1
      show Go _ K Z _ n0 _ _ 9 #[.val (.ref a), .val (.int (cnt (cs.take i))), .val (.int (natI i))] [(.int (natI cs.length)), (.int (natI i))] hp1 _ _ _
      refine icmp_ge C d6_9 (fun q2 => ?_) (fun q2 => ?_)
      · refine Own.iloadN C d6_31 rfl ?_
        have hi : i = cs.length := by omega
        exact retI_ C (gs := []) d6_32 (dle rfl) (dle rfl) (fun _ q => nomatch q) ⟨by rw [hi, List.take_length], rfl⟩
      · rw [lt32] at q2
        omega
    | succ m ih =>
      intro i h hm F
      have e1 := natI_toInt (i := i) (by omega)
      refine Own.iloadN C d6_4 rfl ?_
      refine Own.aloadN C d6_5 rfl rfl ?_
      refine callV_ C (as' := []) (st := [(.int (natI i))]) (hw _ (List.mem_of_getElem? (i := 38) rfl)) (hw _ (List.mem_of_getElem? (i := 39) rfl)) (fun _ hZ => notFace_of_selects (args := #[]) (mvT hZ (hw _ (List.mem_of_getElem? (i := 41) rfl)))) (hw _ (List.mem_of_getElem? (i := 41) rfl)) (hw _ (List.mem_of_getElem? (i := 40) rfl)) (hw _ (List.mem_of_getElem? (i := 11) rfl)) (hw _ (List.mem_of_getElem? (i := 42) rfl)) ⟨by decide, by decide⟩ F.1 pd__28_29I rfl (fun O => k_length hw hs F O) (fun _ q => nomatch q) rfl (dle rfl) (dle rfl) (dle rfl) (dle rfl) d6_6 rfl (fun v3 hp3 gs3 K3 Q3 => ?_)
      obtain ⟨rfl, rfl⟩ := Q3
      show Go _ K Z _ n0 _ _ 9 #[.val (.ref a), .val (.int (cnt (cs.take i))), .val (.int (natI i))] [(.int (natI cs.length)), (.int (natI i))] hp3 _ _ _
      refine icmp_ge C d6_9 (fun q4 => ?_) (fun q4 => ?_)
      · rw [lt32] at q4
        omega
      · obtain ⟨c, hc⟩ : ∃ c, cs[i]? = some c := ⟨_, List.getElem?_eq_getElem (by omega)⟩
        have F2 := F.keep K3
        refine Own.aloadN C d6_12 rfl rfl ?_
        refine Own.iloadN C d6_13 rfl ?_
        refine callV_ C (as' := [(.int (natI i))]) (st := []) (hw _ (List.mem_of_getElem? (i := 59) rfl)) (hw _ (List.mem_of_getElem? (i := 60) rfl)) (fun _ hZ => notFace_of_selects (args := #[]) (mvT hZ (hw _ (List.mem_of_getElem? (i := 62) rfl)))) (hw _ (List.mem_of_getElem? (i := 62) rfl)) (hw _ (List.mem_of_getElem? (i := 61) rfl)) (hw _ (List.mem_of_getElem? (i := 11) rfl)) (hw _ (List.mem_of_getElem? (i := 63) rfl)) ⟨by decide, by decide⟩ F2.1 pd__28I_29C rfl (fun O => k_charAt hw hs F2 e1 hc O) (fun _ q => nomatch q) rfl (dle rfl) (dle rfl) (dle rfl) (dle rfl) d6_14 rfl (fun v5 hp5 gs5 K5 Q5 => ?_)
        obtain ⟨rfl, rfl⟩ := Q5
        show Go _ K Z _ n0 _ _ 17 #[.val (.ref a), .val (.int (cnt (cs.take i))), .val (.int (natI i))] [(.int c)] hp5 _ _ _
        refine Own.bipush (v := 46) C d6_17 rfl ?_
        have e3 := natI_succ (i := i) (by omega)
        refine icmp_ne C d6_19 (fun q6 => ?_) (fun q6 => ?_)
        · refine Own.iinc (L' := #[.val (.ref a), .val (.int (cnt (cs.take i))), .val (.int (natI (i + 1)))]) (y := (natI (i + 1))) C d6_25 rfl e3 rfl ?_
          refine Own.goto_ C d6_28 ?_
          have e4 : cnt (cs.take (i + 1)) = cnt (cs.take i) := by rw [cnt_step hc, if_neg q6]
          rw [← e4]
          exact ih (i + 1) _ (by omega) (F2.keep K5)
        · refine Own.iinc (L' := #[.val (.ref a), .val (.int ((cnt (cs.take i)) + (1 : Int32))), .val (.int (natI i))]) (y := ((cnt (cs.take i)) + (1 : Int32))) C d6_22 rfl rfl rfl ?_
          refine Own.iinc (L' := #[.val (.ref a), .val (.int ((cnt (cs.take i)) + (1 : Int32))), .val (.int (natI (i + 1)))]) (y := (natI (i + 1))) C d6_25 rfl e3 rfl ?_
          refine Own.goto_ C d6_28 ?_
          have e4 : cnt (cs.take (i + 1)) = cnt (cs.take i) + 1 := by rw [cnt_step hc, if_pos q6]
          rw [← e4]
          exact ih (i + 1) _ (by omega) (F2.keep K5)
  refine Own.iconst (v := 1) C d6_0 rfl ?_
  refine Own.istoreN (L' := #[.val (.ref a), .val (.int (1 : Int32)), .unset]) C d6_1 rfl ?_
  refine Own.iconst (v := 0) C d6_2 rfl ?_
  refine Own.istoreN (L' := #[.val (.ref a), .val (.int (1 : Int32)), .val (.int (0 : Int32))]) C d6_3 rfl ?_
  exact loop cs.length 0 h0 (by omega) F
set_option maxRecDepth 65536 in
set_option maxHeartbeats 4000000 in
theorem k_law {Z : State} {a0 : Array Value} (hw : ∀ d ∈ tables_1, d.before a0 Z = true) (hs : Stt Z) {n0 : Nat} {h0 : Heap} {sz a b c d e : Int32} (O : Old Z n0 h0) :
    Con WD Z EL0 n0 (⟨"com/example/canhash/canhash/LabelsCountPinLaw", "law", "(IIIIII)Z"⟩ : MethodName) code 14 (some .boolean) (Rm 10 24 1152 224) [(.int sz), (.int a), (.int b), (.int c), (.int d), (.int e)] h0 [] (fun v h gs => v = some (.int 1)) := by
  refine Con.of (a0 := a0) (by first | (simp [plainName, overriddenIn]; done) | decide +kernel) (hEL hw) hWE O (L0 := #[.val (.int sz), .val (.int a), .val (.int b), .val (.int c), .val (.int d), .val (.int e), .unset, .unset, .unset, .unset, .unset, .unset, .unset, .unset]) (fun m => by first | rfl | (simp [entryFrame, mkF, argsToLocals, Value.category]; done)) ?_
  intro K C hh
  have hn := range6 sz
  refine Own.iloadN C d25_0 rfl ?_
  refine Own.ldcI C (hw _ (List.mem_of_getElem? (i := 0) rfl)) d25_1 ?_
  refine Own.iand C d25_3 ?_
  refine Own.bipush (v := 6) C d25_4 rfl ?_
  refine Own.irem C d25_6 (by decide) ?_
  generalize en : (sz &&& 2147483647) % 6 = n at hn
  show Go _ K Z _ n0 _ _ 7 #[.val (.int sz), .val (.int a), .val (.int b), .val (.int c), .val (.int d), .val (.int e), .unset, .unset, .unset, .unset, .unset, .unset, .unset, .unset] [(.int n)] h0 _ _ _
  refine Own.istore (L' := #[.val (.int sz), .val (.int a), .val (.int b), .val (.int c), .val (.int d), .val (.int e), .val (.int n), .unset, .unset, .unset, .unset, .unset, .unset, .unset]) C d25_7 rfl ?_
  refine Own.iloadN C d25_9 rfl ?_
  refine callS_ C (as := [(.int a)]) (st := []) (hw _ (List.mem_of_getElem? (i := 1) rfl)) (hw _ (List.mem_of_getElem? (i := 2) rfl)) (hw _ (List.mem_of_getElem? (i := 3) rfl)) (hw _ (List.mem_of_getElem? (i := 4) rfl)) ⟨by decide, by decide⟩ pd__28I_29C rfl (fun O => k_draw hw hs O) (fun _ q => nomatch q) rfl (dle rfl) (dle rfl) (dle rfl) (dle rfl) d25_10 rfl (fun v1 hp1 gs1 K1 Q1 => ?_)
  obtain ⟨rfl, rfl⟩ := Q1
  show Go _ K Z _ n0 _ _ 13 #[.val (.int sz), .val (.int a), .val (.int b), .val (.int c), .val (.int d), .val (.int e), .val (.int n), .unset, .unset, .unset, .unset, .unset, .unset, .unset] [(.int (dr a))] hp1 _ _ _
  refine Own.istore (L' := #[.val (.int sz), .val (.int a), .val (.int b), .val (.int c), .val (.int d), .val (.int e), .val (.int n), .val (.int (dr a)), .unset, .unset, .unset, .unset, .unset, .unset]) C d25_13 rfl ?_
  refine Own.iloadN C d25_15 rfl ?_
  refine callS_ C (as := [(.int b)]) (st := []) (hw _ (List.mem_of_getElem? (i := 1) rfl)) (hw _ (List.mem_of_getElem? (i := 2) rfl)) (hw _ (List.mem_of_getElem? (i := 3) rfl)) (hw _ (List.mem_of_getElem? (i := 4) rfl)) ⟨by decide, by decide⟩ pd__28I_29C rfl (fun O => k_draw hw hs O) (fun _ q => nomatch q) rfl (dle rfl) (dle rfl) (dle rfl) (dle rfl) d25_16 rfl (fun v2 hp2 gs2 K2 Q2 => ?_)
  obtain ⟨rfl, rfl⟩ := Q2
  show Go _ K Z _ n0 _ _ 19 #[.val (.int sz), .val (.int a), .val (.int b), .val (.int c), .val (.int d), .val (.int e), .val (.int n), .val (.int (dr a)), .unset, .unset, .unset, .unset, .unset, .unset] [(.int (dr b))] hp2 _ _ _
  refine Own.istore (L' := #[.val (.int sz), .val (.int a), .val (.int b), .val (.int c), .val (.int d), .val (.int e), .val (.int n), .val (.int (dr a)), .val (.int (dr b)), .unset, .unset, .unset, .unset, .unset]) C d25_19 rfl ?_
  refine Own.iloadN C d25_21 rfl ?_
  refine callS_ C (as := [(.int c)]) (st := []) (hw _ (List.mem_of_getElem? (i := 1) rfl)) (hw _ (List.mem_of_getElem? (i := 2) rfl)) (hw _ (List.mem_of_getElem? (i := 3) rfl)) (hw _ (List.mem_of_getElem? (i := 4) rfl)) ⟨by decide, by decide⟩ pd__28I_29C rfl (fun O => k_draw hw hs O) (fun _ q => nomatch q) rfl (dle rfl) (dle rfl) (dle rfl) (dle rfl) d25_22 rfl (fun v3 hp3 gs3 K3 Q3 => ?_)
  obtain ⟨rfl, rfl⟩ := Q3
  show Go _ K Z _ n0 _ _ 25 #[.val (.int sz), .val (.int a), .val (.int b), .val (.int c), .val (.int d), .val (.int e), .val (.int n), .val (.int (dr a)), .val (.int (dr b)), .unset, .unset, .unset, .unset, .unset] [(.int (dr c))] hp3 _ _ _
  refine Own.istore (L' := #[.val (.int sz), .val (.int a), .val (.int b), .val (.int c), .val (.int d), .val (.int e), .val (.int n), .val (.int (dr a)), .val (.int (dr b)), .val (.int (dr c)), .unset, .unset, .unset, .unset]) C d25_25 rfl ?_
  refine Own.iload C d25_27 rfl ?_
  refine callS_ C (as := [(.int d)]) (st := []) (hw _ (List.mem_of_getElem? (i := 1) rfl)) (hw _ (List.mem_of_getElem? (i := 2) rfl)) (hw _ (List.mem_of_getElem? (i := 3) rfl)) (hw _ (List.mem_of_getElem? (i := 4) rfl)) ⟨by decide, by decide⟩ pd__28I_29C rfl (fun O => k_draw hw hs O) (fun _ q => nomatch q) rfl (dle rfl) (dle rfl) (dle rfl) (dle rfl) d25_29 rfl (fun v4 hp4 gs4 K4 Q4 => ?_)
  obtain ⟨rfl, rfl⟩ := Q4
  show Go _ K Z _ n0 _ _ 32 #[.val (.int sz), .val (.int a), .val (.int b), .val (.int c), .val (.int d), .val (.int e), .val (.int n), .val (.int (dr a)), .val (.int (dr b)), .val (.int (dr c)), .unset, .unset, .unset, .unset] [(.int (dr d))] hp4 _ _ _
  refine Own.istore (L' := #[.val (.int sz), .val (.int a), .val (.int b), .val (.int c), .val (.int d), .val (.int e), .val (.int n), .val (.int (dr a)), .val (.int (dr b)), .val (.int (dr c)), .val (.int (dr d)), .unset, .unset, .unset]) C d25_32 rfl ?_
  refine Own.iload C d25_34 rfl ?_
  refine callS_ C (as := [(.int e)]) (st := []) (hw _ (List.mem_of_getElem? (i := 1) rfl)) (hw _ (List.mem_of_getElem? (i := 2) rfl)) (hw _ (List.mem_of_getElem? (i := 3) rfl)) (hw _ (List.mem_of_getElem? (i := 4) rfl)) ⟨by decide, by decide⟩ pd__28I_29C rfl (fun O => k_draw hw hs O) (fun _ q => nomatch q) rfl (dle rfl) (dle rfl) (dle rfl) (dle rfl) d25_36 rfl (fun v5 hp5 gs5 K5 Q5 => ?_)
  obtain ⟨rfl, rfl⟩ := Q5
  show Go _ K Z _ n0 _ _ 39 #[.val (.int sz), .val (.int a), .val (.int b), .val (.int c), .val (.int d), .val (.int e), .val (.int n), .val (.int (dr a)), .val (.int (dr b)), .val (.int (dr c)), .val (.int (dr d)), .unset, .unset, .unset] [(.int (dr e))] hp5 _ _ _
  refine Own.istore (L' := #[.val (.int sz), .val (.int a), .val (.int b), .val (.int c), .val (.int d), .val (.int e), .val (.int n), .val (.int (dr a)), .val (.int (dr b)), .val (.int (dr c)), .val (.int (dr d)), .val (.int (dr e)), .unset, .unset]) C d25_39 rfl ?_
  refine Own.iload C d25_41 rfl ?_
  refine Own.iload C d25_43 rfl ?_
  refine Own.iload C d25_45 rfl ?_
  refine Own.iload C d25_47 rfl ?_
  refine Own.iload C d25_49 rfl ?_
  refine Own.iload C d25_51 rfl ?_
  refine callS_ C (as := [(.int n), (.int (dr a)), (.int (dr b)), (.int (dr c)), (.int (dr d)), (.int (dr e))]) (st := []) (hw _ (List.mem_of_getElem? (i := 6) rfl)) (hw _ (List.mem_of_getElem? (i := 7) rfl)) (hw _ (List.mem_of_getElem? (i := 3) rfl)) (hw _ (List.mem_of_getElem? (i := 8) rfl)) ⟨by decide, by decide⟩ pd__28ICCCCC_29Ljava_2flang_2fString_3b rfl (fun O => k_make hw hs (dr_ch a) (dr_ch b) (dr_ch c) (dr_ch d) (dr_ch e) O) (fun _ q => nomatch q) rfl (dle rfl) (dle rfl) (dle rfl) (dle rfl) d25_53 rfl (fun v6 hp6 gs6 K6 Q6 => ?_)
  obtain ⟨rfl, s, rfl, F⟩ := Q6
  show Go _ K Z _ n0 _ _ 56 #[.val (.int sz), .val (.int a), .val (.int b), .val (.int c), .val (.int d), .val (.int e), .val (.int n), .val (.int (dr a)), .val (.int (dr b)), .val (.int (dr c)), .val (.int (dr d)), .val (.int (dr e)), .unset, .unset] [(.ref s)] hp6 _ _ _
  refine Own.astore (L' := #[.val (.int sz), .val (.int a), .val (.int b), .val (.int c), .val (.int d), .val (.int e), .val (.int n), .val (.int (dr a)), .val (.int (dr b)), .val (.int (dr c)), .val (.int (dr d)), .val (.int (dr e)), .val (.ref s), .unset]) C d25_56 rfl rfl ?_
  refine Own.iconst (v := 1) C d25_58 rfl ?_
  refine Own.iload C d25_59 rfl ?_
  refine Go.join (c := (0 : Int32) < n) (x := 1) (y := 0) (pcJ := 69) (LJ := #[.val (.int sz), .val (.int a), .val (.int b), .val (.int c), .val (.int d), .val (.int e), .val (.int n), .val (.int (dr a)), .val (.int (dr b)), .val (.int (dr c)), .val (.int (dr d)), .val (.int (dr e)), .val (.ref s), .unset]) (stJ := [(.int (1 : Int32))]) (fun JT JF => ?_) ?_
  · refine if_le C d25_61 (fun q7 => ?_) (fun q7 => ?_)
    · refine Own.iconst (v := 0) C d25_68 rfl ?_
      exact JF q7
    · refine Own.iconst (v := 1) C d25_64 rfl ?_
      refine Own.goto_ C d25_65 ?_
      exact JT q7
  generalize ef0 : (if (0 : Int32) < n then 1 else 0 : Int32) = f0
  refine Own.iload C d25_69 rfl ?_
  refine callS_ C (as := [(.int f0), (.int (dr a))]) (st := [(.int (1 : Int32))]) (hw _ (List.mem_of_getElem? (i := 31) rfl)) (hw _ (List.mem_of_getElem? (i := 32) rfl)) (hw _ (List.mem_of_getElem? (i := 3) rfl)) (hw _ (List.mem_of_getElem? (i := 33) rfl)) ⟨by decide, by decide⟩ pd__28ZC_29I rfl (fun O => k_dot hw hs O) (fun _ q => nomatch q) rfl (dle rfl) (dle rfl) (dle rfl) (dle rfl) d25_71 rfl (fun v9 hp9 gs9 K9 Q9 => ?_)
  obtain ⟨rfl, rfl⟩ := Q9
  show Go _ K Z _ n0 _ _ 74 #[.val (.int sz), .val (.int a), .val (.int b), .val (.int c), .val (.int d), .val (.int e), .val (.int n), .val (.int (dr a)), .val (.int (dr b)), .val (.int (dr c)), .val (.int (dr d)), .val (.int (dr e)), .val (.ref s), .unset] [(.int (dt f0 (dr a))), (.int (1 : Int32))] hp9 _ _ _
  have F := F.keep K9
  refine Own.iadd C d25_74 ?_
  refine Own.iload C d25_75 rfl ?_
  refine Own.iconst (v := 1) C d25_77 rfl ?_
  refine Go.join (c := (1 : Int32) < n) (x := 1) (y := 0) (pcJ := 86) (LJ := #[.val (.int sz), .val (.int a), .val (.int b), .val (.int c), .val (.int d), .val (.int e), .val (.int n), .val (.int (dr a)), .val (.int (dr b)), .val (.int (dr c)), .val (.int (dr d)), .val (.int (dr e)), .val (.ref s), .unset]) (stJ := [(.int ((1 : Int32) + (dt f0 (dr a))))]) (fun JT JF => ?_) ?_
  · refine icmp_le C d25_78 (fun q10 => ?_) (fun q10 => ?_)
    · refine Own.iconst (v := 0) C d25_85 rfl ?_
      exact JF q10
    · refine Own.iconst (v := 1) C d25_81 rfl ?_
      refine Own.goto_ C d25_82 ?_
      exact JT q10
  generalize ef1 : (if (1 : Int32) < n then 1 else 0 : Int32) = f1
  refine Own.iload C d25_86 rfl ?_
  refine callS_ C (as := [(.int f1), (.int (dr b))]) (st := [(.int ((1 : Int32) + (dt f0 (dr a))))]) (hw _ (List.mem_of_getElem? (i := 31) rfl)) (hw _ (List.mem_of_getElem? (i := 32) rfl)) (hw _ (List.mem_of_getElem? (i := 3) rfl)) (hw _ (List.mem_of_getElem? (i := 33) rfl)) ⟨by decide, by decide⟩ pd__28ZC_29I rfl (fun O => k_dot hw hs O) (fun _ q => nomatch q) rfl (dle rfl) (dle rfl) (dle rfl) (dle rfl) d25_88 rfl (fun v12 hp12 gs12 K12 Q12 => ?_)
  obtain ⟨rfl, rfl⟩ := Q12
  show Go _ K Z _ n0 _ _ 91 #[.val (.int sz), .val (.int a), .val (.int b), .val (.int c), .val (.int d), .val (.int e), .val (.int n), .val (.int (dr a)), .val (.int (dr b)), .val (.int (dr c)), .val (.int (dr d)), .val (.int (dr e)), .val (.ref s), .unset] [(.int (dt f1 (dr b))), (.int ((1 : Int32) + (dt f0 (dr a))))] hp12 _ _ _
  have F := F.keep K12
  refine Own.iadd C d25_91 ?_
  refine Own.iload C d25_92 rfl ?_
  refine Own.iconst (v := 2) C d25_94 rfl ?_
  refine Go.join (c := (2 : Int32) < n) (x := 1) (y := 0) (pcJ := 103) (LJ := #[.val (.int sz), .val (.int a), .val (.int b), .val (.int c), .val (.int d), .val (.int e), .val (.int n), .val (.int (dr a)), .val (.int (dr b)), .val (.int (dr c)), .val (.int (dr d)), .val (.int (dr e)), .val (.ref s), .unset]) (stJ := [(.int (((1 : Int32) + (dt f0 (dr a))) + (dt f1 (dr b))))]) (fun JT JF => ?_) ?_
  · refine icmp_le C d25_95 (fun q13 => ?_) (fun q13 => ?_)
    · refine Own.iconst (v := 0) C d25_102 rfl ?_
      exact JF q13
    · refine Own.iconst (v := 1) C d25_98 rfl ?_
      refine Own.goto_ C d25_99 ?_
      exact JT q13
  generalize ef2 : (if (2 : Int32) < n then 1 else 0 : Int32) = f2
  refine Own.iload C d25_103 rfl ?_
  refine callS_ C (as := [(.int f2), (.int (dr c))]) (st := [(.int (((1 : Int32) + (dt f0 (dr a))) + (dt f1 (dr b))))]) (hw _ (List.mem_of_getElem? (i := 31) rfl)) (hw _ (List.mem_of_getElem? (i := 32) rfl)) (hw _ (List.mem_of_getElem? (i := 3) rfl)) (hw _ (List.mem_of_getElem? (i := 33) rfl)) ⟨by decide, by decide⟩ pd__28ZC_29I rfl (fun O => k_dot hw hs O) (fun _ q => nomatch q) rfl (dle rfl) (dle rfl) (dle rfl) (dle rfl) d25_105 rfl (fun v15 hp15 gs15 K15 Q15 => ?_)
  obtain ⟨rfl, rfl⟩ := Q15
  show Go _ K Z _ n0 _ _ 108 #[.val (.int sz), .val (.int a), .val (.int b), .val (.int c), .val (.int d), .val (.int e), .val (.int n), .val (.int (dr a)), .val (.int (dr b)), .val (.int (dr c)), .val (.int (dr d)), .val (.int (dr e)), .val (.ref s), .unset] [(.int (dt f2 (dr c))), (.int (((1 : Int32) + (dt f0 (dr a))) + (dt f1 (dr b))))] hp15 _ _ _
  have F := F.keep K15
  refine Own.iadd C d25_108 ?_
  refine Own.iload C d25_109 rfl ?_
  refine Own.iconst (v := 3) C d25_111 rfl ?_
  refine Go.join (c := (3 : Int32) < n) (x := 1) (y := 0) (pcJ := 120) (LJ := #[.val (.int sz), .val (.int a), .val (.int b), .val (.int c), .val (.int d), .val (.int e), .val (.int n), .val (.int (dr a)), .val (.int (dr b)), .val (.int (dr c)), .val (.int (dr d)), .val (.int (dr e)), .val (.ref s), .unset]) (stJ := [(.int ((((1 : Int32) + (dt f0 (dr a))) + (dt f1 (dr b))) + (dt f2 (dr c))))]) (fun JT JF => ?_) ?_
  · refine icmp_le C d25_112 (fun q16 => ?_) (fun q16 => ?_)
    · refine Own.iconst (v := 0) C d25_119 rfl ?_
      exact JF q16
    · refine Own.iconst (v := 1) C d25_115 rfl ?_
      refine Own.goto_ C d25_116 ?_
      exact JT q16
  generalize ef3 : (if (3 : Int32) < n then 1 else 0 : Int32) = f3
  refine Own.iload C d25_120 rfl ?_
  refine callS_ C (as := [(.int f3), (.int (dr d))]) (st := [(.int ((((1 : Int32) + (dt f0 (dr a))) + (dt f1 (dr b))) + (dt f2 (dr c))))]) (hw _ (List.mem_of_getElem? (i := 31) rfl)) (hw _ (List.mem_of_getElem? (i := 32) rfl)) (hw _ (List.mem_of_getElem? (i := 3) rfl)) (hw _ (List.mem_of_getElem? (i := 33) rfl)) ⟨by decide, by decide⟩ pd__28ZC_29I rfl (fun O => k_dot hw hs O) (fun _ q => nomatch q) rfl (dle rfl) (dle rfl) (dle rfl) (dle rfl) d25_122 rfl (fun v18 hp18 gs18 K18 Q18 => ?_)
  obtain ⟨rfl, rfl⟩ := Q18
  show Go _ K Z _ n0 _ _ 125 #[.val (.int sz), .val (.int a), .val (.int b), .val (.int c), .val (.int d), .val (.int e), .val (.int n), .val (.int (dr a)), .val (.int (dr b)), .val (.int (dr c)), .val (.int (dr d)), .val (.int (dr e)), .val (.ref s), .unset] [(.int (dt f3 (dr d))), (.int ((((1 : Int32) + (dt f0 (dr a))) + (dt f1 (dr b))) + (dt f2 (dr c))))] hp18 _ _ _
  have F := F.keep K18
  refine Own.iadd C d25_125 ?_
  refine Own.iload C d25_126 rfl ?_
  refine Own.iconst (v := 4) C d25_128 rfl ?_
  refine Go.join (c := (4 : Int32) < n) (x := 1) (y := 0) (pcJ := 137) (LJ := #[.val (.int sz), .val (.int a), .val (.int b), .val (.int c), .val (.int d), .val (.int e), .val (.int n), .val (.int (dr a)), .val (.int (dr b)), .val (.int (dr c)), .val (.int (dr d)), .val (.int (dr e)), .val (.ref s), .unset]) (stJ := [(.int (((((1 : Int32) + (dt f0 (dr a))) + (dt f1 (dr b))) + (dt f2 (dr c))) + (dt f3 (dr d))))]) (fun JT JF => ?_) ?_
  · refine icmp_le C d25_129 (fun q19 => ?_) (fun q19 => ?_)
    · refine Own.iconst (v := 0) C d25_136 rfl ?_
      exact JF q19
    · refine Own.iconst (v := 1) C d25_132 rfl ?_
      refine Own.goto_ C d25_133 ?_
      exact JT q19
  generalize ef4 : (if (4 : Int32) < n then 1 else 0 : Int32) = f4
  refine Own.iload C d25_137 rfl ?_
  refine callS_ C (as := [(.int f4), (.int (dr e))]) (st := [(.int (((((1 : Int32) + (dt f0 (dr a))) + (dt f1 (dr b))) + (dt f2 (dr c))) + (dt f3 (dr d))))]) (hw _ (List.mem_of_getElem? (i := 31) rfl)) (hw _ (List.mem_of_getElem? (i := 32) rfl)) (hw _ (List.mem_of_getElem? (i := 3) rfl)) (hw _ (List.mem_of_getElem? (i := 33) rfl)) ⟨by decide, by decide⟩ pd__28ZC_29I rfl (fun O => k_dot hw hs O) (fun _ q => nomatch q) rfl (dle rfl) (dle rfl) (dle rfl) (dle rfl) d25_139 rfl (fun v21 hp21 gs21 K21 Q21 => ?_)
  obtain ⟨rfl, rfl⟩ := Q21
  show Go _ K Z _ n0 _ _ 142 #[.val (.int sz), .val (.int a), .val (.int b), .val (.int c), .val (.int d), .val (.int e), .val (.int n), .val (.int (dr a)), .val (.int (dr b)), .val (.int (dr c)), .val (.int (dr d)), .val (.int (dr e)), .val (.ref s), .unset] [(.int (dt f4 (dr e))), (.int (((((1 : Int32) + (dt f0 (dr a))) + (dt f1 (dr b))) + (dt f2 (dr c))) + (dt f3 (dr d))))] hp21 _ _ _
  have F := F.keep K21
  refine Own.iadd C d25_142 ?_
  refine Own.istore (L' := #[.val (.int sz), .val (.int a), .val (.int b), .val (.int c), .val (.int d), .val (.int e), .val (.int n), .val (.int (dr a)), .val (.int (dr b)), .val (.int (dr c)), .val (.int (dr d)), .val (.int (dr e)), .val (.ref s), .val (.int ((((((1 : Int32) + (dt f0 (dr a))) + (dt f1 (dr b))) + (dt f2 (dr c))) + (dt f3 (dr d))) + (dt f4 (dr e))))]) C d25_143 rfl ?_
  refine Own.aload C d25_145 rfl rfl ?_
  refine callS_ C (as := [(.ref s)]) (st := []) (hw _ (List.mem_of_getElem? (i := 34) rfl)) (hw _ (List.mem_of_getElem? (i := 35) rfl)) (hw _ (List.mem_of_getElem? (i := 36) rfl)) (hw _ (List.mem_of_getElem? (i := 37) rfl)) ⟨by decide, by decide⟩ pd__28Ljava_2flang_2fString_3b_29I rfl (fun O => k_count hw hs F O) (fun _ q => nomatch q) rfl (dle rfl) (dle rfl) (dle rfl) (dle rfl) d25_147 rfl (fun v22 hp22 gs22 K22 Q22 => ?_)
  obtain ⟨rfl, rfl⟩ := Q22
  show Go _ K Z _ n0 _ _ 150 #[.val (.int sz), .val (.int a), .val (.int b), .val (.int c), .val (.int d), .val (.int e), .val (.int n), .val (.int (dr a)), .val (.int (dr b)), .val (.int (dr c)), .val (.int (dr d)), .val (.int (dr e)), .val (.ref s), .val (.int ((((((1 : Int32) + (dt f0 (dr a))) + (dt f1 (dr b))) + (dt f2 (dr c))) + (dt f3 (dr d))) + (dt f4 (dr e))))] [(.int (cnt (mk n (dr a) (dr b) (dr c) (dr d) (dr e))))] hp22 _ _ _
  refine Own.iload C d25_150 rfl ?_
  refine icmp_ne C d25_152 (fun q23 => ?_) (fun q23 => ?_)
  · exact absurd (by rw [law_eq hn, ef0, ef1, ef2, ef3, ef4]) q23
  · refine Own.iconst (v := 1) C d25_155 rfl ?_
    refine Own.goto_ C d25_156 ?_
    exact retZ C (gs := []) d25_160 (dle rfl) (dle rfl) (fun _ q => nomatch q) rfl
set_option maxRecDepth 65536 in
set_option maxHeartbeats 4000000 in
theorem comes_1 {Post : Tables → Env → Array Value → State → Outcome → State → Prop} (hpost : ∀ tb e args s v u, (limb_1_1.after args s (.returned v) u = true ∧ limb_1_2.after args s (.returned v) u = true ∧ True) → ReturnedEndW s (.returned v) u (Jvm.fieldLocs frame_1_writes args s ++ Jvm.arrayLocs frame_1_arrays args s ++ Jvm.staticLocs frame_1_statics s) 24 1152 → Post tb e args s (.returned v) u) :
    ArmFor flags0 classFile x code maxLocals ret World_1 tables_1 room_1 Calls_1 rest_1 Pre_1 Post := by
  intro l hfl _ _ p e ha hc hk s m args below hf hA hF happ hP
  obtain ⟨hcalls, hrest, hpre⟩ := hP
  obtain ⟨-, -, -, hnamed, -, -, -, hat⟩ := (Spec.applies_iff hf).mp happ
  obtain ⟨hg, hn⟩ := and_e (Cond.before_iff.mp (show (Jvm.Cond.and given_1 narrow_1).before args s = true from hpre))
  obtain ⟨h1, h2⟩ := and_e hg
  obtain ⟨j0, h2⟩ := and_e h2
  obtain ⟨j1, h2⟩ := and_e h2
  obtain ⟨j2, h2⟩ := and_e h2
  obtain ⟨j3, h2⟩ := and_e h2
  obtain ⟨j4, h2⟩ := and_e h2
  have j5 := h2
  obtain ⟨w0, w1, w2, w3, w4, w5, rfl⟩ : ∃ w0 w1 w2 w3 w4 w5 : Value, args = #[w0, w1, w2, w3, w4, w5] := by
    have hs : args.size = 6 := by simpa [Cond.value, given_1] using h1
    obtain ⟨L⟩ := args
    match L, hs with
    | [w0, w1, w2, w3, w4, w5], _ => exact ⟨w0, w1, w2, w3, w4, w5, rfl⟩
  have hw := fun d (hd : d ∈ tables_1) => atoms_spec (ws := Jvm.Cond.code x code maxLocals ret :: tables_1) hat d (List.mem_cons_of_mem _ hd)
  obtain ⟨hsets, hown0⟩ := atoms_of _ (rest_1_c_eq ▸ (show rest_1_c.before _ s = true from hrest))
  obtain ⟨x0, f0⟩ := is_v j0
  obtain rfl : w0 = (.int x0) := Option.some.inj f0
  obtain ⟨x1, f1⟩ := is_v j1
  obtain rfl : w1 = (.int x1) := Option.some.inj f1
  obtain ⟨x2, f2⟩ := is_v j2
  obtain rfl : w2 = (.int x2) := Option.some.inj f2
  obtain ⟨x3, f3⟩ := is_v j3
  obtain rfl : w3 = (.int x3) := Option.some.inj f3
  obtain ⟨x4, f4⟩ := is_v j4
  obtain rfl : w4 = (.int x4) := Option.some.inj f4
  obtain ⟨x5, f5⟩ := is_v j5
  obtain rfl : w5 = (.int x5) := Option.some.inj f5
  have n0 := not_v (Cond.before_iff.mp (hsets _ (List.mem_of_getElem? (i := 2) rfl)))
  obtain ⟨i0, e0⟩ := is_v (Cond.before_iff.mp (hsets _ (List.mem_of_getElem? (i := 1) rfl)))
  have S0 : Sta s s.heap "java/lang/String" "COMPACT_STRINGS" "Z" (.int i0) := Sta.start e0 (Or.inl (hsets _ (List.mem_of_getElem? (i := 0) rfl)))
  have c0 : ¬ (i0 = (0 : Int32)) := gotF (Cond.eq_ints e0 (Term.int_eval (0))) n0
  obtain ⟨v1, e1, r1⟩ := isR_v (Cond.before_iff.mp (hsets _ (List.mem_of_getElem? (i := 8) rfl)))
  have S1 : Sta s s.heap "jdk/internal/util/Preconditions" "SIOOBE_FORMATTER" "Ljava/util/function/BiFunction;" v1 := Sta.start e1 (Or.inl (hsets _ (List.mem_of_getElem? (i := 7) rfl)))
  have S2 : Sta s s.heap "java/lang/StringUTF16" "$assertionsDisabled" "Z" (.int 1) := Sta.start (eq_val (Cond.before_iff.mp (hsets _ (List.mem_of_getElem? (i := 12) rfl)))) (Or.inl (hsets _ (List.mem_of_getElem? (i := 11) rfl)))
  have S3 : Sta s s.heap "java/lang/StringUTF16" "HI_BYTE_SHIFT" "I" (.int 0) := Sta.start (eq_val (Cond.before_iff.mp (hsets _ (List.mem_of_getElem? (i := 15) rfl)))) (Or.inl (hsets _ (List.mem_of_getElem? (i := 14) rfl)))
  have S4 : Sta s s.heap "java/lang/StringUTF16" "LO_BYTE_SHIFT" "I" (.int 8) := Sta.start (eq_val (Cond.before_iff.mp (hsets _ (List.mem_of_getElem? (i := 18) rfl)))) (Or.inl (hsets _ (List.mem_of_getElem? (i := 17) rfl)))
  have hCH : CHv s EL0 s.vm s.heap := CHv.start (hEL hw) (fun p hp => (show Jvm.Lit.constHeld s p.1 p.2 from hcalls.1 p hp)) (show Jvm.Lit.compactW.before _ s = true from (hsets _ (List.mem_of_getElem? (i := 2) rfl))) (hw _ (List.mem_of_getElem? (i := 24) rfl)) (hw _ (List.mem_of_getElem? (i := 10) rfl))
  obtain ⟨n, o, h1, h2, h3, v, L, gs, rfl, rfl, N, -, -, -, -, hq⟩ := k_law hw ⟨⟨i0, c0, S0⟩, ⟨v1, r1, S1⟩, S2, S3, S4, trivial⟩ (sz := x0) (a := x1) (b := x2) (c := x3) (d := x4) (e := x5) (Old.start s) l tables_1 p e ha hc hk s m _ below hf ((Spec.applies_iff_loose hf).mp happ).1 ⟨rfl, State.Warmed39.refl s, rfl, hCH, fun _ hx => absurd hx List.not_mem_nil⟩ trivial
  refine ⟨n, _, h1, h2, h3, hpost _ _ _ _ _ _ ⟨Cond.after_iff.mpr rfl, Cond.after_iff.mpr (eq_i res_at (Term.int_eval (1)) rfl), trivial⟩ ⟨hq.1, hq.2.1, hq.2.2.1, (hq.2.2.2.sift fun y hy => Or.inr (N y hy)).mono (by decide) (by decide)⟩⟩
theorem main_1_1 : Claimed_1_1 := comes_1 fun _ _ _ _ _ _ h hF => ⟨h.1, hF⟩
theorem main_1_2 : Claimed_1_2 := comes_1 fun _ _ _ _ _ _ h hF => ⟨h.2.1, hF⟩
end Jvm.Pilot.@@N@@
namespace Jvm.Pilot.@@N@@
open Jvm Jvm.ClassFile Sem Op Lib Jvm.Free Jvm.Stand Jvm.Pilot.@@N@@.Jvm.D
/-! MADE BY PROGRAM (witnessworld.py) out of the Statement's table words and the real class files: 20 classes; the members and pool entries that the words name. The judged class is class 1, her method 4. -/
namespace start1
open Jvm.ClassFile
def u (s : String) : CpInfo := .utf8 (stringToUtf16 s)
/-- a pool by its gaps: so many unusable entries, then the entry; so many at the end -/
def gap : Nat → List CpInfo → List CpInfo
  | 0, r => r
  | n + 1, r => .unusable :: gap n r
def poolList (es : List (Nat × CpInfo)) (last : Nat) : List CpInfo := es.foldr (fun e r => gap e.1 (e.2 :: r)) (gap last [])
def pool (es : List (Nat × CpInfo)) (last : Nat) : Array CpInfo := ⟨poolList es last⟩
def fileOf (pool : Array CpInfo) (this : Nat) (attrs : Array Attribute := #[]) (ms : Array MethodInfo := #[]) (fl : Nat := 33) (sup : Nat := 0) (ifs : Array Nat := #[]) (fds : Array FieldInfo := #[]) : ClassFile where
  minorVersion := 0
  majorVersion := 65
  constantPool := pool
  accessFlags := fl
  thisClass := this
  superClass := sup
  interfaces := ifs
  fields := fds
  methods := ms
  attributes := attrs
def plain (name : String) (sup : Option ClassId) : Class where
  name := name
  kind := .ordinary
  loader := none
  accessFlags := 33
  super := sup
  interfaces := #[]
  cf := none
  fields := #[]
  methods := #[]
  instanceTypes := #[]
  staticTypes := #[]
  resolved := #[]
  callSites := []
  init := .initialized
  statics := none
  mirror := none

def pool0 : Array CpInfo := pool [(5, u "<init>"), (0, u "()V"), (1, .class_ 10), (1, u "java/lang/Object")] 113

def k0c0 : Code := { maxStack := 0, maxLocals := 1, code := object_method_1_code, exceptionTable := #[], attributes := #[] }
def k0m0 : Method := { name := "<init>", desc := "()V", sig := { parameters := [], returnType := none }, accessFlags := 1, code := some k0c0 }
/-- java/lang/Object -/
def k0 : Class := { plain "java/lang/Object" none with
  accessFlags := 33
  interfaces := #[]
  cf := some (fileOf pool0 8 #[] #[{ accessFlags := 1, nameIndex := 5, descriptorIndex := 6, attributes := #[] }] 33 0 #[] #[])
  fields := #[]
  methods := #[k0m0]
  instanceTypes := #[]
  staticTypes := #[]
  resolved := Array.replicate 124 none
  statics := none }

def pool1 : Array CpInfo := pool [(2, .class_ 4), (1, u "java/lang/Object"), (0, u "<init>"), (0, u "()V"), (0, .integer 65535), (0, .class_ 9), (0, u "java/lang/String"), (0, .methodref 8 11), (0, .nameAndType 5 12), (0, u "([C)V"), (0, .integer 2147483647), (0, .methodref 15 16), (0, .class_ 17), (0, .nameAndType 18 19), (0, u "com/example/canhash/canhash/LabelsCountPinLaw"), (0, u "draw"), (0, u "(I)C"), (0, .methodref 15 21), (0, .nameAndType 22 23), (0, u "make"), (0, u "(ICCCCC)Ljava/lang/String;"), (0, .methodref 15 25), (0, .nameAndType 26 27), (0, u "dot"), (0, u "(ZC)I"), (0, .methodref 29 30), (0, .class_ 31), (0, .nameAndType 32 33), (0, u "com/example/canhash/canhash/Labels"), (0, u "count"), (0, u "(Ljava/lang/String;)I"), (3, u "law"), (0, u "(IIIIII)Z")] 2

def k1m0 : Method := { name := "<init>", desc := "()V", sig := { parameters := [], returnType := none }, accessFlags := 2, code := none }
def k1c1 : Code := { maxStack := 2, maxLocals := 1, code := method_2_code, exceptionTable := #[], attributes := #[] }
def k1m1 : Method := { name := "draw", desc := "(I)C", sig := { parameters := [.int], returnType := some .char }, accessFlags := 10, code := some k1c1 }
def k1c2 : Code := { maxStack := 2, maxLocals := 2, code := method_3_code, exceptionTable := #[], attributes := #[] }
def k1m2 : Method := { name := "dot", desc := "(ZC)I", sig := { parameters := [.boolean, .char], returnType := some .int }, accessFlags := 10, code := some k1c2 }
def k1c3 : Code := { maxStack := 6, maxLocals := 6, code := method_4_code, exceptionTable := #[], attributes := #[] }
def k1m3 : Method := { name := "make", desc := "(ICCCCC)Ljava/lang/String;", sig := { parameters := [.int, .char, .char, .char, .char, .char], returnType := some (.object "java/lang/String") }, accessFlags := 10, code := some k1c3 }
def k1c4 : Code := { maxStack := 6, maxLocals := 14, code := code, exceptionTable := #[], attributes := #[] }
def k1m4 : Method := { name := "law", desc := "(IIIIII)Z", sig := { parameters := [.int, .int, .int, .int, .int, .int], returnType := some .boolean }, accessFlags := 9, code := some k1c4 }
/-- com/example/canhash/canhash/LabelsCountPinLaw -/
def k1 : Class := { plain "com/example/canhash/canhash/LabelsCountPinLaw" (some 0) with
  accessFlags := 49
  interfaces := #[]
  cf := some (fileOf pool1 15 #[] #[{ accessFlags := 2, nameIndex := 5, descriptorIndex := 6, attributes := #[] }, { accessFlags := 10, nameIndex := 18, descriptorIndex := 19, attributes := #[] }, { accessFlags := 10, nameIndex := 26, descriptorIndex := 27, attributes := #[] }, { accessFlags := 10, nameIndex := 22, descriptorIndex := 23, attributes := #[] }, { accessFlags := 9, nameIndex := 37, descriptorIndex := 38, attributes := #[] }] 49 2 #[] #[])
  fields := #[]
  methods := #[k1m0, k1m1, k1m2, k1m3, k1m4]
  instanceTypes := #[]
  staticTypes := #[]
  resolved := Array.replicate 41 none
  statics := none }

def pool2 : Array CpInfo := pool [(1, .class_ 2), (0, u "java/io/Serializable"), (0, .class_ 4), (0, u "java/lang/Object")] 2

/-- java/io/Serializable -/
def k2 : Class := { plain "java/io/Serializable" (some 0) with
  accessFlags := 1537
  interfaces := #[]
  cf := some (fileOf pool2 1 #[] #[] 1537 3 #[] #[])
  fields := #[]
  methods := #[]
  instanceTypes := #[]
  staticTypes := #[]
  resolved := Array.replicate 7 none
  statics := none }

def pool3 : Array CpInfo := pool [(1, .class_ 2), (0, u "java/lang/Comparable"), (0, .class_ 4), (0, u "java/lang/Object")] 7

/-- java/lang/Comparable -/
def k3 : Class := { plain "java/lang/Comparable" (some 0) with
  accessFlags := 1537
  interfaces := #[]
  cf := some (fileOf pool3 1 #[] #[] 1537 3 #[] #[])
  fields := #[]
  methods := #[]
  instanceTypes := #[]
  staticTypes := #[]
  resolved := Array.replicate 12 none
  statics := none }

def pool4 : Array CpInfo := pool [(2, .class_ 4), (1, u "java/lang/CharSequence"), (42, .class_ 48), (0, u "java/lang/CharSequence$1CodePointIterator"), (10, .class_ 60), (0, u "java/lang/CharSequence$1CharIterator"), (5, .class_ 67), (0, u "java/lang/Object")] 63

/-- java/lang/CharSequence -/
def k4 : Class := { plain "java/lang/CharSequence" (some 0) with
  accessFlags := 1537
  interfaces := #[]
  cf := some (fileOf pool4 2 #[.nestMembers #[47, 59]] #[] 1537 66 #[] #[])
  fields := #[]
  methods := #[]
  instanceTypes := #[]
  staticTypes := #[]
  resolved := Array.replicate 131 none
  statics := none }

def pool5 : Array CpInfo := pool [(1, .class_ 2), (0, u "java/lang/constant/Constable"), (0, .class_ 4), (0, u "java/lang/Object")] 6

/-- java/lang/constant/Constable -/
def k5 : Class := { plain "java/lang/constant/Constable" (some 0) with
  accessFlags := 1537
  interfaces := #[]
  cf := some (fileOf pool5 1 #[] #[] 1537 3 #[] #[])
  fields := #[]
  methods := #[]
  instanceTypes := #[]
  staticTypes := #[]
  resolved := Array.replicate 11 none
  statics := none }

def pool6 : Array CpInfo := pool [(1, .class_ 2), (0, u "java/lang/constant/ConstantDesc"), (0, .class_ 4), (0, u "java/lang/Object")] 32

/-- java/lang/constant/ConstantDesc -/
def k6 : Class := { plain "java/lang/constant/ConstantDesc" (some 0) with
  accessFlags := 1537
  interfaces := #[]
  cf := some (fileOf pool6 1 #[] #[] 1537 3 #[] #[])
  fields := #[]
  methods := #[]
  instanceTypes := #[]
  staticTypes := #[]
  resolved := Array.replicate 37 none
  statics := none }

def pool7 : Array CpInfo := pool [(1, .methodref 2 3), (0, .class_ 4), (0, .nameAndType 5 6), (0, u "java/lang/Object"), (0, u "<init>"), (0, u "()V"), (0, .string 8), (0, u ""), (0, .fieldref 10 11), (0, .class_ 12), (0, .nameAndType 13 14), (0, u "java/lang/String"), (0, u "value"), (0, u "[B"), (0, .fieldref 10 16), (0, .nameAndType 17 18), (0, u "coder"), (0, u "B"), (2, u "hash"), (0, u "I"), (2, u "hashIsZero"), (0, u "Z"), (0, .methodref 10 28), (0, .nameAndType 5 29), (0, u "([CIILjava/lang/Void;)V"), (8, .fieldref 10 39), (0, .nameAndType 40 26), (0, u "COMPACT_STRINGS"), (1, .class_ 44), (1, u "java/lang/StringUTF16"), (0, u "compress"), (1, .methodref 42 48), (0, .nameAndType 49 50), (0, u "coderFromArrayLen"), (0, u "([BI)B"), (56, .class_ 109), (1, u "java/lang/StringLatin1"), (32, u "()Z"), (34, .methodref 42 178), (0, .nameAndType 45 179), (0, u "([CII)[B"), (154, u "()I"), (0, .methodref 10 336), (0, .nameAndType 17 337), (0, u "()B"), (25, u "([BI)C"), (27, u "(II)V"), (35, u "(I)C"), (64, .methodref 10 493), (0, .nameAndType 494 142), (0, u "isLatin1"), (0, .methodref 107 496), (0, .nameAndType 497 363), (0, u "charAt"), (0, .methodref 42 496), (2, u "checkIndex"), (5, u "length"), (67, .class_ 576), (0, u "java/lang/CharSequence"), (22, u "CASE_INSENSITIVE_ORDER"), (0, u "Ljava/util/Comparator;"), (409, u "([C)V"), (42, .fieldref 1054 1055), (0, .class_ 1056), (0, .nameAndType 1057 1058), (0, u "jdk/internal/util/Preconditions"), (0, u "SIOOBE_FORMATTER"), (0, u "Ljava/util/function/BiFunction;"), (0, .methodref 1054 1060), (0, .nameAndType 501 1061), (0, u "(IILjava/util/function/BiFunction;)I"), (39, u "serialPersistentFields"), (0, u "[Ljava/io/ObjectStreamField;"), (0, .class_ 1104), (0, u "java/lang/String$CaseInsensitiveComparator"), (1, .class_ 1107), (0, u "java/io/Serializable"), (0, .class_ 1109), (0, u "java/lang/Comparable"), (0, .class_ 1111), (0, u "java/lang/constant/Constable"), (0, .class_ 1113), (0, u "java/lang/constant/ConstantDesc"), (2, u "serialVersionUID"), (0, u "J"), (3, u "REPL"), (0, u "C"), (2, u "LATIN1"), (1, u "UTF16")] 323

def k7m0 : Method := { name := "<init>", desc := "()V", sig := { parameters := [], returnType := none }, accessFlags := 1, code := none }
def k7c1 : Code := { maxStack := 5, maxLocals := 2, code := jdk_42_method_3_code, exceptionTable := #[], attributes := #[] }
def k7m1 : Method := { name := "<init>", desc := "([C)V", sig := { parameters := [(.array .char)], returnType := none }, accessFlags := 1, code := some k7c1 }
def k7c2 : Code := { maxStack := 2, maxLocals := 1, code := jdk_42_method_54_code, exceptionTable := #[], attributes := #[] }
def k7m2 : Method := { name := "length", desc := "()I", sig := { parameters := [], returnType := some .int }, accessFlags := 1, code := some k7c2 }
def k7c3 : Code := { maxStack := 2, maxLocals := 2, code := jdk_42_method_56_code, exceptionTable := #[], attributes := #[] }
def k7m3 : Method := { name := "charAt", desc := "(I)C", sig := { parameters := [.int], returnType := some .char }, accessFlags := 1, code := some k7c3 }
def k7c4 : Code := { maxStack := 4, maxLocals := 6, code := jdk_42_method_149_code, exceptionTable := #[], attributes := #[] }
def k7m4 : Method := { name := "<init>", desc := "([CIILjava/lang/Void;)V", sig := { parameters := [(.array .char), .int, .int, (.object "java/lang/Void")], returnType := none }, accessFlags := 2, code := some k7c4 }
def k7c5 : Code := { maxStack := 1, maxLocals := 1, code := jdk_42_method_152_code, exceptionTable := #[], attributes := #[] }
def k7m5 : Method := { name := "coder", desc := "()B", sig := { parameters := [], returnType := some .byte }, accessFlags := 0, code := some k7c5 }
def k7c6 : Code := { maxStack := 1, maxLocals := 1, code := jdk_42_method_154_code, exceptionTable := #[], attributes := #[] }
def k7m6 : Method := { name := "isLatin1", desc := "()Z", sig := { parameters := [], returnType := some .boolean }, accessFlags := 0, code := some k7c6 }
def k7c7 : Code := { maxStack := 3, maxLocals := 2, code := jdk_42_method_155_code, exceptionTable := #[], attributes := #[] }
def k7m7 : Method := { name := "checkIndex", desc := "(II)V", sig := { parameters := [.int, .int], returnType := none }, accessFlags := 8, code := some k7c7 }
/-- java/lang/String -/
def k7 : Class := { plain "java/lang/String" (some 0) with
  accessFlags := 49
  interfaces := #[2, 3, 4, 5, 6]
  cf := some (fileOf pool7 10 #[.nestMembers #[1103]] #[{ accessFlags := 1, nameIndex := 5, descriptorIndex := 6, attributes := #[] }, { accessFlags := 1, nameIndex := 5, descriptorIndex := 1010, attributes := #[] }, { accessFlags := 1, nameIndex := 507, descriptorIndex := 334, attributes := #[] }, { accessFlags := 1, nameIndex := 497, descriptorIndex := 427, attributes := #[] }, { accessFlags := 2, nameIndex := 5, descriptorIndex := 29, attributes := #[] }, { accessFlags := 0, nameIndex := 17, descriptorIndex := 337, attributes := #[] }, { accessFlags := 0, nameIndex := 494, descriptorIndex := 142, attributes := #[] }, { accessFlags := 8, nameIndex := 501, descriptorIndex := 391, attributes := #[] }] 49 2 #[1106, 1108, 575, 1110, 1112] #[{ accessFlags := 18, nameIndex := 13, descriptorIndex := 14, attributes := #[] }, { accessFlags := 18, nameIndex := 17, descriptorIndex := 18, attributes := #[] }, { accessFlags := 2, nameIndex := 21, descriptorIndex := 22, attributes := #[] }, { accessFlags := 2, nameIndex := 25, descriptorIndex := 26, attributes := #[] }, { accessFlags := 26, nameIndex := 1116, descriptorIndex := 1117, attributes := #[] }, { accessFlags := 24, nameIndex := 40, descriptorIndex := 26, attributes := #[] }, { accessFlags := 26, nameIndex := 1101, descriptorIndex := 1102, attributes := #[] }, { accessFlags := 26, nameIndex := 1121, descriptorIndex := 1122, attributes := #[] }, { accessFlags := 25, nameIndex := 599, descriptorIndex := 600, attributes := #[] }, { accessFlags := 24, nameIndex := 1125, descriptorIndex := 18, attributes := #[] }, { accessFlags := 24, nameIndex := 1127, descriptorIndex := 18, attributes := #[] }])
  fields := #[{ name := "value", type := (.array .byte), accessFlags := 18, slot := 0, constantValue := 0 }, { name := "coder", type := .byte, accessFlags := 18, slot := 1, constantValue := 0 }, { name := "hash", type := .int, accessFlags := 2, slot := 2, constantValue := 0 }, { name := "hashIsZero", type := .boolean, accessFlags := 2, slot := 3, constantValue := 0 }, { name := "serialVersionUID", type := .long, accessFlags := 26, slot := 0, constantValue := 0 }, { name := "COMPACT_STRINGS", type := .boolean, accessFlags := 24, slot := 1, constantValue := 0 }, { name := "serialPersistentFields", type := (.array (.object "java/io/ObjectStreamField")), accessFlags := 26, slot := 2, constantValue := 0 }, { name := "REPL", type := .char, accessFlags := 26, slot := 3, constantValue := 0 }, { name := "CASE_INSENSITIVE_ORDER", type := (.object "java/util/Comparator"), accessFlags := 25, slot := 4, constantValue := 0 }, { name := "LATIN1", type := .byte, accessFlags := 24, slot := 5, constantValue := 0 }, { name := "UTF16", type := .byte, accessFlags := 24, slot := 6, constantValue := 0 }]
  methods := #[k7m0, k7m1, k7m2, k7m3, k7m4, k7m5, k7m6, k7m7]
  instanceTypes := #[(.array .byte), .byte, .int, .boolean]
  staticTypes := #[.long, .boolean, (.array (.object "java/io/ObjectStreamField")), .char, (.object "java/util/Comparator"), .byte, .byte]
  resolved := Array.replicate 1451 none
  statics := some 0 }

def pool8 : Array CpInfo := pool [(2, .class_ 4), (1, u "java/lang/Object"), (0, u "<init>"), (0, u "()V"), (0, .methodref 8 9), (0, .class_ 10), (0, .nameAndType 11 12), (0, u "java/lang/String"), (0, u "length"), (0, u "()I"), (0, .methodref 8 14), (0, .nameAndType 15 16), (0, u "charAt"), (0, u "(I)C"), (27, .class_ 45), (0, u "com/example/canhash/canhash/Labels"), (2, u "count"), (0, u "(Ljava/lang/String;)I")] 7

def k8m0 : Method := { name := "<init>", desc := "()V", sig := { parameters := [], returnType := none }, accessFlags := 2, code := none }
def k8c1 : Code := { maxStack := 2, maxLocals := 3, code := prog_4_method_2_code, exceptionTable := #[], attributes := #[] }
def k8m1 : Method := { name := "count", desc := "(Ljava/lang/String;)I", sig := { parameters := [(.object "java/lang/String")], returnType := some .int }, accessFlags := 8, code := some k8c1 }
/-- com/example/canhash/canhash/Labels -/
def k8 : Class := { plain "com/example/canhash/canhash/Labels" (some 0) with
  accessFlags := 48
  interfaces := #[]
  cf := some (fileOf pool8 44 #[] #[{ accessFlags := 2, nameIndex := 5, descriptorIndex := 6, attributes := #[] }, { accessFlags := 8, nameIndex := 48, descriptorIndex := 49, attributes := #[] }] 48 2 #[] #[])
  fields := #[]
  methods := #[k8m0, k8m1]
  instanceTypes := #[]
  staticTypes := #[]
  resolved := Array.replicate 57 none
  statics := none }

def pool9 : Array CpInfo := pool [(3, .class_ 4), (0, u "java/lang/String"), (1, .class_ 8), (1, u "java/lang/Object"), (0, u "<init>"), (0, u "()V"), (0, .methodref 12 13), (0, .class_ 14), (0, .nameAndType 15 16), (0, u "java/lang/StringUTF16"), (0, u "newBytesLength"), (0, u "(I)I"), (3, .integer 1073741823), (23, .fieldref 12 45), (0, .nameAndType 46 47), (0, u "$assertionsDisabled"), (0, u "Z"), (0, .methodref 12 49), (0, .nameAndType 50 51), (0, u "length"), (0, u "([B)I"), (7, .fieldref 12 60), (0, .nameAndType 61 62), (0, u "HI_BYTE_SHIFT"), (0, u "I"), (0, .fieldref 12 64), (0, .nameAndType 65 62), (0, u "LO_BYTE_SHIFT"), (1, .methodref 12 68), (0, .nameAndType 69 70), (0, u "checkIndex"), (0, u "(I[B)V"), (0, .methodref 12 72), (0, .nameAndType 73 74), (0, u "getChar"), (0, u "([BI)C"), (32, .methodref 12 108), (0, .nameAndType 109 110), (0, u "newBytesFor"), (0, u "(I)[B"), (0, .methodref 12 112), (0, .nameAndType 113 114), (0, u "putChar"), (0, u "([BII)V"), (0, .methodref 12 116), (0, .nameAndType 117 118), (0, u "compress"), (0, u "([CI[BII)I"), (0, .methodref 12 120), (0, .nameAndType 121 122), (0, u "toBytes"), (0, u "([CII)[B"), (138, u "coderFromArrayLen"), (0, u "([BI)B"), (106, .class_ 371), (1, u "java/lang/StringUTF16$LinesSpliterator"), (20, u "charAt"), (21, .methodref 3 415), (0, .nameAndType 69 416), (0, u "(II)V"), (13, u "MAX_LENGTH"), (196, .class_ 628), (0, u "java/lang/StringUTF16$CodePointsSpliterator"), (0, .class_ 630), (0, u "java/lang/StringUTF16$CharsSpliterator")] 4

def k9m0 : Method := { name := "<init>", desc := "()V", sig := { parameters := [], returnType := none }, accessFlags := 0, code := none }
def k9c1 : Code := { maxStack := 1, maxLocals := 1, code := jdk_52_method_2_code, exceptionTable := #[], attributes := #[] }
def k9m1 : Method := { name := "newBytesFor", desc := "(I)[B", sig := { parameters := [.int], returnType := some (.array .byte) }, accessFlags := 9, code := some k9c1 }
def k9c2 : Code := { maxStack := 4, maxLocals := 1, code := jdk_52_method_3_code, exceptionTable := #[], attributes := #[] }
def k9m2 : Method := { name := "newBytesLength", desc := "(I)I", sig := { parameters := [.int], returnType := some .int }, accessFlags := 9, code := some k9c2 }
def k9c3 : Code := { maxStack := 4, maxLocals := 3, code := jdk_52_method_4_code, exceptionTable := #[], attributes := #[] }
def k9m3 : Method := { name := "putChar", desc := "([BII)V", sig := { parameters := [(.array .byte), .int, .int], returnType := none }, accessFlags := 8, code := some k9c3 }
def k9c4 : Code := { maxStack := 3, maxLocals := 2, code := jdk_52_method_5_code, exceptionTable := #[], attributes := #[] }
def k9m4 : Method := { name := "getChar", desc := "([BI)C", sig := { parameters := [(.array .byte), .int], returnType := some .char }, accessFlags := 8, code := some k9c4 }
def k9c5 : Code := { maxStack := 2, maxLocals := 1, code := jdk_52_method_6_code, exceptionTable := #[], attributes := #[] }
def k9m5 : Method := { name := "length", desc := "([B)I", sig := { parameters := [(.array .byte)], returnType := some .int }, accessFlags := 9, code := some k9c5 }
def k9c6 : Code := { maxStack := 4, maxLocals := 5, code := jdk_52_method_14_code, exceptionTable := #[], attributes := #[] }
def k9m6 : Method := { name := "toBytes", desc := "([CII)[B", sig := { parameters := [(.array .char), .int, .int], returnType := some (.array .byte) }, accessFlags := 9, code := some k9c6 }
def k9c7 : Code := { maxStack := 2, maxLocals := 2, code := jdk_52_method_15_code, exceptionTable := #[], attributes := #[] }
def k9m7 : Method := { name := "coderFromArrayLen", desc := "([BI)B", sig := { parameters := [(.array .byte), .int], returnType := some .byte }, accessFlags := 8, code := some k9c7 }
def k9c8 : Code := { maxStack := 5, maxLocals := 6, code := jdk_52_method_16_code, exceptionTable := #[], attributes := #[] }
def k9m8 : Method := { name := "compress", desc := "([CII)[B", sig := { parameters := [(.array .char), .int, .int], returnType := some (.array .byte) }, accessFlags := 9, code := some k9c8 }
def k9c9 : Code := { maxStack := 3, maxLocals := 7, code := jdk_52_method_21_code, exceptionTable := #[], attributes := #[] }
def k9m9 : Method := { name := "compress", desc := "([CI[BII)I", sig := { parameters := [(.array .char), .int, (.array .byte), .int, .int], returnType := some .int }, accessFlags := 9, code := some k9c9 }
def k9c10 : Code := { maxStack := 2, maxLocals := 2, code := jdk_52_method_83_code, exceptionTable := #[], attributes := #[] }
def k9m10 : Method := { name := "charAt", desc := "([BI)C", sig := { parameters := [(.array .byte), .int], returnType := some .char }, accessFlags := 9, code := some k9c10 }
def k9c11 : Code := { maxStack := 2, maxLocals := 2, code := jdk_52_method_91_code, exceptionTable := #[], attributes := #[] }
def k9m11 : Method := { name := "checkIndex", desc := "(I[B)V", sig := { parameters := [.int, (.array .byte)], returnType := none }, accessFlags := 9, code := some k9c11 }
/-- java/lang/StringUTF16 -/
def k9 : Class := { plain "java/lang/StringUTF16" (some 0) with
  accessFlags := 48
  interfaces := #[]
  cf := some (fileOf pool9 12 #[.nestMembers #[627, 629, 369]] #[{ accessFlags := 0, nameIndex := 9, descriptorIndex := 10, attributes := #[] }, { accessFlags := 9, nameIndex := 109, descriptorIndex := 110, attributes := #[] }, { accessFlags := 9, nameIndex := 15, descriptorIndex := 16, attributes := #[] }, { accessFlags := 8, nameIndex := 113, descriptorIndex := 114, attributes := #[] }, { accessFlags := 8, nameIndex := 73, descriptorIndex := 74, attributes := #[] }, { accessFlags := 9, nameIndex := 50, descriptorIndex := 51, attributes := #[] }, { accessFlags := 9, nameIndex := 121, descriptorIndex := 122, attributes := #[] }, { accessFlags := 8, nameIndex := 261, descriptorIndex := 262, attributes := #[] }, { accessFlags := 9, nameIndex := 117, descriptorIndex := 122, attributes := #[] }, { accessFlags := 9, nameIndex := 117, descriptorIndex := 118, attributes := #[] }, { accessFlags := 9, nameIndex := 392, descriptorIndex := 74, attributes := #[] }, { accessFlags := 9, nameIndex := 69, descriptorIndex := 70, attributes := #[] }] 48 6 #[] #[{ accessFlags := 26, nameIndex := 61, descriptorIndex := 62, attributes := #[] }, { accessFlags := 26, nameIndex := 65, descriptorIndex := 62, attributes := #[] }, { accessFlags := 24, nameIndex := 430, descriptorIndex := 62, attributes := #[] }, { accessFlags := 4120, nameIndex := 46, descriptorIndex := 47, attributes := #[] }])
  fields := #[{ name := "HI_BYTE_SHIFT", type := .int, accessFlags := 26, slot := 0, constantValue := 0 }, { name := "LO_BYTE_SHIFT", type := .int, accessFlags := 26, slot := 1, constantValue := 0 }, { name := "MAX_LENGTH", type := .int, accessFlags := 24, slot := 2, constantValue := 0 }, { name := "$assertionsDisabled", type := .boolean, accessFlags := 4120, slot := 3, constantValue := 0 }]
  methods := #[k9m0, k9m1, k9m2, k9m3, k9m4, k9m5, k9m6, k9m7, k9m8, k9m9, k9m10, k9m11]
  instanceTypes := #[]
  staticTypes := #[.int, .int, .int, .boolean]
  resolved := Array.replicate 635 none
  statics := some 1 }

def pool10 : Array CpInfo := pool [(1, .class_ 2), (0, u "java/lang/String"), (1, .class_ 6), (1, u "java/lang/Object"), (0, u "<init>"), (0, u "()V"), (0, .methodref 1 10), (0, .nameAndType 11 12), (0, u "checkIndex"), (0, u "(II)V"), (1, .class_ 16), (1, u "java/lang/StringLatin1"), (36, u "([BI)C"), (67, u "$assertionsDisabled"), (0, u "Z"), (98, .class_ 223), (1, u "java/lang/StringLatin1$LinesSpliterator"), (28, u "charAt"), (137, .class_ 391), (0, u "java/lang/StringLatin1$CharsSpliterator")] 3

def k10m0 : Method := { name := "<init>", desc := "()V", sig := { parameters := [], returnType := none }, accessFlags := 0, code := none }
def k10c1 : Code := { maxStack := 2, maxLocals := 2, code := jdk_43_method_2_code, exceptionTable := #[], attributes := #[] }
def k10m1 : Method := { name := "charAt", desc := "([BI)C", sig := { parameters := [(.array .byte), .int], returnType := some .char }, accessFlags := 9, code := some k10c1 }
/-- java/lang/StringLatin1 -/
def k10 : Class := { plain "java/lang/StringLatin1" (some 0) with
  accessFlags := 48
  interfaces := #[]
  cf := some (fileOf pool10 14 #[.nestMembers #[390, 221]] #[{ accessFlags := 0, nameIndex := 7, descriptorIndex := 8, attributes := #[] }, { accessFlags := 9, nameIndex := 252, descriptorIndex := 53, attributes := #[] }] 48 4 #[] #[{ accessFlags := 4120, nameIndex := 121, descriptorIndex := 122, attributes := #[] }])
  fields := #[{ name := "$assertionsDisabled", type := .boolean, accessFlags := 4120, slot := 0, constantValue := 0 }]
  methods := #[k10m0, k10m1]
  instanceTypes := #[]
  staticTypes := #[.boolean]
  resolved := Array.replicate 395 none
  statics := none }

def pool11 : Array CpInfo := pool [(2, .class_ 4), (1, u "java/lang/Object"), (0, u "<init>"), (0, u "()V"), (17, .class_ 26), (1, u "jdk/internal/util/Preconditions"), (6, u "checkIndex"), (21, .class_ 56), (0, u "jdk/internal/util/Preconditions$4"), (57, .class_ 115), (0, u "jdk/internal/util/Preconditions$1"), (7, u "SIOOBE_FORMATTER"), (0, u "Ljava/util/function/BiFunction;"), (0, .class_ 126), (0, u "jdk/internal/util/Preconditions$2"), (3, u "AIOOBE_FORMATTER"), (0, .class_ 132), (0, u "jdk/internal/util/Preconditions$3"), (3, u "IOOBE_FORMATTER"), (41, u "(IILjava/util/function/BiFunction;)I")] 15

def k11m0 : Method := { name := "<init>", desc := "()V", sig := { parameters := [], returnType := none }, accessFlags := 1, code := none }
def k11c1 : Code := { maxStack := 3, maxLocals := 3, code := jdk_41_method_11_code, exceptionTable := #[], attributes := #[] }
def k11m1 : Method := { name := "checkIndex", desc := "(IILjava/util/function/BiFunction;)I", sig := { parameters := [.int, .int, (.object "java/util/function/BiFunction")], returnType := some .int }, accessFlags := 9, code := some k11c1 }
/-- jdk/internal/util/Preconditions -/
def k11 : Class := { plain "jdk/internal/util/Preconditions" (some 0) with
  accessFlags := 33
  interfaces := #[]
  cf := some (fileOf pool11 24 #[.nestMembers #[55, 131, 125, 114]] #[{ accessFlags := 1, nameIndex := 5, descriptorIndex := 6, attributes := #[] }, { accessFlags := 9, nameIndex := 33, descriptorIndex := 178, attributes := #[] }] 33 2 #[] #[{ accessFlags := 25, nameIndex := 123, descriptorIndex := 124, attributes := #[] }, { accessFlags := 25, nameIndex := 130, descriptorIndex := 124, attributes := #[] }, { accessFlags := 25, nameIndex := 136, descriptorIndex := 124, attributes := #[] }])
  fields := #[{ name := "SIOOBE_FORMATTER", type := (.object "java/util/function/BiFunction"), accessFlags := 25, slot := 0, constantValue := 0 }, { name := "AIOOBE_FORMATTER", type := (.object "java/util/function/BiFunction"), accessFlags := 25, slot := 1, constantValue := 0 }, { name := "IOOBE_FORMATTER", type := (.object "java/util/function/BiFunction"), accessFlags := 25, slot := 2, constantValue := 0 }]
  methods := #[k11m0, k11m1]
  instanceTypes := #[]
  staticTypes := #[(.object "java/util/function/BiFunction"), (.object "java/util/function/BiFunction"), (.object "java/util/function/BiFunction")]
  resolved := Array.replicate 194 none
  statics := some 2 }

def pool12 : Array CpInfo := pool [(9, u "<init>"), (6, .class_ 18), (1, u "java/lang/Object"), (0, u "()V"), (1, .class_ 23), (1, u "jdk/internal/util/ArraysSupport"), (0, u "LOG2_ARRAY_LONG_INDEX_SCALE"), (0, u "I"), (2, u "U"), (0, u "Ljdk/internal/misc/Unsafe;"), (8, u "BIG_ENDIAN"), (0, u "Z"), (8, u "LOG2_BYTE_BIT_SIZE"), (4, u "LOG2_ARRAY_INT_INDEX_SCALE"), (54, u "JLA"), (0, u "Ljdk/internal/access/JavaLangAccess;"), (11, u "LOG2_ARRAY_BOOLEAN_INDEX_SCALE"), (9, u "LOG2_ARRAY_BYTE_INDEX_SCALE"), (5, u "LOG2_ARRAY_CHAR_INDEX_SCALE"), (5, u "LOG2_ARRAY_SHORT_INDEX_SCALE"), (18, u "LOG2_ARRAY_FLOAT_INDEX_SCALE"), (24, u "LOG2_ARRAY_DOUBLE_INDEX_SCALE"), (89, u "T_BOOLEAN"), (2, u "T_CHAR"), (1, u "T_FLOAT"), (1, u "T_DOUBLE"), (1, u "T_BYTE"), (1, u "T_SHORT"), (1, u "T_INT"), (1, u "T_LONG"), (1, u "SOFT_MAX_ARRAY_LENGTH")] 83

def k12m0 : Method := { name := "<init>", desc := "()V", sig := { parameters := [], returnType := none }, accessFlags := 2, code := none }
/-- jdk/internal/util/ArraysSupport -/
def k12 : Class := { plain "jdk/internal/util/ArraysSupport" (some 0) with
  accessFlags := 33
  interfaces := #[]
  cf := some (fileOf pool12 21 #[] #[{ accessFlags := 2, nameIndex := 9, descriptorIndex := 19, attributes := #[] }] 33 16 #[] #[{ accessFlags := 24, nameIndex := 28, descriptorIndex := 29, attributes := #[] }, { accessFlags := 26, nameIndex := 38, descriptorIndex := 39, attributes := #[] }, { accessFlags := 25, nameIndex := 121, descriptorIndex := 25, attributes := #[] }, { accessFlags := 25, nameIndex := 131, descriptorIndex := 25, attributes := #[] }, { accessFlags := 25, nameIndex := 137, descriptorIndex := 25, attributes := #[] }, { accessFlags := 25, nameIndex := 143, descriptorIndex := 25, attributes := #[] }, { accessFlags := 25, nameIndex := 53, descriptorIndex := 25, attributes := #[] }, { accessFlags := 25, nameIndex := 24, descriptorIndex := 25, attributes := #[] }, { accessFlags := 25, nameIndex := 162, descriptorIndex := 25, attributes := #[] }, { accessFlags := 25, nameIndex := 187, descriptorIndex := 25, attributes := #[] }, { accessFlags := 26, nameIndex := 48, descriptorIndex := 25, attributes := #[] }, { accessFlags := 25, nameIndex := 277, descriptorIndex := 25, attributes := #[] }, { accessFlags := 25, nameIndex := 280, descriptorIndex := 25, attributes := #[] }, { accessFlags := 25, nameIndex := 282, descriptorIndex := 25, attributes := #[] }, { accessFlags := 25, nameIndex := 284, descriptorIndex := 25, attributes := #[] }, { accessFlags := 25, nameIndex := 286, descriptorIndex := 25, attributes := #[] }, { accessFlags := 25, nameIndex := 288, descriptorIndex := 25, attributes := #[] }, { accessFlags := 25, nameIndex := 290, descriptorIndex := 25, attributes := #[] }, { accessFlags := 25, nameIndex := 292, descriptorIndex := 25, attributes := #[] }, { accessFlags := 26, nameIndex := 108, descriptorIndex := 109, attributes := #[] }, { accessFlags := 25, nameIndex := 294, descriptorIndex := 25, attributes := #[] }])
  fields := #[{ name := "U", type := (.object "jdk/internal/misc/Unsafe"), accessFlags := 24, slot := 0, constantValue := 0 }, { name := "BIG_ENDIAN", type := .boolean, accessFlags := 26, slot := 1, constantValue := 0 }, { name := "LOG2_ARRAY_BOOLEAN_INDEX_SCALE", type := .int, accessFlags := 25, slot := 2, constantValue := 0 }, { name := "LOG2_ARRAY_BYTE_INDEX_SCALE", type := .int, accessFlags := 25, slot := 3, constantValue := 0 }, { name := "LOG2_ARRAY_CHAR_INDEX_SCALE", type := .int, accessFlags := 25, slot := 4, constantValue := 0 }, { name := "LOG2_ARRAY_SHORT_INDEX_SCALE", type := .int, accessFlags := 25, slot := 5, constantValue := 0 }, { name := "LOG2_ARRAY_INT_INDEX_SCALE", type := .int, accessFlags := 25, slot := 6, constantValue := 0 }, { name := "LOG2_ARRAY_LONG_INDEX_SCALE", type := .int, accessFlags := 25, slot := 7, constantValue := 0 }, { name := "LOG2_ARRAY_FLOAT_INDEX_SCALE", type := .int, accessFlags := 25, slot := 8, constantValue := 0 }, { name := "LOG2_ARRAY_DOUBLE_INDEX_SCALE", type := .int, accessFlags := 25, slot := 9, constantValue := 0 }, { name := "LOG2_BYTE_BIT_SIZE", type := .int, accessFlags := 26, slot := 10, constantValue := 0 }, { name := "T_BOOLEAN", type := .int, accessFlags := 25, slot := 11, constantValue := 0 }, { name := "T_CHAR", type := .int, accessFlags := 25, slot := 12, constantValue := 0 }, { name := "T_FLOAT", type := .int, accessFlags := 25, slot := 13, constantValue := 0 }, { name := "T_DOUBLE", type := .int, accessFlags := 25, slot := 14, constantValue := 0 }, { name := "T_BYTE", type := .int, accessFlags := 25, slot := 15, constantValue := 0 }, { name := "T_SHORT", type := .int, accessFlags := 25, slot := 16, constantValue := 0 }, { name := "T_INT", type := .int, accessFlags := 25, slot := 17, constantValue := 0 }, { name := "T_LONG", type := .int, accessFlags := 25, slot := 18, constantValue := 0 }, { name := "JLA", type := (.object "jdk/internal/access/JavaLangAccess"), accessFlags := 26, slot := 19, constantValue := 0 }, { name := "SOFT_MAX_ARRAY_LENGTH", type := .int, accessFlags := 25, slot := 20, constantValue := 0 }]
  methods := #[k12m0]
  instanceTypes := #[]
  staticTypes := #[(.object "jdk/internal/misc/Unsafe"), .boolean, .int, .int, .int, .int, .int, .int, .int, .int, .int, .int, .int, .int, .int, .int, .int, .int, .int, (.object "jdk/internal/access/JavaLangAccess"), .int]
  resolved := Array.replicate 378 none
  statics := none }

def pool13 : Array CpInfo := pool [(1, u "java/lang/Cloneable"), (0, .class_ 1), (0, u "java/lang/Object"), (0, .class_ 3)] 3

/-- java/lang/Cloneable -/
def k13 : Class := { plain "java/lang/Cloneable" (some 0) with
  accessFlags := 1537
  interfaces := #[]
  cf := some (fileOf pool13 2 #[] #[] 1537 4 #[] #[])
  fields := #[]
  methods := #[]
  instanceTypes := #[]
  staticTypes := #[]
  resolved := Array.replicate 8 none
  statics := none }

/-- the primitive byte -/
def k14 : Class := { plain "byte" none with kind := .primitive 'B', accessFlags := 0x411 }
/-- [B -/
def k15 : Class := { plain "[B" (some 0) with kind := .array 14 .byte, interfaces := #[13, 2], accessFlags := 1041 }

/-- the primitive char -/
def k16 : Class := { plain "char" none with kind := .primitive 'C', accessFlags := 0x411 }
/-- [C -/
def k17 : Class := { plain "[C" (some 0) with kind := .array 16 .char, interfaces := #[13, 2], accessFlags := 1041 }

/-- the primitive int -/
def k18 : Class := { plain "int" none with kind := .primitive 'I', accessFlags := 0x411 }
/-- [I -/
def k19 : Class := { plain "[I" (some 0) with kind := .array 18 .int, interfaces := #[13, 2], accessFlags := 1041 }

def heap : Heap := #[{ cls := 7, slots := #[.long 0, .int 1, .null, .int 0, .null, .int 0, .int 0], vm := .statics 7 },
  { cls := 9, slots := #[.int 0, .int 8, .int 0, .int 1], vm := .statics 9 },
  { cls := 11, slots := #[.null, .null, .null], vm := .statics 11 }]
def classes : Array Class := #[k0, k1, k2, k3, k4, k5, k6, k7, k8, k9, k10, k11, k12, k13, k14, k15, k16, k17, k18, k19]
def interned : List (Array UInt16 × Addr) := []
def slotsUsed : Nat := 14
def theMethod : MethodId := ⟨1, 4⟩
def args0 : Array Value := #[.int 5, .int 6, .int 7, .int 8, .int 9, .int 10]
def aboutOver (below : List Frame) : State where
  vm := { classes := classes, interned := interned.toArray }
  heap := heap
  slotsUsed := slotsUsed
  threads := #[{ frames := .invoking theMethod args0 :: below }]
def below0 : List Frame := [.native { method := ⟨0, 0⟩, args := #[] }]
def about1 : State := aboutOver below0
def p0 : Program := .bare "" "" ""
def e0 : Env := launch0.env 0 0 0
theorem w_frames : about1.frames = Frame.invoking theMethod args0 :: below0 := rfl
set_option maxRecDepth 65536 in
theorem w_args : argsFit about1.vm theMethod args0 = true := by decide +kernel
set_option maxRecDepth 65536 in
theorem w_heap : heapFits about1 = true := by decide +kernel
set_option maxRecDepth 65536 in
theorem w_runnable : about1.curStatus? = some .runnable := by decide +kernel
set_option maxRecDepth 65536 in
theorem w_alone : about1.alone = true := by decide +kernel
set_option maxRecDepth 65536 in
theorem w_named : about1.methodNamed? x = some theMethod := by decide +kernel
set_option maxRecDepth 65536 in
theorem w_hears : about1.hears theMethod below0 = true := by decide +kernel
set_option maxRecDepth 65536 in
theorem w_ripe : about1.ripe theMethod args0 below0 = true := by decide +kernel
theorem w_running : about1.status = .running := rfl
set_option maxRecDepth 65536 in
theorem w_room : about1.hasRoom e0.platform room_1 = true :=
  launch0.hasRoom_least _ room_1 (by decide +kernel) (by decide +kernel) (by decide +kernel) (by decide +kernel) (by decide +kernel) (by decide +kernel)
theorem allAtoms_all (ts : List Jvm.Cond) (a : Array Jvm.Value) (st : Jvm.State) : (allAtoms ts).before a st = ts.all (fun c => c.before a st) := by
  induction ts with
  | nil => rfl
  | cons c t ih =>
    show (Jvm.Cond.and c (allAtoms t)).before a st = _
    rw [Jvm.Cond.before_and, ih, List.all_cons]
def words1 : List Jvm.Cond := Jvm.Cond.code x code maxLocals ret :: tables_1
/-- a 'code' word, met by the world's own term for the bytes: nothing is compared byte by byte -/
theorem code_word {y : MethodName} {bytes : ByteArray} {mx : Nat} {rt : Option FieldType} {a : Array Value} {s : State} {m : MethodId} {meth : Method} {c : Code} (h1 : s.methodNamed? y = some m) (h2 : s.vm.method? m = some meth) (h3 : meth.code = some c) (h4 : c.code = bytes)
    (h5 : (c.maxLocals == mx && c.exceptionTable.isEmpty && decide (c.maxStack ≤ mostOperands) && decide (meth.sig.returnType = rt) && !meth.locks && decide (parseMethodDescriptor y.desc = some meth.sig)) = true) : (Jvm.Cond.code y bytes mx rt).before a s = true := by
  simp only [Bool.and_eq_true, beq_iff_eq, Bool.not_eq_true', decide_eq_true_eq] at h5
  obtain ⟨⟨⟨⟨⟨g1, g2⟩, g3⟩, g4⟩, g5⟩, g6⟩ := h5
  simp [Cond.before, Cond.holds, Cond.value, h1, h2, h3, h4, g1, g2, g3, g4, g5, g6]
def isCode : Jvm.Cond → Bool
  | .code _ _ _ _ => true
  | _ => false
theorem all_split {L : List Jvm.Cond} {P : Jvm.Cond → Bool} (h1 : L.all (fun c => isCode c || P c) = true) (h2 : ∀ c ∈ L.filter isCode, P c = true) : L.all P = true := by
  refine List.all_eq_true.mpr fun c hc => ?_
  have h := List.all_eq_true.mp h1 c hc
  rcases Bool.eq_false_or_eq_true (isCode c) with hi | hi
  · exact h2 c (List.mem_filter.mpr ⟨hc, hi⟩)
  · simpa [hi] using h
set_option maxRecDepth 65536 in
theorem w_c0 : (Jvm.Cond.code x code maxLocals ret).before args0 about1 = true := code_word (m := ⟨1, 4⟩) (meth := k1m4) (c := k1c4) (by decide +kernel) rfl rfl rfl (by decide +kernel)
set_option maxRecDepth 65536 in
theorem w_c1 : (Jvm.Cond.code ({ cls := "com/example/canhash/canhash/LabelsCountPinLaw", name := "draw", desc := "(I)C" } : Jvm.MethodName) method_2_code (1 : Nat) (Option.some Jvm.ClassFile.FieldType.char)).before args0 about1 = true := code_word (m := ⟨1, 1⟩) (meth := k1m1) (c := k1c1) (by decide +kernel) rfl rfl rfl (by decide +kernel)
set_option maxRecDepth 65536 in
theorem w_c2 : (Jvm.Cond.code ({ cls := "com/example/canhash/canhash/LabelsCountPinLaw", name := "make", desc := "(ICCCCC)Ljava/lang/String;" } : Jvm.MethodName) method_4_code (6 : Nat) (Option.some (Jvm.ClassFile.FieldType.object "java/lang/String"))).before args0 about1 = true := code_word (m := ⟨1, 3⟩) (meth := k1m3) (c := k1c3) (by decide +kernel) rfl rfl rfl (by decide +kernel)
set_option maxRecDepth 65536 in
theorem w_c3 : (Jvm.Cond.code ({ cls := "java/lang/String", name := "<init>", desc := "([C)V" } : Jvm.MethodName) jdk_42_method_3_code (2 : Nat) (Option.none : Option Jvm.ClassFile.FieldType)).before args0 about1 = true := code_word (m := ⟨7, 1⟩) (meth := k7m1) (c := k7c1) (by decide +kernel) rfl rfl rfl (by decide +kernel)
set_option maxRecDepth 65536 in
theorem w_c4 : (Jvm.Cond.code ({ cls := "java/lang/String", name := "<init>", desc := "([CIILjava/lang/Void;)V" } : Jvm.MethodName) jdk_42_method_149_code (6 : Nat) (Option.none : Option Jvm.ClassFile.FieldType)).before args0 about1 = true := code_word (m := ⟨7, 4⟩) (meth := k7m4) (c := k7c4) (by decide +kernel) rfl rfl rfl (by decide +kernel)
set_option maxRecDepth 65536 in
theorem w_c5 : (Jvm.Cond.code ({ cls := "java/lang/Object", name := "<init>", desc := "()V" } : Jvm.MethodName) object_method_1_code (1 : Nat) (Option.none : Option Jvm.ClassFile.FieldType)).before args0 about1 = true := code_word (m := ⟨0, 0⟩) (meth := k0m0) (c := k0c0) (by decide +kernel) rfl rfl rfl (by decide +kernel)
set_option maxRecDepth 65536 in
theorem w_c6 : (Jvm.Cond.code ({ cls := "com/example/canhash/canhash/LabelsCountPinLaw", name := "dot", desc := "(ZC)I" } : Jvm.MethodName) method_3_code (2 : Nat) (Option.some Jvm.ClassFile.FieldType.int)).before args0 about1 = true := code_word (m := ⟨1, 2⟩) (meth := k1m2) (c := k1c2) (by decide +kernel) rfl rfl rfl (by decide +kernel)
set_option maxRecDepth 65536 in
theorem w_c7 : (Jvm.Cond.code ({ cls := "com/example/canhash/canhash/Labels", name := "count", desc := "(Ljava/lang/String;)I" } : Jvm.MethodName) prog_4_method_2_code (3 : Nat) (Option.some Jvm.ClassFile.FieldType.int)).before args0 about1 = true := code_word (m := ⟨8, 1⟩) (meth := k8m1) (c := k8c1) (by decide +kernel) rfl rfl rfl (by decide +kernel)
set_option maxRecDepth 65536 in
theorem w_c8 : (Jvm.Cond.code ({ cls := "java/lang/String", name := "length", desc := "()I" } : Jvm.MethodName) jdk_42_method_54_code (1 : Nat) (Option.some Jvm.ClassFile.FieldType.int)).before args0 about1 = true := code_word (m := ⟨7, 2⟩) (meth := k7m2) (c := k7c2) (by decide +kernel) rfl rfl rfl (by decide +kernel)
set_option maxRecDepth 65536 in
theorem w_c9 : (Jvm.Cond.code ({ cls := "java/lang/String", name := "coder", desc := "()B" } : Jvm.MethodName) jdk_42_method_152_code (1 : Nat) (Option.some Jvm.ClassFile.FieldType.byte)).before args0 about1 = true := code_word (m := ⟨7, 5⟩) (meth := k7m5) (c := k7c5) (by decide +kernel) rfl rfl rfl (by decide +kernel)
set_option maxRecDepth 65536 in
theorem w_c10 : (Jvm.Cond.code ({ cls := "java/lang/StringUTF16", name := "compress", desc := "([CII)[B" } : Jvm.MethodName) jdk_52_method_16_code (6 : Nat) (Option.some (Jvm.ClassFile.FieldType.array Jvm.ClassFile.FieldType.byte))).before args0 about1 = true := code_word (m := ⟨9, 8⟩) (meth := k9m8) (c := k9c8) (by decide +kernel) rfl rfl rfl (by decide +kernel)
set_option maxRecDepth 65536 in
theorem w_c11 : (Jvm.Cond.code ({ cls := "java/lang/StringUTF16", name := "compress", desc := "([CI[BII)I" } : Jvm.MethodName) jdk_52_method_21_code (7 : Nat) (Option.some Jvm.ClassFile.FieldType.int)).before args0 about1 = true := code_word (m := ⟨9, 9⟩) (meth := k9m9) (c := k9c9) (by decide +kernel) rfl rfl rfl (by decide +kernel)
set_option maxRecDepth 65536 in
theorem w_c12 : (Jvm.Cond.code ({ cls := "java/lang/StringUTF16", name := "coderFromArrayLen", desc := "([BI)B" } : Jvm.MethodName) jdk_52_method_15_code (2 : Nat) (Option.some Jvm.ClassFile.FieldType.byte)).before args0 about1 = true := code_word (m := ⟨9, 7⟩) (meth := k9m7) (c := k9c7) (by decide +kernel) rfl rfl rfl (by decide +kernel)
set_option maxRecDepth 65536 in
theorem w_c13 : (Jvm.Cond.code ({ cls := "java/lang/String", name := "charAt", desc := "(I)C" } : Jvm.MethodName) jdk_42_method_56_code (2 : Nat) (Option.some Jvm.ClassFile.FieldType.char)).before args0 about1 = true := code_word (m := ⟨7, 3⟩) (meth := k7m3) (c := k7c3) (by decide +kernel) rfl rfl rfl (by decide +kernel)
set_option maxRecDepth 65536 in
theorem w_c14 : (Jvm.Cond.code ({ cls := "java/lang/String", name := "isLatin1", desc := "()Z" } : Jvm.MethodName) jdk_42_method_154_code (1 : Nat) (Option.some Jvm.ClassFile.FieldType.boolean)).before args0 about1 = true := code_word (m := ⟨7, 6⟩) (meth := k7m6) (c := k7c6) (by decide +kernel) rfl rfl rfl (by decide +kernel)
set_option maxRecDepth 65536 in
theorem w_c15 : (Jvm.Cond.code ({ cls := "java/lang/StringLatin1", name := "charAt", desc := "([BI)C" } : Jvm.MethodName) jdk_43_method_2_code (2 : Nat) (Option.some Jvm.ClassFile.FieldType.char)).before args0 about1 = true := code_word (m := ⟨10, 1⟩) (meth := k10m1) (c := k10c1) (by decide +kernel) rfl rfl rfl (by decide +kernel)
set_option maxRecDepth 65536 in
theorem w_c16 : (Jvm.Cond.code ({ cls := "java/lang/String", name := "checkIndex", desc := "(II)V" } : Jvm.MethodName) jdk_42_method_155_code (2 : Nat) (Option.none : Option Jvm.ClassFile.FieldType)).before args0 about1 = true := code_word (m := ⟨7, 7⟩) (meth := k7m7) (c := k7c7) (by decide +kernel) rfl rfl rfl (by decide +kernel)
set_option maxRecDepth 65536 in
theorem w_c17 : (Jvm.Cond.code ({ cls := "jdk/internal/util/Preconditions", name := "checkIndex", desc := "(IILjava/util/function/BiFunction;)I" } : Jvm.MethodName) jdk_41_method_11_code (3 : Nat) (Option.some Jvm.ClassFile.FieldType.int)).before args0 about1 = true := code_word (m := ⟨11, 1⟩) (meth := k11m1) (c := k11c1) (by decide +kernel) rfl rfl rfl (by decide +kernel)
set_option maxRecDepth 65536 in
theorem w_c18 : (Jvm.Cond.code ({ cls := "java/lang/StringUTF16", name := "toBytes", desc := "([CII)[B" } : Jvm.MethodName) jdk_52_method_14_code (5 : Nat) (Option.some (Jvm.ClassFile.FieldType.array Jvm.ClassFile.FieldType.byte))).before args0 about1 = true := code_word (m := ⟨9, 6⟩) (meth := k9m6) (c := k9c6) (by decide +kernel) rfl rfl rfl (by decide +kernel)
set_option maxRecDepth 65536 in
theorem w_c19 : (Jvm.Cond.code ({ cls := "java/lang/StringUTF16", name := "newBytesFor", desc := "(I)[B" } : Jvm.MethodName) jdk_52_method_2_code (1 : Nat) (Option.some (Jvm.ClassFile.FieldType.array Jvm.ClassFile.FieldType.byte))).before args0 about1 = true := code_word (m := ⟨9, 1⟩) (meth := k9m1) (c := k9c1) (by decide +kernel) rfl rfl rfl (by decide +kernel)
set_option maxRecDepth 65536 in
theorem w_c20 : (Jvm.Cond.code ({ cls := "java/lang/StringUTF16", name := "newBytesLength", desc := "(I)I" } : Jvm.MethodName) jdk_52_method_3_code (1 : Nat) (Option.some Jvm.ClassFile.FieldType.int)).before args0 about1 = true := code_word (m := ⟨9, 2⟩) (meth := k9m2) (c := k9c2) (by decide +kernel) rfl rfl rfl (by decide +kernel)
set_option maxRecDepth 65536 in
theorem w_c21 : (Jvm.Cond.code ({ cls := "java/lang/StringUTF16", name := "putChar", desc := "([BII)V" } : Jvm.MethodName) jdk_52_method_4_code (3 : Nat) (Option.none : Option Jvm.ClassFile.FieldType)).before args0 about1 = true := code_word (m := ⟨9, 3⟩) (meth := k9m3) (c := k9c3) (by decide +kernel) rfl rfl rfl (by decide +kernel)
set_option maxRecDepth 65536 in
theorem w_c22 : (Jvm.Cond.code ({ cls := "java/lang/StringUTF16", name := "getChar", desc := "([BI)C" } : Jvm.MethodName) jdk_52_method_5_code (2 : Nat) (Option.some Jvm.ClassFile.FieldType.char)).before args0 about1 = true := code_word (m := ⟨9, 4⟩) (meth := k9m4) (c := k9c4) (by decide +kernel) rfl rfl rfl (by decide +kernel)
set_option maxRecDepth 65536 in
theorem w_c23 : (Jvm.Cond.code ({ cls := "java/lang/StringUTF16", name := "charAt", desc := "([BI)C" } : Jvm.MethodName) jdk_52_method_83_code (2 : Nat) (Option.some Jvm.ClassFile.FieldType.char)).before args0 about1 = true := code_word (m := ⟨9, 10⟩) (meth := k9m10) (c := k9c10) (by decide +kernel) rfl rfl rfl (by decide +kernel)
set_option maxRecDepth 65536 in
theorem w_c24 : (Jvm.Cond.code ({ cls := "java/lang/StringUTF16", name := "checkIndex", desc := "(I[B)V" } : Jvm.MethodName) jdk_52_method_91_code (2 : Nat) (Option.none : Option Jvm.ClassFile.FieldType)).before args0 about1 = true := code_word (m := ⟨9, 11⟩) (meth := k9m11) (c := k9c11) (by decide +kernel) rfl rfl rfl (by decide +kernel)
set_option maxRecDepth 65536 in
theorem w_c25 : (Jvm.Cond.code ({ cls := "java/lang/StringUTF16", name := "length", desc := "([B)I" } : Jvm.MethodName) jdk_52_method_6_code (1 : Nat) (Option.some Jvm.ClassFile.FieldType.int)).before args0 about1 = true := code_word (m := ⟨9, 5⟩) (meth := k9m5) (c := k9c5) (by decide +kernel) rfl rfl rfl (by decide +kernel)
def codes1 : List Jvm.Cond := [Jvm.Cond.code x code maxLocals ret, Jvm.Cond.code ({ cls := "com/example/canhash/canhash/LabelsCountPinLaw", name := "draw", desc := "(I)C" } : Jvm.MethodName) method_2_code (1 : Nat) (Option.some Jvm.ClassFile.FieldType.char), Jvm.Cond.code ({ cls := "com/example/canhash/canhash/LabelsCountPinLaw", name := "make", desc := "(ICCCCC)Ljava/lang/String;" } : Jvm.MethodName) method_4_code (6 : Nat) (Option.some (Jvm.ClassFile.FieldType.object "java/lang/String")), Jvm.Cond.code ({ cls := "java/lang/String", name := "<init>", desc := "([C)V" } : Jvm.MethodName) jdk_42_method_3_code (2 : Nat) (Option.none : Option Jvm.ClassFile.FieldType), Jvm.Cond.code ({ cls := "java/lang/String", name := "<init>", desc := "([CIILjava/lang/Void;)V" } : Jvm.MethodName) jdk_42_method_149_code (6 : Nat) (Option.none : Option Jvm.ClassFile.FieldType), Jvm.Cond.code ({ cls := "java/lang/Object", name := "<init>", desc := "()V" } : Jvm.MethodName) object_method_1_code (1 : Nat) (Option.none : Option Jvm.ClassFile.FieldType), Jvm.Cond.code ({ cls := "com/example/canhash/canhash/LabelsCountPinLaw", name := "dot", desc := "(ZC)I" } : Jvm.MethodName) method_3_code (2 : Nat) (Option.some Jvm.ClassFile.FieldType.int), Jvm.Cond.code ({ cls := "com/example/canhash/canhash/Labels", name := "count", desc := "(Ljava/lang/String;)I" } : Jvm.MethodName) prog_4_method_2_code (3 : Nat) (Option.some Jvm.ClassFile.FieldType.int), Jvm.Cond.code ({ cls := "java/lang/String", name := "length", desc := "()I" } : Jvm.MethodName) jdk_42_method_54_code (1 : Nat) (Option.some Jvm.ClassFile.FieldType.int), Jvm.Cond.code ({ cls := "java/lang/String", name := "coder", desc := "()B" } : Jvm.MethodName) jdk_42_method_152_code (1 : Nat) (Option.some Jvm.ClassFile.FieldType.byte), Jvm.Cond.code ({ cls := "java/lang/StringUTF16", name := "compress", desc := "([CII)[B" } : Jvm.MethodName) jdk_52_method_16_code (6 : Nat) (Option.some (Jvm.ClassFile.FieldType.array Jvm.ClassFile.FieldType.byte)), Jvm.Cond.code ({ cls := "java/lang/StringUTF16", name := "compress", desc := "([CI[BII)I" } : Jvm.MethodName) jdk_52_method_21_code (7 : Nat) (Option.some Jvm.ClassFile.FieldType.int), Jvm.Cond.code ({ cls := "java/lang/StringUTF16", name := "coderFromArrayLen", desc := "([BI)B" } : Jvm.MethodName) jdk_52_method_15_code (2 : Nat) (Option.some Jvm.ClassFile.FieldType.byte), Jvm.Cond.code ({ cls := "java/lang/String", name := "charAt", desc := "(I)C" } : Jvm.MethodName) jdk_42_method_56_code (2 : Nat) (Option.some Jvm.ClassFile.FieldType.char), Jvm.Cond.code ({ cls := "java/lang/String", name := "isLatin1", desc := "()Z" } : Jvm.MethodName) jdk_42_method_154_code (1 : Nat) (Option.some Jvm.ClassFile.FieldType.boolean), Jvm.Cond.code ({ cls := "java/lang/StringLatin1", name := "charAt", desc := "([BI)C" } : Jvm.MethodName) jdk_43_method_2_code (2 : Nat) (Option.some Jvm.ClassFile.FieldType.char), Jvm.Cond.code ({ cls := "java/lang/String", name := "checkIndex", desc := "(II)V" } : Jvm.MethodName) jdk_42_method_155_code (2 : Nat) (Option.none : Option Jvm.ClassFile.FieldType), Jvm.Cond.code ({ cls := "jdk/internal/util/Preconditions", name := "checkIndex", desc := "(IILjava/util/function/BiFunction;)I" } : Jvm.MethodName) jdk_41_method_11_code (3 : Nat) (Option.some Jvm.ClassFile.FieldType.int), Jvm.Cond.code ({ cls := "java/lang/StringUTF16", name := "toBytes", desc := "([CII)[B" } : Jvm.MethodName) jdk_52_method_14_code (5 : Nat) (Option.some (Jvm.ClassFile.FieldType.array Jvm.ClassFile.FieldType.byte)), Jvm.Cond.code ({ cls := "java/lang/StringUTF16", name := "newBytesFor", desc := "(I)[B" } : Jvm.MethodName) jdk_52_method_2_code (1 : Nat) (Option.some (Jvm.ClassFile.FieldType.array Jvm.ClassFile.FieldType.byte)), Jvm.Cond.code ({ cls := "java/lang/StringUTF16", name := "newBytesLength", desc := "(I)I" } : Jvm.MethodName) jdk_52_method_3_code (1 : Nat) (Option.some Jvm.ClassFile.FieldType.int), Jvm.Cond.code ({ cls := "java/lang/StringUTF16", name := "putChar", desc := "([BII)V" } : Jvm.MethodName) jdk_52_method_4_code (3 : Nat) (Option.none : Option Jvm.ClassFile.FieldType), Jvm.Cond.code ({ cls := "java/lang/StringUTF16", name := "getChar", desc := "([BI)C" } : Jvm.MethodName) jdk_52_method_5_code (2 : Nat) (Option.some Jvm.ClassFile.FieldType.char), Jvm.Cond.code ({ cls := "java/lang/StringUTF16", name := "charAt", desc := "([BI)C" } : Jvm.MethodName) jdk_52_method_83_code (2 : Nat) (Option.some Jvm.ClassFile.FieldType.char), Jvm.Cond.code ({ cls := "java/lang/StringUTF16", name := "checkIndex", desc := "(I[B)V" } : Jvm.MethodName) jdk_52_method_91_code (2 : Nat) (Option.none : Option Jvm.ClassFile.FieldType), Jvm.Cond.code ({ cls := "java/lang/StringUTF16", name := "length", desc := "([B)I" } : Jvm.MethodName) jdk_52_method_6_code (1 : Nat) (Option.some Jvm.ClassFile.FieldType.int)]
set_option maxRecDepth 65536 in
theorem codes_eq : words1.filter isCode = codes1 := rfl
theorem w_codes : ∀ c ∈ words1.filter isCode, c.before args0 about1 = true := by
  rw [codes_eq]
  intro c hc
  simp only [codes1, List.mem_cons, List.not_mem_nil, or_false] at hc
  rcases hc with rfl | rfl | rfl | rfl | rfl | rfl | rfl | rfl | rfl | rfl | rfl | rfl | rfl | rfl | rfl | rfl | rfl | rfl | rfl | rfl | rfl | rfl | rfl | rfl | rfl | rfl
  · exact w_c0
  · exact w_c1
  · exact w_c2
  · exact w_c3
  · exact w_c4
  · exact w_c5
  · exact w_c6
  · exact w_c7
  · exact w_c8
  · exact w_c9
  · exact w_c10
  · exact w_c11
  · exact w_c12
  · exact w_c13
  · exact w_c14
  · exact w_c15
  · exact w_c16
  · exact w_c17
  · exact w_c18
  · exact w_c19
  · exact w_c20
  · exact w_c21
  · exact w_c22
  · exact w_c23
  · exact w_c24
  · exact w_c25
set_option maxRecDepth 65536 in
theorem w_t1 : (words1.take 24).all (fun c => isCode c || c.before args0 about1) = true := by decide +kernel
set_option maxRecDepth 65536 in
theorem w_t2 : ((words1.drop 24).take 24).all (fun c => isCode c || c.before args0 about1) = true := by decide +kernel
set_option maxRecDepth 65536 in
theorem w_t3 : (((words1.drop 24).drop 24).take 24).all (fun c => isCode c || c.before args0 about1) = true := by decide +kernel
set_option maxRecDepth 65536 in
theorem w_t4 : ((((words1.drop 24).drop 24).drop 24).take 24).all (fun c => isCode c || c.before args0 about1) = true := by decide +kernel
set_option maxRecDepth 65536 in
theorem w_t5 : ((((words1.drop 24).drop 24).drop 24).drop 24).all (fun c => isCode c || c.before args0 about1) = true := by decide +kernel
theorem w_tables : (allAtoms (Jvm.Cond.code x code maxLocals ret :: tables_1)).before args0 about1 = true := by
  rw [allAtoms_all]
  show words1.all (fun c => c.before args0 about1) = true
  refine all_split ?_ w_codes
  rw [← List.take_append_drop 24 words1, List.all_append, w_t1, ← List.take_append_drop 24 (words1.drop 24), List.all_append, w_t2, ← List.take_append_drop 24 ((words1.drop 24).drop 24), List.all_append, w_t3, ← List.take_append_drop 24 (((words1.drop 24).drop 24).drop 24), List.all_append, w_t4, w_t5]
  rfl
set_option maxRecDepth 65536 in
theorem w_rest : rest_1_c.before args0 about1 = true := by decide +kernel
set_option maxRecDepth 65536 in
theorem w_case : (Jvm.Cond.and given_1 narrow_1).before args0 about1 = true := by decide +kernel
set_option maxRecDepth 65536 in
theorem w_consts : constsHeld consts_1 about1 := Jvm.Lit.constsHeldB_iff.mp (by decide +kernel)
theorem w_applies : (headSpec (Jvm.Cond.code x code maxLocals ret :: tables_1) room_1).applies x e0.platform about1 = true :=
  (Spec.applies_iff w_frames).mpr ⟨w_running, w_runnable, w_alone, w_named, w_hears, w_ripe, w_room, w_tables⟩
theorem atStart : AtStart classFile x code maxLocals ret World_1 tables_1 room_1 Calls_1 rest_1 Pre_1 launch0 p0 e0 about1 theMethod args0 below0 :=
  ⟨lists_1, trivial, launch0.admits_env _ _ _, launch0.least_env, fairChoices_fair.cas, fairChoices_fair.clock, w_frames, w_args, w_heap, w_applies, ⟨w_consts, trivial⟩, w_rest, w_case⟩
end start1
theorem witness_1 : WitnessClaimed_1 := ⟨start1.p0, start1.e0, start1.about1, start1.theMethod, start1.args0, start1.below0, start1.atStart⟩
end Jvm.Pilot.@@N@@
