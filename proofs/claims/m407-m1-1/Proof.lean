import JvmDerived
import JvmDerived.Pilot.@@N@@Statement
import JvmDerived.Pilot.@@N@@Code
set_option linter.unusedVariables false
set_option linter.unusedSimpArgs false
namespace Jvm.Own
open Jvm Jvm.ClassFile Sem Op Lib Jvm.Free Jvm.Stand Jvm.LawKit Jvm.RoadKit
/-! OWN KIT 1: a walk as a weakest precondition. 'Go pc L st h ss k n': from any state of this invocation that stands at pc with locals L, stack st, heap h, the writable addresses ss, k cells and n slots made so far, the run ends as Q says. -/
abbrev IV : Type := Program × Launch × Env × Room × State × MethodId × Array Value × List Frame × Method × Code
abbrev IV.p (K : IV) : Program := K.1
abbrev IV.l (K : IV) : Launch := K.2.1
abbrev IV.e (K : IV) : Env := K.2.2.1
abbrev IV.R (K : IV) : Room := K.2.2.2.1
abbrev IV.s (K : IV) : State := K.2.2.2.2.1
abbrev IV.m (K : IV) : MethodId := K.2.2.2.2.2.1
abbrev IV.args (K : IV) : Array Value := K.2.2.2.2.2.2.1
abbrev IV.below (K : IV) : List Frame := K.2.2.2.2.2.2.2.1
abbrev IV.meth (K : IV) : Method := K.2.2.2.2.2.2.2.2.1
abbrev IV.c (K : IV) : Code := K.2.2.2.2.2.2.2.2.2
def Sf (Z : State) (EL : List (String × Nat)) (n0 : Nat) (vm : Vm) (h : Heap) (ss0 : List Addr) (h0 : Heap) (ss : List Addr) : Prop := ∀ x ∈ ss, n0 ≤ x ∧ x < h.size ∧ Safe Z EL vm h x ∧ (x ∈ ss0 ∨ h0.size ≤ x)
def EndW (w : Bool) (s : State) (o : Outcome) (t : State) (L : List Loc) (k n : Nat) : Prop := match w with
  | true => ReturnedEndW s o t L k n
  | false => FrameEnd s o t L k n
def Here (w : Bool) (K : IV) (Z : State) (EL : List (String × Nat)) (n0 : Nat) (ss0 : List Addr) (T : State) (h : Heap) (ss : List Addr) (k n : Nat) : Prop :=
  ∃ (vm0 : Vm) (locs : List Loc) (k0 : Nat), Stand K.p K.l K.e K.R (K.s.setVm vm0) K.m K.args K.below K.meth K.c T locs k n ∧ Fr n0 locs ∧ T.heap = h ∧ K.s.Since vm0 k0 ∧ k0 ≤ h.size ∧ Z.Warmed39 vm0 ∧ (w = false → vm0 = K.s.vm) ∧ CHr Z EL K.s.vm K.s.heap vm0 h ∧ Sf Z EL n0 vm0 h ss0 K.s.heap ss ∧ Old Z n0 h ∧ Keep K.s.heap h ss0
def Fns (w : Bool) (K : IV) (Z : State) (EL : List (String × Nat)) (n0 : Nat) (ss0 : List Addr) (Q : Option Value → Heap → List Addr → Prop) (u : State) : Prop :=
  ∃ (t : State) (v : Option Value) (L : List Loc) (gs : List Addr), Steps K.p.tables K.e K.below u t ∧ t.status = .running ∧ Ended t K.below (.returned v) ∧ Q v t.heap gs ∧ Fr n0 L ∧ CHr Z EL K.s.vm K.s.heap t.vm t.heap ∧ Keep K.s.heap t.heap ss0 ∧ Sf Z EL n0 t.vm t.heap ss0 K.s.heap gs ∧ Old Z n0 t.heap ∧ EndW w K.s (.returned v) t L K.R.cells K.R.slots
def Go (w : Bool) (K : IV) (Z : State) (EL : List (String × Nat)) (n0 : Nat) (ss0 : List Addr) (Q : Option Value → Heap → List Addr → Prop) (pc : Nat) (L : Array Slot) (st : List Value) (h : Heap) (ss : List Addr) (k n : Nat) : Prop :=
  ∀ T, Here w K Z EL n0 ss0 T h ss k n → Fns w K Z EL n0 ss0 Q (T.setTop (mkF K.m pc L st))
def Cx (w : Bool) (K : IV) (Z : State) (a0 : Array Value) (EL : List (String × Nat)) (own : String) (code : ByteArray) (ml : Nat) (rt : Option FieldType) (mn : String) (R : Room) : Prop :=
  K.p.tables.exec = Jvm.exec ∧ K.c.code = code ∧ K.c.maxLocals = ml ∧ K.s.vm.findClass own = some K.m.cls ∧ K.meth.sig.returnType = rt ∧ K.meth.locks = false ∧ K.meth.name = mn ∧ K.R = R ∧ EW Z a0 EL ∧ (w = false → EL = [])
abbrev Rm (f c s l : Nat) : Room := { frames := f, cells := c, slots := s, locals := l }
def Con (w : Bool) (Z : State) (EL : List (String × Nat)) (n0 : Nat) (y : MethodName) (bytes : ByteArray) (ml : Nat) (rt : Option FieldType) (R : Room) (as : List Value) (h0 : Heap) (ss0 : List Addr) (Q : Option Value → Heap → List Addr → Prop) : Prop :=
  ∀ (l : Launch) (ws : List Cond), MetFree l y (head1 (Cond.code y bytes ml rt :: ws) R) (fun a U => a = as.toArray ∧ Z.Warmed39 U.vm ∧ U.heap = h0 ∧ CHv Z EL U.vm h0 ∧ ∀ x ∈ ss0, n0 ≤ x ∧ x < h0.size ∧ Safe Z EL U.vm h0 x) (fun _ _ _ _ _ => True)
    (fun _ U o U' => ∃ (v : Option Value) (L : List Loc) (gs : List Addr), o = .returned v ∧ Q v U'.heap gs ∧ Fr n0 L ∧ CHr Z EL U.vm h0 U'.vm U'.heap ∧ Keep h0 U'.heap ss0 ∧ Sf Z EL n0 U'.vm U'.heap ss0 h0 gs ∧ Old Z n0 U'.heap ∧ EndW w U o U' L R.cells R.slots)
theorem dle {a b : Nat} (h : Nat.ble a b = true) : a ≤ b := Nat.le_of_ble_eq_true h
theorem dlt {a b : Nat} (h : Nat.ble (a + 1) b = true) : a < b := Nat.le_of_ble_eq_true h
section Kit
variable {w : Bool} {K : IV} {Z : State} {a0 : Array Value} {EL : List (String × Nat)} {n0 : Nat} {ss0 ss : List Addr} {Q : Option Value → Heap → List Addr → Prop} {pc pc' pcT : Nat} {L L' : Array Slot} {st st' : List Value} {h h' : Heap} {k n : Nat} {own : String} {code : ByteArray} {ml : Nat} {rt : Option FieldType} {mn : String} {R : Room}
theorem chr_nil {vm vm' : Vm} (q : h.size ≤ h'.size) : CHr Z [] vm h vm' h' := ⟨fun _ hp => absurd hp List.not_mem_nil, q, fun y ⟨p, hp, _⟩ => absurd hp List.not_mem_nil⟩
theorem Fns.steps {u u' : State} (hs : ∀ t, Steps K.p.tables K.e K.below u' t → Steps K.p.tables K.e K.below u t) (F : Fns w K Z EL n0 ss0 Q u') : Fns w K Z EL n0 ss0 Q u := by
  obtain ⟨t, v, L, gs, h1, r⟩ := F
  exact ⟨t, v, L, gs, hs t h1, r⟩
theorem Go.plain (hs : ∀ {T : State}, At T K.m K.c K.below → ∀ t, Steps K.p.tables K.e K.below (T.setTop (mkF K.m pc' L' st')) t → Steps K.p.tables K.e K.below (T.setTop (mkF K.m pc L st)) t) (G : Go w K Z EL n0 ss0 Q pc' L' st' h ss k n) : Go w K Z EL n0 ss0 Q pc L st h ss k n := by
  intro T H
  have H' := H
  obtain ⟨vm0, locs, k0, X, -⟩ := H
  exact Fns.steps (hs X.here) (G T H')
theorem fcl {vm0 : Vm} {k0 : Nat} (C : Cx w K Z a0 EL own code ml rt mn R) (hS : K.s.Since vm0 k0) : vm0.findClass own = some K.m.cls := by
  rw [hS.1.alike.findClass]; exact C.2.2.2.1
/-- a step that moves the tables alone -/
theorem Go.same (C : Cx w K Z a0 EL own code ml rt mn R) (hs : ∀ {T : State} {vm0 : Vm} {locs : List Loc}, Stand K.p K.l K.e K.R (K.s.setVm vm0) K.m K.args K.below K.meth K.c T locs k n → T.heap = h → Z.Warmed39 (K.s.setVm vm0).vm → (K.s.setVm vm0).vm.findClass own = some K.m.cls → Ext Z.heap h →
      ∃ T', Stand K.p K.l K.e K.R (K.s.setVm vm0) K.m K.args K.below K.meth K.c T' locs k n ∧ T'.heap = h ∧ ∀ t, Steps K.p.tables K.e K.below (T'.setTop (mkF K.m pc' L' st')) t → Steps K.p.tables K.e K.below (T.setTop (mkF K.m pc L st)) t)
    (G : Go w K Z EL n0 ss0 Q pc' L' st' h ss k n) : Go w K Z EL n0 ss0 Q pc L st h ss k n := by
  intro T H
  obtain ⟨vm0, locs, k0, X, N, eT, hS, hk, hZ, hv, hC, hF, hO, hK⟩ := H
  obtain ⟨T', X', eT', st'⟩ := hs X eT hZ (fcl C hS) hO.2
  exact Fns.steps st' (G T' ⟨vm0, locs, k0, X', N, eT', hS, hk, hZ, hv, hC, hF, hO, hK⟩)
theorem Sf.ext {vm : Vm} {h0 : Heap} (E : Ext h h') (H : CHv Z EL vm h) (S : Sf Z EL n0 vm h ss0 h0 ss) : Sf Z EL n0 vm h' ss0 h0 ss := fun x hx => by
  obtain ⟨a, b, c, d⟩ := S x hx
  exact ⟨a, Nat.lt_of_lt_of_le b E.1, Safe.ext E H c, d⟩
/-- a step that makes one cell (or more) at the heap's end, the first at h.size -/
theorem Go.grow (C : Cx w K Z a0 EL own code ml rt mn R) {dk dn : Nat} {P : Heap → Prop} (hsz : ∀ h', P h' → h.size < h'.size) (hs : ∀ {T : State} {vm0 : Vm} {locs : List Loc}, Stand K.p K.l K.e K.R (K.s.setVm vm0) K.m K.args K.below K.meth K.c T locs k n → T.heap = h → Z.Warmed39 (K.s.setVm vm0).vm → (K.s.setVm vm0).vm.findClass own = some K.m.cls →
      ∃ T' h', Stand K.p K.l K.e K.R (K.s.setVm vm0) K.m K.args K.below K.meth K.c T' locs (k + dk) (n + dn) ∧ T'.heap = h' ∧ Ext h h' ∧ P h' ∧ ∀ t, Steps K.p.tables K.e K.below (T'.setTop (mkF K.m pc' L' st')) t → Steps K.p.tables K.e K.below (T.setTop (mkF K.m pc L st)) t)
    (G : ∀ h', Keep h h' [] → h.size < h'.size → n0 ≤ h.size → P h' → Go w K Z EL n0 ss0 Q pc' L' st' h' (h.size :: ss) (k + dk) (n + dn)) : Go w K Z EL n0 ss0 Q pc L st h ss k n := by
  intro T H
  obtain ⟨vm0, locs, k0, X, N, eT, hS, hk, hZ, hv, hC, hF, hO, hK⟩ := H
  obtain ⟨T', h', X', eT', E, hP, st'⟩ := hs X eT hZ (fcl C hS)
  have hn0 : n0 ≤ h.size := hO.1 ▸ hO.2.1
  refine Fns.steps st' (G h' ((Keep.refl h []).ext E) (hsz _ hP) hn0 hP T' ⟨vm0, locs, k0, X', N, eT', hS, Nat.le_trans hk E.1, hZ, hv, hC.trans (CHr.ext E hC.1), ?_, hO.ext E, hK.ext E⟩)
  intro x hx
  rcases List.mem_cons.mp hx with rfl | hx
  · exact ⟨hn0, hsz _ hP, Safe.ext E hC.1 (Safe.new (Nat.le_refl _)), Or.inr hK.1⟩
  · exact hF.ext E hC.1 x hx
/-- a step that writes one slot of a writable cell -/
theorem Go.write (C : Cx w K Z a0 EL own code ml rt mn R) {a : Addr} {sl : Nat} {v : Value} (ha : a ∈ ss) (hs : ∀ {T : State} {vm0 : Vm} {locs : List Loc}, Stand K.p K.l K.e K.R (K.s.setVm vm0) K.m K.args K.below K.meth K.c T locs k n → T.heap = h → Z.Warmed39 (K.s.setVm vm0).vm → (K.s.setVm vm0).vm.findClass own = some K.m.cls →
      ∃ T' h', Stand K.p K.l K.e K.R (K.s.setVm vm0) K.m K.args K.below K.meth K.c T' (locs ++ [⟨a, sl⟩]) k n ∧ T'.heap = h' ∧ Wr h h' a sl v ∧ ∀ t, Steps K.p.tables K.e K.below (T'.setTop (mkF K.m pc' L' st')) t → Steps K.p.tables K.e K.below (T.setTop (mkF K.m pc L st)) t)
    (G : ∀ h', Wr h h' a sl v → Go w K Z EL n0 ss0 Q pc' L' st' h' ss k n) : Go w K Z EL n0 ss0 Q pc L st h ss k n := by
  intro T H
  obtain ⟨vm0, locs, k0, X, N, eT, hS, hk, hZ, hv, hC, hF, hO, hK⟩ := H
  obtain ⟨T', h', X', eT', W, st'⟩ := hs X eT hZ (fcl C hS)
  obtain ⟨f1, f2, f3, f4⟩ := hF a ha
  refine Fns.steps st' (G h' W T' ⟨vm0, _, k0, X', Fr.snoc X' N f1, eT', hS, by rw [W.size]; exact hk, hZ, hv, hC.trans (CHr.wr W f3 hC.1), ?_, hO.wr W f1, hK.wr W f4⟩)
  intro x hx
  obtain ⟨g1, g2, g3, g4⟩ := hF x hx
  exact ⟨g1, by rw [W.size]; exact g2, Safe.wr W f3 hC.1 g3, g4⟩
/-- the end -/
theorem Go.leave (C : Cx w K Z a0 EL own code ml rt mn R) {v : Option Value} {gs : List Addr} (hv : rt = none → v = none) (hs : ∀ {T : State} {vm0 : Vm} {locs : List Loc}, Stand K.p K.l K.e K.R (K.s.setVm vm0) K.m K.args K.below K.meth K.c T locs k n → ∀ {fs : List Frame}, (∀ (f : JFrame) (acts : List Action), f.method = K.m → f.locked = none → f.entered = [] → (doReturn K.e (T.setTop f) acts v).1 = T.setFrames fs) →
      Steps K.p.tables K.e K.below (T.setTop (mkF K.m pc L st)) (T.setFrames fs)) (hQ : Q v h gs) (hg : ∀ x ∈ gs, x ∈ ss) (hc : k ≤ R.cells) (hn : n ≤ R.slots) : Go w K Z EL n0 ss0 Q pc L st h ss k n := by
  intro T H
  obtain ⟨vm0, locs, k0, X, N, eT, hS, hk, hZ, hw, hC, hF, hO, hK⟩ := H
  have hlk : K.meth.locks = false := C.2.2.2.2.2.1
  have hR : K.R = R := C.2.2.2.2.2.2.2.1
  have hrt : K.meth.sig.returnType = rt := C.2.2.2.2.1
  have A := CHv.at X hZ C.2.2.2.2.2.2.2.2.1 hC.1
  have hvm : ∀ fs, (T.setFrames fs).vm = T.vm := fun _ => rfl
  have hhp : ∀ fs, (T.setFrames fs).heap = h := fun _ => eT
  obtain ⟨fs, r1, r2, r3, r4, r5⟩ := X.leave (v := v) (fun q => hv (hrt ▸ q)) hlk
  refine ⟨T.setFrames fs, v, locs, gs, hs X r1, r2, r3, by rw [hhp]; exact hQ, N, by rw [hhp, hvm]; exact hC.trans A, by rw [hhp]; exact hK, ?_, by rw [hhp]; exact hO, ?_⟩
  · rw [hhp, hvm]
    intro x hx
    obtain ⟨g1, g2, g3, g4⟩ := hF x (hg x hx)
    exact ⟨g1, g2, A.safe g2 g3, g4⟩
  · cases w with
    | false =>
      obtain rfl := hw rfl
      exact ⟨⟨_, rfl⟩, r4, r5.mono (by rw [hR]; exact hc) (by rw [hR]; exact hn)⟩
    | true =>
      obtain ⟨a, b, c'⟩ := hS.ended (U := T.setFrames fs) r4 (by rw [hhp]; exact hk) r5
      exact ⟨⟨_, rfl⟩, a, b, c'.mono (by rw [hR]; exact hc) (by rw [hR]; exact hn)⟩
/-- a body's walk gives its contract -/
theorem Con.of {y : MethodName} {bytes : ByteArray} {as : List Value} {h0 : Heap} {L0 : Array Slot} (hpn : plainName y.cls = true) (hE : EW Z a0 EL) (hwE : w = false → EL = []) (hO : Old Z n0 h0) (hef : ∀ m, entryFrame m as.toArray ml = mkF m 0 L0 [])
    (B : ∀ K : IV, Cx w K Z a0 EL y.cls bytes ml rt y.name R → K.s.heap = h0 → Go w K Z EL n0 ss0 Q 0 L0 [] h0 ss0 0 0) : Con w Z EL n0 y bytes ml rt R as h0 ss0 Q := by
  intro l ws
  refine MetFree.of_bodySF (plainFor_of_name hpn) hisR ?_
  intro p e s m args below meth c s₁ Bd hml0 hP hK
  obtain ⟨rfl, hZ, hh, hCH, hss⟩ := hP
  have X0 : Stand p l e R s m as.toArray below meth c s₁ [] 0 0 := Stand.of_body Bd
  have e0 : s₁.heap = h0 := by rw [← hh, Bd.state]; rfl
  obtain ⟨t, v, L, gs, r1, r2, r3, r4, r5, r6, r7, r8, r9, r10⟩ := B (p, l, e, R, s, m, as.toArray, below, meth, c)
    ⟨Bd.exec, Bd.bytes, hml0, findClass_of_methodNamed Bd.named, Bd.returns, BodyLoose.notSynchronized Bd, (name_of_methodNamed Bd.named Bd.method).1, rfl, hE, hwE⟩ hh s₁
    ⟨s.vm, [], s.heap.size, X0, Fr.nil n0, e0, State.WarmedH.since (State.WarmedH.refl s) _, by rw [hh]; exact Nat.le_refl _, hZ, fun _ => rfl, by show CHr Z EL s.vm s.heap s.vm h0; rw [hh]; exact CHr.refl hCH, fun x hx => ⟨(hss x hx).1, (hss x hx).2.1, (hss x hx).2.2, Or.inl hx⟩, hO, by show Keep s.heap h0 ss0; rw [hh]; exact Keep.refl _ _⟩
  refine ⟨t, _, castTop (hef m) r1, r2, r3, v, L, gs, rfl, r4, r5, ?_, ?_, ?_, r9, r10⟩
  · rw [← hh]; exact r6
  · rw [← hh]; exact r7
  · rw [← hh]; exact r8
end Kit
end Jvm.Own
namespace Jvm.Own
open Jvm Jvm.ClassFile Sem Op Lib Jvm.Free Jvm.Stand Jvm.LawKit Jvm.RoadKit
def Dc (code : ByteArray) (pc : Nat) (i : Instr) (len pc' : Nat) : Prop := decode code pc = .ok (i, len) ∧ pc + len = pc'
def Db (code : ByteArray) (pc : Nat) (i : Instr) (len pc' : Nat) (o : Int) (pcT : Nat) : Prop := decode code pc = .ok (i, len) ∧ pc + len = pc' ∧ 0 ≤ (pc : Int) + o ∧ ((pc : Int) + o).toNat = pcT
/-- Java's x >>> y -/
def ushr (x y : Int32) : Int32 := (x.toUInt32 >>> (y &&& 31).toUInt32).toInt32
def ushrL (x : Int64) (y : Int32) : Int64 := (x.toUInt64 >>> (y &&& 0x3f).toInt64.toUInt64).toInt64
section Ops
variable {w : Bool} {K : IV} {Z : State} {a0 : Array Value} {EL : List (String × Nat)} {n0 : Nat} {ss0 ss : List Addr} {Q : Option Value → Heap → List Addr → Prop} {pc pc' pcT : Nat} {L L' : Array Slot} {st st' : List Value} {h h' : Heap} {k n : Nat} {own : String} {code : ByteArray} {ml : Nat} {rt : Option FieldType} {mn : String} {rf rc rs rl : Nat}
theorem irem_mod (x y : Int32) : x - (x / y) * y = x % y := by
  apply Int32.toInt_inj.mp
  have h1 := Int32.le_toInt (x % y)
  have h2 := Int32.toInt_lt (x % y)
  rw [Int32.toInt_sub, Int32.toInt_mul, Int32.toInt_div, Int.bmod_mul_bmod, Int.sub_bmod_bmod, Int.mul_comm (x.toInt.tdiv y.toInt), ← Int.tmod_def, ← Int32.toInt_mod]
  exact Int.bmod_eq_of_le_mul_two (by omega) (by omega)
theorem iadd (C : Cx w K Z a0 EL own code ml rt mn (Rm rf rc rs rl)) {x y : Int32} (d : Dc code pc .iadd 1 pc')  (G : Go w K Z EL n0 ss0 Q pc' L (.int (x + y) :: st) h ss k n) : Go w K Z EL n0 ss0 Q pc L (.int y :: .int x :: st) h ss k n := by
  obtain ⟨d1, rfl⟩ := d
  exact Go.plain (fun X t r => XS.iadd X C.1 rfl (hb C.2.1 d1) rfl r) G
theorem isub (C : Cx w K Z a0 EL own code ml rt mn (Rm rf rc rs rl)) {x y : Int32} (d : Dc code pc .isub 1 pc')  (G : Go w K Z EL n0 ss0 Q pc' L (.int (x - y) :: st) h ss k n) : Go w K Z EL n0 ss0 Q pc L (.int y :: .int x :: st) h ss k n := by
  obtain ⟨d1, rfl⟩ := d
  exact Go.plain (fun X t r => XS.isub X C.1 rfl (hb C.2.1 d1) rfl r) G
theorem imul (C : Cx w K Z a0 EL own code ml rt mn (Rm rf rc rs rl)) {x y : Int32} (d : Dc code pc .imul 1 pc')  (G : Go w K Z EL n0 ss0 Q pc' L (.int (x * y) :: st) h ss k n) : Go w K Z EL n0 ss0 Q pc L (.int y :: .int x :: st) h ss k n := by
  obtain ⟨d1, rfl⟩ := d
  exact Go.plain (fun X t r => XS.imul X C.1 rfl (hb C.2.1 d1) rfl r) G
theorem iand (C : Cx w K Z a0 EL own code ml rt mn (Rm rf rc rs rl)) {x y : Int32} (d : Dc code pc .iand 1 pc')  (G : Go w K Z EL n0 ss0 Q pc' L (.int (x &&& y) :: st) h ss k n) : Go w K Z EL n0 ss0 Q pc L (.int y :: .int x :: st) h ss k n := by
  obtain ⟨d1, rfl⟩ := d
  exact Go.plain (fun X t r => XS.iand X C.1 rfl (hb C.2.1 d1) rfl r) G
theorem ior (C : Cx w K Z a0 EL own code ml rt mn (Rm rf rc rs rl)) {x y : Int32} (d : Dc code pc .ior 1 pc')  (G : Go w K Z EL n0 ss0 Q pc' L (.int (x ||| y) :: st) h ss k n) : Go w K Z EL n0 ss0 Q pc L (.int y :: .int x :: st) h ss k n := by
  obtain ⟨d1, rfl⟩ := d
  exact Go.plain (fun X t r => XS.ior X C.1 rfl (hb C.2.1 d1) rfl r) G
theorem ixor (C : Cx w K Z a0 EL own code ml rt mn (Rm rf rc rs rl)) {x y : Int32} (d : Dc code pc .ixor 1 pc')  (G : Go w K Z EL n0 ss0 Q pc' L (.int (x ^^^ y) :: st) h ss k n) : Go w K Z EL n0 ss0 Q pc L (.int y :: .int x :: st) h ss k n := by
  obtain ⟨d1, rfl⟩ := d
  exact Go.plain (fun X t r => XS.ixor X C.1 rfl (hb C.2.1 d1) rfl r) G
theorem ishl (C : Cx w K Z a0 EL own code ml rt mn (Rm rf rc rs rl)) {x y : Int32} (d : Dc code pc .ishl 1 pc')  (G : Go w K Z EL n0 ss0 Q pc' L (.int (x <<< (y &&& 31)) :: st) h ss k n) : Go w K Z EL n0 ss0 Q pc L (.int y :: .int x :: st) h ss k n := by
  obtain ⟨d1, rfl⟩ := d
  exact Go.plain (fun X t r => XS.ishl X C.1 rfl (hb C.2.1 d1) rfl r) G
theorem ishr (C : Cx w K Z a0 EL own code ml rt mn (Rm rf rc rs rl)) {x y : Int32} (d : Dc code pc .ishr 1 pc')  (G : Go w K Z EL n0 ss0 Q pc' L (.int (x >>> (y &&& 31)) :: st) h ss k n) : Go w K Z EL n0 ss0 Q pc L (.int y :: .int x :: st) h ss k n := by
  obtain ⟨d1, rfl⟩ := d
  exact Go.plain (fun X t r => XS.ishr X C.1 rfl (hb C.2.1 d1) rfl r) G
theorem iushr (C : Cx w K Z a0 EL own code ml rt mn (Rm rf rc rs rl)) {x y : Int32} (d : Dc code pc .iushr 1 pc')  (G : Go w K Z EL n0 ss0 Q pc' L (.int (ushr x y) :: st) h ss k n) : Go w K Z EL n0 ss0 Q pc L (.int y :: .int x :: st) h ss k n := by
  obtain ⟨d1, rfl⟩ := d
  exact Go.plain (fun X t r => XS.iushr X C.1 rfl (hb C.2.1 d1) rfl r) G
theorem ladd (C : Cx w K Z a0 EL own code ml rt mn (Rm rf rc rs rl)) {x y : Int64} (d : Dc code pc .ladd 1 pc')  (G : Go w K Z EL n0 ss0 Q pc' L (.long (x + y) :: st) h ss k n) : Go w K Z EL n0 ss0 Q pc L (.long y :: .long x :: st) h ss k n := by
  obtain ⟨d1, rfl⟩ := d
  exact Go.plain (fun X t r => XS.ladd X C.1 rfl (hb C.2.1 d1) rfl r) G
theorem lsub (C : Cx w K Z a0 EL own code ml rt mn (Rm rf rc rs rl)) {x y : Int64} (d : Dc code pc .lsub 1 pc')  (G : Go w K Z EL n0 ss0 Q pc' L (.long (x - y) :: st) h ss k n) : Go w K Z EL n0 ss0 Q pc L (.long y :: .long x :: st) h ss k n := by
  obtain ⟨d1, rfl⟩ := d
  exact Go.plain (fun X t r => XS.lsub X C.1 rfl (hb C.2.1 d1) rfl r) G
theorem lmul (C : Cx w K Z a0 EL own code ml rt mn (Rm rf rc rs rl)) {x y : Int64} (d : Dc code pc .lmul 1 pc')  (G : Go w K Z EL n0 ss0 Q pc' L (.long (x * y) :: st) h ss k n) : Go w K Z EL n0 ss0 Q pc L (.long y :: .long x :: st) h ss k n := by
  obtain ⟨d1, rfl⟩ := d
  exact Go.plain (fun X t r => XS.lmul X C.1 rfl (hb C.2.1 d1) rfl r) G
theorem land (C : Cx w K Z a0 EL own code ml rt mn (Rm rf rc rs rl)) {x y : Int64} (d : Dc code pc .land 1 pc')  (G : Go w K Z EL n0 ss0 Q pc' L (.long (x &&& y) :: st) h ss k n) : Go w K Z EL n0 ss0 Q pc L (.long y :: .long x :: st) h ss k n := by
  obtain ⟨d1, rfl⟩ := d
  exact Go.plain (fun X t r => XS.land X C.1 rfl (hb C.2.1 d1) rfl r) G
theorem lor (C : Cx w K Z a0 EL own code ml rt mn (Rm rf rc rs rl)) {x y : Int64} (d : Dc code pc .lor 1 pc')  (G : Go w K Z EL n0 ss0 Q pc' L (.long (x ||| y) :: st) h ss k n) : Go w K Z EL n0 ss0 Q pc L (.long y :: .long x :: st) h ss k n := by
  obtain ⟨d1, rfl⟩ := d
  exact Go.plain (fun X t r => XS.lor X C.1 rfl (hb C.2.1 d1) rfl r) G
theorem lushr (C : Cx w K Z a0 EL own code ml rt mn (Rm rf rc rs rl)) {x : Int64} {y : Int32} (d : Dc code pc .lushr 1 pc')  (G : Go w K Z EL n0 ss0 Q pc' L (.long (ushrL x y) :: st) h ss k n) : Go w K Z EL n0 ss0 Q pc L (.int y :: .long x :: st) h ss k n := by
  obtain ⟨d1, rfl⟩ := d
  exact Go.plain (fun X t r => XS.lushr X C.1 rfl (hb C.2.1 d1) rfl r) G
theorem idiv (C : Cx w K Z a0 EL own code ml rt mn (Rm rf rc rs rl)) {x y : Int32} (d : Dc code pc .idiv 1 pc') (hy : y ≠ 0) (G : Go w K Z EL n0 ss0 Q pc' L (.int (x / y) :: st) h ss k n) : Go w K Z EL n0 ss0 Q pc L (.int y :: .int x :: st) h ss k n := by
  obtain ⟨d1, rfl⟩ := d
  exact Go.plain (fun X t r => XS.idiv X C.1 rfl (hb C.2.1 d1) rfl hy r) G
theorem irem (C : Cx w K Z a0 EL own code ml rt mn (Rm rf rc rs rl)) {x y : Int32} (d : Dc code pc .irem 1 pc') (hy : y ≠ 0) (G : Go w K Z EL n0 ss0 Q pc' L (.int (x % y) :: st) h ss k n) : Go w K Z EL n0 ss0 Q pc L (.int y :: .int x :: st) h ss k n := by
  obtain ⟨d1, rfl⟩ := d
  rw [← irem_mod] at G
  exact Go.plain (fun X t r => XS.irem X C.1 rfl (hb C.2.1 d1) rfl hy r) G
theorem lrem (C : Cx w K Z a0 EL own code ml rt mn (Rm rf rc rs rl)) {x y : Int64} (d : Dc code pc .lrem 1 pc') (hy : y ≠ 0) (G : Go w K Z EL n0 ss0 Q pc' L (.long (x % y) :: st) h ss k n) : Go w K Z EL n0 ss0 Q pc L (.long y :: .long x :: st) h ss k n := by
  obtain ⟨d1, rfl⟩ := d
  rw [← lrem_mod] at G
  exact Go.plain (fun X t r => XS.lrem X C.1 rfl (hb C.2.1 d1) rfl hy r) G
theorem lcmp (C : Cx w K Z a0 EL own code ml rt mn (Rm rf rc rs rl)) {x y : Int64} (d : Dc code pc .lcmp 1 pc')  (G : Go w K Z EL n0 ss0 Q pc' L (.int (lcmpW x y) :: st) h ss k n) : Go w K Z EL n0 ss0 Q pc L (.long y :: .long x :: st) h ss k n := by
  obtain ⟨d1, rfl⟩ := d
  exact Go.plain (fun X t r => XS.lcmp X C.1 rfl (hb C.2.1 d1) rfl r) G
theorem ineg (C : Cx w K Z a0 EL own code ml rt mn (Rm rf rc rs rl)) {x : Int32} (d : Dc code pc .ineg 1 pc')  (G : Go w K Z EL n0 ss0 Q pc' L (.int (-x) :: st) h ss k n) : Go w K Z EL n0 ss0 Q pc L (.int x :: st) h ss k n := by
  obtain ⟨d1, rfl⟩ := d
  exact Go.plain (fun X t r => XS.ineg X C.1 rfl (hb C.2.1 d1) rfl r) G
theorem l2i (C : Cx w K Z a0 EL own code ml rt mn (Rm rf rc rs rl)) {x : Int64} (d : Dc code pc .l2i 1 pc')  (G : Go w K Z EL n0 ss0 Q pc' L (.int x.toInt32 :: st) h ss k n) : Go w K Z EL n0 ss0 Q pc L (.long x :: st) h ss k n := by
  obtain ⟨d1, rfl⟩ := d
  exact Go.plain (fun X t r => XS.l2i X C.1 rfl (hb C.2.1 d1) rfl r) G
theorem i2l (C : Cx w K Z a0 EL own code ml rt mn (Rm rf rc rs rl)) {x : Int32} (d : Dc code pc .i2l 1 pc')  (G : Go w K Z EL n0 ss0 Q pc' L (.long x.toInt64 :: st) h ss k n) : Go w K Z EL n0 ss0 Q pc L (.int x :: st) h ss k n := by
  obtain ⟨d1, rfl⟩ := d
  exact Go.plain (fun X t r => XS.i2l X C.1 rfl (hb C.2.1 d1) rfl r) G
theorem i2c (C : Cx w K Z a0 EL own code ml rt mn (Rm rf rc rs rl)) {x : Int32} (d : Dc code pc .i2c 1 pc')  (G : Go w K Z EL n0 ss0 Q pc' L (.int (nar .char x) :: st) h ss k n) : Go w K Z EL n0 ss0 Q pc L (.int x :: st) h ss k n := by
  obtain ⟨d1, rfl⟩ := d
  exact Go.plain (fun X t r => XS.i2c X C.1 rfl (hb C.2.1 d1) rfl r) G
theorem i2b (C : Cx w K Z a0 EL own code ml rt mn (Rm rf rc rs rl)) {x : Int32} (d : Dc code pc .i2b 1 pc')  (G : Go w K Z EL n0 ss0 Q pc' L (.int (nar .byte x) :: st) h ss k n) : Go w K Z EL n0 ss0 Q pc L (.int x :: st) h ss k n := by
  obtain ⟨d1, rfl⟩ := d
  exact Go.plain (fun X t r => XS.i2b X C.1 rfl (hb C.2.1 d1) rfl r) G
theorem i2s (C : Cx w K Z a0 EL own code ml rt mn (Rm rf rc rs rl)) {x : Int32} (d : Dc code pc .i2s 1 pc')  (G : Go w K Z EL n0 ss0 Q pc' L (.int (nar .short x) :: st) h ss k n) : Go w K Z EL n0 ss0 Q pc L (.int x :: st) h ss k n := by
  obtain ⟨d1, rfl⟩ := d
  exact Go.plain (fun X t r => XS.i2s X C.1 rfl (hb C.2.1 d1) rfl r) G
theorem dup (C : Cx w K Z a0 EL own code ml rt mn (Rm rf rc rs rl)) {x : Value} (d : Dc code pc .dup 1 pc') (hc : x.category = 1) (G : Go w K Z EL n0 ss0 Q pc' L (x :: x :: st) h ss k n) : Go w K Z EL n0 ss0 Q pc L (x :: st) h ss k n := by
  obtain ⟨d1, rfl⟩ := d
  exact Go.plain (fun X t r => XS.dup X C.1 rfl (hb C.2.1 d1) rfl hc r) G
theorem pop (C : Cx w K Z a0 EL own code ml rt mn (Rm rf rc rs rl)) {x : Value} (d : Dc code pc .pop 1 pc') (hc : x.category = 1) (G : Go w K Z EL n0 ss0 Q pc' L st h ss k n) : Go w K Z EL n0 ss0 Q pc L (x :: st) h ss k n := by
  obtain ⟨d1, rfl⟩ := d
  exact Go.plain (fun X t r => XS.pop X C.1 rfl (hb C.2.1 d1) rfl hc r) G
theorem dupX1 (C : Cx w K Z a0 EL own code ml rt mn (Rm rf rc rs rl)) {x y : Value} (d : Dc code pc .dup_x1 1 pc') (hc : x.category = 1) (hc' : y.category = 1) (G : Go w K Z EL n0 ss0 Q pc' L (x :: y :: x :: st) h ss k n) : Go w K Z EL n0 ss0 Q pc L (x :: y :: st) h ss k n := by
  obtain ⟨d1, rfl⟩ := d
  exact Go.plain (fun X t r => XS.dupX1 X C.1 rfl (hb C.2.1 d1) rfl hc hc' r) G
theorem dup2 (C : Cx w K Z a0 EL own code ml rt mn (Rm rf rc rs rl)) {x y : Value} (d : Dc code pc .dup2 1 pc') (hc : x.category = 1) (hc' : y.category = 1) (G : Go w K Z EL n0 ss0 Q pc' L (x :: y :: x :: y :: st) h ss k n) : Go w K Z EL n0 ss0 Q pc L (x :: y :: st) h ss k n := by
  obtain ⟨d1, rfl⟩ := d
  exact Go.plain (fun X t r => XT.dup2 X C.1 rfl (hb C.2.1 d1) rfl hc hc' r) G
theorem aconstNull (C : Cx w K Z a0 EL own code ml rt mn (Rm rf rc rs rl))  (d : Dc code pc .aconst_null 1 pc')  (G : Go w K Z EL n0 ss0 Q pc' L (.null :: st) h ss k n) : Go w K Z EL n0 ss0 Q pc L st h ss k n := by
  obtain ⟨d1, rfl⟩ := d
  exact Go.plain (fun X t r => XS.aconstNull X C.1 rfl (hb C.2.1 d1)  r) G
theorem iconst (C : Cx w K Z a0 EL own code ml rt mn (Rm rf rc rs rl)) {i : Int} {v : Int32} (d : Dc code pc (.iconst i) 1 pc') (hv : Int32.ofInt i = v) (G : Go w K Z EL n0 ss0 Q pc' L (.int v :: st) h ss k n) : Go w K Z EL n0 ss0 Q pc L st h ss k n := by
  obtain ⟨d1, rfl⟩ := d
  subst hv
  exact Go.plain (fun X t r => XS.iconst X C.1 rfl (hb C.2.1 d1) r) G
theorem bipush (C : Cx w K Z a0 EL own code ml rt mn (Rm rf rc rs rl)) {i : Int} {v : Int32} (d : Dc code pc (.bipush i) 2 pc') (hv : (Int8.ofInt i).toInt32 = v) (G : Go w K Z EL n0 ss0 Q pc' L (.int v :: st) h ss k n) : Go w K Z EL n0 ss0 Q pc L st h ss k n := by
  obtain ⟨d1, rfl⟩ := d
  subst hv
  exact Go.plain (fun X t r => XS.bipush X C.1 rfl (hb C.2.1 d1) r) G
theorem sipush (C : Cx w K Z a0 EL own code ml rt mn (Rm rf rc rs rl)) {i : Int} {v : Int32} (d : Dc code pc (.sipush i) 3 pc') (hv : (Int16.ofInt i).toInt32 = v) (G : Go w K Z EL n0 ss0 Q pc' L (.int v :: st) h ss k n) : Go w K Z EL n0 ss0 Q pc L st h ss k n := by
  obtain ⟨d1, rfl⟩ := d
  subst hv
  exact Go.plain (fun X t r => XS.sipush X C.1 rfl (hb C.2.1 d1) r) G
theorem lconst (C : Cx w K Z a0 EL own code ml rt mn (Rm rf rc rs rl)) {i : Fin 2} {v : Int64} (d : Dc code pc (.lconst i) 1 pc') (hv : Int64.ofNat i = v) (G : Go w K Z EL n0 ss0 Q pc' L (.long v :: st) h ss k n) : Go w K Z EL n0 ss0 Q pc L st h ss k n := by
  obtain ⟨d1, rfl⟩ := d
  subst hv
  exact Go.plain (fun X t r => XS.lconst X C.1 rfl (hb C.2.1 d1) r) G
theorem iloadN (C : Cx w K Z a0 EL own code ml rt mn (Rm rf rc rs rl)) {j : Fin 4} {v : Int32} (d : Dc code pc (.iload_n j) 1 pc') (hl : L[j.val]? = some (.val (.int v))) (G : Go w K Z EL n0 ss0 Q pc' L (.int v :: st) h ss k n) : Go w K Z EL n0 ss0 Q pc L st h ss k n := by
  obtain ⟨d1, rfl⟩ := d
  exact Go.plain (fun X t r => XS.iloadN X C.1 rfl (hb C.2.1 d1) hl r) G
theorem iload (C : Cx w K Z a0 EL own code ml rt mn (Rm rf rc rs rl)) {j : Nat} {v : Int32} (d : Dc code pc (.iload j) 2 pc') (hl : L[j]? = some (.val (.int v))) (G : Go w K Z EL n0 ss0 Q pc' L (.int v :: st) h ss k n) : Go w K Z EL n0 ss0 Q pc L st h ss k n := by
  obtain ⟨d1, rfl⟩ := d
  exact Go.plain (fun X t r => XS.iload X C.1 rfl (hb C.2.1 d1) hl r) G
theorem lloadN (C : Cx w K Z a0 EL own code ml rt mn (Rm rf rc rs rl)) {j : Fin 4} {v : Int64} (d : Dc code pc (.lload_n j) 1 pc') (hl : L[j.val]? = some (.val (.long v))) (G : Go w K Z EL n0 ss0 Q pc' L (.long v :: st) h ss k n) : Go w K Z EL n0 ss0 Q pc L st h ss k n := by
  obtain ⟨d1, rfl⟩ := d
  exact Go.plain (fun X t r => XS.lloadN X C.1 rfl (hb C.2.1 d1) hl r) G
theorem lload (C : Cx w K Z a0 EL own code ml rt mn (Rm rf rc rs rl)) {j : Nat} {v : Int64} (d : Dc code pc (.lload j) 2 pc') (hl : L[j]? = some (.val (.long v))) (G : Go w K Z EL n0 ss0 Q pc' L (.long v :: st) h ss k n) : Go w K Z EL n0 ss0 Q pc L st h ss k n := by
  obtain ⟨d1, rfl⟩ := d
  exact Go.plain (fun X t r => XS.lload X C.1 rfl (hb C.2.1 d1) hl r) G
theorem aloadN (C : Cx w K Z a0 EL own code ml rt mn (Rm rf rc rs rl)) {j : Fin 4} {v : Value} (d : Dc code pc (.aload_n j) 1 pc') (hl : L[j.val]? = some (.val v)) (hv : v.isRef = true) (G : Go w K Z EL n0 ss0 Q pc' L (v :: st) h ss k n) : Go w K Z EL n0 ss0 Q pc L st h ss k n := by
  obtain ⟨d1, rfl⟩ := d
  exact Go.plain (fun X t r => XS.aloadN X C.1 rfl (hb C.2.1 d1) hl hv r) G
theorem aload (C : Cx w K Z a0 EL own code ml rt mn (Rm rf rc rs rl)) {j : Nat} {v : Value} (d : Dc code pc (.aload j) 2 pc') (hl : L[j]? = some (.val v)) (hv : v.isRef = true) (G : Go w K Z EL n0 ss0 Q pc' L (v :: st) h ss k n) : Go w K Z EL n0 ss0 Q pc L st h ss k n := by
  obtain ⟨d1, rfl⟩ := d
  exact Go.plain (fun X t r => XS.aload X C.1 rfl (hb C.2.1 d1) hl hv r) G
theorem istoreN (C : Cx w K Z a0 EL own code ml rt mn (Rm rf rc rs rl)) {j : Fin 4} {v : Int32} (d : Dc code pc (.istore_n j) 1 pc') (hl : storeLocals L j (.int v) = some L') (G : Go w K Z EL n0 ss0 Q pc' L' st h ss k n) : Go w K Z EL n0 ss0 Q pc L (.int v :: st) h ss k n := by
  obtain ⟨d1, rfl⟩ := d
  exact Go.plain (fun X t r => XS.istoreN X C.1 rfl (hb C.2.1 d1) rfl hl r) G
theorem istore (C : Cx w K Z a0 EL own code ml rt mn (Rm rf rc rs rl)) {j : Nat} {v : Int32} (d : Dc code pc (.istore j) 2 pc') (hl : storeLocals L j (.int v) = some L') (G : Go w K Z EL n0 ss0 Q pc' L' st h ss k n) : Go w K Z EL n0 ss0 Q pc L (.int v :: st) h ss k n := by
  obtain ⟨d1, rfl⟩ := d
  exact Go.plain (fun X t r => XS.istore X C.1 rfl (hb C.2.1 d1) rfl hl r) G
theorem lstoreN (C : Cx w K Z a0 EL own code ml rt mn (Rm rf rc rs rl)) {j : Fin 4} {v : Int64} (d : Dc code pc (.lstore_n j) 1 pc') (hl : storeLocals L j (.long v) = some L') (G : Go w K Z EL n0 ss0 Q pc' L' st h ss k n) : Go w K Z EL n0 ss0 Q pc L (.long v :: st) h ss k n := by
  obtain ⟨d1, rfl⟩ := d
  exact Go.plain (fun X t r => XS.lstoreN X C.1 rfl (hb C.2.1 d1) rfl hl r) G
theorem lstore (C : Cx w K Z a0 EL own code ml rt mn (Rm rf rc rs rl)) {j : Nat} {v : Int64} (d : Dc code pc (.lstore j) 2 pc') (hl : storeLocals L j (.long v) = some L') (G : Go w K Z EL n0 ss0 Q pc' L' st h ss k n) : Go w K Z EL n0 ss0 Q pc L (.long v :: st) h ss k n := by
  obtain ⟨d1, rfl⟩ := d
  exact Go.plain (fun X t r => XS.lstore X C.1 rfl (hb C.2.1 d1) rfl hl r) G
theorem astoreN (C : Cx w K Z a0 EL own code ml rt mn (Rm rf rc rs rl)) {j : Fin 4} {v : Value} (d : Dc code pc (.astore_n j) 1 pc') (hv : v.isRef = true) (hl : storeLocals L j v = some L') (G : Go w K Z EL n0 ss0 Q pc' L' st h ss k n) : Go w K Z EL n0 ss0 Q pc L (v :: st) h ss k n := by
  obtain ⟨d1, rfl⟩ := d
  exact Go.plain (fun X t r => XS.astoreN X C.1 rfl (hb C.2.1 d1) rfl hv hl r) G
theorem astore (C : Cx w K Z a0 EL own code ml rt mn (Rm rf rc rs rl)) {j : Nat} {v : Value} (d : Dc code pc (.astore j) 2 pc') (hv : v.isRef = true) (hl : storeLocals L j v = some L') (G : Go w K Z EL n0 ss0 Q pc' L' st h ss k n) : Go w K Z EL n0 ss0 Q pc L (v :: st) h ss k n := by
  obtain ⟨d1, rfl⟩ := d
  exact Go.plain (fun X t r => XS.astore X C.1 rfl (hb C.2.1 d1) rfl hv hl r) G
theorem iinc (C : Cx w K Z a0 EL own code ml rt mn (Rm rf rc rs rl)) {j : Nat} {cst : Int} {x y : Int32} (d : Dc code pc (.iinc j cst) 3 pc') (hl : L[j]? = some (.val (.int x))) (hy : x + Int32.ofInt cst = y) (hl' : storeLocals L j (.int y) = some L') (G : Go w K Z EL n0 ss0 Q pc' L' st h ss k n) : Go w K Z EL n0 ss0 Q pc L st h ss k n := by
  obtain ⟨d1, rfl⟩ := d
  subst hy
  exact Go.plain (fun X t r => XS.iinc X C.1 rfl (hb C.2.1 d1) hl hl' r) G
theorem goto_ (C : Cx w K Z a0 EL own code ml rt mn (Rm rf rc rs rl)) {o : Int} (d : Db code pc (.goto o) 3 pc' o pcT) (G : Go w K Z EL n0 ss0 Q pcT L st h ss k n) : Go w K Z EL n0 ss0 Q pc L st h ss k n := by
  obtain ⟨d1, rfl, d3, d4⟩ := d
  exact Go.plain (fun X t r => XS.goto X C.1 rfl rfl (hb C.2.1 d1) d3 d4 r) G
theorem cmp_eq {x y : Int32} (q : x = y) : if_icmp.holds .eq x y = true := by simp [if_icmp.holds, q]
theorem cmp_neq {x y : Int32} (q : ¬ x = y) : if_icmp.holds .eq x y = false := by simp [if_icmp.holds, q]
theorem cmp_ne {x y : Int32} (q : ¬ x = y) : if_icmp.holds .ne x y = true := by simp [if_icmp.holds, q]
theorem cmp_nne {x y : Int32} (q : ¬ ¬ x = y) : if_icmp.holds .ne x y = false := by simp [if_icmp.holds, Classical.not_not.mp q]
theorem cmp_lt {x y : Int32} (q : x < y) : if_icmp.holds .lt x y = true := by simp [if_icmp.holds, q]
theorem cmp_nlt {x y : Int32} (q : ¬ x < y) : if_icmp.holds .lt x y = false := by simp [if_icmp.holds, q]
theorem cmp_ge {x y : Int32} (q : ¬ x < y) : if_icmp.holds .ge x y = true := by simp [if_icmp.holds, Int32.not_lt.mp q]
theorem cmp_nge {x y : Int32} (q : ¬ ¬ x < y) : if_icmp.holds .ge x y = false := by simp [if_icmp.holds, Classical.not_not.mp q]
theorem cmp_gt {x y : Int32} (q : y < x) : if_icmp.holds .gt x y = true := by simp [if_icmp.holds, q]
theorem cmp_ngt {x y : Int32} (q : ¬ y < x) : if_icmp.holds .gt x y = false := by simp [if_icmp.holds, q]
theorem cmp_le {x y : Int32} (q : ¬ y < x) : if_icmp.holds .le x y = true := by simp [if_icmp.holds, Int32.not_lt.mp q]
theorem cmp_nle {x y : Int32} (q : ¬ ¬ y < x) : if_icmp.holds .le x y = false := by simp [if_icmp.holds, Classical.not_not.mp q]
theorem icmp_eq (C : Cx w K Z a0 EL own code ml rt mn (Rm rf rc rs rl)) {x y : Int32} {o : Int} (d : Db code pc (.if_icmp .eq o) 3 pc' o pcT) (G1 : x = y → Go w K Z EL n0 ss0 Q pcT L st h ss k n) (G2 : ¬ x = y → Go w K Z EL n0 ss0 Q pc' L st h ss k n) : Go w K Z EL n0 ss0 Q pc L (.int y :: .int x :: st) h ss k n := by
  obtain ⟨d1, rfl, d3, d4⟩ := d
  by_cases q : x = y
  · exact Go.plain (fun X t r => XS.icmpYes X C.1 rfl rfl (hb C.2.1 d1) rfl (cmp_eq q) d3 d4 r) (G1 q)
  · exact Go.plain (fun X t r => XS.icmpNo X C.1 rfl (hb C.2.1 d1) rfl (cmp_neq q) r) (G2 q)
theorem if_eq (C : Cx w K Z a0 EL own code ml rt mn (Rm rf rc rs rl)) {x : Int32} {o : Int} (d : Db code pc (.ifCond .eq o) 3 pc' o pcT) (G1 : x = (0 : Int32) → Go w K Z EL n0 ss0 Q pcT L st h ss k n) (G2 : ¬ x = (0 : Int32) → Go w K Z EL n0 ss0 Q pc' L st h ss k n) : Go w K Z EL n0 ss0 Q pc L (.int x :: st) h ss k n := by
  obtain ⟨d1, rfl, d3, d4⟩ := d
  by_cases q : x = (0 : Int32)
  · exact Go.plain (fun X t r => XS.ifYes X C.1 rfl rfl (hb C.2.1 d1) rfl ((if0 _ _).trans (cmp_eq q)) d3 d4 r) (G1 q)
  · exact Go.plain (fun X t r => XS.ifNo X C.1 rfl (hb C.2.1 d1) rfl ((if0 _ _).trans (cmp_neq q)) r) (G2 q)
theorem icmp_ne (C : Cx w K Z a0 EL own code ml rt mn (Rm rf rc rs rl)) {x y : Int32} {o : Int} (d : Db code pc (.if_icmp .ne o) 3 pc' o pcT) (G1 : ¬ x = y → Go w K Z EL n0 ss0 Q pcT L st h ss k n) (G2 : x = y → Go w K Z EL n0 ss0 Q pc' L st h ss k n) : Go w K Z EL n0 ss0 Q pc L (.int y :: .int x :: st) h ss k n := by
  obtain ⟨d1, rfl, d3, d4⟩ := d
  by_cases q : ¬ x = y
  · exact Go.plain (fun X t r => XS.icmpYes X C.1 rfl rfl (hb C.2.1 d1) rfl (cmp_ne q) d3 d4 r) (G1 q)
  · exact Go.plain (fun X t r => XS.icmpNo X C.1 rfl (hb C.2.1 d1) rfl (cmp_nne q) r) (G2 (Classical.not_not.mp q))
theorem if_ne (C : Cx w K Z a0 EL own code ml rt mn (Rm rf rc rs rl)) {x : Int32} {o : Int} (d : Db code pc (.ifCond .ne o) 3 pc' o pcT) (G1 : ¬ x = (0 : Int32) → Go w K Z EL n0 ss0 Q pcT L st h ss k n) (G2 : x = (0 : Int32) → Go w K Z EL n0 ss0 Q pc' L st h ss k n) : Go w K Z EL n0 ss0 Q pc L (.int x :: st) h ss k n := by
  obtain ⟨d1, rfl, d3, d4⟩ := d
  by_cases q : ¬ x = (0 : Int32)
  · exact Go.plain (fun X t r => XS.ifYes X C.1 rfl rfl (hb C.2.1 d1) rfl ((if0 _ _).trans (cmp_ne q)) d3 d4 r) (G1 q)
  · exact Go.plain (fun X t r => XS.ifNo X C.1 rfl (hb C.2.1 d1) rfl ((if0 _ _).trans (cmp_nne q)) r) (G2 (Classical.not_not.mp q))
theorem icmp_lt (C : Cx w K Z a0 EL own code ml rt mn (Rm rf rc rs rl)) {x y : Int32} {o : Int} (d : Db code pc (.if_icmp .lt o) 3 pc' o pcT) (G1 : x < y → Go w K Z EL n0 ss0 Q pcT L st h ss k n) (G2 : ¬ x < y → Go w K Z EL n0 ss0 Q pc' L st h ss k n) : Go w K Z EL n0 ss0 Q pc L (.int y :: .int x :: st) h ss k n := by
  obtain ⟨d1, rfl, d3, d4⟩ := d
  by_cases q : x < y
  · exact Go.plain (fun X t r => XS.icmpYes X C.1 rfl rfl (hb C.2.1 d1) rfl (cmp_lt q) d3 d4 r) (G1 q)
  · exact Go.plain (fun X t r => XS.icmpNo X C.1 rfl (hb C.2.1 d1) rfl (cmp_nlt q) r) (G2 q)
theorem if_lt (C : Cx w K Z a0 EL own code ml rt mn (Rm rf rc rs rl)) {x : Int32} {o : Int} (d : Db code pc (.ifCond .lt o) 3 pc' o pcT) (G1 : x < (0 : Int32) → Go w K Z EL n0 ss0 Q pcT L st h ss k n) (G2 : ¬ x < (0 : Int32) → Go w K Z EL n0 ss0 Q pc' L st h ss k n) : Go w K Z EL n0 ss0 Q pc L (.int x :: st) h ss k n := by
  obtain ⟨d1, rfl, d3, d4⟩ := d
  by_cases q : x < (0 : Int32)
  · exact Go.plain (fun X t r => XS.ifYes X C.1 rfl rfl (hb C.2.1 d1) rfl ((if0 _ _).trans (cmp_lt q)) d3 d4 r) (G1 q)
  · exact Go.plain (fun X t r => XS.ifNo X C.1 rfl (hb C.2.1 d1) rfl ((if0 _ _).trans (cmp_nlt q)) r) (G2 q)
theorem icmp_ge (C : Cx w K Z a0 EL own code ml rt mn (Rm rf rc rs rl)) {x y : Int32} {o : Int} (d : Db code pc (.if_icmp .ge o) 3 pc' o pcT) (G1 : ¬ x < y → Go w K Z EL n0 ss0 Q pcT L st h ss k n) (G2 : x < y → Go w K Z EL n0 ss0 Q pc' L st h ss k n) : Go w K Z EL n0 ss0 Q pc L (.int y :: .int x :: st) h ss k n := by
  obtain ⟨d1, rfl, d3, d4⟩ := d
  by_cases q : ¬ x < y
  · exact Go.plain (fun X t r => XS.icmpYes X C.1 rfl rfl (hb C.2.1 d1) rfl (cmp_ge q) d3 d4 r) (G1 q)
  · exact Go.plain (fun X t r => XS.icmpNo X C.1 rfl (hb C.2.1 d1) rfl (cmp_nge q) r) (G2 (Classical.not_not.mp q))
theorem if_ge (C : Cx w K Z a0 EL own code ml rt mn (Rm rf rc rs rl)) {x : Int32} {o : Int} (d : Db code pc (.ifCond .ge o) 3 pc' o pcT) (G1 : ¬ x < (0 : Int32) → Go w K Z EL n0 ss0 Q pcT L st h ss k n) (G2 : x < (0 : Int32) → Go w K Z EL n0 ss0 Q pc' L st h ss k n) : Go w K Z EL n0 ss0 Q pc L (.int x :: st) h ss k n := by
  obtain ⟨d1, rfl, d3, d4⟩ := d
  by_cases q : ¬ x < (0 : Int32)
  · exact Go.plain (fun X t r => XS.ifYes X C.1 rfl rfl (hb C.2.1 d1) rfl ((if0 _ _).trans (cmp_ge q)) d3 d4 r) (G1 q)
  · exact Go.plain (fun X t r => XS.ifNo X C.1 rfl (hb C.2.1 d1) rfl ((if0 _ _).trans (cmp_nge q)) r) (G2 (Classical.not_not.mp q))
theorem icmp_gt (C : Cx w K Z a0 EL own code ml rt mn (Rm rf rc rs rl)) {x y : Int32} {o : Int} (d : Db code pc (.if_icmp .gt o) 3 pc' o pcT) (G1 : y < x → Go w K Z EL n0 ss0 Q pcT L st h ss k n) (G2 : ¬ y < x → Go w K Z EL n0 ss0 Q pc' L st h ss k n) : Go w K Z EL n0 ss0 Q pc L (.int y :: .int x :: st) h ss k n := by
  obtain ⟨d1, rfl, d3, d4⟩ := d
  by_cases q : y < x
  · exact Go.plain (fun X t r => XS.icmpYes X C.1 rfl rfl (hb C.2.1 d1) rfl (cmp_gt q) d3 d4 r) (G1 q)
  · exact Go.plain (fun X t r => XS.icmpNo X C.1 rfl (hb C.2.1 d1) rfl (cmp_ngt q) r) (G2 q)
theorem if_gt (C : Cx w K Z a0 EL own code ml rt mn (Rm rf rc rs rl)) {x : Int32} {o : Int} (d : Db code pc (.ifCond .gt o) 3 pc' o pcT) (G1 : (0 : Int32) < x → Go w K Z EL n0 ss0 Q pcT L st h ss k n) (G2 : ¬ (0 : Int32) < x → Go w K Z EL n0 ss0 Q pc' L st h ss k n) : Go w K Z EL n0 ss0 Q pc L (.int x :: st) h ss k n := by
  obtain ⟨d1, rfl, d3, d4⟩ := d
  by_cases q : (0 : Int32) < x
  · exact Go.plain (fun X t r => XS.ifYes X C.1 rfl rfl (hb C.2.1 d1) rfl ((if0 _ _).trans (cmp_gt q)) d3 d4 r) (G1 q)
  · exact Go.plain (fun X t r => XS.ifNo X C.1 rfl (hb C.2.1 d1) rfl ((if0 _ _).trans (cmp_ngt q)) r) (G2 q)
theorem icmp_le (C : Cx w K Z a0 EL own code ml rt mn (Rm rf rc rs rl)) {x y : Int32} {o : Int} (d : Db code pc (.if_icmp .le o) 3 pc' o pcT) (G1 : ¬ y < x → Go w K Z EL n0 ss0 Q pcT L st h ss k n) (G2 : y < x → Go w K Z EL n0 ss0 Q pc' L st h ss k n) : Go w K Z EL n0 ss0 Q pc L (.int y :: .int x :: st) h ss k n := by
  obtain ⟨d1, rfl, d3, d4⟩ := d
  by_cases q : ¬ y < x
  · exact Go.plain (fun X t r => XS.icmpYes X C.1 rfl rfl (hb C.2.1 d1) rfl (cmp_le q) d3 d4 r) (G1 q)
  · exact Go.plain (fun X t r => XS.icmpNo X C.1 rfl (hb C.2.1 d1) rfl (cmp_nle q) r) (G2 (Classical.not_not.mp q))
theorem if_le (C : Cx w K Z a0 EL own code ml rt mn (Rm rf rc rs rl)) {x : Int32} {o : Int} (d : Db code pc (.ifCond .le o) 3 pc' o pcT) (G1 : ¬ (0 : Int32) < x → Go w K Z EL n0 ss0 Q pcT L st h ss k n) (G2 : (0 : Int32) < x → Go w K Z EL n0 ss0 Q pc' L st h ss k n) : Go w K Z EL n0 ss0 Q pc L (.int x :: st) h ss k n := by
  obtain ⟨d1, rfl, d3, d4⟩ := d
  by_cases q : ¬ (0 : Int32) < x
  · exact Go.plain (fun X t r => XS.ifYes X C.1 rfl rfl (hb C.2.1 d1) rfl ((if0 _ _).trans (cmp_le q)) d3 d4 r) (G1 q)
  · exact Go.plain (fun X t r => XS.ifNo X C.1 rfl (hb C.2.1 d1) rfl ((if0 _ _).trans (cmp_nle q)) r) (G2 (Classical.not_not.mp q))
theorem ifnullY (C : Cx w K Z a0 EL own code ml rt mn (Rm rf rc rs rl)) {b : Addr} {o : Int} (d : Db code pc (.ifnull o) 3 pc' o pcT) (G : Go w K Z EL n0 ss0 Q pcT L st h ss k n) : Go w K Z EL n0 ss0 Q pc L (.null :: st) h ss k n := by
  obtain ⟨d1, rfl, d3, d4⟩ := d
  exact Go.plain (fun X t r => XS.ifnullYes X C.1 rfl rfl (hb C.2.1 d1) rfl d3 d4 r) G
theorem ifnullN (C : Cx w K Z a0 EL own code ml rt mn (Rm rf rc rs rl)) {b : Addr} {o : Int} (d : Db code pc (.ifnull o) 3 pc' o pcT) (G : Go w K Z EL n0 ss0 Q pc' L st h ss k n) : Go w K Z EL n0 ss0 Q pc L (.ref b :: st) h ss k n := by
  obtain ⟨d1, rfl, d3, d4⟩ := d
  exact Go.plain (fun X t r => XS.ifnullNo X C.1 rfl (hb C.2.1 d1) rfl r) G
theorem ifnonnullY (C : Cx w K Z a0 EL own code ml rt mn (Rm rf rc rs rl)) {b : Addr} {o : Int} (d : Db code pc (.ifnonnull o) 3 pc' o pcT) (G : Go w K Z EL n0 ss0 Q pcT L st h ss k n) : Go w K Z EL n0 ss0 Q pc L (.ref b :: st) h ss k n := by
  obtain ⟨d1, rfl, d3, d4⟩ := d
  exact Go.plain (fun X t r => XS.ifnonnullYes X C.1 rfl rfl (hb C.2.1 d1) rfl d3 d4 r) G
theorem ifnonnullN (C : Cx w K Z a0 EL own code ml rt mn (Rm rf rc rs rl)) {b : Addr} {o : Int} (d : Db code pc (.ifnonnull o) 3 pc' o pcT) (G : Go w K Z EL n0 ss0 Q pc' L st h ss k n) : Go w K Z EL n0 ss0 Q pc L (.null :: st) h ss k n := by
  obtain ⟨d1, rfl, d3, d4⟩ := d
  exact Go.plain (fun X t r => XS.ifnonnullNo X C.1 rfl (hb C.2.1 d1) rfl r) G
theorem acmp_eq (C : Cx w K Z a0 EL own code ml rt mn (Rm rf rc rs rl)) {x y : Value} (hx : x.isRef = true) (hy : y.isRef = true) {o : Int} (d : Db code pc (.if_acmp .eq o) 3 pc' o pcT) (G1 : x = y → Go w K Z EL n0 ss0 Q pcT L st h ss k n) (G2 : ¬ x = y → Go w K Z EL n0 ss0 Q pc' L st h ss k n) : Go w K Z EL n0 ss0 Q pc L (y :: x :: st) h ss k n := by
  obtain ⟨d1, rfl, d3, d4⟩ := d
  by_cases q : x = y
  · refine Go.same C (fun X _ _ _ _ => ⟨_, X, ‹_›, fun t r => RoadKit.acmp (g := mkF K.m pc L (y :: x :: st)) X C.1 rfl hx hy (same := true) rfl (hb C.2.1 d1) rfl (decide_eq_true q) d3 (pc' := pcT) (by rw [← d4]; rfl) r⟩) (G1 q)
  · refine Go.same C (fun X _ _ _ _ => ⟨_, X, ‹_›, fun t r => RoadKit.acmp (g := mkF K.m pc L (y :: x :: st)) X C.1 rfl hx hy (same := false) rfl (hb C.2.1 d1) rfl (decide_eq_false q) d3 (pc' := pc + 3) rfl r⟩) (G2 q)
theorem acmp_ne (C : Cx w K Z a0 EL own code ml rt mn (Rm rf rc rs rl)) {x y : Value} (hx : x.isRef = true) (hy : y.isRef = true) {o : Int} (d : Db code pc (.if_acmp .ne o) 3 pc' o pcT) (G1 : ¬ x = y → Go w K Z EL n0 ss0 Q pcT L st h ss k n) (G2 : x = y → Go w K Z EL n0 ss0 Q pc' L st h ss k n) : Go w K Z EL n0 ss0 Q pc L (y :: x :: st) h ss k n := by
  obtain ⟨d1, rfl, d3, d4⟩ := d
  by_cases q : x = y
  · refine Go.same C (fun X _ _ _ _ => ⟨_, X, ‹_›, fun t r => RoadKit.acmp (g := mkF K.m pc L (y :: x :: st)) X C.1 rfl hx hy (same := true) rfl (hb C.2.1 d1) rfl (decide_eq_true q) d3 (pc' := pc + 3) rfl r⟩) (G2 q)
  · refine Go.same C (fun X _ _ _ _ => ⟨_, X, ‹_›, fun t r => RoadKit.acmp (g := mkF K.m pc L (y :: x :: st)) X C.1 rfl hx hy (same := false) rfl (hb C.2.1 d1) rfl (decide_eq_false q) d3 (pc' := pcT) (by rw [← d4]; rfl) r⟩) (G1 q)
theorem ldcI (C : Cx w K Z a0 EL own code ml rt mn (Rm rf rc rs rl)) {i : Nat} {v : Int32} (wc : (Cond.constant own i v).before a0 Z = true) (d : Dc code pc (.ldc i) 2 pc') (G : Go w K Z EL n0 ss0 Q pc' L (.int v :: st) h ss k n) : Go w K Z EL n0 ss0 Q pc L st h ss k n := by
  obtain ⟨d1, rfl⟩ := d
  exact Go.same C (fun X e hZ hown _ => ⟨_, X, e, X.ldcInt C.1 hown (mvT hZ wc) (g := mkF K.m pc L st) rfl (hb C.2.1 d1)⟩) G
theorem ldcwI (C : Cx w K Z a0 EL own code ml rt mn (Rm rf rc rs rl)) {i : Nat} {v : Int32} (wc : (Cond.constant own i v).before a0 Z = true) (d : Dc code pc (.ldc_w i) 3 pc') (G : Go w K Z EL n0 ss0 Q pc' L (.int v :: st) h ss k n) : Go w K Z EL n0 ss0 Q pc L st h ss k n := by
  obtain ⟨d1, rfl⟩ := d
  exact Go.same C (fun X e hZ hown _ => ⟨_, X, e, X.ldcwInt C.1 hown (mvT hZ wc) (g := mkF K.m pc L st) rfl (hb C.2.1 d1)⟩) G
theorem ldc2J (C : Cx w K Z a0 EL own code ml rt mn (Rm rf rc rs rl)) {i : Nat} {v : Int64} (wc : (Cond.constantLong own i v).before a0 Z = true) (d : Dc code pc (.ldc2_w i) 3 pc') (G : Go w K Z EL n0 ss0 Q pc' L (.long v :: st) h ss k n) : Go w K Z EL n0 ss0 Q pc L st h ss k n := by
  obtain ⟨d1, rfl⟩ := d
  exact Go.same C (fun X e hZ hown _ => ⟨_, X, e, X.ldc2Long C.1 hown (mvT hZ wc) (g := mkF K.m pc L st) rfl (hb C.2.1 d1)⟩) G
theorem getF_ (C : Cx w K Z a0 EL own code ml rt mn (Rm rf rc rs rl)) {i : Nat} {O f D : String} {a : Addr} {v : Value} (wl : (Cond.fieldLink own i O f D).before a0 Z = true) (F : Fld Z h a O f D v) (d : Dc code pc (.getfield i) 3 pc') (G : Go w K Z EL n0 ss0 Q pc' L (v :: st) h ss k n) : Go w K Z EL n0 ss0 Q pc L (.ref a :: st) h ss k n := by
  obtain ⟨d1, rfl⟩ := d
  exact Go.same C (fun X e hZ hown _ => getF X C.1 hZ hown (host := "") (Or.inl wl) Via.refl e F (g := mkF K.m pc L (.ref a :: st)) rfl rfl (hb C.2.1 d1)) G
theorem getS_ (C : Cx w K Z a0 EL own code ml rt mn (Rm rf rc rs rl)) {i : Nat} {O f D : String} {v : Value} (wl : (Cond.fieldLink own i O f D).before a0 Z = true) (F : Sta Z Z.heap O f D v) (d : Dc code pc (.getstatic i) 3 pc') (G : Go w K Z EL n0 ss0 Q pc' L (v :: st) h ss k n) : Go w K Z EL n0 ss0 Q pc L st h ss k n := by
  obtain ⟨d1, rfl⟩ := d
  exact Go.same C (fun X e hZ hown E => getS X C.1 hZ hown (host := "") wl Via.refl e (F.ext E) (g := mkF K.m pc L st) rfl (hb C.2.1 d1)) G
theorem cast_ (C : Cx w K Z a0 EL own code ml rt mn (Rm rf rc rs rl)) {i : Nat} {O : String} {a : Addr} (wl : (Cond.classLink own i O).before a0 Z = true) (F : Ins Z h a O true) (d : Dc code pc (.checkcast i) 3 pc') (G : Go w K Z EL n0 ss0 Q pc' L (.ref a :: st) h ss k n) : Go w K Z EL n0 ss0 Q pc L (.ref a :: st) h ss k n := by
  obtain ⟨d1, rfl⟩ := d
  exact Go.same C (fun X e hZ hown _ => castY X C.1 hZ hown wl e F (g := mkF K.m pc L (.ref a :: st)) rfl rfl (hb C.2.1 d1)) G
theorem instY_ (C : Cx w K Z a0 EL own code ml rt mn (Rm rf rc rs rl)) {i : Nat} {O : String} {a : Addr} (wl : (Cond.classLink own i O).before a0 Z = true) (F : Ins Z h a O true) (d : Dc code pc (.instanceof i) 3 pc') (G : Go w K Z EL n0 ss0 Q pc' L (.int 1 :: st) h ss k n) : Go w K Z EL n0 ss0 Q pc L (.ref a :: st) h ss k n := by
  obtain ⟨d1, rfl⟩ := d
  exact Go.same C (fun X e hZ hown _ => instY X C.1 hZ hown wl e F (g := mkF K.m pc L (.ref a :: st)) rfl rfl (hb C.2.1 d1)) G
theorem instN_ (C : Cx w K Z a0 EL own code ml rt mn (Rm rf rc rs rl)) {i : Nat} {O O' : String} {a : Addr} (wl : (Cond.classLink own i O).before a0 Z = true) (E : Exa Z h a O') (F : ∃ c t, Z.vm.findClass O' = some c ∧ Z.vm.findClass O = some t ∧ Z.vm.assignable c t = false) (d : Dc code pc (.instanceof i) 3 pc') (G : Go w K Z EL n0 ss0 Q pc' L (.int 0 :: st) h ss k n) : Go w K Z EL n0 ss0 Q pc L (.ref a :: st) h ss k n := by
  obtain ⟨d1, rfl⟩ := d
  exact Go.same C (fun X e hZ hown _ => instNo X C.1 hZ hown wl e E F (g := mkF K.m pc L (.ref a :: st)) rfl rfl (hb C.2.1 d1)) G
theorem inst0_ (C : Cx w K Z a0 EL own code ml rt mn (Rm rf rc rs rl)) {i : Nat} {O : String} (wl : (Cond.classLink own i O).before a0 Z = true) (d : Dc code pc (.instanceof i) 3 pc') (G : Go w K Z EL n0 ss0 Q pc' L (.int 0 :: st) h ss k n) : Go w K Z EL n0 ss0 Q pc L (.null :: st) h ss k n := by
  obtain ⟨d1, rfl⟩ := d
  exact Go.same C (fun X e hZ hown _ => ⟨_, X, e, X.instanceofNull C.1 (g := mkF K.m pc L (.null :: st)) rfl rfl (hb C.2.1 d1)⟩) G
/-- the array at a holds just vs -/
def Ary (Z : State) (h : Heap) (a : Addr) (ty : FieldType) (vs : List Value) : Prop := ∃ c : Cell, Arr Z h a c ty ∧ c.slots = vs.toArray ∧ vs.length < 2 ^ 31
theorem Ary.keep {a : Addr} {ty : FieldType} {vs : List Value} {ws : List Addr} (F : Ary Z h a ty vs) (K : Keep h h' ws) (q : a ∉ ws) : Ary Z h' a ty vs := by
  obtain ⟨c, A, r⟩ := F; exact ⟨c, ⟨K.2.1 a c A.1 q, A.2⟩, r⟩
theorem Ary.lt {a : Addr} {ty : FieldType} {vs : List Value} (F : Ary Z h a ty vs) : a < h.size := by obtain ⟨c, A, -⟩ := F; exact A.lt
theorem Ary.set {a : Addr} {ty : FieldType} {vs : List Value} {i : Nat} {v : Value} (F : Ary Z h a ty vs) (W : Wr h h' a i v) : Ary Z h' a ty (vs.set i v) := by
  obtain ⟨c, A, e, l⟩ := F
  exact ⟨_, A.same W, by simp [Cell.setSlot, e], by simpa using l⟩
theorem Ary.new {a : Addr} {ty : FieldType} {cA : ClassId} {x : Int32} (A : Arr Z h a (newA cA ty x) ty) : Ary Z h a ty (List.replicate x.toNatClampNeg (defaultValue ty)) := ⟨_, A, by simp [newA], by
  have := rng32 x
  simp only [List.length_replicate, Int32.toNatClampNeg]; omega⟩
theorem newarr (C : Cx w K Z a0 EL own code ml rt mn (Rm rf rc rs rl)) {aty : ArrayType} {x : Int32} (wa : (Cond.arrayClass (newarray.typeOf aty)).before a0 Z = true) (hx : ¬ x < 0) (cap : Nat) (hcap : x.toNatClampNeg ≤ cap) (hb8 : cap * 8 ≤ 536870912) (hc : k + 1 ≤ rc) (hl : n + cap ≤ rs) (d : Dc code pc (.newarray aty) 2 pc') (G : ∀ h', Keep h h' [] → h.size < h'.size → n0 ≤ h.size → Ary Z h' h.size (newarray.typeOf aty) (List.replicate x.toNatClampNeg (defaultValue (newarray.typeOf aty))) → Go w K Z EL n0 ss0 Q pc' L (.ref h.size :: st) h' (h.size :: ss) (k + 1) (n + cap)) : Go w K Z EL n0 ss0 Q pc L (.int x :: st) h ss k n := by
  obtain ⟨d1, rfl⟩ := d
  have hR : K.R = Rm rf rc rs rl := C.2.2.2.2.2.2.2.1
  refine Go.grow C (dk := 1) (dn := cap) (P := fun h' => Ary Z h' h.size (newarray.typeOf aty) (List.replicate x.toNatClampNeg (defaultValue (newarray.typeOf aty)))) (fun _ q => q.lt) (fun X e hZ hown => ?_) G
  obtain ⟨T', h', cA, X', e', E, A, r⟩ := newP X C.1 hZ wa e (g := mkF K.m pc L (.int x :: st)) rfl (hb C.2.1 d1) rfl hx hcap hb8 (by rw [hR]; exact hc) (by rw [hR]; exact hl)
  exact ⟨T', h', X', e', E, Ary.new A, r⟩
theorem castore_ (C : Cx w K Z a0 EL own code ml rt mn (Rm rf rc rs rl)) {a : Addr} {j x : Int32} {vs : List Value} (A : Ary Z h a .char vs) (i : Nat) (hj : j.toInt = i) (hi : i < vs.length) (ha : a ∈ ss) (d : Dc code pc .castore 1 pc') (G : ∀ h', Wr h h' a i (.int (nar .char x)) → Ary Z h' a .char (vs.set i (.int (nar .char x))) → Go w K Z EL n0 ss0 Q pc' L st h' ss k n) : Go w K Z EL n0 ss0 Q pc L (.int x :: .int j :: .ref a :: st) h ss k n := by
  obtain ⟨d1, rfl⟩ := d
  have A' := A
  obtain ⟨c, A, e, l⟩ := A
  have ej : j.toNatClampNeg = i := by simp [Int32.toNatClampNeg, hj]
  subst ej
  refine Go.write C ha (fun X eT hZ hown => stC X C.1 hZ eT A (j := j) ?_ (g := mkF K.m pc L (.int x :: .int j :: .ref a :: st)) rfl rfl (hb C.2.1 d1)) (fun h' W => G h' W (A'.set W))
  rintro (q | q)
  · rw [Int32.lt_iff_toInt_lt, hj] at q; have : (0 : Int32).toInt = 0 := rfl; omega
  · rw [e] at q; simp at q; omega
theorem bastore_ (C : Cx w K Z a0 EL own code ml rt mn (Rm rf rc rs rl)) {a : Addr} {j x : Int32} {vs : List Value} (A : Ary Z h a .byte vs) (i : Nat) (hj : j.toInt = i) (hi : i < vs.length) (ha : a ∈ ss) (d : Dc code pc .bastore 1 pc') (G : ∀ h', Wr h h' a i (.int (nar .byte x)) → Ary Z h' a .byte (vs.set i (.int (nar .byte x))) → Go w K Z EL n0 ss0 Q pc' L st h' ss k n) : Go w K Z EL n0 ss0 Q pc L (.int x :: .int j :: .ref a :: st) h ss k n := by
  obtain ⟨d1, rfl⟩ := d
  have A' := A
  obtain ⟨c, A, e, l⟩ := A
  have ej : j.toNatClampNeg = i := by simp [Int32.toNatClampNeg, hj]
  subst ej
  refine Go.write C ha (fun X eT hZ hown => stB X C.1 hZ eT A (j := j) ?_ (g := mkF K.m pc L (.int x :: .int j :: .ref a :: st)) rfl rfl (hb C.2.1 d1)) (fun h' W => G h' W (A'.set W))
  rintro (q | q)
  · rw [Int32.lt_iff_toInt_lt, hj] at q; have : (0 : Int32).toInt = 0 := rfl; omega
  · rw [e] at q; simp at q; omega
theorem caload_ (C : Cx w K Z a0 EL own code ml rt mn (Rm rf rc rs rl)) {a : Addr} {j : Int32} {v : Value} {vs : List Value} (A : Ary Z h a .char vs) (i : Nat) (hj : j.toInt = i) (hv : vs[i]? = some v) (d : Dc code pc .caload 1 pc') (G : Go w K Z EL n0 ss0 Q pc' L (v :: st) h ss k n) : Go w K Z EL n0 ss0 Q pc L (.int j :: .ref a :: st) h ss k n := by
  obtain ⟨d1, rfl⟩ := d
  obtain ⟨c, A, e, l⟩ := A
  have ej : j.toNatClampNeg = i := by simp [Int32.toNatClampNeg, hj]
  have hi : i < vs.length := (List.getElem?_eq_some_iff.mp hv).1
  subst ej
  refine Go.same C (fun X eT hZ hown _ => ⟨_, X, eT, X.caload C.1 (j := j) (v := v) (by rw [eT]; exact A.1) (State.isArrayOf_alike hZ.alike A.2.1) A.2.2 ?_ (by rw [e]; simpa using hv) (g := mkF K.m pc L (.int j :: .ref a :: st)) rfl rfl (hb C.2.1 d1)⟩) G
  rintro (q | q)
  · rw [Int32.lt_iff_toInt_lt, hj] at q; have : (0 : Int32).toInt = 0 := rfl; omega
  · rw [e] at q; simp at q; omega
theorem baload_ (C : Cx w K Z a0 EL own code ml rt mn (Rm rf rc rs rl)) {a : Addr} {j : Int32} {v : Value} {vs : List Value} (A : Ary Z h a .byte vs) (i : Nat) (hj : j.toInt = i) (hv : vs[i]? = some v) (d : Dc code pc .baload 1 pc') (G : Go w K Z EL n0 ss0 Q pc' L (v :: st) h ss k n) : Go w K Z EL n0 ss0 Q pc L (.int j :: .ref a :: st) h ss k n := by
  obtain ⟨d1, rfl⟩ := d
  obtain ⟨c, A, e, l⟩ := A
  have ej : j.toNatClampNeg = i := by simp [Int32.toNatClampNeg, hj]
  have hi : i < vs.length := (List.getElem?_eq_some_iff.mp hv).1
  subst ej
  refine Go.same C (fun X eT hZ hown _ => ⟨_, X, eT, X.baloadBytes C.1 (j := j) (v := v) (by rw [eT]; exact A.1) (State.isArrayOf_alike hZ.alike A.2.1) A.2.2 ?_ (by rw [e]; simpa using hv) (g := mkF K.m pc L (.int j :: .ref a :: st)) rfl rfl (hb C.2.1 d1)⟩) G
  rintro (q | q)
  · rw [Int32.lt_iff_toInt_lt, hj] at q; have : (0 : Int32).toInt = 0 := rfl; omega
  · rw [e] at q; simp at q; omega
theorem iaload_ (C : Cx w K Z a0 EL own code ml rt mn (Rm rf rc rs rl)) {a : Addr} {j : Int32} {v : Value} {vs : List Value} (A : Ary Z h a .int vs) (i : Nat) (hj : j.toInt = i) (hv : vs[i]? = some v) (d : Dc code pc .iaload 1 pc') (G : Go w K Z EL n0 ss0 Q pc' L (v :: st) h ss k n) : Go w K Z EL n0 ss0 Q pc L (.int j :: .ref a :: st) h ss k n := by
  obtain ⟨d1, rfl⟩ := d
  obtain ⟨c, A, e, l⟩ := A
  have ej : j.toNatClampNeg = i := by simp [Int32.toNatClampNeg, hj]
  have hi : i < vs.length := (List.getElem?_eq_some_iff.mp hv).1
  subst ej
  refine Go.same C (fun X eT hZ hown _ => ⟨_, X, eT, X.iaload C.1 (j := j) (v := v) (by rw [eT]; exact A.1) (State.isArrayOf_alike hZ.alike A.2.1) A.2.2 ?_ (by rw [e]; simpa using hv) (g := mkF K.m pc L (.int j :: .ref a :: st)) rfl rfl (hb C.2.1 d1)⟩) G
  rintro (q | q)
  · rw [Int32.lt_iff_toInt_lt, hj] at q; have : (0 : Int32).toInt = 0 := rfl; omega
  · rw [e] at q; simp at q; omega
theorem arrlen (C : Cx w K Z a0 EL own code ml rt mn (Rm rf rc rs rl)) {a : Addr} {ty : FieldType} {vs : List Value} (A : Ary Z h a ty vs) {z : Int32} (hz : z.toInt = vs.length) (d : Dc code pc .arraylength 1 pc') (G : Go w K Z EL n0 ss0 Q pc' L (.int z :: st) h ss k n) : Go w K Z EL n0 ss0 Q pc L (.ref a :: st) h ss k n := by
  obtain ⟨d1, rfl⟩ := d
  obtain ⟨c, A, e, l⟩ := A
  have ez : c.slots.size.toInt32 = z := by
    rw [← Int32.toInt_inj, hz, len_toInt (by rw [e]; simpa using l), e]; simp
  refine Go.same C (fun X eT hZ hown _ => ⟨_, X, eT, fun t r => X.arraylength C.1 (by rw [eT]; exact A.1) (State.isArrayOf_alike hZ.alike A.2.1) (g := mkF K.m pc L (.ref a :: st)) rfl rfl (hb C.2.1 d1) t (by rw [ez]; exact r)⟩) G
theorem new_ (C : Cx w K Z a0 EL own code ml rt mn (Rm rf rc rs rl)) {i : Nat} {O : String} {nn : Nat} (wl : (Cond.classLink own i O).before a0 Z = true) (wi : (Cond.instantiable O nn).before a0 Z = true) (wz : (Cond.initialized O).before a0 Z = true) (hc : k + 1 ≤ rc) (hl : n + nn ≤ rs) (d : Dc code pc (.new i) 3 pc')
    (G : ∀ h', Keep h h' [] → h.size < h'.size → n0 ≤ h.size → (Exa Z h' h.size O ∧ ∀ {O' nm d : String} {ty : FieldType}, Laid Z a0 O O' nm d → parseFieldDescriptor d = some ty → Fld Z h' h.size O' nm d (defaultValue ty)) → Go w K Z EL n0 ss0 Q pc' L (.ref h.size :: st) h' (h.size :: ss) (k + 1) (n + nn)) : Go w K Z EL n0 ss0 Q pc L st h ss k n := by
  obtain ⟨d1, rfl⟩ := d
  have hR : K.R = Rm rf rc rs rl := C.2.2.2.2.2.2.2.1
  refine Go.grow C (dk := 1) (dn := nn) (P := fun h' => Exa Z h' h.size O ∧ ∀ {O' nm d : String} {ty : FieldType}, Laid Z a0 O O' nm d → parseFieldDescriptor d = some ty → Fld Z h' h.size O' nm d (defaultValue ty)) (fun _ q => q.1.lt) (fun X e hZ hown => ?_) G
  obtain ⟨T', h', X', e', E, A, D, -, r⟩ := newO X C.1 hZ hown wl wi wz e (g := mkF K.m pc L st) rfl (hb C.2.1 d1) (by rw [hR]; exact hc) (by rw [hR]; exact hl)
  exact ⟨T', h', X', e', E, ⟨A, D⟩, r⟩
theorem putF_ (C : Cx w K Z a0 EL own code ml rt mn (Rm rf rc rs rl)) {i kk : Nat} {O f D O' : String} {a : Addr} {v v' old : Value} {ty : FieldType} (wl : (Cond.fieldLink own i O f D).before a0 Z = true) (F : Fld Z h a O f D old) (E : Exa Z h a O') (Ly : (Cond.lays O' O f D).before a0 Z = true ∨ ((Cond.laysFinal O' O f D).before a0 Z = true ∧ own = O ∧ mn = "<init>")) (wi : (Cond.instantiable O' kk).before a0 Z = true)
    (hty : parseFieldDescriptor D = some ty) (hn : narrow ty v = v') (hf : fits ty v' = true) (ha : a ∈ ss) (d : Dc code pc (.putfield i) 3 pc')
    (G : ∀ h', Wr h h' a (RoadKit.slotOf Z O f D) v' → Go w K Z EL n0 ss0 Q pc' L st h' ss k n) : Go w K Z EL n0 ss0 Q pc L (v :: .ref a :: st) h ss k n := by
  obtain ⟨d1, rfl⟩ := d
  have hm : K.meth.name = mn := C.2.2.2.2.2.2.1
  exact Go.write C ha (fun X eT hZ hown => putFN X C.1 hZ hown wl Via.refl eT F E (Ly.imp id fun q => ⟨q.1, q.2.1, hm.trans q.2.2⟩) wi hty hn hf (g := mkF K.m pc L (v :: .ref a :: st)) rfl rfl (hb C.2.1 d1)) G
theorem initO_ (C : Cx w K Z a0 EL own code ml rt mn (Rm rf rc rs rl)) {i : Nat} {a : Addr} (w1 : (Cond.methodLink own i Lib.objectInit).before a0 Z = true) (w2 : (Cond.instanceMethod Lib.objectInit).before a0 Z = true) (w3 : (Cond.code Lib.objectInit ⟨#[0xb1]⟩ 1 none).before a0 Z = true) (hL : L.size = ml) (hf : 1 ≤ rf) (hlo : (st.map fun v => v.category).sum + 12 ≤ rl) (d : Dc code pc (.invokespecial i) 3 pc') (G : Go w K Z EL n0 ss0 Q pc' L st h ss k n) : Go w K Z EL n0 ss0 Q pc L (.ref a :: st) h ss k n := by
  obtain ⟨d1, rfl⟩ := d
  have hR : K.R = Rm rf rc rs rl := C.2.2.2.2.2.2.2.1
  exact Go.same C (fun X e hZ hown _ => initO X C.1 hZ hown w1 w2 w3 e (g := mkF K.m pc L (.ref a :: st)) rfl (hL.trans C.2.2.1.symm) rfl (hb C.2.1 d1) (by rw [hR]; exact hf) (W := (st.map fun v => v.category).sum) (by show 2 * 0 + _ ≤ _; omega) (by rw [hR]; exact hlo)) G
theorem retZ (C : Cx w K Z a0 EL own code ml (some .boolean) mn (Rm rf rc rs rl)) {z : Int32} {gs : List Addr} (d : Dc code pc .ireturn 1 pc') (hc : k ≤ rc) (hn : n ≤ rs) (hg : ∀ x ∈ gs, x ∈ ss) (hQ : Q (some (.int (nar .boolean z))) h gs) : Go w K Z EL n0 ss0 Q pc L (.int z :: st) h ss k n := by
  obtain ⟨d1, rfl⟩ := d
  exact Go.leave C nofun (fun X _ r => retN X C.1 (t := .boolean) C.2.2.2.2.1 (by simp) (hb C.2.1 d1) r) hQ hg hc hn
theorem retB (C : Cx w K Z a0 EL own code ml (some .byte) mn (Rm rf rc rs rl)) {z : Int32} {gs : List Addr} (d : Dc code pc .ireturn 1 pc') (hc : k ≤ rc) (hn : n ≤ rs) (hg : ∀ x ∈ gs, x ∈ ss) (hQ : Q (some (.int (nar .byte z))) h gs) : Go w K Z EL n0 ss0 Q pc L (.int z :: st) h ss k n := by
  obtain ⟨d1, rfl⟩ := d
  exact Go.leave C nofun (fun X _ r => retN X C.1 (t := .byte) C.2.2.2.2.1 (by simp) (hb C.2.1 d1) r) hQ hg hc hn
theorem retC (C : Cx w K Z a0 EL own code ml (some .char) mn (Rm rf rc rs rl)) {z : Int32} {gs : List Addr} (d : Dc code pc .ireturn 1 pc') (hc : k ≤ rc) (hn : n ≤ rs) (hg : ∀ x ∈ gs, x ∈ ss) (hQ : Q (some (.int (nar .char z))) h gs) : Go w K Z EL n0 ss0 Q pc L (.int z :: st) h ss k n := by
  obtain ⟨d1, rfl⟩ := d
  exact Go.leave C nofun (fun X _ r => retN X C.1 (t := .char) C.2.2.2.2.1 (by simp) (hb C.2.1 d1) r) hQ hg hc hn
theorem retS (C : Cx w K Z a0 EL own code ml (some .short) mn (Rm rf rc rs rl)) {z : Int32} {gs : List Addr} (d : Dc code pc .ireturn 1 pc') (hc : k ≤ rc) (hn : n ≤ rs) (hg : ∀ x ∈ gs, x ∈ ss) (hQ : Q (some (.int (nar .short z))) h gs) : Go w K Z EL n0 ss0 Q pc L (.int z :: st) h ss k n := by
  obtain ⟨d1, rfl⟩ := d
  exact Go.leave C nofun (fun X _ r => retN X C.1 (t := .short) C.2.2.2.2.1 (by simp) (hb C.2.1 d1) r) hQ hg hc hn
theorem retI_ (C : Cx w K Z a0 EL own code ml (some .int) mn (Rm rf rc rs rl)) {z : Int32} {gs : List Addr} (d : Dc code pc .ireturn 1 pc') (hc : k ≤ rc) (hn : n ≤ rs) (hg : ∀ x ∈ gs, x ∈ ss) (hQ : Q (some (.int z)) h gs) : Go w K Z EL n0 ss0 Q pc L (.int z :: st) h ss k n := by
  obtain ⟨d1, rfl⟩ := d
  refine Go.leave C nofun (fun {T vm0 locs} X {fs} hr => ?_) hQ hg hc hn
  have hret : K.meth.sig.returnType = some .int := C.2.2.2.2.1
  have hx := C.1
  have hm' := X.method'
  have hnn : narrow .int (.int z) = .int z := rfl
  have hd := hb C.2.1 d1
  show Steps K.p.tables K.e K.below (T.setTop { method := K.m, pc := pc, locals := L, stack := _ :: st, locked := none }) _
  jvm_step X.here [X.here.top, hx, hd, hm', hret, hnn]
  first | (intro acts; rw [hr _ acts rfl rfl rfl]) | rw [hr _ _ rfl rfl rfl]
  exact Steps.refl _
theorem retA {ty : FieldType} (C : Cx w K Z a0 EL own code ml (some ty) mn (Rm rf rc rs rl)) {v : Value} {gs : List Addr} (hty : ty.isReference = true) (hv : v.isRef = true) (d : Dc code pc .areturn 1 pc') (hc : k ≤ rc) (hn : n ≤ rs) (hg : ∀ x ∈ gs, x ∈ ss) (hQ : Q (some v) h gs) : Go w K Z EL n0 ss0 Q pc L (v :: st) h ss k n := by
  obtain ⟨d1, rfl⟩ := d
  refine Go.leave C nofun (fun {T vm0 locs} X {fs} hr => ?_) hQ hg hc hn
  have hret : K.meth.sig.returnType = some ty := C.2.2.2.2.1
  have hx := C.1
  have hm' := X.method'
  have hd := hb C.2.1 d1
  show Steps K.p.tables K.e K.below (T.setTop { method := K.m, pc := pc, locals := L, stack := _ :: st, locked := none }) _
  jvm_step X.here [X.here.top, hx, hd, hm', hret, hv, hty]
  first | (intro acts; rw [hr _ acts rfl rfl rfl]) | rw [hr _ _ rfl rfl rfl]
  exact Steps.refl _
theorem retV (C : Cx w K Z a0 EL own code ml none mn (Rm rf rc rs rl)) {gs : List Addr} (d : Dc code pc .return_ 1 pc') (hc : k ≤ rc) (hn : n ≤ rs) (hg : ∀ x ∈ gs, x ∈ ss) (hQ : Q none h gs) : Go w K Z EL n0 ss0 Q pc L [] h ss k n := by
  obtain ⟨d1, rfl⟩ := d
  exact Go.leave C (fun _ => rfl) (fun X _ r => X.returnOut C.1 C.2.2.2.2.1 (hb C.2.1 d1) r) hQ hg hc hn
end Ops
end Jvm.Own
namespace Jvm.Own
open Jvm Jvm.ClassFile Sem Op Lib Jvm.Free Jvm.Stand Jvm.LawKit Jvm.RoadKit
section Calls
variable {w : Bool} {K : IV} {Z : State} {a0 : Array Value} {EL : List (String × Nat)} {n0 : Nat} {ss0 ss : List Addr} {Q : Option Value → Heap → List Addr → Prop} {pc pc' pcT : Nat} {L L' : Array Slot} {st st' stk : List Value} {h h' : Heap} {k n : Nat} {own : String} {code : ByteArray} {ml : Nat} {rt : Option FieldType} {mn : String} {R : Room}
variable {y : MethodName} {bytes : ByteArray} {maxL : Nat} {ret : Option FieldType} {rm : Room} {as : List Value} {ssc : List Addr} {Qc : Option Value → Heap → List Addr → Prop}
def PreC (Z : State) (EL : List (String × Nat)) (n0 : Nat) (R rm : Room) (as : List Value) (h : Heap) (ssc : List Addr) (A : Pt) (a : Array Value) : Prop := a = as.toArray ∧ A.U.heap = h ∧ A.cells + rm.cells ≤ R.cells ∧ A.slots + rm.slots ≤ R.slots ∧ CHv Z EL A.U.vm h ∧ ∀ x ∈ ssc, n0 ≤ x ∧ x < h.size ∧ Safe Z EL A.U.vm h x
def PostC (Z : State) (EL : List (String × Nat)) (n0 : Nat) (rm : Room) (h : Heap) (ssc : List Addr) (Qc : Option Value → Heap → List Addr → Prop) (A : Pt) (_ : Array Value) (v : Option Value) (B : Pt) : Prop := ∃ (L : List Loc) (gs : List Addr), Qc v B.U.heap gs ∧ Fr n0 L ∧ CHr Z EL A.U.vm h B.U.vm B.U.heap ∧ Keep h B.U.heap ssc ∧ Sf Z EL n0 B.U.vm B.U.heap ssc h gs ∧ Old Z n0 B.U.heap ∧ B.locs = A.locs ++ L ∧ B.cells = A.cells + rm.cells ∧ B.slots = A.slots + rm.slots
theorem conBack {p : Program} {l : Launch} {e : Env} {below : List Frame} {s : State} {args : Array Value} {len W : Nat} (M : Con false Z EL n0 y bytes maxL ret rm as h ssc Qc) (hZ : Z.Warmed39 s.vm) (wc : (Cond.code y bytes maxL ret).before a0 Z = true) (wz : (Cond.initialized y.cls).before a0 Z = true) (hf : rm.frames + 1 ≤ R.frames) (hl : W + (maxL + 11) + rm.locals ≤ R.locals) :
    Back l R p e below s args y len W (PreC Z EL n0 R rm as h ssc) (PostC Z EL n0 rm h ssc Qc) :=
  Back.of_free (bytes := bytes) (maxL := maxL) (ret := ret) (E := fun _ first o t L k n => k = rm.cells ∧ n = rm.slots ∧ ∃ v gs, o = .returned v ∧ Qc v t.heap gs ∧ Fr n0 L ∧ CHr Z EL first.vm h t.vm t.heap ∧ Keep h t.heap ssc ∧ Sf Z EL n0 t.vm t.heap ssc h gs ∧ Old Z n0 t.heap) (M l []) hf hl
    (fun m meth c A a Y hp => have hU : Z.Warmed39 A.U.vm := wtrans hZ Y.warmed
      ⟨by show (Cond.and _ .tt).before a A.U = true; rw [Cond.before_and, mv hU wc]; rfl, mv hU wc, mv hU wz, hp.2.2.1, hp.2.2.2.1⟩)
    (fun m meth c A a g mk Y hp => ⟨hp.1, wtrans hZ Y.warmed, hp.2.1, hp.2.2.2.2.1, hp.2.2.2.2.2⟩) (fun _ _ _ _ _ _ _ _ _ => trivial)
    (fun _ _ _ _ ⟨v, L, gs, h1, h2, h3, h4, h5, h6, h7, h8⟩ => ⟨L, _, _, h8, rfl, rfl, v, gs, h1, h2, h3, h4, h5, h6, h7⟩)
    (fun m meth c A a g mk v t L k n Y hp _ _ ⟨e1, e2, v', gs, e3, r⟩ => by cases e3; subst e1 e2; exact ⟨L, gs, r.1, r.2.1, r.2.2.1, r.2.2.2.1, r.2.2.2.2.1, r.2.2.2.2.2, rfl, rfl, rfl⟩)
theorem conBackS {p : Program} {l : Launch} {e : Env} {below : List Frame} {s : State} {args : Array Value} {len W : Nat} (M : Con true Z EL n0 y bytes maxL ret rm as h ssc Qc) (hZ : Z.Warmed39 s.vm) (wc : (Cond.code y bytes maxL ret).before a0 Z = true) (wz : (Cond.initialized y.cls).before a0 Z = true) (hf : rm.frames + 1 ≤ R.frames) (hl : W + (maxL + 11) + rm.locals ≤ R.locals) :
    BackS l R p e below s args y len W (PreC Z EL n0 R rm as h ssc) (PostC Z EL n0 rm h ssc Qc) :=
  BackS.of_freeW (bytes := bytes) (maxL := maxL) (ret := ret) (E := fun _ first o t L k n => k = rm.cells ∧ n = rm.slots ∧ ∃ v gs, o = .returned v ∧ Qc v t.heap gs ∧ Fr n0 L ∧ CHr Z EL first.vm h t.vm t.heap ∧ Keep h t.heap ssc ∧ Sf Z EL n0 t.vm t.heap ssc h gs ∧ Old Z n0 t.heap) (M l []) hf hl
    (fun m meth c A a Y hp => have hU : Z.Warmed39 A.U.vm := wtrans hZ Y.warmed
      ⟨by show (Cond.and _ .tt).before a A.U = true; rw [Cond.before_and, mv hU wc]; rfl, mv hU wc, mv hU wz, hp.2.2.1, hp.2.2.2.1⟩)
    (fun m meth c A a g mk Y hp => ⟨hp.1, wtrans hZ Y.warmed, hp.2.1, hp.2.2.2.2.1, hp.2.2.2.2.2⟩) (fun _ _ _ _ _ _ _ _ _ => trivial)
    (fun _ _ _ _ ⟨v, L, gs, h1, h2, h3, h4, h5, h6, h7, h8⟩ => ⟨L, _, _, h8, rfl, rfl, v, gs, h1, h2, h3, h4, h5, h6, h7⟩)
    (fun m meth c A a g mk v t L k n Y hp _ _ ⟨e1, e2, v', gs, e3, r⟩ => by cases e3; subst e1 e2; exact ⟨L, gs, r.1, r.2.1, r.2.2.1, r.2.2.2.1, r.2.2.2.2.1, r.2.2.2.2.2, rfl, rfl, rfl⟩)
theorem warm1 {vm0 vm₁ : Vm} {s : State} (hZ : Z.Warmed39 vm0) (hE : EW Z a0 EL) (hW : (s.setVm vm0).WarmedH vm₁) (H : CHv Z EL vm0 h) : CHr Z EL vm0 h vm₁ h := by
  have q := CHv.later (h' := h) hZ (hW := (show (Wst Z vm0 h).Warmed39 vm₁ from hW.wide)) hE ⟨Nat.le_refl _, fun _ _ q => q⟩ (Or.inl hW.interned_eq) H
  exact ⟨q.1, Nat.le_refl _, q.2⟩
/-- behind a call -/
theorem after {T : State} {vm0 vm₁ : Vm} {locs : List Loc} {k0 : Nat} (C : Cx w K Z a0 EL own code ml rt mn R) (N : Fr n0 locs) (hS : K.s.Since vm0 k0) (hk : k0 ≤ h.size) (hZ : Z.Warmed39 vm0) (hv : w = false → vm0 = K.s.vm) (hC : CHr Z EL K.s.vm K.s.heap vm0 h) (hF : Sf Z EL n0 vm0 h ss0 K.s.heap ss) (hK : Keep K.s.heap h ss0)
    (hsub : ∀ x ∈ ssc, x ∈ ss) (hW : (K.s.setVm vm0).WarmedH vm₁) {B : Pt} {a : Array Value} {v : Option Value} (hp : PostC Z EL n0 rm h ssc Qc ⟨T.setVm vm₁, locs, k, n⟩ a v B)
    (hX : (w = false ∧ Stand K.p K.l K.e K.R (K.s.setVm vm0) K.m K.args K.below K.meth K.c B.U B.locs B.cells B.slots) ∨ (w = true ∧ Stand K.p K.l K.e K.R (K.s.setVm B.U.vm) K.m K.args K.below K.meth K.c B.U B.locs B.cells B.slots ∧ (K.s.setVm vm0).Since B.U.vm B.U.heap.size)) :
    ∃ gs, Here w K Z EL n0 ss0 B.U B.U.heap (gs ++ ss) (k + rm.cells) (n + rm.slots) ∧ Qc v B.U.heap gs ∧ Keep h B.U.heap ssc := by
  obtain ⟨Lc, gs, hQ, N', hC', hK', hF', hO', l1, l2, l3⟩ := hp
  obtain ⟨U, Ls, kk, nn⟩ := B
  dsimp only [Pt.U, Pt.locs, Pt.cells, Pt.slots] at *
  subst l1 l2 l3
  have D1 := warm1 hZ C.2.2.2.2.2.2.2.2.1 hW hC.1
  have D := D1.trans hC'
  have hKs : Keep K.s.heap U.heap ss0 := hK.trans hK' fun x hx => (hF x (hsub x hx)).2.2.2
  have hFa : Sf Z EL n0 U.vm U.heap ss0 K.s.heap (gs ++ ss) := fun x hx => by
    rcases List.mem_append.mp hx with hx | hx
    · obtain ⟨g1, g2, g3, g4⟩ := hF' x hx
      exact ⟨g1, g2, g3, g4.elim (fun q => (hF x (hsub x q)).2.2.2) fun q => Or.inr (Nat.le_trans hK.1 q)⟩
    · obtain ⟨g1, g2, g3, g4⟩ := hF x hx
      exact ⟨g1, Nat.lt_of_lt_of_le g2 hK'.1, D.safe g2 g3, g4⟩
  refine ⟨gs, ?_, hQ, hK'⟩
  rcases hX with ⟨hw, X⟩ | ⟨hw, X, hS'⟩
  · have hEL : EL = [] := C.2.2.2.2.2.2.2.2.2 hw
    subst hEL
    refine ⟨vm0, _, k0, X, N.app N', rfl, hS, Nat.le_trans hk hK'.1, hZ, hv, chr_nil (Nat.le_trans hK.1 hK'.1), fun x hx => ?_, hO', hKs⟩
    obtain ⟨g1, g2, g3, g4⟩ := hFa x hx
    exact ⟨g1, g2, fun ⟨p, hp, _⟩ => by (cases hp), g4⟩
  · exact ⟨U.vm, _, U.heap.size, X, N.app N', rfl, hS.trans hS' (Nat.le_trans hk hK'.1), Nat.le_refl _, State.Warmed39.trans (t := K.s.setVm vm0) hZ hS'.1, (fun q => by rw [hw] at q; cases q), hC.trans D, hFa, hO', hKs⟩
theorem pre {T : State} {vm0 vm₁ : Vm} {locs : List Loc} (C : Cx w K Z a0 EL own code ml rt mn R) (eT : T.heap = h) (hZ : Z.Warmed39 vm0) (hC : CHr Z EL K.s.vm K.s.heap vm0 h) (hF : Sf Z EL n0 vm0 h ss0 K.s.heap ss) (hsub : ∀ x ∈ ssc, x ∈ ss) (hW : (K.s.setVm vm0).WarmedH vm₁) (hc : k + rm.cells ≤ R.cells) (hn : n + rm.slots ≤ R.slots) :
    PreC Z EL n0 K.R rm as h ssc ⟨T.setVm vm₁, locs, k, n⟩ as.toArray := by
  have hR : K.R = R := C.2.2.2.2.2.2.2.1
  have D1 := warm1 hZ C.2.2.2.2.2.2.2.2.1 hW hC.1
  exact ⟨rfl, eT, by rw [hR]; exact hc, by rw [hR]; exact hn, D1.1, fun x hx => by
    obtain ⟨g1, g2, g3, g4⟩ := hF x (hsub x hx)
    exact ⟨g1, g2, D1.safe g2 g3⟩⟩
theorem callS_ {rf rc rs rl cf cc cs cl : Nat} (C : Cx w K Z a0 EL own code ml rt mn (Rm rf rc rs rl)) {i : Nat} {ps : List FieldType} {r : Option FieldType} (wl : (Cond.methodLink own i y).before a0 Z = true) (ws : (Cond.static y).before a0 Z = true) (wi : (Cond.initialized y.cls).before a0 Z = true) (wc : (Cond.code y bytes maxL ret).before a0 Z = true) (hy : y.cls ≠ "java/lang/invoke/MethodHandle" ∧ y.cls ≠ "java/lang/invoke/VarHandle") (pd : parseMethodDescriptor y.desc = some ⟨ps, r⟩) (hl : as.length = ps.length) (M : Old Z n0 h → Con w Z EL n0 y bytes maxL ret (Rm cf cc cs cl) as h ssc Qc) (hsub : ∀ x ∈ ssc, x ∈ ss) (hL : L.size = ml) (hfr : cf + 1 ≤ rf) (hlo : (st.map fun v => v.category).sum + (maxL + 11) + cl ≤ rl) (hc : k + cc ≤ rc) (hn : n + cs ≤ rs) (d : Dc code pc (.invokestatic i) 3 pc') (hst : stk = as.reverse ++ st) (G : ∀ v h' gs, Keep h h' ssc → Qc v h' gs → Go w K Z EL n0 ss0 Q pc' L (v.toList ++ st) h' (gs ++ ss) (k + cc) (n + cs)) : Go w K Z EL n0 ss0 Q pc L stk h ss k n := by
  obtain ⟨d1, rfl⟩ := d
  subst hst
  intro T H
  obtain ⟨vm0, locs, k0, X, N, eT, hS, hk, hZ, hv, hC, hF, hO, hK⟩ := H
  have hR : K.R = Rm rf rc rs rl := C.2.2.2.2.2.2.2.1
  have hown : (K.s.setVm vm0).vm.findClass own = some K.m.cls := fcl C hS
  have hZ' : Z.Warmed39 (K.s.setVm vm0).vm := hZ
  have hsz : L.size = K.c.maxLocals := hL.trans C.2.2.1.symm
  cases w with
  | false =>
    obtain ⟨v, vm₁, B, hW, X', hp, stp⟩ := Jvm.LawKit.callS X C.1 (y := y) hown (mvT hZ' wl) (mvT hZ' ws) (mvT hZ' wi) (mvT hZ' wc) hy (conBack (W := (st.map fun v => v.category).sum) (M hO) hZ' wc wi (by rw [hR]; exact hfr) (by rw [hR]; exact hlo)) (g := mkF K.m pc L (as.reverse ++ st)) rfl hsz (argsL := as) (rest := st) (lenOf pd hl) rfl (by show 2 * 0 + _ ≤ _; omega) (hb C.2.1 d1) (fun vm₁ hW => pre C eT hZ hC hF hsub hW hc hn)
    obtain ⟨gs, H', hQ, hKe⟩ := after C N hS hk hZ hv hC hF hK hsub hW hp (Or.inl ⟨rfl, X'⟩)
    exact Fns.steps stp (G v _ gs hKe hQ _ H')
  | true =>
    obtain ⟨v, vm₁, B, hW, X', hS', -, hp, stp⟩ := callSS X C.1 (y := y) hown (mvT hZ' wl) (mvT hZ' ws) (mvT hZ' wi) (mvT hZ' wc) hy (conBackS (W := (st.map fun v => v.category).sum) (M hO) hZ' wc wi (by rw [hR]; exact hfr) (by rw [hR]; exact hlo)) (g := mkF K.m pc L (as.reverse ++ st)) rfl hsz (argsL := as) (rest := st) (lenOf pd hl) rfl (by show 2 * 0 + _ ≤ _; omega) (hb C.2.1 d1) (fun vm₁ hW => pre C eT hZ hC hF hsub hW hc hn)
    obtain ⟨gs, H', hQ, hKe⟩ := after C N hS hk hZ hv hC hF hK hsub hW hp (Or.inr ⟨rfl, X', hS'⟩)
    exact Fns.steps (fun t r => stp.trans r) (G v _ gs hKe hQ _ H')
theorem callI_ {rf rc rs rl cf cc cs cl : Nat} (C : Cx w K Z a0 EL own code ml rt mn (Rm rf rc rs rl)) {i : Nat} {ps : List FieldType} {r : Option FieldType} {a : Addr} {as' : List Value} (hy1 : y.name = "<init>") (wl : (Cond.methodLink own i y).before a0 Z = true) (wm : (Cond.instanceMethod y).before a0 Z = true) (wi : (Cond.initialized y.cls).before a0 Z = true) (wc : (Cond.code y bytes maxL none).before a0 Z = true) (hy : y.cls ≠ "java/lang/invoke/MethodHandle" ∧ y.cls ≠ "java/lang/invoke/VarHandle") (pd : parseMethodDescriptor y.desc = some ⟨ps, r⟩) (hl : as'.length = ps.length) (M : Old Z n0 h → Con w Z EL n0 y bytes maxL none (Rm cf cc cs cl) (.ref a :: as') h ssc Qc) (hsub : ∀ x ∈ ssc, x ∈ ss) (hL : L.size = ml) (hfr : cf + 1 ≤ rf) (hlo : (st.map fun v => v.category).sum + (maxL + 11) + cl ≤ rl) (hc : k + cc ≤ rc) (hn : n + cs ≤ rs) (d : Dc code pc (.invokespecial i) 3 pc') (hst : stk = as'.reverse ++ .ref a :: st) (G : ∀ v h' gs, Keep h h' ssc → Qc v h' gs → Go w K Z EL n0 ss0 Q pc' L (v.toList ++ st) h' (gs ++ ss) (k + cc) (n + cs)) : Go w K Z EL n0 ss0 Q pc L stk h ss k n := by
  obtain ⟨d1, rfl⟩ := d
  subst hst
  intro T H
  obtain ⟨vm0, locs, k0, X, N, eT, hS, hk, hZ, hv, hC, hF, hO, hK⟩ := H
  have hR : K.R = Rm rf rc rs rl := C.2.2.2.2.2.2.2.1
  have hown : (K.s.setVm vm0).vm.findClass own = some K.m.cls := fcl C hS
  have hZ' : Z.Warmed39 (K.s.setVm vm0).vm := hZ
  have hsz : L.size = K.c.maxLocals := hL.trans C.2.2.1.symm
  cases w with
  | false =>
    obtain ⟨v, vm₁, B, hW, X', hp, stp⟩ := X.specialBack C.1 (y := y) hy1 hown (mvT hZ' wl) (mvT hZ' wm) (mvT hZ' wc) hy (conBack (W := (st.map fun v => v.category).sum) (M hO) hZ' wc wi (by rw [hR]; exact hfr) (by rw [hR]; exact hlo)) (g := mkF K.m pc L (as'.reverse ++ .ref a :: st)) rfl hsz (Steps.refl _) (a := a) (argsL := as') (rest := st) (lenOf pd hl) rfl (by show 2 * 0 + _ ≤ _; omega) (hb C.2.1 d1) (fun vm₁ hW => pre C eT hZ hC hF hsub hW hc hn)
    obtain ⟨gs, H', hQ, hKe⟩ := after C N hS hk hZ hv hC hF hK hsub hW hp (Or.inl ⟨rfl, X'⟩)
    exact Fns.steps (fun t r => stp.trans r) (G v _ gs hKe hQ _ H')
  | true =>
    obtain ⟨v, vm₁, B, hW, X', hS', -, hp, stp⟩ := X.specialBackS C.1 (y := y) hy1 hown (mvT hZ' wl) (mvT hZ' wm) (mvT hZ' wc) hy (conBackS (W := (st.map fun v => v.category).sum) (M hO) hZ' wc wi (by rw [hR]; exact hfr) (by rw [hR]; exact hlo)) (g := mkF K.m pc L (as'.reverse ++ .ref a :: st)) rfl hsz (Steps.refl _) (a := a) (argsL := as') (rest := st) (lenOf pd hl) rfl (by show 2 * 0 + _ ≤ _; omega) (hb C.2.1 d1) (fun vm₁ hW => pre C eT hZ hC hF hsub hW hc hn)
    obtain ⟨gs, H', hQ, hKe⟩ := after C N hS hk hZ hv hC hF hK hsub hW hp (Or.inr ⟨rfl, X', hS'⟩)
    exact Fns.steps (fun t r => stp.trans r) (G v _ gs hKe hQ _ H')
theorem callV_ {rf rc rs rl cf cc cs cl : Nat} (C : Cx w K Z a0 EL own code ml rt mn (Rm rf rc rs rl)) {i : Nat} {ps : List FieldType} {r : Option FieldType} {a : Addr} {as' : List Value} {O : String} {x : MethodName} (wl : (Cond.methodLink own i x).before a0 Z = true) (wd : (Cond.declares x).before a0 Z = true) (hnf : ∀ s : State, Z.Warmed39 s.vm → NotFace s x) (wse : (Cond.selects O x y).before a0 Z = true) (wm : (Cond.instanceMethod y).before a0 Z = true) (wi : (Cond.initialized y.cls).before a0 Z = true) (wc : (Cond.code y bytes maxL ret).before a0 Z = true) (hy : x.cls ≠ "java/lang/invoke/MethodHandle" ∧ x.cls ≠ "java/lang/invoke/VarHandle") (E : Exa Z h a O) (pd : parseMethodDescriptor x.desc = some ⟨ps, r⟩) (hl : as'.length = ps.length) (M : Old Z n0 h → Con w Z EL n0 y bytes maxL ret (Rm cf cc cs cl) (.ref a :: as') h ssc Qc) (hsub : ∀ x ∈ ssc, x ∈ ss) (hL : L.size = ml) (hfr : cf + 1 ≤ rf) (hlo : (st.map fun v => v.category).sum + (maxL + 11) + cl ≤ rl) (hc : k + cc ≤ rc) (hn : n + cs ≤ rs) (d : Dc code pc (.invokevirtual i) 3 pc') (hst : stk = as'.reverse ++ .ref a :: st) (G : ∀ v h' gs, Keep h h' ssc → Qc v h' gs → Go w K Z EL n0 ss0 Q pc' L (v.toList ++ st) h' (gs ++ ss) (k + cc) (n + cs)) : Go w K Z EL n0 ss0 Q pc L stk h ss k n := by
  obtain ⟨d1, rfl⟩ := d
  subst hst
  intro T H
  obtain ⟨vm0, locs, k0, X, N, eT, hS, hk, hZ, hv, hC, hF, hO, hK⟩ := H
  have hR : K.R = Rm rf rc rs rl := C.2.2.2.2.2.2.2.1
  have hown : (K.s.setVm vm0).vm.findClass own = some K.m.cls := fcl C hS
  have hZ' : Z.Warmed39 (K.s.setVm vm0).vm := hZ
  have hsz : L.size = K.c.maxLocals := hL.trans C.2.2.1.symm
  obtain ⟨cq, kq, qa, qb, qc⟩ := isOf (T := T) hZ' eT E
  cases w with
  | false =>
    obtain ⟨v, vm₁, B, hW, X', hp, stp⟩ := X.virtualBack C.1 (y := x) (z := y) hown (mvT hZ' wl) (mvT hZ' wd) (hnf _ hZ') (mvT hZ' wse) (mvT hZ' wm) hy (conBack (W := (st.map fun v => v.category).sum) (M hO) hZ' wc wi (by rw [hR]; exact hfr) (by rw [hR]; exact hlo)) qa qc (g := mkF K.m pc L (as'.reverse ++ .ref a :: st)) rfl hsz (Steps.refl _) (argsL := as') (rest := st) (lenOf pd hl) rfl (by show 2 * 0 + _ ≤ _; omega) (hb C.2.1 d1) (fun vm₁ hW => pre C eT hZ hC hF hsub hW hc hn)
    obtain ⟨gs, H', hQ, hKe⟩ := after C N hS hk hZ hv hC hF hK hsub hW hp (Or.inl ⟨rfl, X'⟩)
    exact Fns.steps (fun t r => stp.trans r) (G v _ gs hKe hQ _ H')
  | true =>
    obtain ⟨v, vm₁, B, hW, X', hS', -, hp, stp⟩ := X.virtualBackS C.1 (y := x) (z := y) hown (mvT hZ' wl) (mvT hZ' wd) (hnf _ hZ') (mvT hZ' wse) (mvT hZ' wm) hy (conBackS (W := (st.map fun v => v.category).sum) (M hO) hZ' wc wi (by rw [hR]; exact hfr) (by rw [hR]; exact hlo)) qa qc (g := mkF K.m pc L (as'.reverse ++ .ref a :: st)) rfl hsz (Steps.refl _) (argsL := as') (rest := st) (lenOf pd hl) rfl (by show 2 * 0 + _ ≤ _; omega) (hb C.2.1 d1) (fun vm₁ hW => pre C eT hZ hC hF hsub hW hc hn)
    obtain ⟨gs, H', hQ, hKe⟩ := after C N hS hk hZ hv hC hF hK hsub hW hp (Or.inr ⟨rfl, X', hS'⟩)
    exact Fns.steps (fun t r => stp.trans r) (G v _ gs hKe hQ _ H')
theorem callP_ {rf rc rs rl cf cc cs cl : Nat} (C : Cx w K Z a0 EL own code ml rt mn (Rm rf rc rs rl)) {i : Nat} {ps : List FieldType} {r : Option FieldType} {a : Addr} {as' : List Value} {O : String} (wl : (Cond.methodLink own i y).before a0 Z = true) (wm : (Cond.instanceMethod y).before a0 Z = true) (wse : (Cond.selects y.cls y y).before a0 Z = true) (wp : (Cond.privateMethod y).before a0 Z = true) (wi : (Cond.initialized y.cls).before a0 Z = true) (wc : (Cond.code y bytes maxL ret).before a0 Z = true) (hy : y.cls ≠ "java/lang/invoke/MethodHandle" ∧ y.cls ≠ "java/lang/invoke/VarHandle") (E : Exa Z h a O) (pd : parseMethodDescriptor y.desc = some ⟨ps, r⟩) (hl : as'.length = ps.length) (M : Old Z n0 h → Con w Z EL n0 y bytes maxL ret (Rm cf cc cs cl) (.ref a :: as') h ssc Qc) (hsub : ∀ x ∈ ssc, x ∈ ss) (hL : L.size = ml) (hfr : cf + 1 ≤ rf) (hlo : (st.map fun v => v.category).sum + (maxL + 11) + cl ≤ rl) (hc : k + cc ≤ rc) (hn : n + cs ≤ rs) (d : Dc code pc (.invokevirtual i) 3 pc') (hst : stk = as'.reverse ++ .ref a :: st) (G : ∀ v h' gs, Keep h h' ssc → Qc v h' gs → Go w K Z EL n0 ss0 Q pc' L (v.toList ++ st) h' (gs ++ ss) (k + cc) (n + cs)) : Go w K Z EL n0 ss0 Q pc L stk h ss k n := by
  obtain ⟨d1, rfl⟩ := d
  subst hst
  intro T H
  obtain ⟨vm0, locs, k0, X, N, eT, hS, hk, hZ, hv, hC, hF, hO, hK⟩ := H
  have hR : K.R = Rm rf rc rs rl := C.2.2.2.2.2.2.2.1
  have hown : (K.s.setVm vm0).vm.findClass own = some K.m.cls := fcl C hS
  have hZ' : Z.Warmed39 (K.s.setVm vm0).vm := hZ
  have hsz : L.size = K.c.maxLocals := hL.trans C.2.2.1.symm
  obtain ⟨cq, q1, q2⟩ := E.cell
  cases w with
  | false =>
    obtain ⟨v, vm₁, B, hW, X', hp, stp⟩ := X.privateBack C.1 (y := y) hown (mvT hZ' wl) (mvT hZ' wm) (mvT hZ' wse) (Cond.privateMethod_at (mvP hZ' wp (args := #[]))) (mvT hZ' wc) hy (conBack (W := (st.map fun v => v.category).sum) (M hO) hZ' wc wi (by rw [hR]; exact hfr) (by rw [hR]; exact hlo)) (g := mkF K.m pc L (as'.reverse ++ .ref a :: st)) rfl hsz (Steps.refl _) (a := a) (by rw [eT]; exact q1) q2 (argsL := as') (rest := st) (lenOf pd hl) rfl (by show 2 * 0 + _ ≤ _; omega) (hb C.2.1 d1) (fun vm₁ hW => pre C eT hZ hC hF hsub hW hc hn)
    obtain ⟨gs, H', hQ, hKe⟩ := after C N hS hk hZ hv hC hF hK hsub hW hp (Or.inl ⟨rfl, X'⟩)
    exact Fns.steps (fun t r => stp.trans r) (G v _ gs hKe hQ _ H')
  | true =>
    obtain ⟨v, vm₁, B, hW, X', hS', -, hp, stp⟩ := X.privateBackS C.1 (y := y) hown (mvT hZ' wl) (mvT hZ' wm) (mvT hZ' wse) (Cond.privateMethod_at (mvP hZ' wp (args := #[]))) (mvT hZ' wc) hy (conBackS (W := (st.map fun v => v.category).sum) (M hO) hZ' wc wi (by rw [hR]; exact hfr) (by rw [hR]; exact hlo)) (g := mkF K.m pc L (as'.reverse ++ .ref a :: st)) rfl hsz (Steps.refl _) (a := a) (by rw [eT]; exact q1) q2 (argsL := as') (rest := st) (lenOf pd hl) rfl (by show 2 * 0 + _ ≤ _; omega) (hb C.2.1 d1) (fun vm₁ hW => pre C eT hZ hC hF hsub hW hc hn)
    obtain ⟨gs, H', hQ, hKe⟩ := after C N hS hk hZ hv hC hF hK hsub hW hp (Or.inr ⟨rfl, X', hS'⟩)
    exact Fns.steps (fun t r => stp.trans r) (G v _ gs hKe hQ _ H')
theorem Ary.ofArv {b : Addr} {kc : ClassId} {ty : FieldType} {z : Int32} {vs : List Value} {dv : Value} (F : Arv Z h b kc ty z vs dv) (hl : z.toNatClampNeg = vs.length) : Ary Z h b ty vs := by
  obtain ⟨c, A, -, e2, -, H, -⟩ := F
  have hlt := rng32 z
  refine ⟨c, A, ?_, by rw [← hl]; simp only [Int32.toNatClampNeg]; omega⟩
  apply Array.ext_getElem?
  intro j
  by_cases q : j < c.slots.size
  · rw [H j q]
    have q' : j < vs.length := by omega
    simp [q']
  · have q' : ¬ j < vs.length := by omega
    rw [Array.getElem?_eq_none (by omega)]
    simp; omega
theorem ldcS_ {w : Bool} {rf rc rs rl : Nat} (hw : w = true) (C : Cx w K Z a0 EL own code ml rt mn (Rm rf rc rs rl)) {i : Nat} {text : String} (wl : (Cond.stringLink own i text).before a0 Z = true) (wS : ∀ a ∈ Bundle.stringAtoms, a.before a0 Z = true) (hmem : (own, i) ∈ EL)
    {vs : List Value} {z : Int32} (ht : (∀ c ∈ text.toList, c.toNat < 256) ∧ text.toList.map (fun c => Value.int (Jvm.Lit.byteI c.toNat.toUInt16)) = vs) (hz : ¬ z < 0) (hl : z.toNatClampNeg = vs.length) {nn : Nat} (hnn : 4 * text.toList.length ≤ nn) (hbig : nn ≤ 536870912) (hc : k + 2 ≤ rc) (hn : n + (nn + 4) ≤ rs)
    (d : Dc code pc (.ldc i) 2 pc') (G : ∀ h' a b, Keep h h' [] → Exa Z h' a "java/lang/String" → Fld Z h' a "java/lang/String" "coder" "B" (.int 0) → Fld Z h' a "java/lang/String" "value" "[B" (.ref b) → Ary Z h' b .byte vs → (∀ x ∈ ss, x ≠ a ∧ x ≠ b) → Go w K Z EL n0 ss0 Q pc' L (.ref a :: st) h' ss (k + 2) (n + (nn + 4))) : Go w K Z EL n0 ss0 Q pc L st h ss k n := by
  obtain ⟨d1, rfl⟩ := d
  intro T H
  obtain ⟨vm0, locs, k0, X, N, eT, hS, hk, hZ, hv, hC, hF, hO, hK⟩ := H
  have hR : K.R = Rm rf rc rs rl := C.2.2.2.2.2.2.2.1
  have hown : vm0.findClass own = some K.m.cls := fcl C hS
  obtain ⟨a, T', h', k1, b, kb, X', e', E, hS', hk', hZ', -, g1, g2, g3, g4, -, -, hCr, -, hSf, stp⟩ := ldcCH X C.1 hZ hown wl wS eT hS hk C.2.2.2.2.2.2.2.2.1 hmem hC.1 ht hz hl (g := mkF K.m pc L st) rfl (hb C.2.1 d1) hnn hbig (by rw [hR]; exact hc) (by rw [hR]; exact hn)
  have hF' : Sf Z EL n0 T'.vm h' ss0 K.s.heap ss := fun x hx => by
    obtain ⟨f1, f2, f3, f4⟩ := hF x hx
    exact ⟨f1, Nat.lt_of_lt_of_le f2 E.1, hCr.safe f2 f3, f4⟩
  exact Fns.steps stp (G h' a b ((Keep.refl h []).ext E) g1 g2 g3 (Ary.ofArv g4 hl) (fun x hx => hSf x (hF' x hx).2.2.1) T' ⟨T'.vm, locs, k1, X', N, e', hS', hk', hZ', (fun q => by rw [hw] at q; cases q), hC.trans hCr, hF', hO.ext E, hK.ext E⟩)
end Calls
end Jvm.Own
namespace Jvm.Own
open Jvm Jvm.ClassFile Sem Op Lib Jvm.Free Jvm.Stand Jvm.LawKit Jvm.RoadKit
/-- two roads that meet again with an int on the stack -/
theorem Go.join {w : Bool} {K : IV} {Z : State} {EL : List (String × Nat)} {n0 : Nat} {ss0 ss : List Addr} {Q : Option Value → Heap → List Addr → Prop} {pc pcJ : Nat} {L LJ : Array Slot} {st stJ : List Value} {h : Heap} {k n : Nat} {c : Prop} [Decidable c] {x y : Int32}
    (B : (c → Go w K Z EL n0 ss0 Q pcJ LJ (.int x :: stJ) h ss k n) → (¬ c → Go w K Z EL n0 ss0 Q pcJ LJ (.int y :: stJ) h ss k n) → Go w K Z EL n0 ss0 Q pc L st h ss k n) (G : Go w K Z EL n0 ss0 Q pcJ LJ (.int (if c then x else y) :: stJ) h ss k n) : Go w K Z EL n0 ss0 Q pc L st h ss k n :=
  B (fun q => by rw [if_pos q] at G; exact G) (fun q => by rw [if_neg q] at G; exact G)
end Jvm.Own
namespace Jvm.Own
open Jvm Jvm.ClassFile Sem Op Lib Jvm.Free Jvm.Stand Jvm.LawKit Jvm.RoadKit
/-! OWN KIT 4: Strings, plain facts on chars and indices -/
theorem catR {v : Value} (h : v.isRef = true) : v.category = 1 := by cases v <;> simp_all [Value.isRef, Value.category]
theorem st1 {L L' : Array Slot} {j : Nat} {v : Value} {o : Slot} (hold : L[j]? = some o) (ho : o = .unset ∨ ∃ w, o = .val w ∧ w.category = 1) (hv : v.category = 1) (e : L.setIfInBounds j (.val v) = L') : storeLocals L j v = some L' := e ▸ XS.store1 hold ho hv
def isCh (c : Int32) : Prop := 0 ≤ c.toInt ∧ c.toInt < 65536
def chs (cs : List Int32) : List Value := cs.map Value.int
def lat (cs : List Int32) : List Value := cs.map fun c => Value.int (nar .byte c)
def utf (cs : List Int32) : List Value := cs.flatMap fun c => [Value.int (nar .byte c), Value.int (nar .byte (c >>> 8))]
theorem chs_len (cs : List Int32) : (chs cs).length = cs.length := by simp [chs]
theorem lat_len (cs : List Int32) : (lat cs).length = cs.length := by simp [lat]
theorem utf_len (cs : List Int32) : (utf cs).length = 2 * cs.length := by
  induction cs with
  | nil => rfl
  | cons c r ih => simp [utf] at ih ⊢; omega
theorem i32e {x y : Int32} (h : x.toInt = y.toInt) : x = y := Int32.toInt_inj.mp h
theorem lt32 (x y : Int32) : x < y ↔ x.toInt < y.toInt := Int32.lt_iff_toInt_lt
theorem narc (x : Int32) : ((nar .char x).toInt - x.toInt) % 65536 = 0 ∧ 0 ≤ (nar .char x).toInt ∧ (nar .char x).toInt < 65536 := c_i2c x
theorem narb (x : Int32) : ((nar .byte x).toInt - x.toInt) % 256 = 0 ∧ -128 ≤ (nar .byte x).toInt ∧ (nar .byte x).toInt < 128 := c_i2b x
theorem narc_id {x : Int32} (h : isCh x) : nar .char x = x := i32e (by have := narc x; have := h.1; have := h.2; omega)
theorem narc_ch (x : Int32) : isCh (nar .char x) := (narc x).2
theorem narb_id {x : Int32} (h : -128 ≤ x.toInt ∧ x.toInt < 128) : nar .byte x = x := i32e (by have := narb x; omega)
theorem narb_idem (x : Int32) : nar .byte (nar .byte x) = nar .byte x := narb_id (narb x).2
theorem narc_idem (x : Int32) : nar .char (nar .char x) = nar .char x := narc_id (narc_ch x)
theorem mask8 (x : Int32) : (x &&& 255).toInt = x.toInt % 256 := c_mask x 255 8 (by decide) (by decide)
theorem lat_char {c : Int32} (h : 0 ≤ c.toInt ∧ c.toInt < 256) : nar .char (nar .byte c &&& 255) = c := by
  have e := mask8 (nar .byte c)
  have := narb c
  rw [narc_id (by unfold isCh; omega)]
  exact i32e (by omega)
theorem narb_inj {x y : Int32} (hx : 0 ≤ x.toInt ∧ x.toInt < 256) (hy : 0 ≤ y.toInt ∧ y.toInt < 256) (h : nar .byte x = nar .byte y) : x = y := i32e (by
  have a := narb x; have b := narb y; rw [h] at a; omega)
def natI (i : Nat) : Int32 := Nat.toInt32 i
theorem natI_toInt {i : Nat} (h : i < 2 ^ 31) : (natI i).toInt = i := len_toInt h
theorem natI_clamp {i : Nat} (h : i < 2 ^ 31) : (natI i).toNatClampNeg = i := by
  show (natI i).toInt.toNat = i
  rw [natI_toInt h]; rfl
theorem natI_succ {i : Nat} (h : i + 1 < 2 ^ 31) : natI i + 1 = natI (i + 1) := i32e (by
  have a := c_iadd (natI i) 1
  have b := natI_toInt (i := i) (by omega)
  have c := natI_toInt h
  have d : (1 : Int32).toInt = 1 := rfl
  have := rng32 (natI i + 1)
  omega)
/-- the bytes of a String that spells cs -/
def Byt (cs : List Int32) (z : Int32) (vs : List Value) : Prop := ((∀ c ∈ cs, c.toInt < 256) ∧ z = 0 ∧ vs = lat cs) ∨ ((∃ c ∈ cs, 256 ≤ c.toInt) ∧ z = 1 ∧ vs = utf cs)
abbrev sS : String := "java/lang/String"
/-- at a lies a String that spells cs -/
def Str (Z : State) (h : Heap) (a : Addr) (cs : List Int32) : Prop := Exa Z h a "java/lang/String" ∧ (∀ c ∈ cs, isCh c) ∧ cs.length ≤ 4096 ∧ ∃ (b : Addr) (z : Int32) (vs : List Value), Fld Z h a "java/lang/String" "value" "[B" (.ref b) ∧ Fld Z h a "java/lang/String" "coder" "B" (.int z) ∧ Ary Z h b .byte vs ∧ Byt cs z vs
section Facts
variable {Z : State} {h h' : Heap} {a b x : Addr} {cs cs' : List Int32} {a0 : Array Value}
theorem Str.keep (F : Str Z h a cs) (K : Keep h h' []) : Str Z h' a cs := by
  obtain ⟨E, h1, h2, b, z, vs, F1, F2, A, B⟩ := F
  exact ⟨E.keep K, h1, h2, b, z, vs, F1.keep K nin0, F2.keep K nin0, A.keep K nin0, B⟩
theorem Str.keepX {C : String} {kk : Nat} (F : Str Z h a cs) (K : Keep h h' [x]) (E : Exa Z h x C) (hC : "java/lang/String" ≠ C) (wi : (Cond.instantiable C kk).before a0 Z = true) : Str Z h' a cs := by
  obtain ⟨E0, h1, h2, b, z, vs, F1, F2, A, B⟩ := F
  have n1 : a ∉ [x] := ninS (ne_exa E0 E hC) nin0
  have n2 : b ∉ [x] := ninS (by obtain ⟨c, A', -⟩ := A; exact (ne_arr E wi A').symm) nin0
  exact ⟨E0.keep K, h1, h2, b, z, vs, F1.keep K n1, F2.keep K n1, A.keep K n2, B⟩
theorem Str.lt (F : Str Z h a cs) : a < h.size := F.1.lt
theorem Fld.fn {C n d : String} {v w : Value} (F : Fld Z h a C n d v) (G : Fld Z h a C n d w) : v = w := by
  by_cases q : v = w
  · exact q
  · exact absurd rfl (F.ne G q)
theorem Ary.fn {ty : FieldType} {vs ws : List Value} (F : Ary Z h a ty vs) (G : Ary Z h a ty ws) : vs = ws := by
  obtain ⟨c, A, e, -⟩ := F
  obtain ⟨c', A', e', -⟩ := G
  cases A.1.symm.trans A'.1
  rw [e] at e'
  simpa using e'
theorem lat_inj {cs cs' : List Int32} (h : ∀ c ∈ cs, 0 ≤ c.toInt ∧ c.toInt < 256) (h' : ∀ c ∈ cs', 0 ≤ c.toInt ∧ c.toInt < 256) (e : lat cs = lat cs') : cs = cs' := by
  induction cs generalizing cs' with
  | nil => cases cs' with
    | nil => rfl
    | cons _ _ => simp [lat] at e
  | cons c r ih => cases cs' with
    | nil => simp [lat] at e
    | cons c' r' =>
      simp only [lat, List.map_cons, List.cons.injEq, Value.int.injEq] at e
      rw [narb_inj (h c (by simp)) (h' c' (by simp)) e.1, ih (fun x hx => h x (by simp [hx])) (fun x hx => h' x (by simp [hx])) e.2]
theorem utf1_inj {x y : Int32} (hx : isCh x) (hy : isCh y) (h : nar .byte x = nar .byte y) (h' : nar .byte (x >>> 8) = nar .byte (y >>> 8)) : x = y := i32e (by
  have a := narb x; have b := narb y; rw [h] at a
  have a' := narb (x >>> 8); have b' := narb (y >>> 8); rw [h'] at a'
  have e1 : (x >>> 8).toInt = x.toInt / 256 := c_ishr x 8 8 (by decide)
  have e2 : (y >>> 8).toInt = y.toInt / 256 := c_ishr y 8 8 (by decide)
  have := hx.1; have := hx.2; have := hy.1; have := hy.2
  omega)
theorem utf_inj {cs cs' : List Int32} (h : ∀ c ∈ cs, isCh c) (h' : ∀ c ∈ cs', isCh c) (e : utf cs = utf cs') : cs = cs' := by
  induction cs generalizing cs' with
  | nil => cases cs' with
    | nil => rfl
    | cons _ _ => simp [utf] at e
  | cons c r ih => cases cs' with
    | nil => simp [utf] at e
    | cons c' r' =>
      simp only [utf, List.flatMap_cons, List.cons_append, List.nil_append, List.cons.injEq, Value.int.injEq] at e
      rw [utf1_inj (h c (by simp)) (h' c' (by simp)) e.1 e.2.1, ih (fun x hx => h x (by simp [hx])) (fun x hx => h' x (by simp [hx])) e.2.2]
theorem Byt.iff {z z' : Int32} {vs vs' : List Value} (h : ∀ c ∈ cs, isCh c) (h' : ∀ c ∈ cs', isCh c) (B : Byt cs z vs) (B' : Byt cs' z' vs') : (z = z' ∧ vs = vs') ↔ cs = cs' := by
  constructor
  · rintro ⟨rfl, rfl⟩
    rcases B with ⟨q, rfl, rfl⟩ | ⟨q, rfl, rfl⟩ <;> rcases B' with ⟨q', e1, e2⟩ | ⟨q', e1, e2⟩
    · exact lat_inj (fun c hc => ⟨(h c hc).1, q c hc⟩) (fun c hc => ⟨(h' c hc).1, q' c hc⟩) e2
    · exact absurd e1 (by decide)
    · exact absurd e1 (by decide)
    · exact utf_inj h h' e2
  · rintro rfl
    rcases B with ⟨q, rfl, rfl⟩ | ⟨⟨c, hc, q⟩, rfl, rfl⟩ <;> rcases B' with ⟨q', e1, e2⟩ | ⟨⟨c', hc', q'⟩, e1, e2⟩
    · exact ⟨e1.symm, e2.symm⟩
    · have := q c' hc'; omega
    · have := q' c hc; omega
    · exact ⟨e1.symm, e2.symm⟩
theorem Str.fn (F : Str Z h a cs) (G : Str Z h a cs') : cs = cs' := by
  obtain ⟨-, h1, -, b, z, vs, F1, F2, A, B⟩ := F
  obtain ⟨-, h1', -, b', z', vs', F1', F2', A', B'⟩ := G
  have e1 := Fld.fn F1 F1'
  have e2 := Fld.fn F2 F2'
  simp only [Value.ref.injEq, Value.int.injEq] at e1 e2
  subst e1
  exact (Byt.iff h1 h1' B B').mp ⟨e2, A.fn A'⟩
end Facts
end Jvm.Own
namespace Jvm.Own
open Jvm Jvm.ClassFile Sem Op Lib Jvm.Free Jvm.Stand Jvm.LawKit Jvm.RoadKit
section Facts2
variable {Z : State} {h h' : Heap} {a b x : Addr} {cs cs' : List Int32} {a0 : Array Value}
theorem Ary.ne {ty ty' : FieldType} {vs ws : List Value} (F : Ary Z h a ty vs) (G : Ary Z h b ty' ws) (q : ty ≠ ty') : a ≠ b := fun e => by
  subst e
  obtain ⟨c, A, -⟩ := F
  obtain ⟨c', A', -⟩ := G
  cases A.1.symm.trans A'.1
  obtain ⟨-, k, hk, comp, hkind⟩ := A.2.1
  obtain ⟨-, k', hk', comp', hkind'⟩ := A'.2.1
  cases hk.symm.trans hk'
  have := hkind.symm.trans hkind'
  injection this with _ e
  exact q e
theorem Ary.neX {ty : FieldType} {vs : List Value} {C : String} {kk : Nat} (F : Ary Z h a ty vs) (E : Exa Z h x C) (wi : (Cond.instantiable C kk).before a0 Z = true) : a ≠ x := by
  obtain ⟨c, A, -⟩ := F
  exact (ne_arr E wi A).symm
theorem Ary.other {ty : FieldType} {vs : List Value} {sl : Nat} {v : Value} (F : Ary Z h a ty vs) (W : Wr h h' b sl v) (q : a ≠ b) : Ary Z h' a ty vs := F.keep (Keep.of_wr W) (ninS q nin0)
/-- how many chars ahead of the first above 255 -/
def pfx (cs : List Int32) : Nat := (cs.takeWhile fun c => decide (c.toInt < 256)).length
theorem pfx_all (h : ∀ c ∈ cs, c.toInt < 256) : pfx cs = cs.length := by
  induction cs with
  | nil => rfl
  | cons x r ih =>
    have e := ih (fun c hc => h c (by simp [hc]))
    have hx := h x (by simp)
    simp only [pfx] at e
    simp [pfx, List.takeWhile_cons, hx, e]
theorem pfx_at {i : Nat} {c : Int32} (h : ∀ c ∈ cs.take i, c.toInt < 256) (hc : cs[i]? = some c) (q : 256 ≤ c.toInt) : pfx cs = i := by
  induction cs generalizing i with
  | nil => simp at hc
  | cons x r ih =>
    cases i with
    | zero =>
      simp at hc; subst hc
      simp [pfx, List.takeWhile_cons, show ¬ x.toInt < 256 by omega]
    | succ i =>
      have hx : x.toInt < 256 := h x (by simp)
      have := ih (i := i) (fun c hc => h c (by simp [hc])) (by simpa using hc)
      simp only [pfx] at this
      simp [pfx, List.takeWhile_cons, hx, this]
theorem lat_set {i m : Nat} {c : Int32} (hm : i + (m + 1) = cs.length) (hc : cs[i]? = some c) : (lat (cs.take i) ++ List.replicate (m + 1) (Value.int 0)).set i (.int (nar .byte (nar .byte c))) = lat (cs.take (i + 1)) ++ List.replicate m (Value.int 0) := by
  have hi : i < cs.length := by omega
  have hl : (lat (cs.take i)).length = i := by rw [lat_len, List.length_take]; omega
  rw [List.set_append_right _ _ (by omega), hl, Nat.sub_self, List.replicate_succ, List.set_cons_zero, narb_idem]
  have e : cs.take (i + 1) = cs.take i ++ [c] := by
    rw [List.take_add_one, hc]; rfl
  rw [e]
  simp [lat]
theorem take_lt {i : Nat} {c : Int32} (h : ∀ c ∈ cs.take i, c.toInt < 256) (hc : cs[i]? = some c) (q : c.toInt < 256) : ∀ c ∈ cs.take (i + 1), c.toInt < 256 := by
  have e : cs.take (i + 1) = cs.take i ++ [c] := by
    rw [List.take_add_one, hc]; rfl
  rw [e]
  intro x hx
  rcases List.mem_append.mp hx with hx | hx
  · exact h x hx
  · simp at hx; subst hx; exact q
theorem chs_at {i : Nat} {c : Int32} (hc : cs[i]? = some c) : (chs cs)[i]? = some (.int c) := by simp [chs, hc]
theorem lat_at {i : Nat} {c : Int32} (hc : cs[i]? = some c) : (lat cs)[i]? = some (.int (nar .byte c)) := by simp [lat, hc]
theorem utf_at {i : Nat} {c : Int32} (hc : cs[i]? = some c) : (utf cs)[2 * i]? = some (.int (nar .byte c)) ∧ (utf cs)[2 * i + 1]? = some (.int (nar .byte (c >>> 8))) := by
  induction cs generalizing i with
  | nil => simp at hc
  | cons x r ih =>
    cases i with
    | zero => simp at hc; subst hc; simp [utf]
    | succ i =>
      have := ih (i := i) (by simpa using hc)
      simp only [utf] at this ⊢
      simp only [List.flatMap_cons, List.cons_append, List.nil_append]
      have e1 : 2 * (i + 1) = (2 * i) + 1 + 1 := by omega
      have e2 : 2 * (i + 1) + 1 = (2 * i + 1) + 1 + 1 := by omega
      rw [e2, e1]
      simpa using this
end Facts2
end Jvm.Own
namespace Jvm.Own
open Jvm Jvm.ClassFile Sem Op Lib Jvm.Free Jvm.Stand Jvm.LawKit Jvm.RoadKit
section Facts3
variable {cs cs' : List Int32}
theorem pfx_le (cs : List Int32) : pfx cs ≤ cs.length := (List.takeWhile_sublist _).length_le
theorem pfx_take (cs : List Int32) : ∀ c ∈ cs.take (pfx cs), c.toInt < 256 := by
  induction cs with
  | nil => simp
  | cons x r ih =>
    by_cases hx : x.toInt < 256
    · intro c hc
      have e : pfx (x :: r) = pfx r + 1 := by simp [pfx, List.takeWhile_cons, hx]
      rw [e, List.take_succ_cons] at hc
      rcases List.mem_cons.mp hc with rfl | hc
      · exact hx
      · exact ih c hc
    · intro c hc
      have e : pfx (x :: r) = 0 := by simp [pfx, List.takeWhile_cons, hx]
      rw [e] at hc; simp at hc
theorem pfx_full (h : pfx cs = cs.length) : ∀ c ∈ cs, c.toInt < 256 := by
  have := pfx_take cs; rw [h, List.take_length] at this; exact this
theorem pfx_next (h : pfx cs < cs.length) : ∃ c, cs[pfx cs]? = some c ∧ 256 ≤ c.toInt := by
  induction cs with
  | nil => simp at h
  | cons x r ih =>
    by_cases hx : x.toInt < 256
    · have e : pfx (x :: r) = pfx r + 1 := by simp [pfx, List.takeWhile_cons, hx]
      obtain ⟨c, h1, h2⟩ := ih (by rw [e] at h; simpa using h)
      exact ⟨c, by rw [e]; simpa using h1, h2⟩
    · have e : pfx (x :: r) = 0 := by simp [pfx, List.takeWhile_cons, hx]
      exact ⟨x, by rw [e]; simp, by omega⟩
theorem Byt.length {z : Int32} {vs : List Value} (B : Byt cs z vs) : (z = 0 ∧ vs.length = cs.length) ∨ (z = 1 ∧ vs.length = 2 * cs.length) := by
  rcases B with ⟨-, rfl, rfl⟩ | ⟨-, rfl, rfl⟩
  · exact Or.inl ⟨rfl, lat_len _⟩
  · exact Or.inr ⟨rfl, utf_len _⟩
theorem Byt.len_lt {z : Int32} {vs : List Value} (B : Byt cs z vs) (hl : cs.length ≤ 4096) : vs.length < 2 ^ 31 := by rcases B.length with ⟨-, e⟩ | ⟨-, e⟩ <;> omega
theorem Byt.coder {z y : Int32} {vs : List Value} (B : Byt cs z vs) (h1 : 1 ≤ cs.length) (hl : cs.length ≤ 4096) (hy : y.toInt = vs.length) : nar .byte (nar .byte (ushr (natI cs.length - y) 31)) = z := by
  have e1 := natI_toInt (i := cs.length) (by omega)
  have e2 := c_isub (natI cs.length) y
  have e3 := rng32 (natI cs.length - y)
  have e4 : (ushr (natI cs.length - y) 31).toInt = ((natI cs.length - y).toInt % 4294967296) / (2 ^ 31 : Nat) := c_iushr _ 31 31 (by decide) (by decide)
  have e6 : ((2 ^ 31 : Nat) : Int) = 2147483648 := by decide
  rw [e6] at e4
  have e5 : (ushr (natI cs.length - y) 31) = z := i32e (by
    rcases B.length with ⟨rfl, e⟩ | ⟨rfl, e⟩
    · have : (0 : Int32).toInt = 0 := rfl; omega
    · have : (1 : Int32).toInt = 1 := rfl; omega)
  rw [e5]
  rcases B.length with ⟨rfl, e⟩ | ⟨rfl, e⟩ <;> rfl
theorem Byt.ints {z : Int32} {vs : List Value} (B : Byt cs z vs) (hl : cs.length ≤ 4096) : ∃ xs : List Int32, vs = xs.map Value.int ∧ xs.length ≤ 8192 := by
  rcases B with ⟨-, -, rfl⟩ | ⟨-, -, rfl⟩
  · exact ⟨cs.map (nar .byte), by simp [lat], by simp; omega⟩
  · refine ⟨cs.flatMap fun c => [nar .byte c, nar .byte (c >>> 8)], by simp [utf, List.map_flatMap], ?_⟩
    have := utf_len cs
    have e : (utf cs).length = (cs.flatMap fun c => [nar .byte c, nar .byte (c >>> 8)]).length := by
      rw [← List.length_map Value.int]; simp [utf, List.map_flatMap]
    omega
end Facts3
end Jvm.Own
namespace Jvm.Own
open Jvm Jvm.ClassFile Sem Op Lib Jvm.Free Jvm.Stand Jvm.LawKit Jvm.RoadKit
section Facts4
variable {cs : List Int32}
theorem shl1 {x : Int32} {i : Nat} (h : x.toInt = i) (hi : i < 2 ^ 30) : (x <<< (1 &&& 31)).toInt = (2 * i : Nat) := by
  have a := c_ishl x 1 1 (by decide)
  have b := rng32 (x <<< (1 &&& 31))
  have e : ((2 ^ 1 : Nat) : Int) = 2 := by decide
  rw [e] at a
  have c : (x <<< (1 &&& 31)).toInt = 2 * i := by omega
  rw [c]; rfl
theorem shr1 {x : Int32} {m : Nat} (h : x.toInt = (2 * m : Nat)) : (x >>> (1 &&& 31)).toInt = m := by
  have a := c_ishr x 1 1 (by decide)
  have e : ((2 ^ 1 : Nat) : Int) = 2 := by decide
  rw [e] at a
  omega
theorem shr0 (x : Int32) : x >>> (0 &&& 31) = x := i32e (by
  have a := c_ishr x 0 0 (by decide)
  have e : ((2 ^ 0 : Nat) : Int) = 1 := by decide
  rw [e] at a; omega)
theorem utf_char {c : Int32} (h : isCh c) : nar .char (((nar .byte c &&& 255) <<< (0 &&& 31)) ||| ((nar .byte (c >>> 8) &&& 255) <<< (8 &&& 31))) = c := by
  obtain ⟨h1, h2⟩ := h
  have e8 : (c >>> 8).toInt = c.toInt / 256 := c_ishr c 8 8 (by decide)
  have m1 := mask8 (nar .byte c)
  have m2 := mask8 (nar .byte (c >>> 8))
  have n1 := narb c
  have n2 := narb (c >>> 8)
  have s1 := c_ishl (nar .byte c &&& 255) 0 0 (by decide)
  have s2 := c_ishl (nar .byte (c >>> 8) &&& 255) 8 8 (by decide)
  have r1 := rng32 ((nar .byte c &&& 255) <<< (0 &&& 31))
  have r2 := rng32 ((nar .byte (c >>> 8) &&& 255) <<< (8 &&& 31))
  have z0 : ((2 ^ 0 : Nat) : Int) = 1 := by decide
  have z8 : ((2 ^ 8 : Nat) : Int) = 256 := by decide
  rw [z0] at s1
  rw [z8] at s2
  have f1 : ((nar .byte c &&& 255) <<< (0 &&& 31)).toInt = c.toInt % 256 := by omega
  have f2 : ((nar .byte (c >>> 8) &&& 255) <<< (8 &&& 31)).toInt = c.toInt / 256 * 256 := by omega
  have o := c_or' ((nar .byte c &&& 255) <<< (0 &&& 31)) ((nar .byte (c >>> 8) &&& 255) <<< (8 &&& 31)) 8 (by decide) 256 z8.symm (by rw [f2]; omega) (by rw [f1]; omega) (by rw [f1]; omega)
  have r3 := rng32 (((nar .byte c &&& 255) <<< (0 &&& 31)) ||| ((nar .byte (c >>> 8) &&& 255) <<< (8 &&& 31)))
  have f3 : (((nar .byte c &&& 255) <<< (0 &&& 31)) ||| ((nar .byte (c >>> 8) &&& 255) <<< (8 &&& 31))) = c := i32e (by omega)
  rw [f3, narc_id ⟨h1, h2⟩]
theorem utf_set {i m : Nat} {c : Int32} (hm : i + (m + 1) = cs.length) (hc : cs[i]? = some c) : ((utf (cs.take i) ++ List.replicate (2 * (m + 1)) (Value.int 0)).set (2 * i) (.int (nar .byte c))).set (2 * i + 1) (.int (nar .byte (c >>> 8))) = utf (cs.take (i + 1)) ++ List.replicate (2 * m) (Value.int 0) := by
  have hi : i < cs.length := by omega
  have hl : (utf (cs.take i)).length = 2 * i := by rw [utf_len, List.length_take]; omega
  rw [List.set_append_right _ _ (by omega), hl, Nat.sub_self, List.set_append_right _ _ (by omega), hl, show 2 * (m + 1) = 2 * m + 1 + 1 by omega, List.replicate_succ, List.replicate_succ, List.set_cons_zero, show 2 * i + 1 - 2 * i = 1 by omega, List.set_cons_succ, List.set_cons_zero]
  have e : cs.take (i + 1) = cs.take i ++ [c] := by
    rw [List.take_add_one, hc]; rfl
  rw [e]
  simp [utf]
theorem Byt.isr {z y : Int32} {vs : List Value} (B : Byt cs z vs) (hl : cs.length ≤ 4096) (hy : y.toInt = vs.length) : y >>> (z &&& 31) = natI cs.length := i32e (by
  rw [natI_toInt (by omega)]
  rcases B.length with ⟨rfl, e⟩ | ⟨rfl, e⟩
  · rw [shr0, hy, e]
  · exact shr1 (by rw [hy, e]))
theorem Byt.z01 {z : Int32} {vs : List Value} (B : Byt cs z vs) : z = 0 ∨ z = 1 := B.length.imp (·.1) (·.1)
theorem Byt.nb {z : Int32} {vs : List Value} (B : Byt cs z vs) : nar .byte z = z := by rcases B.z01 with rfl | rfl <;> rfl
theorem Byt.zero {vs : List Value} (B : Byt cs 0 vs) : (∀ c ∈ cs, c.toInt < 256) ∧ vs = lat cs := by
  rcases B with ⟨q, -, e⟩ | ⟨-, q, -⟩
  · exact ⟨q, e⟩
  · exact absurd q (by decide)
theorem Byt.one {vs : List Value} (B : Byt cs 1 vs) : vs = utf cs := by
  rcases B with ⟨-, q, -⟩ | ⟨-, -, e⟩
  · exact absurd q (by decide)
  · exact e
end Facts4
end Jvm.Own
namespace Jvm.Own
open Jvm Jvm.ClassFile Sem Op Lib Jvm.Free Jvm.Stand Jvm.LawKit Jvm.RoadKit
theorem eq_val {args : Array Value} {first s : State} {o : Option Outcome} {idx : List Nat} {t : Term} {q : Int32} (h : (Jvm.Cond.eq t (.int q)).value args first o s idx = some true) : t.eval args first o idx s = some (.int q) := by
  obtain ⟨x, y, h1, h2, k1, k2⟩ := cmp_v (Or.inl h)
  cases (Term.int_eval q).symm.trans h2
  obtain ⟨z, rfl⟩ := k2
  have := gotT (Cond.eq_ints h1 h2) h
  rw [h1, this]
end Jvm.Own
namespace Jvm.Own
open Jvm Jvm.ClassFile Sem Op Lib Jvm.Free Jvm.Stand Jvm.LawKit Jvm.RoadKit
theorem Ary.fill {Z : State} {h : Heap} {b : Addr} {ty : FieldType} {v w : Value} {i j m n : Nat} (F : Ary Z h b ty ((List.replicate i v ++ List.replicate m w).set i v)) (hm : m = n + 1) (hj : j = i + 1) : Ary Z h b ty (List.replicate j v ++ List.replicate n w) := by
  subst hm hj
  have e : (List.replicate i v ++ List.replicate (n + 1) w).set i v = List.replicate (i + 1) v ++ List.replicate n w := by
    rw [List.set_append_right _ _ (by simp), List.length_replicate, Nat.sub_self, List.replicate_succ, List.set_cons_zero, List.replicate_succ', List.append_assoc]; rfl
  rw [e] at F; exact F
end Jvm.Own
namespace Jvm.Pilot.@@N@@
open Jvm Jvm.ClassFile Sem Op Lib Jvm.Free Jvm.Stand Jvm.LawKit Jvm.RoadKit Jvm.Own Jvm.Pilot.@@N@@.Jvm.D
abbrev WD : Bool := false
abbrev EL0 : List (String × Nat) := []
theorem hWE : WD = false → EL0 = [] := fun _ => rfl
theorem hEL {Z : State} {a0 : Array Value} (hw : ∀ d ∈ tables_1, d.before a0 Z = true) : EW Z a0 EL0 := EW.nil
def Stt (Z : State) : Prop := (∃ cv : Int32, ¬ cv = 0 ∧ Sta Z Z.heap "java/lang/String" "COMPACT_STRINGS" "Z" (.int cv)) ∧ True
theorem st_c {Z : State} (hs : Stt Z) : ∃ cv : Int32, ¬ cv = 0 ∧ Sta Z Z.heap "java/lang/String" "COMPACT_STRINGS" "Z" (.int cv) := hs.1
theorem not_sub {Z : State} {a0 : Array Value} {C S K : String} {kk : Nat} (w : (Jvm.Cond.superclass C S).before a0 Z = true) (wt : (Jvm.Cond.noSuperclass S).before a0 Z = true) (wk : (Jvm.Cond.instantiable K kk).before a0 Z = true) (hn : C ≠ K) (hn' : S ≠ K) : ∃ c t, Z.vm.findClass C = some c ∧ Z.vm.findClass K = some t ∧ Z.vm.assignable c t = false := by
  obtain ⟨t, k', g0, g2, g5, g7, -⟩ := Cond.instantiable_spec wk
  obtain ⟨c, h0⟩ := found_sup w
  obtain ⟨p, k, kp, h1, h2, h3, h4, h5, -, h7⟩ := Cond.superclass_spec h0 w
  obtain ⟨p', kp', r1, r2, r3, -, -⟩ := Cond.noSuperclass_spec wt
  cases h1.symm.trans r1
  have ne := ids_ne h0 g0 hn
  have ne' := ids_ne h1 g0 hn'
  have g8 : k'.isInterface = false := by
    cases q : k'.isInterface with
    | false => rfl
    | true => rw [q] at g7; cases g7
  refine ⟨c, t, h0, g0, ?_⟩
  have n3 : ∀ fuel, Z.vm.isSubclassAux fuel c t = false := fun fuel => by
    cases fuel with
    | zero => rfl
    | succ f => cases f with
      | zero => simp [Vm.isSubclassAux, ne, h2, h4]
      | succ f => simp [Vm.isSubclassAux, ne, ne', h2, h4, r2, r3]
  show Z.vm.assignableAux (255 + 1) c t = false
  simp [Vm.assignableAux, ne, h2, g2, h5, g5, g8, Vm.isSubclass, n3]
theorem d0_0 : Dc method_2_code 0 (.iload_n 0) 1 1 := ⟨by decide +kernel, rfl⟩
theorem d0_1 : Db method_2_code 1 (.ifCond .eq 5) 3 4 (5) 6 := ⟨by decide +kernel, rfl, by decide, by decide⟩
theorem d0_4 : Dc method_2_code 4 (.aconst_null) 1 5 := ⟨by decide +kernel, rfl⟩
theorem d0_5 : Dc method_2_code 5 (.areturn) 1 6 := ⟨by decide +kernel, rfl⟩
theorem d0_6 : Dc method_2_code 6 (.iconst 2) 1 7 := ⟨by decide +kernel, rfl⟩
theorem d0_7 : Dc method_2_code 7 (.newarray .char) 2 9 := ⟨by decide +kernel, rfl⟩
theorem d0_9 : Dc method_2_code 9 (.astore_n 2) 1 10 := ⟨by decide +kernel, rfl⟩
theorem d0_10 : Dc method_2_code 10 (.aload_n 2) 1 11 := ⟨by decide +kernel, rfl⟩
theorem d0_11 : Dc method_2_code 11 (.iconst 0) 1 12 := ⟨by decide +kernel, rfl⟩
theorem d0_12 : Dc method_2_code 12 (.iload_n 1) 1 13 := ⟨by decide +kernel, rfl⟩
theorem d0_13 : Dc method_2_code 13 (.sipush 255) 3 16 := ⟨by decide +kernel, rfl⟩
theorem d0_16 : Dc method_2_code 16 (.iand) 1 17 := ⟨by decide +kernel, rfl⟩
theorem d0_17 : Dc method_2_code 17 (.i2c) 1 18 := ⟨by decide +kernel, rfl⟩
theorem d0_18 : Dc method_2_code 18 (.castore) 1 19 := ⟨by decide +kernel, rfl⟩
theorem d0_19 : Dc method_2_code 19 (.aload_n 2) 1 20 := ⟨by decide +kernel, rfl⟩
theorem d0_20 : Dc method_2_code 20 (.iconst 1) 1 21 := ⟨by decide +kernel, rfl⟩
theorem d0_21 : Dc method_2_code 21 (.iload_n 1) 1 22 := ⟨by decide +kernel, rfl⟩
theorem d0_22 : Dc method_2_code 22 (.bipush 8) 2 24 := ⟨by decide +kernel, rfl⟩
theorem d0_24 : Dc method_2_code 24 (.iushr) 1 25 := ⟨by decide +kernel, rfl⟩
theorem d0_25 : Dc method_2_code 25 (.sipush 255) 3 28 := ⟨by decide +kernel, rfl⟩
theorem d0_28 : Dc method_2_code 28 (.iand) 1 29 := ⟨by decide +kernel, rfl⟩
theorem d0_29 : Dc method_2_code 29 (.i2c) 1 30 := ⟨by decide +kernel, rfl⟩
theorem d0_30 : Dc method_2_code 30 (.castore) 1 31 := ⟨by decide +kernel, rfl⟩
theorem d0_31 : Dc method_2_code 31 (.new 7) 3 34 := ⟨by decide +kernel, rfl⟩
theorem d0_34 : Dc method_2_code 34 (.dup) 1 35 := ⟨by decide +kernel, rfl⟩
theorem d0_35 : Dc method_2_code 35 (.aload_n 2) 1 36 := ⟨by decide +kernel, rfl⟩
theorem d0_36 : Dc method_2_code 36 (.invokespecial 9) 3 39 := ⟨by decide +kernel, rfl⟩
theorem d0_39 : Dc method_2_code 39 (.areturn) 1 40 := ⟨by decide +kernel, rfl⟩
theorem d1_0 : Dc jdk_42_method_3_code 0 (.aload_n 0) 1 1 := ⟨by decide +kernel, rfl⟩
theorem d1_1 : Dc jdk_42_method_3_code 1 (.aload_n 1) 1 2 := ⟨by decide +kernel, rfl⟩
theorem d1_2 : Dc jdk_42_method_3_code 2 (.iconst 0) 1 3 := ⟨by decide +kernel, rfl⟩
theorem d1_3 : Dc jdk_42_method_3_code 3 (.aload_n 1) 1 4 := ⟨by decide +kernel, rfl⟩
theorem d1_4 : Dc jdk_42_method_3_code 4 (.arraylength) 1 5 := ⟨by decide +kernel, rfl⟩
theorem d1_5 : Dc jdk_42_method_3_code 5 (.aconst_null) 1 6 := ⟨by decide +kernel, rfl⟩
theorem d1_6 : Dc jdk_42_method_3_code 6 (.invokespecial 27) 3 9 := ⟨by decide +kernel, rfl⟩
theorem d1_9 : Dc jdk_42_method_3_code 9 (.return_) 1 10 := ⟨by decide +kernel, rfl⟩
theorem d2_0 : Dc jdk_42_method_149_code 0 (.aload_n 0) 1 1 := ⟨by decide +kernel, rfl⟩
theorem d2_1 : Dc jdk_42_method_149_code 1 (.invokespecial 1) 3 4 := ⟨by decide +kernel, rfl⟩
theorem d2_4 : Dc jdk_42_method_149_code 4 (.iload_n 3) 1 5 := ⟨by decide +kernel, rfl⟩
theorem d2_5 : Db jdk_42_method_149_code 5 (.ifCond .ne 22) 3 8 (22) 27 := ⟨by decide +kernel, rfl, by decide, by decide⟩
theorem d2_27 : Dc jdk_42_method_149_code 27 (.getstatic 38) 3 30 := ⟨by decide +kernel, rfl⟩
theorem d2_30 : Db jdk_42_method_149_code 30 (.ifCond .eq 28) 3 33 (28) 58 := ⟨by decide +kernel, rfl, by decide, by decide⟩
theorem d2_33 : Dc jdk_42_method_149_code 33 (.aload_n 1) 1 34 := ⟨by decide +kernel, rfl⟩
theorem d2_34 : Dc jdk_42_method_149_code 34 (.iload_n 2) 1 35 := ⟨by decide +kernel, rfl⟩
theorem d2_35 : Dc jdk_42_method_149_code 35 (.iload_n 3) 1 36 := ⟨by decide +kernel, rfl⟩
theorem d2_36 : Dc jdk_42_method_149_code 36 (.invokestatic 177) 3 39 := ⟨by decide +kernel, rfl⟩
theorem d2_39 : Dc jdk_42_method_149_code 39 (.astore 5) 2 41 := ⟨by decide +kernel, rfl⟩
theorem d2_41 : Dc jdk_42_method_149_code 41 (.aload_n 0) 1 42 := ⟨by decide +kernel, rfl⟩
theorem d2_42 : Dc jdk_42_method_149_code 42 (.aload 5) 2 44 := ⟨by decide +kernel, rfl⟩
theorem d2_44 : Dc jdk_42_method_149_code 44 (.iload_n 3) 1 45 := ⟨by decide +kernel, rfl⟩
theorem d2_45 : Dc jdk_42_method_149_code 45 (.invokestatic 47) 3 48 := ⟨by decide +kernel, rfl⟩
theorem d2_48 : Dc jdk_42_method_149_code 48 (.putfield 15) 3 51 := ⟨by decide +kernel, rfl⟩
theorem d2_51 : Dc jdk_42_method_149_code 51 (.aload_n 0) 1 52 := ⟨by decide +kernel, rfl⟩
theorem d2_52 : Dc jdk_42_method_149_code 52 (.aload 5) 2 54 := ⟨by decide +kernel, rfl⟩
theorem d2_54 : Dc jdk_42_method_149_code 54 (.putfield 9) 3 57 := ⟨by decide +kernel, rfl⟩
theorem d2_57 : Dc jdk_42_method_149_code 57 (.return_) 1 58 := ⟨by decide +kernel, rfl⟩
theorem d4_0 : Dc jdk_52_method_16_code 0 (.iload_n 2) 1 1 := ⟨by decide +kernel, rfl⟩
theorem d4_1 : Dc jdk_52_method_16_code 1 (.newarray .byte) 2 3 := ⟨by decide +kernel, rfl⟩
theorem d4_3 : Dc jdk_52_method_16_code 3 (.astore_n 3) 1 4 := ⟨by decide +kernel, rfl⟩
theorem d4_4 : Dc jdk_52_method_16_code 4 (.aload_n 0) 1 5 := ⟨by decide +kernel, rfl⟩
theorem d4_5 : Dc jdk_52_method_16_code 5 (.iload_n 1) 1 6 := ⟨by decide +kernel, rfl⟩
theorem d4_6 : Dc jdk_52_method_16_code 6 (.aload_n 3) 1 7 := ⟨by decide +kernel, rfl⟩
theorem d4_7 : Dc jdk_52_method_16_code 7 (.iconst 0) 1 8 := ⟨by decide +kernel, rfl⟩
theorem d4_8 : Dc jdk_52_method_16_code 8 (.iload_n 2) 1 9 := ⟨by decide +kernel, rfl⟩
theorem d4_9 : Dc jdk_52_method_16_code 9 (.invokestatic 115) 3 12 := ⟨by decide +kernel, rfl⟩
theorem d4_12 : Dc jdk_52_method_16_code 12 (.istore 4) 2 14 := ⟨by decide +kernel, rfl⟩
theorem d4_14 : Dc jdk_52_method_16_code 14 (.iload 4) 2 16 := ⟨by decide +kernel, rfl⟩
theorem d4_16 : Dc jdk_52_method_16_code 16 (.iload_n 2) 1 17 := ⟨by decide +kernel, rfl⟩
theorem d4_17 : Db jdk_52_method_16_code 17 (.if_icmp .eq 40) 3 20 (40) 57 := ⟨by decide +kernel, rfl, by decide, by decide⟩
theorem d4_57 : Dc jdk_52_method_16_code 57 (.aload_n 3) 1 58 := ⟨by decide +kernel, rfl⟩
theorem d4_58 : Dc jdk_52_method_16_code 58 (.areturn) 1 59 := ⟨by decide +kernel, rfl⟩
theorem d5_0 : Dc jdk_52_method_21_code 0 (.iconst 0) 1 1 := ⟨by decide +kernel, rfl⟩
theorem d5_1 : Dc jdk_52_method_21_code 1 (.istore 5) 2 3 := ⟨by decide +kernel, rfl⟩
theorem d5_3 : Dc jdk_52_method_21_code 3 (.iload 5) 2 5 := ⟨by decide +kernel, rfl⟩
theorem d5_5 : Dc jdk_52_method_21_code 5 (.iload 4) 2 7 := ⟨by decide +kernel, rfl⟩
theorem d5_7 : Db jdk_52_method_21_code 7 (.if_icmp .ge 37) 3 10 (37) 44 := ⟨by decide +kernel, rfl, by decide, by decide⟩
theorem d5_10 : Dc jdk_52_method_21_code 10 (.aload_n 0) 1 11 := ⟨by decide +kernel, rfl⟩
theorem d5_11 : Dc jdk_52_method_21_code 11 (.iload_n 1) 1 12 := ⟨by decide +kernel, rfl⟩
theorem d5_12 : Dc jdk_52_method_21_code 12 (.caload) 1 13 := ⟨by decide +kernel, rfl⟩
theorem d5_13 : Dc jdk_52_method_21_code 13 (.istore 6) 2 15 := ⟨by decide +kernel, rfl⟩
theorem d5_15 : Dc jdk_52_method_21_code 15 (.iload 6) 2 17 := ⟨by decide +kernel, rfl⟩
theorem d5_17 : Dc jdk_52_method_21_code 17 (.sipush 255) 3 20 := ⟨by decide +kernel, rfl⟩
theorem d5_20 : Db jdk_52_method_21_code 20 (.if_icmp .le 6) 3 23 (6) 26 := ⟨by decide +kernel, rfl, by decide, by decide⟩
theorem d5_23 : Dc jdk_52_method_21_code 23 (.iload 5) 2 25 := ⟨by decide +kernel, rfl⟩
theorem d5_25 : Dc jdk_52_method_21_code 25 (.ireturn) 1 26 := ⟨by decide +kernel, rfl⟩
theorem d5_26 : Dc jdk_52_method_21_code 26 (.aload_n 2) 1 27 := ⟨by decide +kernel, rfl⟩
theorem d5_27 : Dc jdk_52_method_21_code 27 (.iload_n 3) 1 28 := ⟨by decide +kernel, rfl⟩
theorem d5_28 : Dc jdk_52_method_21_code 28 (.iload 6) 2 30 := ⟨by decide +kernel, rfl⟩
theorem d5_30 : Dc jdk_52_method_21_code 30 (.i2b) 1 31 := ⟨by decide +kernel, rfl⟩
theorem d5_31 : Dc jdk_52_method_21_code 31 (.bastore) 1 32 := ⟨by decide +kernel, rfl⟩
theorem d5_32 : Dc jdk_52_method_21_code 32 (.iinc 1 1) 3 35 := ⟨by decide +kernel, rfl⟩
theorem d5_35 : Dc jdk_52_method_21_code 35 (.iinc 3 1) 3 38 := ⟨by decide +kernel, rfl⟩
theorem d5_38 : Dc jdk_52_method_21_code 38 (.iinc 5 1) 3 41 := ⟨by decide +kernel, rfl⟩
theorem d5_41 : Db jdk_52_method_21_code 41 (.goto (-38)) 3 44 (-38) 3 := ⟨by decide +kernel, rfl, by decide, by decide⟩
theorem d5_44 : Dc jdk_52_method_21_code 44 (.iload 4) 2 46 := ⟨by decide +kernel, rfl⟩
theorem d5_46 : Dc jdk_52_method_21_code 46 (.ireturn) 1 47 := ⟨by decide +kernel, rfl⟩
theorem d6_0 : Dc jdk_52_method_15_code 0 (.iload_n 1) 1 1 := ⟨by decide +kernel, rfl⟩
theorem d6_1 : Dc jdk_52_method_15_code 1 (.aload_n 0) 1 2 := ⟨by decide +kernel, rfl⟩
theorem d6_2 : Dc jdk_52_method_15_code 2 (.arraylength) 1 3 := ⟨by decide +kernel, rfl⟩
theorem d6_3 : Dc jdk_52_method_15_code 3 (.isub) 1 4 := ⟨by decide +kernel, rfl⟩
theorem d6_4 : Dc jdk_52_method_15_code 4 (.bipush 31) 2 6 := ⟨by decide +kernel, rfl⟩
theorem d6_6 : Dc jdk_52_method_15_code 6 (.iushr) 1 7 := ⟨by decide +kernel, rfl⟩
theorem d6_7 : Dc jdk_52_method_15_code 7 (.i2b) 1 8 := ⟨by decide +kernel, rfl⟩
theorem d6_8 : Dc jdk_52_method_15_code 8 (.ireturn) 1 9 := ⟨by decide +kernel, rfl⟩
theorem d7_0 : Dc prog_1_method_1_code 0 (.aload_n 0) 1 1 := ⟨by decide +kernel, rfl⟩
theorem d7_1 : Dc prog_1_method_1_code 1 (.invokespecial 1) 3 4 := ⟨by decide +kernel, rfl⟩
theorem d7_4 : Dc prog_1_method_1_code 4 (.aload_n 0) 1 5 := ⟨by decide +kernel, rfl⟩
theorem d7_5 : Dc prog_1_method_1_code 5 (.aload_n 1) 1 6 := ⟨by decide +kernel, rfl⟩
theorem d7_6 : Dc prog_1_method_1_code 6 (.putfield 7) 3 9 := ⟨by decide +kernel, rfl⟩
theorem d7_9 : Dc prog_1_method_1_code 9 (.aload_n 0) 1 10 := ⟨by decide +kernel, rfl⟩
theorem d7_10 : Dc prog_1_method_1_code 10 (.aload_n 2) 1 11 := ⟨by decide +kernel, rfl⟩
theorem d7_11 : Dc prog_1_method_1_code 11 (.putfield 13) 3 14 := ⟨by decide +kernel, rfl⟩
theorem d7_14 : Dc prog_1_method_1_code 14 (.return_) 1 15 := ⟨by decide +kernel, rfl⟩
theorem d8_0 : Dc jdk_30_method_1_code 0 (.aload_n 0) 1 1 := ⟨by decide +kernel, rfl⟩
theorem d8_1 : Dc jdk_30_method_1_code 1 (.invokespecial 1) 3 4 := ⟨by decide +kernel, rfl⟩
theorem d8_4 : Dc jdk_30_method_1_code 4 (.return_) 1 5 := ⟨by decide +kernel, rfl⟩
theorem d9_0 : Dc method_3_code 0 (.iload_n 0) 1 1 := ⟨by decide +kernel, rfl⟩
theorem d9_1 : Db method_3_code 1 (.ifCond .ne 7) 3 4 (7) 8 := ⟨by decide +kernel, rfl, by decide, by decide⟩
theorem d9_4 : Dc method_3_code 4 (.iload_n 2) 1 5 := ⟨by decide +kernel, rfl⟩
theorem d9_5 : Db method_3_code 5 (.ifCond .eq 17) 3 8 (17) 22 := ⟨by decide +kernel, rfl, by decide, by decide⟩
theorem d9_8 : Dc method_3_code 8 (.iload_n 0) 1 9 := ⟨by decide +kernel, rfl⟩
theorem d9_9 : Db method_3_code 9 (.ifCond .eq 11) 3 12 (11) 20 := ⟨by decide +kernel, rfl, by decide, by decide⟩
theorem d9_12 : Dc method_3_code 12 (.iload_n 2) 1 13 := ⟨by decide +kernel, rfl⟩
theorem d9_13 : Db method_3_code 13 (.ifCond .eq 7) 3 16 (7) 20 := ⟨by decide +kernel, rfl, by decide, by decide⟩
theorem d9_16 : Dc method_3_code 16 (.iconst 1) 1 17 := ⟨by decide +kernel, rfl⟩
theorem d9_17 : Db method_3_code 17 (.goto 4) 3 20 (4) 21 := ⟨by decide +kernel, rfl, by decide, by decide⟩
theorem d9_20 : Dc method_3_code 20 (.iconst 0) 1 21 := ⟨by decide +kernel, rfl⟩
theorem d9_21 : Dc method_3_code 21 (.ireturn) 1 22 := ⟨by decide +kernel, rfl⟩
theorem d9_22 : Dc method_3_code 22 (.iload_n 1) 1 23 := ⟨by decide +kernel, rfl⟩
theorem d9_23 : Dc method_3_code 23 (.sipush 255) 3 26 := ⟨by decide +kernel, rfl⟩
theorem d9_26 : Dc method_3_code 26 (.iand) 1 27 := ⟨by decide +kernel, rfl⟩
theorem d9_27 : Dc method_3_code 27 (.iload_n 3) 1 28 := ⟨by decide +kernel, rfl⟩
theorem d9_28 : Dc method_3_code 28 (.sipush 255) 3 31 := ⟨by decide +kernel, rfl⟩
theorem d9_31 : Dc method_3_code 31 (.iand) 1 32 := ⟨by decide +kernel, rfl⟩
theorem d9_32 : Db method_3_code 32 (.if_icmp .ne 26) 3 35 (26) 58 := ⟨by decide +kernel, rfl, by decide, by decide⟩
theorem d9_35 : Dc method_3_code 35 (.iload_n 1) 1 36 := ⟨by decide +kernel, rfl⟩
theorem d9_36 : Dc method_3_code 36 (.bipush 8) 2 38 := ⟨by decide +kernel, rfl⟩
theorem d9_38 : Dc method_3_code 38 (.iushr) 1 39 := ⟨by decide +kernel, rfl⟩
theorem d9_39 : Dc method_3_code 39 (.sipush 255) 3 42 := ⟨by decide +kernel, rfl⟩
theorem d9_42 : Dc method_3_code 42 (.iand) 1 43 := ⟨by decide +kernel, rfl⟩
theorem d9_43 : Dc method_3_code 43 (.iload_n 3) 1 44 := ⟨by decide +kernel, rfl⟩
theorem d9_44 : Dc method_3_code 44 (.bipush 8) 2 46 := ⟨by decide +kernel, rfl⟩
theorem d9_46 : Dc method_3_code 46 (.iushr) 1 47 := ⟨by decide +kernel, rfl⟩
theorem d9_47 : Dc method_3_code 47 (.sipush 255) 3 50 := ⟨by decide +kernel, rfl⟩
theorem d9_50 : Dc method_3_code 50 (.iand) 1 51 := ⟨by decide +kernel, rfl⟩
theorem d9_51 : Db method_3_code 51 (.if_icmp .ne 7) 3 54 (7) 58 := ⟨by decide +kernel, rfl, by decide, by decide⟩
theorem d9_54 : Dc method_3_code 54 (.iconst 1) 1 55 := ⟨by decide +kernel, rfl⟩
theorem d9_55 : Db method_3_code 55 (.goto 4) 3 58 (4) 59 := ⟨by decide +kernel, rfl, by decide, by decide⟩
theorem d9_58 : Dc method_3_code 58 (.iconst 0) 1 59 := ⟨by decide +kernel, rfl⟩
theorem d9_59 : Dc method_3_code 59 (.ireturn) 1 60 := ⟨by decide +kernel, rfl⟩
theorem d10_0 : Dc prog_1_method_2_code 0 (.aload_n 1) 1 1 := ⟨by decide +kernel, rfl⟩
theorem d10_1 : Dc prog_1_method_2_code 1 (.instanceof 8) 3 4 := ⟨by decide +kernel, rfl⟩
theorem d10_4 : Db prog_1_method_2_code 4 (.ifCond .eq 40) 3 7 (40) 44 := ⟨by decide +kernel, rfl, by decide, by decide⟩
theorem d10_7 : Dc prog_1_method_2_code 7 (.aload_n 1) 1 8 := ⟨by decide +kernel, rfl⟩
theorem d10_8 : Dc prog_1_method_2_code 8 (.checkcast 8) 3 11 := ⟨by decide +kernel, rfl⟩
theorem d10_11 : Dc prog_1_method_2_code 11 (.astore_n 2) 1 12 := ⟨by decide +kernel, rfl⟩
theorem d10_12 : Dc prog_1_method_2_code 12 (.aload_n 0) 1 13 := ⟨by decide +kernel, rfl⟩
theorem d10_13 : Dc prog_1_method_2_code 13 (.getfield 7) 3 16 := ⟨by decide +kernel, rfl⟩
theorem d10_16 : Dc prog_1_method_2_code 16 (.aload_n 2) 1 17 := ⟨by decide +kernel, rfl⟩
theorem d10_17 : Dc prog_1_method_2_code 17 (.getfield 7) 3 20 := ⟨by decide +kernel, rfl⟩
theorem d10_20 : Dc prog_1_method_2_code 20 (.invokestatic 16) 3 23 := ⟨by decide +kernel, rfl⟩
theorem d10_23 : Db prog_1_method_2_code 23 (.ifCond .eq 21) 3 26 (21) 44 := ⟨by decide +kernel, rfl, by decide, by decide⟩
theorem d10_26 : Dc prog_1_method_2_code 26 (.aload_n 0) 1 27 := ⟨by decide +kernel, rfl⟩
theorem d10_27 : Dc prog_1_method_2_code 27 (.getfield 13) 3 30 := ⟨by decide +kernel, rfl⟩
theorem d10_30 : Dc prog_1_method_2_code 30 (.aload_n 2) 1 31 := ⟨by decide +kernel, rfl⟩
theorem d10_31 : Dc prog_1_method_2_code 31 (.getfield 13) 3 34 := ⟨by decide +kernel, rfl⟩
theorem d10_34 : Dc prog_1_method_2_code 34 (.invokestatic 16) 3 37 := ⟨by decide +kernel, rfl⟩
theorem d10_37 : Db prog_1_method_2_code 37 (.ifCond .eq 7) 3 40 (7) 44 := ⟨by decide +kernel, rfl, by decide, by decide⟩
theorem d10_40 : Dc prog_1_method_2_code 40 (.iconst 1) 1 41 := ⟨by decide +kernel, rfl⟩
theorem d10_41 : Db prog_1_method_2_code 41 (.goto 4) 3 44 (4) 45 := ⟨by decide +kernel, rfl, by decide, by decide⟩
theorem d10_44 : Dc prog_1_method_2_code 44 (.iconst 0) 1 45 := ⟨by decide +kernel, rfl⟩
theorem d10_45 : Dc prog_1_method_2_code 45 (.ireturn) 1 46 := ⟨by decide +kernel, rfl⟩
theorem d11_0 : Dc jdk_31_method_2_code 0 (.aload_n 0) 1 1 := ⟨by decide +kernel, rfl⟩
theorem d11_1 : Dc jdk_31_method_2_code 1 (.aload_n 1) 1 2 := ⟨by decide +kernel, rfl⟩
theorem d11_2 : Db jdk_31_method_2_code 2 (.if_acmp .eq 15) 3 5 (15) 17 := ⟨by decide +kernel, rfl, by decide, by decide⟩
theorem d11_5 : Dc jdk_31_method_2_code 5 (.aload_n 0) 1 6 := ⟨by decide +kernel, rfl⟩
theorem d11_6 : Db jdk_31_method_2_code 6 (.ifnull 15) 3 9 (15) 21 := ⟨by decide +kernel, rfl, by decide, by decide⟩
theorem d11_9 : Dc jdk_31_method_2_code 9 (.aload_n 0) 1 10 := ⟨by decide +kernel, rfl⟩
theorem d11_10 : Dc jdk_31_method_2_code 10 (.aload_n 1) 1 11 := ⟨by decide +kernel, rfl⟩
theorem d11_11 : Dc jdk_31_method_2_code 11 (.invokevirtual 14) 3 14 := ⟨by decide +kernel, rfl⟩
theorem d11_14 : Db jdk_31_method_2_code 14 (.ifCond .eq 7) 3 17 (7) 21 := ⟨by decide +kernel, rfl, by decide, by decide⟩
theorem d11_17 : Dc jdk_31_method_2_code 17 (.iconst 1) 1 18 := ⟨by decide +kernel, rfl⟩
theorem d11_18 : Db jdk_31_method_2_code 18 (.goto 4) 3 21 (4) 22 := ⟨by decide +kernel, rfl, by decide, by decide⟩
theorem d11_21 : Dc jdk_31_method_2_code 21 (.iconst 0) 1 22 := ⟨by decide +kernel, rfl⟩
theorem d11_22 : Dc jdk_31_method_2_code 22 (.ireturn) 1 23 := ⟨by decide +kernel, rfl⟩
theorem d12_0 : Dc jdk_42_method_66_code 0 (.aload_n 0) 1 1 := ⟨by decide +kernel, rfl⟩
theorem d12_1 : Dc jdk_42_method_66_code 1 (.aload_n 1) 1 2 := ⟨by decide +kernel, rfl⟩
theorem d12_2 : Db jdk_42_method_66_code 2 (.if_acmp .ne 5) 3 5 (5) 7 := ⟨by decide +kernel, rfl, by decide, by decide⟩
theorem d12_5 : Dc jdk_42_method_66_code 5 (.iconst 1) 1 6 := ⟨by decide +kernel, rfl⟩
theorem d12_6 : Dc jdk_42_method_66_code 6 (.ireturn) 1 7 := ⟨by decide +kernel, rfl⟩
theorem d12_7 : Dc jdk_42_method_66_code 7 (.aload_n 1) 1 8 := ⟨by decide +kernel, rfl⟩
theorem d12_8 : Dc jdk_42_method_66_code 8 (.instanceof 10) 3 11 := ⟨by decide +kernel, rfl⟩
theorem d12_11 : Db jdk_42_method_66_code 11 (.ifCond .eq 43) 3 14 (43) 54 := ⟨by decide +kernel, rfl, by decide, by decide⟩
theorem d12_14 : Dc jdk_42_method_66_code 14 (.aload_n 1) 1 15 := ⟨by decide +kernel, rfl⟩
theorem d12_15 : Dc jdk_42_method_66_code 15 (.checkcast 10) 3 18 := ⟨by decide +kernel, rfl⟩
theorem d12_18 : Dc jdk_42_method_66_code 18 (.astore_n 2) 1 19 := ⟨by decide +kernel, rfl⟩
theorem d12_19 : Dc jdk_42_method_66_code 19 (.getstatic 38) 3 22 := ⟨by decide +kernel, rfl⟩
theorem d12_22 : Db jdk_42_method_66_code 22 (.ifCond .eq 14) 3 25 (14) 36 := ⟨by decide +kernel, rfl, by decide, by decide⟩
theorem d12_25 : Dc jdk_42_method_66_code 25 (.aload_n 0) 1 26 := ⟨by decide +kernel, rfl⟩
theorem d12_26 : Dc jdk_42_method_66_code 26 (.getfield 15) 3 29 := ⟨by decide +kernel, rfl⟩
theorem d12_29 : Dc jdk_42_method_66_code 29 (.aload_n 2) 1 30 := ⟨by decide +kernel, rfl⟩
theorem d12_30 : Dc jdk_42_method_66_code 30 (.getfield 15) 3 33 := ⟨by decide +kernel, rfl⟩
theorem d12_33 : Db jdk_42_method_66_code 33 (.if_icmp .ne 21) 3 36 (21) 54 := ⟨by decide +kernel, rfl, by decide, by decide⟩
theorem d12_36 : Dc jdk_42_method_66_code 36 (.aload_n 0) 1 37 := ⟨by decide +kernel, rfl⟩
theorem d12_37 : Dc jdk_42_method_66_code 37 (.getfield 9) 3 40 := ⟨by decide +kernel, rfl⟩
theorem d12_40 : Dc jdk_42_method_66_code 40 (.aload_n 2) 1 41 := ⟨by decide +kernel, rfl⟩
theorem d12_41 : Dc jdk_42_method_66_code 41 (.getfield 9) 3 44 := ⟨by decide +kernel, rfl⟩
theorem d12_44 : Dc jdk_42_method_66_code 44 (.invokestatic 541) 3 47 := ⟨by decide +kernel, rfl⟩
theorem d12_47 : Db jdk_42_method_66_code 47 (.ifCond .eq 7) 3 50 (7) 54 := ⟨by decide +kernel, rfl, by decide, by decide⟩
theorem d12_50 : Dc jdk_42_method_66_code 50 (.iconst 1) 1 51 := ⟨by decide +kernel, rfl⟩
theorem d12_51 : Db jdk_42_method_66_code 51 (.goto 4) 3 54 (4) 55 := ⟨by decide +kernel, rfl, by decide, by decide⟩
theorem d12_54 : Dc jdk_42_method_66_code 54 (.iconst 0) 1 55 := ⟨by decide +kernel, rfl⟩
theorem d12_55 : Dc jdk_42_method_66_code 55 (.ireturn) 1 56 := ⟨by decide +kernel, rfl⟩
theorem d13_0 : Dc jdk_43_method_13_code 0 (.aload_n 0) 1 1 := ⟨by decide +kernel, rfl⟩
theorem d13_1 : Dc jdk_43_method_13_code 1 (.arraylength) 1 2 := ⟨by decide +kernel, rfl⟩
theorem d13_2 : Dc jdk_43_method_13_code 2 (.aload_n 1) 1 3 := ⟨by decide +kernel, rfl⟩
theorem d13_3 : Dc jdk_43_method_13_code 3 (.arraylength) 1 4 := ⟨by decide +kernel, rfl⟩
theorem d13_4 : Db jdk_43_method_13_code 4 (.if_icmp .ne 30) 3 7 (30) 34 := ⟨by decide +kernel, rfl, by decide, by decide⟩
theorem d13_7 : Dc jdk_43_method_13_code 7 (.iconst 0) 1 8 := ⟨by decide +kernel, rfl⟩
theorem d13_8 : Dc jdk_43_method_13_code 8 (.istore_n 2) 1 9 := ⟨by decide +kernel, rfl⟩
theorem d13_9 : Dc jdk_43_method_13_code 9 (.iload_n 2) 1 10 := ⟨by decide +kernel, rfl⟩
theorem d13_10 : Dc jdk_43_method_13_code 10 (.aload_n 0) 1 11 := ⟨by decide +kernel, rfl⟩
theorem d13_11 : Dc jdk_43_method_13_code 11 (.arraylength) 1 12 := ⟨by decide +kernel, rfl⟩
theorem d13_12 : Db jdk_43_method_13_code 12 (.if_icmp .ge 20) 3 15 (20) 32 := ⟨by decide +kernel, rfl, by decide, by decide⟩
theorem d13_15 : Dc jdk_43_method_13_code 15 (.aload_n 0) 1 16 := ⟨by decide +kernel, rfl⟩
theorem d13_16 : Dc jdk_43_method_13_code 16 (.iload_n 2) 1 17 := ⟨by decide +kernel, rfl⟩
theorem d13_17 : Dc jdk_43_method_13_code 17 (.baload) 1 18 := ⟨by decide +kernel, rfl⟩
theorem d13_18 : Dc jdk_43_method_13_code 18 (.aload_n 1) 1 19 := ⟨by decide +kernel, rfl⟩
theorem d13_19 : Dc jdk_43_method_13_code 19 (.iload_n 2) 1 20 := ⟨by decide +kernel, rfl⟩
theorem d13_20 : Dc jdk_43_method_13_code 20 (.baload) 1 21 := ⟨by decide +kernel, rfl⟩
theorem d13_21 : Db jdk_43_method_13_code 21 (.if_icmp .eq 5) 3 24 (5) 26 := ⟨by decide +kernel, rfl, by decide, by decide⟩
theorem d13_24 : Dc jdk_43_method_13_code 24 (.iconst 0) 1 25 := ⟨by decide +kernel, rfl⟩
theorem d13_25 : Dc jdk_43_method_13_code 25 (.ireturn) 1 26 := ⟨by decide +kernel, rfl⟩
theorem d13_26 : Dc jdk_43_method_13_code 26 (.iinc 2 1) 3 29 := ⟨by decide +kernel, rfl⟩
theorem d13_29 : Db jdk_43_method_13_code 29 (.goto (-20)) 3 32 (-20) 9 := ⟨by decide +kernel, rfl, by decide, by decide⟩
theorem d13_32 : Dc jdk_43_method_13_code 32 (.iconst 1) 1 33 := ⟨by decide +kernel, rfl⟩
theorem d13_33 : Dc jdk_43_method_13_code 33 (.ireturn) 1 34 := ⟨by decide +kernel, rfl⟩
theorem d13_34 : Dc jdk_43_method_13_code 34 (.iconst 0) 1 35 := ⟨by decide +kernel, rfl⟩
theorem d13_35 : Dc jdk_43_method_13_code 35 (.ireturn) 1 36 := ⟨by decide +kernel, rfl⟩
theorem d14_0 : Dc code 0 (.iload 4) 2 2 := ⟨by decide +kernel, rfl⟩
theorem d14_2 : Dc code 2 (.iconst 1) 1 3 := ⟨by decide +kernel, rfl⟩
theorem d14_3 : Dc code 3 (.iand) 1 4 := ⟨by decide +kernel, rfl⟩
theorem d14_4 : Db code 4 (.ifCond .eq 7) 3 7 (7) 11 := ⟨by decide +kernel, rfl, by decide, by decide⟩
theorem d14_7 : Dc code 7 (.iconst 1) 1 8 := ⟨by decide +kernel, rfl⟩
theorem d14_8 : Db code 8 (.goto 4) 3 11 (4) 12 := ⟨by decide +kernel, rfl, by decide, by decide⟩
theorem d14_11 : Dc code 11 (.iconst 0) 1 12 := ⟨by decide +kernel, rfl⟩
theorem d14_12 : Dc code 12 (.istore 5) 2 14 := ⟨by decide +kernel, rfl⟩
theorem d14_14 : Dc code 14 (.iload 4) 2 16 := ⟨by decide +kernel, rfl⟩
theorem d14_16 : Dc code 16 (.iconst 2) 1 17 := ⟨by decide +kernel, rfl⟩
theorem d14_17 : Dc code 17 (.iand) 1 18 := ⟨by decide +kernel, rfl⟩
theorem d14_18 : Db code 18 (.ifCond .eq 7) 3 21 (7) 25 := ⟨by decide +kernel, rfl, by decide, by decide⟩
theorem d14_21 : Dc code 21 (.iconst 1) 1 22 := ⟨by decide +kernel, rfl⟩
theorem d14_22 : Db code 22 (.goto 4) 3 25 (4) 26 := ⟨by decide +kernel, rfl, by decide, by decide⟩
theorem d14_25 : Dc code 25 (.iconst 0) 1 26 := ⟨by decide +kernel, rfl⟩
theorem d14_26 : Dc code 26 (.istore 6) 2 28 := ⟨by decide +kernel, rfl⟩
theorem d14_28 : Dc code 28 (.iload 4) 2 30 := ⟨by decide +kernel, rfl⟩
theorem d14_30 : Dc code 30 (.iconst 4) 1 31 := ⟨by decide +kernel, rfl⟩
theorem d14_31 : Dc code 31 (.iand) 1 32 := ⟨by decide +kernel, rfl⟩
theorem d14_32 : Db code 32 (.ifCond .eq 7) 3 35 (7) 39 := ⟨by decide +kernel, rfl, by decide, by decide⟩
theorem d14_35 : Dc code 35 (.iconst 1) 1 36 := ⟨by decide +kernel, rfl⟩
theorem d14_36 : Db code 36 (.goto 4) 3 39 (4) 40 := ⟨by decide +kernel, rfl, by decide, by decide⟩
theorem d14_39 : Dc code 39 (.iconst 0) 1 40 := ⟨by decide +kernel, rfl⟩
theorem d14_40 : Dc code 40 (.istore 7) 2 42 := ⟨by decide +kernel, rfl⟩
theorem d14_42 : Dc code 42 (.iload 4) 2 44 := ⟨by decide +kernel, rfl⟩
theorem d14_44 : Dc code 44 (.bipush 8) 2 46 := ⟨by decide +kernel, rfl⟩
theorem d14_46 : Dc code 46 (.iand) 1 47 := ⟨by decide +kernel, rfl⟩
theorem d14_47 : Db code 47 (.ifCond .eq 7) 3 50 (7) 54 := ⟨by decide +kernel, rfl, by decide, by decide⟩
theorem d14_50 : Dc code 50 (.iconst 1) 1 51 := ⟨by decide +kernel, rfl⟩
theorem d14_51 : Db code 51 (.goto 4) 3 54 (4) 55 := ⟨by decide +kernel, rfl, by decide, by decide⟩
theorem d14_54 : Dc code 54 (.iconst 0) 1 55 := ⟨by decide +kernel, rfl⟩
theorem d14_55 : Dc code 55 (.istore 8) 2 57 := ⟨by decide +kernel, rfl⟩
theorem d14_57 : Dc code 57 (.iload 4) 2 59 := ⟨by decide +kernel, rfl⟩
theorem d14_59 : Dc code 59 (.bipush 64) 2 61 := ⟨by decide +kernel, rfl⟩
theorem d14_61 : Dc code 61 (.iand) 1 62 := ⟨by decide +kernel, rfl⟩
theorem d14_62 : Db code 62 (.ifCond .eq 7) 3 65 (7) 69 := ⟨by decide +kernel, rfl, by decide, by decide⟩
theorem d14_65 : Dc code 65 (.iload_n 0) 1 66 := ⟨by decide +kernel, rfl⟩
theorem d14_66 : Db code 66 (.goto 4) 3 69 (4) 70 := ⟨by decide +kernel, rfl, by decide, by decide⟩
theorem d14_69 : Dc code 69 (.iload_n 2) 1 70 := ⟨by decide +kernel, rfl⟩
theorem d14_70 : Dc code 70 (.istore 9) 2 72 := ⟨by decide +kernel, rfl⟩
theorem d14_72 : Dc code 72 (.iload 4) 2 74 := ⟨by decide +kernel, rfl⟩
theorem d14_74 : Dc code 74 (.sipush 128) 3 77 := ⟨by decide +kernel, rfl⟩
theorem d14_77 : Dc code 77 (.iand) 1 78 := ⟨by decide +kernel, rfl⟩
theorem d14_78 : Db code 78 (.ifCond .eq 7) 3 81 (7) 85 := ⟨by decide +kernel, rfl, by decide, by decide⟩
theorem d14_81 : Dc code 81 (.iload_n 1) 1 82 := ⟨by decide +kernel, rfl⟩
theorem d14_82 : Db code 82 (.goto 4) 3 85 (4) 86 := ⟨by decide +kernel, rfl, by decide, by decide⟩
theorem d14_85 : Dc code 85 (.iload_n 3) 1 86 := ⟨by decide +kernel, rfl⟩
theorem d14_86 : Dc code 86 (.istore 10) 2 88 := ⟨by decide +kernel, rfl⟩
theorem d14_88 : Dc code 88 (.new 12) 3 91 := ⟨by decide +kernel, rfl⟩
theorem d14_91 : Dc code 91 (.dup) 1 92 := ⟨by decide +kernel, rfl⟩
theorem d14_92 : Dc code 92 (.iload 5) 2 94 := ⟨by decide +kernel, rfl⟩
theorem d14_94 : Dc code 94 (.iload_n 0) 1 95 := ⟨by decide +kernel, rfl⟩
theorem d14_95 : Dc code 95 (.invokestatic 14) 3 98 := ⟨by decide +kernel, rfl⟩
theorem d14_98 : Dc code 98 (.iload 6) 2 100 := ⟨by decide +kernel, rfl⟩
theorem d14_100 : Dc code 100 (.iload_n 1) 1 101 := ⟨by decide +kernel, rfl⟩
theorem d14_101 : Dc code 101 (.invokestatic 14) 3 104 := ⟨by decide +kernel, rfl⟩
theorem d14_104 : Dc code 104 (.invokespecial 20) 3 107 := ⟨by decide +kernel, rfl⟩
theorem d14_107 : Dc code 107 (.astore 11) 2 109 := ⟨by decide +kernel, rfl⟩
theorem d14_109 : Dc code 109 (.new 12) 3 112 := ⟨by decide +kernel, rfl⟩
theorem d14_112 : Dc code 112 (.dup) 1 113 := ⟨by decide +kernel, rfl⟩
theorem d14_113 : Dc code 113 (.iload 7) 2 115 := ⟨by decide +kernel, rfl⟩
theorem d14_115 : Dc code 115 (.iload 9) 2 117 := ⟨by decide +kernel, rfl⟩
theorem d14_117 : Dc code 117 (.invokestatic 14) 3 120 := ⟨by decide +kernel, rfl⟩
theorem d14_120 : Dc code 120 (.iload 8) 2 122 := ⟨by decide +kernel, rfl⟩
theorem d14_122 : Dc code 122 (.iload 10) 2 124 := ⟨by decide +kernel, rfl⟩
theorem d14_124 : Dc code 124 (.invokestatic 14) 3 127 := ⟨by decide +kernel, rfl⟩
theorem d14_127 : Dc code 127 (.invokespecial 20) 3 130 := ⟨by decide +kernel, rfl⟩
theorem d14_130 : Dc code 130 (.astore 12) 2 132 := ⟨by decide +kernel, rfl⟩
theorem d14_132 : Dc code 132 (.iload 4) 2 134 := ⟨by decide +kernel, rfl⟩
theorem d14_134 : Dc code 134 (.iconst 4) 1 135 := ⟨by decide +kernel, rfl⟩
theorem d14_135 : Dc code 135 (.iushr) 1 136 := ⟨by decide +kernel, rfl⟩
theorem d14_136 : Dc code 136 (.iconst 3) 1 137 := ⟨by decide +kernel, rfl⟩
theorem d14_137 : Dc code 137 (.iand) 1 138 := ⟨by decide +kernel, rfl⟩
theorem d14_138 : Dc code 138 (.istore 13) 2 140 := ⟨by decide +kernel, rfl⟩
theorem d14_140 : Dc code 140 (.iload 13) 2 142 := ⟨by decide +kernel, rfl⟩
theorem d14_142 : Db code 142 (.ifCond .ne 66) 3 145 (66) 208 := ⟨by decide +kernel, rfl, by decide, by decide⟩
theorem d14_145 : Dc code 145 (.iload 5) 2 147 := ⟨by decide +kernel, rfl⟩
theorem d14_147 : Dc code 147 (.iload_n 0) 1 148 := ⟨by decide +kernel, rfl⟩
theorem d14_148 : Dc code 148 (.iload 7) 2 150 := ⟨by decide +kernel, rfl⟩
theorem d14_150 : Dc code 150 (.iload 9) 2 152 := ⟨by decide +kernel, rfl⟩
theorem d14_152 : Dc code 152 (.invokestatic 23) 3 155 := ⟨by decide +kernel, rfl⟩
theorem d14_155 : Db code 155 (.ifCond .eq 20) 3 158 (20) 175 := ⟨by decide +kernel, rfl, by decide, by decide⟩
theorem d14_158 : Dc code 158 (.iload 6) 2 160 := ⟨by decide +kernel, rfl⟩
theorem d14_160 : Dc code 160 (.iload_n 1) 1 161 := ⟨by decide +kernel, rfl⟩
theorem d14_161 : Dc code 161 (.iload 8) 2 163 := ⟨by decide +kernel, rfl⟩
theorem d14_163 : Dc code 163 (.iload 10) 2 165 := ⟨by decide +kernel, rfl⟩
theorem d14_165 : Dc code 165 (.invokestatic 23) 3 168 := ⟨by decide +kernel, rfl⟩
theorem d14_168 : Db code 168 (.ifCond .eq 7) 3 171 (7) 175 := ⟨by decide +kernel, rfl, by decide, by decide⟩
theorem d14_171 : Dc code 171 (.iconst 1) 1 172 := ⟨by decide +kernel, rfl⟩
theorem d14_172 : Db code 172 (.goto 4) 3 175 (4) 176 := ⟨by decide +kernel, rfl, by decide, by decide⟩
theorem d14_175 : Dc code 175 (.iconst 0) 1 176 := ⟨by decide +kernel, rfl⟩
theorem d14_176 : Dc code 176 (.istore 14) 2 178 := ⟨by decide +kernel, rfl⟩
theorem d14_178 : Dc code 178 (.aload 11) 2 180 := ⟨by decide +kernel, rfl⟩
theorem d14_180 : Dc code 180 (.aload 12) 2 182 := ⟨by decide +kernel, rfl⟩
theorem d14_182 : Dc code 182 (.invokevirtual 27) 3 185 := ⟨by decide +kernel, rfl⟩
theorem d14_185 : Dc code 185 (.iload 14) 2 187 := ⟨by decide +kernel, rfl⟩
theorem d14_187 : Db code 187 (.if_icmp .ne 19) 3 190 (19) 206 := ⟨by decide +kernel, rfl, by decide, by decide⟩
theorem d14_190 : Dc code 190 (.aload 12) 2 192 := ⟨by decide +kernel, rfl⟩
theorem d14_192 : Dc code 192 (.aload 11) 2 194 := ⟨by decide +kernel, rfl⟩
theorem d14_194 : Dc code 194 (.invokevirtual 27) 3 197 := ⟨by decide +kernel, rfl⟩
theorem d14_197 : Dc code 197 (.iload 14) 2 199 := ⟨by decide +kernel, rfl⟩
theorem d14_199 : Db code 199 (.if_icmp .ne 7) 3 202 (7) 206 := ⟨by decide +kernel, rfl, by decide, by decide⟩
theorem d14_202 : Dc code 202 (.iconst 1) 1 203 := ⟨by decide +kernel, rfl⟩
theorem d14_203 : Db code 203 (.goto 4) 3 206 (4) 207 := ⟨by decide +kernel, rfl, by decide, by decide⟩
theorem d14_207 : Dc code 207 (.ireturn) 1 208 := ⟨by decide +kernel, rfl⟩
theorem d14_208 : Dc code 208 (.iload 13) 2 210 := ⟨by decide +kernel, rfl⟩
theorem d14_210 : Dc code 210 (.iconst 1) 1 211 := ⟨by decide +kernel, rfl⟩
theorem d14_211 : Db code 211 (.if_icmp .ne 18) 3 214 (18) 229 := ⟨by decide +kernel, rfl, by decide, by decide⟩
theorem d14_214 : Dc code 214 (.aload 11) 2 216 := ⟨by decide +kernel, rfl⟩
theorem d14_216 : Dc code 216 (.aconst_null) 1 217 := ⟨by decide +kernel, rfl⟩
theorem d14_217 : Dc code 217 (.invokevirtual 27) 3 220 := ⟨by decide +kernel, rfl⟩
theorem d14_220 : Db code 220 (.ifCond .ne 7) 3 223 (7) 227 := ⟨by decide +kernel, rfl, by decide, by decide⟩
theorem d14_223 : Dc code 223 (.iconst 1) 1 224 := ⟨by decide +kernel, rfl⟩
theorem d14_224 : Db code 224 (.goto 4) 3 227 (4) 228 := ⟨by decide +kernel, rfl, by decide, by decide⟩
theorem d14_228 : Dc code 228 (.ireturn) 1 229 := ⟨by decide +kernel, rfl⟩
theorem d14_229 : Dc code 229 (.iload 13) 2 231 := ⟨by decide +kernel, rfl⟩
theorem d14_231 : Dc code 231 (.iconst 2) 1 232 := ⟨by decide +kernel, rfl⟩
theorem d14_232 : Db code 232 (.if_icmp .ne 26) 3 235 (26) 258 := ⟨by decide +kernel, rfl, by decide, by decide⟩
theorem d14_235 : Dc code 235 (.iconst 0) 1 236 := ⟨by decide +kernel, rfl⟩
theorem d14_236 : Dc code 236 (.iload_n 0) 1 237 := ⟨by decide +kernel, rfl⟩
theorem d14_237 : Dc code 237 (.invokestatic 14) 3 240 := ⟨by decide +kernel, rfl⟩
theorem d14_240 : Dc code 240 (.astore 14) 2 242 := ⟨by decide +kernel, rfl⟩
theorem d14_242 : Dc code 242 (.aload 11) 2 244 := ⟨by decide +kernel, rfl⟩
theorem d14_244 : Dc code 244 (.aload 14) 2 246 := ⟨by decide +kernel, rfl⟩
theorem d14_246 : Dc code 246 (.invokevirtual 27) 3 249 := ⟨by decide +kernel, rfl⟩
theorem d14_249 : Db code 249 (.ifCond .ne 7) 3 252 (7) 256 := ⟨by decide +kernel, rfl, by decide, by decide⟩
theorem d14_252 : Dc code 252 (.iconst 1) 1 253 := ⟨by decide +kernel, rfl⟩
theorem d14_253 : Db code 253 (.goto 4) 3 256 (4) 257 := ⟨by decide +kernel, rfl, by decide, by decide⟩
theorem d14_257 : Dc code 257 (.ireturn) 1 258 := ⟨by decide +kernel, rfl⟩
theorem d14_258 : Dc code 258 (.aload 11) 2 260 := ⟨by decide +kernel, rfl⟩
theorem d14_260 : Dc code 260 (.aload 11) 2 262 := ⟨by decide +kernel, rfl⟩
theorem d14_262 : Dc code 262 (.invokevirtual 27) 3 265 := ⟨by decide +kernel, rfl⟩
theorem d14_265 : Dc code 265 (.ireturn) 1 266 := ⟨by decide +kernel, rfl⟩
theorem pd__28Ljava_2flang_2fObject_3bLjava_2flang_2fObject_3b_29Z : parseMethodDescriptor "(Ljava/lang/Object;Ljava/lang/Object;)Z" = some ⟨[(.object "java/lang/Object"), (.object "java/lang/Object")], some .boolean⟩ := by decide +kernel
theorem pd__28Ljava_2flang_2fObject_3b_29Z : parseMethodDescriptor "(Ljava/lang/Object;)Z" = some ⟨[(.object "java/lang/Object")], some .boolean⟩ := by decide +kernel
theorem pd__28Ljava_2flang_2fString_3bLjava_2flang_2fString_3b_29V : parseMethodDescriptor "(Ljava/lang/String;Ljava/lang/String;)V" = some ⟨[(.object "java/lang/String"), (.object "java/lang/String")], none⟩ := by decide +kernel
theorem pd__28ZIZI_29Z : parseMethodDescriptor "(ZIZI)Z" = some ⟨[.boolean, .int, .boolean, .int], some .boolean⟩ := by decide +kernel
theorem pd__28ZI_29Ljava_2flang_2fString_3b : parseMethodDescriptor "(ZI)Ljava/lang/String;" = some ⟨[.boolean, .int], some (.object "java/lang/String")⟩ := by decide +kernel
theorem pd__28_29V : parseMethodDescriptor "()V" = some ⟨[], none⟩ := by decide +kernel
theorem pd__28_5bBI_29B : parseMethodDescriptor "([BI)B" = some ⟨[(.array .byte), .int], some .byte⟩ := by decide +kernel
theorem pd__28_5bB_5bB_29Z : parseMethodDescriptor "([B[B)Z" = some ⟨[(.array .byte), (.array .byte)], some .boolean⟩ := by decide +kernel
theorem pd__28_5bCIILjava_2flang_2fVoid_3b_29V : parseMethodDescriptor "([CIILjava/lang/Void;)V" = some ⟨[(.array .char), .int, .int, (.object "java/lang/Void")], none⟩ := by decide +kernel
theorem pd__28_5bCII_29_5bB : parseMethodDescriptor "([CII)[B" = some ⟨[(.array .char), .int, .int], some (.array .byte)⟩ := by decide +kernel
theorem pd__28_5bCI_5bBII_29I : parseMethodDescriptor "([CI[BII)I" = some ⟨[(.array .char), .int, (.array .byte), .int, .int], some .int⟩ := by decide +kernel
theorem pd__28_5bC_29V : parseMethodDescriptor "([C)V" = some ⟨[(.array .char)], none⟩ := by decide +kernel
def so (p c : Int32) : Option (List Int32) := if p = 0 then some [nar .char (c &&& 255), nar .char (ushr c 8 &&& 255)] else none
def SV (Z : State) (h : Heap) (v : Value) : Option (List Int32) → Prop
  | none => v = .null
  | some cs => ∃ a, v = .ref a ∧ Str Z h a cs
theorem SV.keep {Z : State} {h h' : Heap} {v : Value} {o : Option (List Int32)} (F : SV Z h v o) (K : Keep h h' []) : SV Z h' v o := by
  cases o with
  | none => exact F
  | some cs => obtain ⟨a, rfl, S⟩ := F; exact ⟨a, rfl, S.keep K⟩
theorem SV.keepX {Z : State} {h h' : Heap} {v : Value} {o : Option (List Int32)} {x : Addr} {C : String} {kk : Nat} {a0 : Array Value} (F : SV Z h v o) (K : Keep h h' [x]) (E : Exa Z h x C) (hC : "java/lang/String" ≠ C) (wi : (Cond.instantiable C kk).before a0 Z = true) : SV Z h' v o := by
  cases o with
  | none => exact F
  | some cs => obtain ⟨a, rfl, S⟩ := F; exact ⟨a, rfl, S.keepX K E hC wi⟩
theorem SV.ref {Z : State} {h : Heap} {v : Value} {o : Option (List Int32)} (F : SV Z h v o) : v.isRef = true := by
  cases o with
  | none => cases (show v = .null from F); rfl
  | some cs => obtain ⟨a, rfl, S⟩ := F; rfl
theorem two_inj {a b c d : Int32} (h1 : (a &&& 255) = (b &&& 255)) (h2 : (ushr a 8 &&& 255) = (ushr b 8 &&& 255)) : nar .char (a &&& 255) = nar .char (b &&& 255) ∧ nar .char (ushr a 8 &&& 255) = nar .char (ushr b 8 &&& 255) := by rw [h1, h2]; exact ⟨rfl, rfl⟩
theorem ch8 (x : Int32) : isCh (x &&& 255) := by unfold isCh; rw [mask8]; omega
theorem ch8_lt (x : Int32) : (nar .char (x &&& 255)).toInt < 256 := by rw [narc_id (ch8 x), mask8]; omega
set_option maxRecDepth 65536 in
set_option maxHeartbeats 4000000 in
theorem k_compress5 {Z : State} {a0 : Array Value} (hw : ∀ d ∈ tables_1, d.before a0 Z = true) (hs : Stt Z) {n0 : Nat} {h0 : Heap} {a b : Addr} {cs : List Int32} (hcs : ∀ c ∈ cs, isCh c) (hl : cs.length ≤ 4096) (A : Ary Z h0 a .char (chs cs)) (B : Ary Z h0 b .byte (List.replicate cs.length (.int 0))) (O : Old Z n0 h0) :
    Con WD Z EL0 n0 (⟨"java/lang/StringUTF16", "compress", "([CI[BII)I"⟩ : MethodName) jdk_52_method_21_code 7 (some .int) (Rm 0 0 0 0) [(.ref a), (.int (0 : Int32)), (.ref b), (.int (0 : Int32)), (.int (natI cs.length))] h0 [b] (fun v h gs => v = some (.int (natI (pfx cs))) ∧ gs = [] ∧ Ary Z h b .byte (lat (cs.take (pfx cs)) ++ List.replicate (cs.length - pfx cs) (.int 0))) := by
  refine Con.of (a0 := a0) (by first | (simp [plainName, overriddenIn]; done) | decide +kernel) (hEL hw) hWE O (L0 := #[.val (.ref a), .val (.int (0 : Int32)), .val (.ref b), .val (.int (0 : Int32)), .val (.int (natI cs.length)), .unset, .unset]) (fun m => by first | rfl | (simp [entryFrame, mkF, argsToLocals, Value.category]; done)) ?_
  intro K C hh
  have loop : ∀ (m i : Nat) (h : Heap) (s6 : Slot), i + m = cs.length → (∀ c ∈ cs.take i, c.toInt < 256) → (s6 = .unset ∨ ∃ w, s6 = .val w ∧ w.category = 1) → Ary Z h a .char (chs cs) → Ary Z h b .byte (lat (cs.take i) ++ List.replicate m (.int 0)) → Go WD K Z EL0 n0 [b] (fun v h gs => v = some (.int (natI (pfx cs))) ∧ gs = [] ∧ Ary Z h b .byte (lat (cs.take (pfx cs)) ++ List.replicate (cs.length - pfx cs) (.int 0))) 3 #[.val (.ref a), .val (.int (natI i)), .val (.ref b), .val (.int (natI i)), .val (.int (natI cs.length)), .val (.int (natI i)), s6] [] h [b] 0 0 := by
    intro m
    induction m with
    | zero =>
      intro i h s6 hm hp hs6 A B
      have e1 := natI_toInt (i := i) (by omega)
      have e2 := natI_toInt (i := cs.length) (by omega)
      refine Own.iload C d5_3 rfl ?_
      refine Own.iload C d5_5 rfl ?_
      refine icmp_ge C d5_7 (fun q1 => ?_) (fun q1 => ?_)
      · refine Own.iload C d5_44 rfl ?_
        have hi : i = cs.length := by omega
        subst hi
        rw [List.take_length] at hp B
        have hq := pfx_all hp
        exact retI_ C (gs := []) d5_46 (dle rfl) (dle rfl) (fun _ q => nomatch q) ⟨by rw [hq], rfl, by rw [hq, List.take_length, Nat.sub_self]; exact B⟩
      · rw [lt32] at q1
        omega
    | succ m ih =>
      intro i h s6 hm hp hs6 A B
      have e1 := natI_toInt (i := i) (by omega)
      have e2 := natI_toInt (i := cs.length) (by omega)
      refine Own.iload C d5_3 rfl ?_
      refine Own.iload C d5_5 rfl ?_
      refine icmp_ge C d5_7 (fun q2 => ?_) (fun q2 => ?_)
      · rw [lt32] at q2
        omega
      · obtain ⟨c, hc⟩ : ∃ c, cs[i]? = some c := ⟨_, List.getElem?_eq_getElem (by omega)⟩
        have hch := hcs c (List.mem_of_getElem? hc)
        refine Own.aloadN C d5_10 rfl rfl ?_
        refine Own.iloadN C d5_11 rfl ?_
        refine caload_ C (v := .int c) A i e1 (chs_at hc) d5_12 ?_
        refine Own.istore (L' := #[.val (.ref a), .val (.int (natI i)), .val (.ref b), .val (.int (natI i)), .val (.int (natI cs.length)), .val (.int (natI i)), .val (.int c)]) C d5_13 (st1 rfl hs6 rfl rfl) ?_
        refine Own.iload C d5_15 rfl ?_
        refine Own.sipush (v := 255) C d5_17 rfl ?_
        refine icmp_le C d5_20 (fun q3 => ?_) (fun q3 => ?_)
        · have hlt : c.toInt < 256 := by have e : (255 : Int32).toInt = 255 := rfl; rw [lt32] at q3; omega
          refine Own.aloadN C d5_26 rfl rfl ?_
          refine Own.iloadN C d5_27 rfl ?_
          refine Own.iload C d5_28 rfl ?_
          refine Own.i2b C d5_30 ?_
          refine bastore_ C B i e1 (by simp [lat_len]; omega) (by simp) d5_31 (fun hp4 W4 A4 => ?_)
          rw [lat_set hm hc] at A4
          have e3 := natI_succ (i := i) (by omega)
          refine Own.iinc (L' := #[.val (.ref a), .val (.int (natI (i + 1))), .val (.ref b), .val (.int (natI i)), .val (.int (natI cs.length)), .val (.int (natI i)), .val (.int c)]) (y := (natI (i + 1))) C d5_32 rfl e3 rfl ?_
          refine Own.iinc (L' := #[.val (.ref a), .val (.int (natI (i + 1))), .val (.ref b), .val (.int (natI (i + 1))), .val (.int (natI cs.length)), .val (.int (natI i)), .val (.int c)]) (y := (natI (i + 1))) C d5_35 rfl e3 rfl ?_
          refine Own.iinc (L' := #[.val (.ref a), .val (.int (natI (i + 1))), .val (.ref b), .val (.int (natI (i + 1))), .val (.int (natI cs.length)), .val (.int (natI (i + 1))), .val (.int c)]) (y := (natI (i + 1))) C d5_38 rfl e3 rfl ?_
          refine Own.goto_ C d5_41 ?_
          exact ih (i + 1) hp4 _ (by omega) (take_lt hp hc hlt) (Or.inr ⟨_, rfl, rfl⟩) (A.other W4 (A.ne B (by decide))) A4
        · have hge : 256 ≤ c.toInt := by have e : (255 : Int32).toInt = 255 := rfl; rw [lt32] at q3; omega
          refine Own.iload C d5_23 rfl ?_
          have hq := pfx_at hp hc hge
          exact retI_ C (gs := []) d5_25 (dle rfl) (dle rfl) (fun _ q => nomatch q) ⟨by rw [hq], rfl, by rw [hq, show cs.length - i = m + 1 by omega]; exact B⟩
  refine Own.iconst (v := 0) C d5_0 rfl ?_
  refine Own.istore (L' := #[.val (.ref a), .val (.int (0 : Int32)), .val (.ref b), .val (.int (0 : Int32)), .val (.int (natI cs.length)), .val (.int (0 : Int32)), .unset]) C d5_1 rfl ?_
  exact loop cs.length 0 h0 .unset (by omega) (by simp) (Or.inl rfl) A (by simpa [lat] using B)
set_option maxRecDepth 65536 in
set_option maxHeartbeats 4000000 in
theorem k_compress3 {Z : State} {a0 : Array Value} (hw : ∀ d ∈ tables_1, d.before a0 Z = true) (hs : Stt Z) {n0 : Nat} {h0 : Heap} {N : Nat} {a : Addr} {cs : List Int32} (hcs : ∀ c ∈ cs, isCh c) (hl : cs.length ≤ 4096) (hN : cs.length ≤ N ∧ N ≤ 4096) (A : Ary Z h0 a .char (chs cs)) (hlat : ∀ c ∈ cs, c.toInt < 256) (O : Old Z n0 h0) :
    Con WD Z EL0 n0 (⟨"java/lang/StringUTF16", "compress", "([CII)[B"⟩ : MethodName) jdk_52_method_16_code 6 (some (.array .byte)) (Rm 1 1 (0 + 1 * N) 18) [(.ref a), (.int (0 : Int32)), (.int (natI cs.length))] h0 [] (fun v h gs => gs = [] ∧ ∃ (b : Addr) (z : Int32) (vs : List Value), v = some (.ref b) ∧ h0.size ≤ b ∧ Ary Z h b .byte vs ∧ Byt cs z vs) := by
  refine Con.of (a0 := a0) (by first | (simp [plainName, overriddenIn]; done) | decide +kernel) (hEL hw) hWE O (L0 := #[.val (.ref a), .val (.int (0 : Int32)), .val (.int (natI cs.length)), .unset, .unset, .unset]) (fun m => by first | rfl | (simp [entryFrame, mkF, argsToLocals, Value.category]; done)) ?_
  intro K C hh
  have e2 := natI_toInt (i := cs.length) (by omega)
  have e3 : (natI cs.length).toNatClampNeg = cs.length := natI_clamp (by omega)
  refine Own.iloadN C d4_0 rfl ?_
  refine newarr C (hw _ (List.mem_of_getElem? (i := 26) rfl)) (by rw [lt32, e2]; exact Int.not_lt.mpr (Int.natCast_nonneg _)) N (by omega) (by omega) (dle rfl) (by omega) d4_1 (fun hp1 K1 lt1 le1 A1 => ?_)
  obtain ⟨b, g1⟩ : ∃ z, z = h0.size := ⟨_, rfl⟩
  rw [← g1] at A1 lt1 le1 ⊢
  rw [e3] at A1
  have A' := A.keep K1 nin0
  refine Own.astoreN (L' := #[.val (.ref a), .val (.int (0 : Int32)), .val (.int (natI cs.length)), .val (.ref b), .unset, .unset]) C d4_3 rfl rfl ?_
  refine Own.aloadN C d4_4 rfl rfl ?_
  refine Own.iloadN C d4_5 rfl ?_
  refine Own.aloadN C d4_6 rfl rfl ?_
  refine Own.iconst (v := 0) C d4_7 rfl ?_
  refine Own.iloadN C d4_8 rfl ?_
  refine callS_ C (as := [(.ref a), (.int (0 : Int32)), (.ref b), (.int (0 : Int32)), (.int (natI cs.length))]) (st := []) (hw _ (List.mem_of_getElem? (i := 27) rfl)) (hw _ (List.mem_of_getElem? (i := 28) rfl)) (hw _ (List.mem_of_getElem? (i := 24) rfl)) (hw _ (List.mem_of_getElem? (i := 29) rfl)) ⟨by decide, by decide⟩ pd__28_5bCI_5bBII_29I rfl (fun O => k_compress5 hw hs hcs hl A' A1 O) (by simp) rfl (dle rfl) (dle rfl) (dle rfl) (by omega) d4_9 rfl (fun v2 hp2 gs2 K2 Q2 => ?_)
  obtain ⟨rfl, rfl, B2⟩ := Q2
  show Go _ K Z _ n0 _ _ 12 #[.val (.ref a), .val (.int (0 : Int32)), .val (.int (natI cs.length)), .val (.ref b), .unset, .unset] [(.int (natI (pfx cs)))] hp2 _ _ _
  refine Own.istore (L' := #[.val (.ref a), .val (.int (0 : Int32)), .val (.int (natI cs.length)), .val (.ref b), .val (.int (natI (pfx cs))), .unset]) C d4_12 rfl ?_
  refine Own.iload C d4_14 rfl ?_
  refine Own.iloadN C d4_16 rfl ?_
  refine icmp_eq C d4_17 (fun q3 => ?_) (fun q3 => ?_)
  · have hp : pfx cs = cs.length := by have e4 := natI_toInt (i := pfx cs) (by have := pfx_le cs; omega); have e5 := congrArg Int32.toInt q3; omega
    rw [hp, List.take_length, Nat.sub_self] at B2
    refine Own.aloadN C d4_57 rfl rfl ?_
    exact retA C (gs := []) rfl rfl d4_58 (dle rfl) (by omega) (fun _ q => nomatch q) ⟨rfl, b, 0, lat cs, rfl, by omega, by simpa using B2, Or.inl ⟨pfx_full hp, rfl, rfl⟩⟩
  · exact absurd (by rw [pfx_all hlat]) q3
set_option maxRecDepth 65536 in
set_option maxHeartbeats 4000000 in
theorem k_coder {Z : State} {a0 : Array Value} (hw : ∀ d ∈ tables_1, d.before a0 Z = true) (hs : Stt Z) {n0 : Nat} {h0 : Heap} {b : Addr} {cs : List Int32} {z : Int32} {vs : List Value} (h1 : 1 ≤ cs.length) (hl : cs.length ≤ 4096) (A : Ary Z h0 b .byte vs) (B : Byt cs z vs) (O : Old Z n0 h0) :
    Con WD Z EL0 n0 (⟨"java/lang/StringUTF16", "coderFromArrayLen", "([BI)B"⟩ : MethodName) jdk_52_method_15_code 2 (some .byte) (Rm 0 0 0 0) [(.ref b), (.int (natI cs.length))] h0 [] (fun v h gs => v = some (.int z) ∧ gs = []) := by
  refine Con.of (a0 := a0) (by first | (simp [plainName, overriddenIn]; done) | decide +kernel) (hEL hw) hWE O (L0 := #[.val (.ref b), .val (.int (natI cs.length))]) (fun m => by first | rfl | (simp [entryFrame, mkF, argsToLocals, Value.category]; done)) ?_
  intro K C hh
  obtain ⟨y, hy⟩ : ∃ y : Int32, y.toInt = vs.length := ⟨natI vs.length, natI_toInt (Byt.len_lt B hl)⟩
  refine Own.iloadN C d6_0 rfl ?_
  refine Own.aloadN C d6_1 rfl rfl ?_
  refine arrlen C A (z := y) hy d6_2 ?_
  refine Own.isub C d6_3 ?_
  refine Own.bipush (v := 31) C d6_4 rfl ?_
  refine Own.iushr C d6_6 ?_
  refine Own.i2b C d6_7 ?_
  exact retB C (gs := []) d6_8 (dle rfl) (dle rfl) (fun _ q => nomatch q) ⟨by rw [Byt.coder B h1 hl hy], rfl⟩
set_option maxRecDepth 65536 in
set_option maxHeartbeats 4000000 in
theorem k_init4 {Z : State} {a0 : Array Value} (hw : ∀ d ∈ tables_1, d.before a0 Z = true) (hs : Stt Z) {n0 : Nat} {h0 : Heap} {N : Nat} {a b0 : Addr} {cs : List Int32} {u1 u2 : Value} (hcs : ∀ c ∈ cs, isCh c) (hl : cs.length ≤ 4096) (hN : cs.length ≤ N ∧ N ≤ 4096) (hlat : ∀ c ∈ cs, c.toInt < 256) (h1 : 1 ≤ cs.length) (A : Ary Z h0 b0 .char (chs cs)) (E : Exa Z h0 a "java/lang/String") (Fv : Fld Z h0 a "java/lang/String" "value" "[B" u1) (Fc : Fld Z h0 a "java/lang/String" "coder" "B" u2) (O : Old Z n0 h0) :
    Con WD Z EL0 n0 (⟨"java/lang/String", "<init>", "([CIILjava/lang/Void;)V"⟩ : MethodName) jdk_42_method_149_code 6 none (Rm 2 1 (0 + 1 * N) 35) [(.ref a), (.ref b0), (.int (0 : Int32)), (.int (natI cs.length)), .null] h0 [a] (fun v h gs => v = none ∧ gs = [] ∧ Str Z h a cs) := by
  refine Con.of (a0 := a0) (by first | (simp [plainName, overriddenIn]; done) | decide +kernel) (hEL hw) hWE O (L0 := #[.val (.ref a), .val (.ref b0), .val (.int (0 : Int32)), .val (.int (natI cs.length)), .val .null, .unset]) (fun m => by first | rfl | (simp [entryFrame, mkF, argsToLocals, Value.category]; done)) ?_
  intro K C hh
  have e2 := natI_toInt (i := cs.length) (by omega)
  obtain ⟨cv, hcv, Sc⟩ := st_c hs
  refine Own.aloadN C d2_0 rfl rfl ?_
  refine initO_ C (hw _ (List.mem_of_getElem? (i := 18) rfl)) (hw _ (List.mem_of_getElem? (i := 19) rfl)) (hw _ (List.mem_of_getElem? (i := 20) rfl)) rfl (dle rfl) (dle rfl) d2_1 ?_
  refine Own.iloadN C d2_4 rfl ?_
  refine if_ne C d2_5 (fun q1 => ?_) (fun q1 => ?_)
  · have h1 : 1 ≤ cs.length := by rcases Nat.eq_zero_or_pos cs.length with z | z; exact absurd (by rw [z]; rfl) q1; exact z
    refine getS_ C (hw _ (List.mem_of_getElem? (i := 21) rfl)) Sc d2_27 ?_
    refine if_eq C d2_30 (fun q2 => ?_) (fun q2 => ?_)
    · exact absurd q2 hcv
    · refine Own.aloadN C d2_33 rfl rfl ?_
      refine Own.iloadN C d2_34 rfl ?_
      refine Own.iloadN C d2_35 rfl ?_
      refine callS_ C (as := [(.ref b0), (.int (0 : Int32)), (.int (natI cs.length))]) (st := []) (hw _ (List.mem_of_getElem? (i := 22) rfl)) (hw _ (List.mem_of_getElem? (i := 23) rfl)) (hw _ (List.mem_of_getElem? (i := 24) rfl)) (hw _ (List.mem_of_getElem? (i := 25) rfl)) ⟨by decide, by decide⟩ pd__28_5bCII_29_5bB rfl (fun O => k_compress3 (N := N) hw hs hcs hl hN A hlat O) (fun _ q => nomatch q) rfl (dle rfl) (dle rfl) (dle rfl) (by omega) d2_36 rfl (fun v3 hp3 gs3 K3 Q3 => ?_)
      obtain ⟨rfl, b, z, vs, rfl, hb, B, hB⟩ := Q3
      show Go _ K Z _ n0 _ _ 39 #[.val (.ref a), .val (.ref b0), .val (.int (0 : Int32)), .val (.int (natI cs.length)), .val .null, .unset] [(.ref b)] hp3 _ _ _
      refine Own.astore (L' := #[.val (.ref a), .val (.ref b0), .val (.int (0 : Int32)), .val (.int (natI cs.length)), .val .null, .val (.ref b)]) C d2_39 rfl rfl ?_
      refine Own.aloadN C d2_41 rfl rfl ?_
      refine Own.aload C d2_42 rfl rfl ?_
      refine Own.iloadN C d2_44 rfl ?_
      refine callS_ C (as := [(.ref b), (.int (natI cs.length))]) (st := [(.ref a)]) (hw _ (List.mem_of_getElem? (i := 30) rfl)) (hw _ (List.mem_of_getElem? (i := 31) rfl)) (hw _ (List.mem_of_getElem? (i := 24) rfl)) (hw _ (List.mem_of_getElem? (i := 32) rfl)) ⟨by decide, by decide⟩ pd__28_5bBI_29B rfl (fun O => k_coder hw hs h1 hl B hB O) (fun _ q => nomatch q) rfl (dle rfl) (dle rfl) (dle rfl) (by omega) d2_45 rfl (fun v4 hp4 gs4 K4 Q4 => ?_)
      obtain ⟨rfl, rfl⟩ := Q4
      show Go _ K Z _ n0 _ _ 48 #[.val (.ref a), .val (.ref b0), .val (.int (0 : Int32)), .val (.int (natI cs.length)), .val .null, .val (.ref b)] [(.int z), (.ref a)] hp4 _ _ _
      have K1 := K3.trans K4 (fun _ q => nomatch q)
      have E1 := E.keep K1
      have C1 := Fc.keep K1 nin0
      have V1 := Fv.keep K1 nin0
      refine putF_ C (v' := .int z) (ty := .byte) (hw _ (List.mem_of_getElem? (i := 33) rfl)) C1 E1 (Or.inr ⟨(hw _ (List.mem_of_getElem? (i := 34) rfl)), rfl, rfl⟩) (hw _ (List.mem_of_getElem? (i := 9) rfl)) (by decide) (by rcases hB with ⟨-, rfl, -⟩ | ⟨-, rfl, -⟩ <;> rfl) (by rcases hB with ⟨-, rfl, -⟩ | ⟨-, rfl, -⟩ <;> rfl) (by simp) d2_48 (fun hp5 W6 => ?_)
      have hne := slot_ne (Or.inr (hw _ (List.mem_of_getElem? (i := 36) rfl)) : Laid Z a0 "java/lang/String" "java/lang/String" "value" "[B") (Or.inr (hw _ (List.mem_of_getElem? (i := 34) rfl)) : Laid Z a0 "java/lang/String" "java/lang/String" "coder" "B") (by decide) (t := .array .byte) (t' := .byte) (by decide) (by decide)
      have E2 := E1.wr W6
      have C2 := C1.same W6
      have V2 := V1.other W6 (Or.inr hne)
      have B2 := (B.keep K4 nin0).other W6 ((B.keep K4 nin0).neX E1 (hw _ (List.mem_of_getElem? (i := 9) rfl)))
      refine Own.aloadN C d2_51 rfl rfl ?_
      refine Own.aload C d2_52 rfl rfl ?_
      refine putF_ C (v' := .ref b) (ty := (.array .byte)) (hw _ (List.mem_of_getElem? (i := 35) rfl)) V2 E2 (Or.inr ⟨(hw _ (List.mem_of_getElem? (i := 36) rfl)), rfl, rfl⟩) (hw _ (List.mem_of_getElem? (i := 9) rfl)) (by decide) rfl rfl (by simp) d2_54 (fun hp7 W8 => ?_)
      have E3 := E2.wr W8
      have V3 := V2.same W8
      have C3 := C2.other W8 (Or.inr hne.symm)
      have B3 := B2.other W8 (B2.neX E2 (hw _ (List.mem_of_getElem? (i := 9) rfl)))
      exact retV C (gs := []) d2_57 (dle rfl) (by omega) (fun _ q => nomatch q) ⟨rfl, rfl, E3, hcs, hl, b, z, vs, V3, C3, B3, hB⟩
  · exact absurd q1 (fun z => by have := congrArg Int32.toInt z; rw [e2] at this; have e0 : (0 : Int32).toInt = 0 := rfl; omega)
set_option maxRecDepth 65536 in
set_option maxHeartbeats 4000000 in
theorem k_init {Z : State} {a0 : Array Value} (hw : ∀ d ∈ tables_1, d.before a0 Z = true) (hs : Stt Z) {n0 : Nat} {h0 : Heap} {N : Nat} {a b0 : Addr} {cs : List Int32} {u1 u2 : Value} (hcs : ∀ c ∈ cs, isCh c) (hl : cs.length ≤ 4096) (hN : cs.length ≤ N ∧ N ≤ 4096) (hlat : ∀ c ∈ cs, c.toInt < 256) (h1 : 1 ≤ cs.length) (A : Ary Z h0 b0 .char (chs cs)) (E : Exa Z h0 a "java/lang/String") (Fv : Fld Z h0 a "java/lang/String" "value" "[B" u1) (Fc : Fld Z h0 a "java/lang/String" "coder" "B" u2) (O : Old Z n0 h0) :
    Con WD Z EL0 n0 (⟨"java/lang/String", "<init>", "([C)V"⟩ : MethodName) jdk_42_method_3_code 2 none (Rm 3 1 (0 + 1 * N) 52) [(.ref a), (.ref b0)] h0 [a] (fun v h gs => v = none ∧ gs = [] ∧ Str Z h a cs) := by
  refine Con.of (a0 := a0) (by first | (simp [plainName, overriddenIn]; done) | decide +kernel) (hEL hw) hWE O (L0 := #[.val (.ref a), .val (.ref b0)]) (fun m => by first | rfl | (simp [entryFrame, mkF, argsToLocals, Value.category]; done)) ?_
  intro K C hh
  have e2 := natI_toInt (i := cs.length) (by omega)
  refine Own.aloadN C d1_0 rfl rfl ?_
  refine Own.aloadN C d1_1 rfl rfl ?_
  refine Own.iconst (v := 0) C d1_2 rfl ?_
  refine Own.aloadN C d1_3 rfl rfl ?_
  refine arrlen C A (z := (natI cs.length)) (by rw [e2, chs_len]) d1_4 ?_
  refine Own.aconstNull C d1_5 ?_
  refine callI_ C (as' := [(.ref b0), (.int (0 : Int32)), (.int (natI cs.length)), .null]) (st := []) rfl (hw _ (List.mem_of_getElem? (i := 14) rfl)) (hw _ (List.mem_of_getElem? (i := 15) rfl)) (hw _ (List.mem_of_getElem? (i := 10) rfl)) (hw _ (List.mem_of_getElem? (i := 17) rfl)) ⟨by decide, by decide⟩ pd__28_5bCIILjava_2flang_2fVoid_3b_29V rfl (fun O => k_init4 (N := N) hw hs hcs hl hN hlat h1 A E Fv Fc O) (by simp) rfl (dle rfl) (dle rfl) (dle rfl) (by omega) d1_6 rfl (fun v1 hp1 gs1 K1 Q1 => ?_)
  obtain ⟨rfl, rfl, S1⟩ := Q1
  show Go _ K Z _ n0 _ _ 9 #[.val (.ref a), .val (.ref b0)] [] hp1 _ _ _
  exact retV C (gs := []) d1_9 (dle rfl) (by omega) (fun _ q => nomatch q) ⟨rfl, rfl, S1⟩
set_option maxRecDepth 65536 in
set_option maxHeartbeats 4000000 in
theorem k_latequals {Z : State} {a0 : Array Value} (hw : ∀ d ∈ tables_1, d.before a0 Z = true) (hs : Stt Z) {n0 : Nat} {h0 : Heap} {a b : Addr} {xs ys : List Int32} (hlx : xs.length ≤ 8192) (hly : ys.length ≤ 8192) (A : Ary Z h0 a .byte (xs.map Value.int)) (B : Ary Z h0 b .byte (ys.map Value.int)) (O : Old Z n0 h0) :
    Con WD Z EL0 n0 (⟨"java/lang/StringLatin1", "equals", "([B[B)Z"⟩ : MethodName) jdk_43_method_13_code 3 (some .boolean) (Rm 0 0 0 0) [(.ref a), (.ref b)] h0 [] (fun v h gs => v = some (.int (if xs = ys then 1 else 0)) ∧ gs = []) := by
  refine Con.of (a0 := a0) (by first | (simp [plainName, overriddenIn]; done) | decide +kernel) (hEL hw) hWE O (L0 := #[.val (.ref a), .val (.ref b), .unset]) (fun m => by first | rfl | (simp [entryFrame, mkF, argsToLocals, Value.category]; done)) ?_
  intro K C hh
  have hx : ((xs.map Value.int).length : Nat) = xs.length := by simp
  have hy : ((ys.map Value.int).length : Nat) = ys.length := by simp
  have ex := natI_toInt (i := xs.length) (by omega)
  have ey := natI_toInt (i := ys.length) (by omega)
  have loop : ∀ (m i : Nat), i + m = xs.length → xs.length = ys.length → xs.take i = ys.take i → Go WD K Z EL0 n0 [] (fun v h gs => v = some (.int (if xs = ys then 1 else 0)) ∧ gs = []) 9 #[.val (.ref a), .val (.ref b), .val (.int (natI i))] [] h0 [] 0 0 := by
    intro m
    induction m with
    | zero =>
      intro i hm hlen ht
      have ei := natI_toInt (i := i) (by omega)
      refine Own.iloadN C d13_9 rfl ?_
      refine Own.aloadN C d13_10 rfl rfl ?_
      refine arrlen C A (z := (natI xs.length)) (by rw [ex, hx]) d13_11 ?_
      refine icmp_ge C d13_12 (fun q1 => ?_) (fun q1 => ?_)
      · refine Own.iconst (v := 1) C d13_32 rfl ?_
        have e : xs = ys := by have h1 : i = xs.length := (by omega); subst h1; rw [List.take_length, hlen, List.take_length] at ht; exact ht
        exact retZ C (gs := []) d13_33 (dle rfl) (dle rfl) (fun _ q => nomatch q) ⟨by rw [if_pos e]; rfl, rfl⟩
      · rw [lt32] at q1
        omega
    | succ m ih =>
      intro i hm hlen ht
      have ei := natI_toInt (i := i) (by omega)
      refine Own.iloadN C d13_9 rfl ?_
      refine Own.aloadN C d13_10 rfl rfl ?_
      refine arrlen C A (z := (natI xs.length)) (by rw [ex, hx]) d13_11 ?_
      refine icmp_ge C d13_12 (fun q2 => ?_) (fun q2 => ?_)
      · rw [lt32] at q2
        omega
      · obtain ⟨c, hc⟩ : ∃ c, xs[i]? = some c := ⟨_, List.getElem?_eq_getElem (by omega)⟩
        obtain ⟨d, hd⟩ : ∃ c, ys[i]? = some c := ⟨_, List.getElem?_eq_getElem (by omega)⟩
        refine Own.aloadN C d13_15 rfl rfl ?_
        refine Own.iloadN C d13_16 rfl ?_
        refine baload_ C (v := .int c) A i ei (by simp [hc]) d13_17 ?_
        refine Own.aloadN C d13_18 rfl rfl ?_
        refine Own.iloadN C d13_19 rfl ?_
        refine baload_ C (v := .int d) B i ei (by simp [hd]) d13_20 ?_
        refine icmp_eq C d13_21 (fun q3 => ?_) (fun q3 => ?_)
        · have e3 := natI_succ (i := i) (by omega)
          refine Own.iinc (L' := #[.val (.ref a), .val (.ref b), .val (.int (natI (i + 1)))]) (y := (natI (i + 1))) C d13_26 rfl e3 rfl ?_
          refine Own.goto_ C d13_29 ?_
          exact ih (i + 1) (by omega) hlen (by rw [List.take_add_one, List.take_add_one, hc, hd, ht, q3])
        · refine Own.iconst (v := 0) C d13_24 rfl ?_
          have e : ¬ xs = ys := fun z => q3 (by rw [z, hd] at hc; exact (Option.some.inj hc).symm)
          exact retZ C (gs := []) d13_25 (dle rfl) (dle rfl) (fun _ q => nomatch q) ⟨by rw [if_neg e]; rfl, rfl⟩
  refine Own.aloadN C d13_0 rfl rfl ?_
  refine arrlen C A (z := (natI xs.length)) (by rw [ex, hx]) d13_1 ?_
  refine Own.aloadN C d13_2 rfl rfl ?_
  refine arrlen C B (z := (natI ys.length)) (by rw [ey, hy]) d13_3 ?_
  refine icmp_ne C d13_4 (fun q4 => ?_) (fun q4 => ?_)
  · refine Own.iconst (v := 0) C d13_34 rfl ?_
    have e : ¬ xs = ys := fun z => q4 (by rw [z])
    exact retZ C (gs := []) d13_35 (dle rfl) (dle rfl) (fun _ q => nomatch q) ⟨by rw [if_neg e]; rfl, rfl⟩
  · refine Own.iconst (v := 0) C d13_7 rfl ?_
    refine Own.istoreN (L' := #[.val (.ref a), .val (.ref b), .val (.int (0 : Int32))]) C d13_8 rfl ?_
    have hlen : xs.length = ys.length := by have := congrArg Int32.toInt q4; omega
    exact loop xs.length 0 (by omega) hlen rfl
set_option maxRecDepth 65536 in
set_option maxHeartbeats 4000000 in
theorem k_equals {Z : State} {a0 : Array Value} (hw : ∀ d ∈ tables_1, d.before a0 Z = true) (hs : Stt Z) {n0 : Nat} {h0 : Heap} {a a' : Addr} {cs cs' : List Int32} (F : Str Z h0 a cs) (G : Str Z h0 a' cs') (O : Old Z n0 h0) :
    Con WD Z EL0 n0 (⟨"java/lang/String", "equals", "(Ljava/lang/Object;)Z"⟩ : MethodName) jdk_42_method_66_code 3 (some .boolean) (Rm 1 0 0 14) [(.ref a), (.ref a')] h0 [] (fun v h gs => v = some (.int (if cs = cs' then 1 else 0)) ∧ gs = []) := by
  refine Con.of (a0 := a0) (by first | (simp [plainName, overriddenIn]; done) | decide +kernel) (hEL hw) hWE O (L0 := #[.val (.ref a), .val (.ref a'), .unset]) (fun m => by first | rfl | (simp [entryFrame, mkF, argsToLocals, Value.category]; done)) ?_
  intro K C hh
  obtain ⟨cv, hcv, Sc⟩ := st_c hs
  have F' := F
  have G' := G
  obtain ⟨E, hc1, hl1, b, z, vs, Fv, Fc, A, B⟩ := F
  obtain ⟨E', hc2, hl2, b', z', vs', Fv', Fc', A', B'⟩ := G
  obtain ⟨xs, hxs, hxl⟩ := Byt.ints B hl1
  obtain ⟨ys, hys, hyl⟩ := Byt.ints B' hl2
  subst hxs hys
  have hiff := Byt.iff hc1 hc2 B B'
  refine Own.aloadN C d12_0 rfl rfl ?_
  refine Own.aloadN C d12_1 rfl rfl ?_
  refine acmp_ne C rfl rfl d12_2 (fun q1 => ?_) (fun q1 => ?_)
  · refine Own.aloadN C d12_7 rfl rfl ?_
    refine instY_ C (hw _ (List.mem_of_getElem? (i := 70) rfl)) (Ins.self E') d12_8 ?_
    refine if_eq C d12_11 (fun q2 => ?_) (fun q2 => ?_)
    · exact absurd q2 (by decide)
    · refine Own.aloadN C d12_14 rfl rfl ?_
      refine cast_ C (hw _ (List.mem_of_getElem? (i := 70) rfl)) (Ins.self E') d12_15 ?_
      refine Own.astoreN (L' := #[.val (.ref a), .val (.ref a'), .val (.ref a')]) C d12_18 rfl rfl ?_
      refine getS_ C (hw _ (List.mem_of_getElem? (i := 21) rfl)) Sc d12_19 ?_
      refine if_eq C d12_22 (fun q3 => ?_) (fun q3 => ?_)
      · exact absurd q3 hcv
      · refine Own.aloadN C d12_25 rfl rfl ?_
        refine getF_ C (hw _ (List.mem_of_getElem? (i := 33) rfl)) Fc d12_26 ?_
        refine Own.aloadN C d12_29 rfl rfl ?_
        refine getF_ C (hw _ (List.mem_of_getElem? (i := 33) rfl)) Fc' d12_30 ?_
        refine icmp_ne C d12_33 (fun q4 => ?_) (fun q4 => ?_)
        · refine Own.iconst (v := 0) C d12_54 rfl ?_
          have e : ¬ cs = cs' := fun q => q4 (hiff.mpr q).1
          exact retZ C (gs := []) d12_55 (dle rfl) (dle rfl) (fun _ q => nomatch q) ⟨by rw [if_neg e]; rfl, rfl⟩
        · refine Own.aloadN C d12_36 rfl rfl ?_
          refine getF_ C (hw _ (List.mem_of_getElem? (i := 35) rfl)) Fv d12_37 ?_
          refine Own.aloadN C d12_40 rfl rfl ?_
          refine getF_ C (hw _ (List.mem_of_getElem? (i := 35) rfl)) Fv' d12_41 ?_
          refine callS_ C (as := [(.ref b), (.ref b')]) (st := []) (hw _ (List.mem_of_getElem? (i := 71) rfl)) (hw _ (List.mem_of_getElem? (i := 72) rfl)) (hw _ (List.mem_of_getElem? (i := 73) rfl)) (hw _ (List.mem_of_getElem? (i := 74) rfl)) ⟨by decide, by decide⟩ pd__28_5bB_5bB_29Z rfl (fun O => k_latequals hw hs hxl hyl A A' O) (fun _ q => nomatch q) rfl (dle rfl) (dle rfl) (dle rfl) (dle rfl) d12_44 rfl (fun v5 hp5 gs5 K5 Q5 => ?_)
          obtain ⟨rfl, rfl⟩ := Q5
          show Go _ K Z _ n0 _ _ 47 #[.val (.ref a), .val (.ref a'), .val (.ref a')] [(.int (if xs = ys then 1 else 0))] hp5 _ _ _
          refine if_eq C d12_47 (fun q6 => ?_) (fun q6 => ?_)
          · refine Own.iconst (v := 0) C d12_54 rfl ?_
            have e : ¬ cs = cs' := fun q => by have := (hiff.mpr q).2; have h3 : xs = ys := (List.map_inj_right (fun _ _ q => Value.int.inj q)).mp this; rw [if_pos h3] at q6; exact absurd q6 (by decide)
            exact retZ C (gs := []) d12_55 (dle rfl) (dle rfl) (fun _ q => nomatch q) ⟨by rw [if_neg e]; rfl, rfl⟩
          · refine Own.iconst (v := 1) C d12_50 rfl ?_
            refine Own.goto_ C d12_51 ?_
            have e : cs = cs' := by by_cases h3 : xs = ys; exact hiff.mp ⟨q4, by rw [h3]⟩; exact absurd (if_neg h3) q6
            exact retZ C (gs := []) d12_55 (dle rfl) (dle rfl) (fun _ q => nomatch q) ⟨by rw [if_pos e]; rfl, rfl⟩
  · have e : cs = cs' := by have := Value.ref.inj q1; subst this; exact F'.fn G'
    refine Own.iconst (v := 1) C d12_5 rfl ?_
    exact retZ C (gs := []) d12_6 (dle rfl) (dle rfl) (fun _ q => nomatch q) ⟨by rw [if_pos e]; rfl, rfl⟩
set_option maxRecDepth 65536 in
set_option maxHeartbeats 4000000 in
theorem k_equals0 {Z : State} {a0 : Array Value} (hw : ∀ d ∈ tables_1, d.before a0 Z = true) (hs : Stt Z) {n0 : Nat} {h0 : Heap} {a : Addr} (O : Old Z n0 h0) :
    Con WD Z EL0 n0 (⟨"java/lang/String", "equals", "(Ljava/lang/Object;)Z"⟩ : MethodName) jdk_42_method_66_code 3 (some .boolean) (Rm 0 0 0 0) [(.ref a), .null] h0 [] (fun v h gs => v = some (.int 0) ∧ gs = []) := by
  refine Con.of (a0 := a0) (by first | (simp [plainName, overriddenIn]; done) | decide +kernel) (hEL hw) hWE O (L0 := #[.val (.ref a), .val .null, .unset]) (fun m => by first | rfl | (simp [entryFrame, mkF, argsToLocals, Value.category]; done)) ?_
  intro K C hh
  refine Own.aloadN C d12_0 rfl rfl ?_
  refine Own.aloadN C d12_1 rfl rfl ?_
  refine acmp_ne C rfl rfl d12_2 (fun q1 => ?_) (fun q1 => ?_)
  · refine Own.aloadN C d12_7 rfl rfl ?_
    refine inst0_ C (hw _ (List.mem_of_getElem? (i := 70) rfl))  d12_8 ?_
    refine if_eq C d12_11 (fun q2 => ?_) (fun q2 => ?_)
    · refine Own.iconst (v := 0) C d12_54 rfl ?_
      exact retZ C (gs := []) d12_55 (dle rfl) (dle rfl) (fun _ q => nomatch q) ⟨rfl, rfl⟩
    · exact absurd rfl q2
  · cases q1
set_option maxRecDepth 65536 in
set_option maxHeartbeats 4000000 in
theorem k_same {Z : State} {a0 : Array Value} (hw : ∀ d ∈ tables_1, d.before a0 Z = true) (hs : Stt Z) {n0 : Nat} {h0 : Heap} {p c p' c' : Int32} (O : Old Z n0 h0) :
    Con WD Z EL0 n0 (⟨"com/example/twyce/twyce/AggregateEqualsPinLaw", "same", "(ZIZI)Z"⟩ : MethodName) method_3_code 4 (some .boolean) (Rm 0 0 0 0) [(.int p), (.int c), (.int p'), (.int c')] h0 [] (fun v h gs => v = some (.int (if so p c = so p' c' then 1 else 0)) ∧ gs = []) := by
  refine Con.of (a0 := a0) (by first | (simp [plainName, overriddenIn]; done) | decide +kernel) (hEL hw) hWE O (L0 := #[.val (.int p), .val (.int c), .val (.int p'), .val (.int c')]) (fun m => by first | rfl | (simp [entryFrame, mkF, argsToLocals, Value.category]; done)) ?_
  intro K C hh
  refine Own.iloadN C d9_0 rfl ?_
  refine if_ne C d9_1 (fun q1 => ?_) (fun q1 => ?_)
  · refine Own.iloadN C d9_8 rfl ?_
    refine if_eq C d9_9 (fun q2 => ?_) (fun q2 => ?_)
    · refine Own.iconst (v := 0) C d9_20 rfl ?_
      have e : ¬ so p c = so p' c' := by simp_all [so]
      exact retZ C (gs := []) d9_21 (dle rfl) (dle rfl) (fun _ q => nomatch q) ⟨by rw [if_neg e]; rfl, rfl⟩
    · refine Own.iloadN C d9_12 rfl ?_
      refine if_eq C d9_13 (fun q3 => ?_) (fun q3 => ?_)
      · refine Own.iconst (v := 0) C d9_20 rfl ?_
        have e : ¬ so p c = so p' c' := by simp_all [so]
        exact retZ C (gs := []) d9_21 (dle rfl) (dle rfl) (fun _ q => nomatch q) ⟨by rw [if_neg e]; rfl, rfl⟩
      · refine Own.iconst (v := 1) C d9_16 rfl ?_
        refine Own.goto_ C d9_17 ?_
        have e : so p c = so p' c' := by simp_all [so]
        exact retZ C (gs := []) d9_21 (dle rfl) (dle rfl) (fun _ q => nomatch q) ⟨by rw [if_pos e]; rfl, rfl⟩
  · refine Own.iloadN C d9_4 rfl ?_
    refine if_eq C d9_5 (fun q4 => ?_) (fun q4 => ?_)
    · refine Own.iloadN C d9_22 rfl ?_
      refine Own.sipush (v := 255) C d9_23 rfl ?_
      refine Own.iand C d9_26 ?_
      refine Own.iloadN C d9_27 rfl ?_
      refine Own.sipush (v := 255) C d9_28 rfl ?_
      refine Own.iand C d9_31 ?_
      refine icmp_ne C d9_32 (fun q5 => ?_) (fun q5 => ?_)
      · refine Own.iconst (v := 0) C d9_58 rfl ?_
        have e : ¬ so p c = so p' c' := by simp only [so, if_pos q1, if_pos q4, Option.some.injEq, List.cons.injEq, and_true]; rw [narc_id (ch8 _), narc_id (ch8 _)]; exact fun z => q5 z.1
        exact retZ C (gs := []) d9_59 (dle rfl) (dle rfl) (fun _ q => nomatch q) ⟨by rw [if_neg e]; rfl, rfl⟩
      · refine Own.iloadN C d9_35 rfl ?_
        refine Own.bipush (v := 8) C d9_36 rfl ?_
        refine Own.iushr C d9_38 ?_
        refine Own.sipush (v := 255) C d9_39 rfl ?_
        refine Own.iand C d9_42 ?_
        refine Own.iloadN C d9_43 rfl ?_
        refine Own.bipush (v := 8) C d9_44 rfl ?_
        refine Own.iushr C d9_46 ?_
        refine Own.sipush (v := 255) C d9_47 rfl ?_
        refine Own.iand C d9_50 ?_
        refine icmp_ne C d9_51 (fun q6 => ?_) (fun q6 => ?_)
        · refine Own.iconst (v := 0) C d9_58 rfl ?_
          have e : ¬ so p c = so p' c' := by simp only [so, if_pos q1, if_pos q4, Option.some.injEq, List.cons.injEq, and_true]; rw [narc_id (ch8 (ushr c 8)), narc_id (ch8 (ushr c' 8))]; exact fun z => q6 z.2
          exact retZ C (gs := []) d9_59 (dle rfl) (dle rfl) (fun _ q => nomatch q) ⟨by rw [if_neg e]; rfl, rfl⟩
        · refine Own.iconst (v := 1) C d9_54 rfl ?_
          refine Own.goto_ C d9_55 ?_
          have e : so p c = so p' c' := by simp only [so, if_pos q1, if_pos q4, q5, q6]
          exact retZ C (gs := []) d9_59 (dle rfl) (dle rfl) (fun _ q => nomatch q) ⟨by rw [if_pos e]; rfl, rfl⟩
    · refine Own.iloadN C d9_8 rfl ?_
      refine if_eq C d9_9 (fun q7 => ?_) (fun q7 => ?_)
      · refine Own.iconst (v := 0) C d9_20 rfl ?_
        have e : ¬ so p c = so p' c' := by simp_all [so]
        exact retZ C (gs := []) d9_21 (dle rfl) (dle rfl) (fun _ q => nomatch q) ⟨by rw [if_neg e]; rfl, rfl⟩
      · refine Own.iloadN C d9_12 rfl ?_
        refine if_eq C d9_13 (fun q8 => ?_) (fun q8 => ?_)
        · refine Own.iconst (v := 0) C d9_20 rfl ?_
          have e : ¬ so p c = so p' c' := by simp_all [so]
          exact retZ C (gs := []) d9_21 (dle rfl) (dle rfl) (fun _ q => nomatch q) ⟨by rw [if_neg e]; rfl, rfl⟩
        · refine Own.iconst (v := 1) C d9_16 rfl ?_
          refine Own.goto_ C d9_17 ?_
          have e : so p c = so p' c' := by simp_all [so]
          exact retZ C (gs := []) d9_21 (dle rfl) (dle rfl) (fun _ q => nomatch q) ⟨by rw [if_pos e]; rfl, rfl⟩
set_option maxRecDepth 65536 in
set_option maxHeartbeats 4000000 in
theorem k_str {Z : State} {a0 : Array Value} (hw : ∀ d ∈ tables_1, d.before a0 Z = true) (hs : Stt Z) {n0 : Nat} {h0 : Heap} {p c : Int32} (O : Old Z n0 h0) :
    Con WD Z EL0 n0 (⟨"com/example/twyce/twyce/AggregateEqualsPinLaw", "str", "(ZI)Ljava/lang/String;"⟩ : MethodName) method_2_code 3 (some (.object "java/lang/String")) (Rm 4 3 8 66) [(.int p), (.int c)] h0 [] (fun v h gs => gs = [] ∧ ∃ u, v = some u ∧ SV Z h u (so p c)) := by
  refine Con.of (a0 := a0) (by first | (simp [plainName, overriddenIn]; done) | decide +kernel) (hEL hw) hWE O (L0 := #[.val (.int p), .val (.int c), .unset]) (fun m => by first | rfl | (simp [entryFrame, mkF, argsToLocals, Value.category]; done)) ?_
  intro K C hh
  refine Own.iloadN C d0_0 rfl ?_
  refine if_eq C d0_1 (fun q1 => ?_) (fun q1 => ?_)
  · refine Own.iconst (v := 2) C d0_6 rfl ?_
    refine newarr C (hw _ (List.mem_of_getElem? (i := 7) rfl)) (by decide) 2 (by decide) (by decide) (dle rfl) (dle rfl) d0_7 (fun hp2 K2 lt2 le2 A2 => ?_)
    obtain ⟨b0, g2⟩ : ∃ z, z = h0.size := ⟨_, rfl⟩
    rw [← g2] at A2 lt2 le2 ⊢
    refine Own.astoreN (L' := #[.val (.int p), .val (.int c), .val (.ref b0)]) C d0_9 rfl rfl ?_
    refine Own.aloadN C d0_10 rfl rfl ?_
    refine Own.iconst (v := 0) C d0_11 rfl ?_
    refine Own.iloadN C d0_12 rfl ?_
    refine Own.sipush (v := 255) C d0_13 rfl ?_
    refine Own.iand C d0_16 ?_
    refine Own.i2c C d0_17 ?_
    refine castore_ C A2 0 (by decide) (dlt rfl) (by simp) d0_18 (fun hp3 W3 A3 => ?_)
    refine Own.aloadN C d0_19 rfl rfl ?_
    refine Own.iconst (v := 1) C d0_20 rfl ?_
    refine Own.iloadN C d0_21 rfl ?_
    refine Own.bipush (v := 8) C d0_22 rfl ?_
    refine Own.iushr C d0_24 ?_
    refine Own.sipush (v := 255) C d0_25 rfl ?_
    refine Own.iand C d0_28 ?_
    refine Own.i2c C d0_29 ?_
    refine castore_ C A3 1 (by decide) (dlt rfl) (by simp) d0_30 (fun hp4 W4 A4 => ?_)
    have A : Ary Z hp4 b0 .char (chs [nar .char (c &&& 255), nar .char (ushr c 8 &&& 255)]) := by rw [narc_idem, narc_idem] at A4; exact A4
    refine new_ C (hw _ (List.mem_of_getElem? (i := 8) rfl)) (hw _ (List.mem_of_getElem? (i := 9) rfl)) (hw _ (List.mem_of_getElem? (i := 10) rfl)) (dle rfl) (dle rfl) d0_31 (fun hp5 K5 lt5 le5 ⟨E5, F5⟩ => ?_)
    obtain ⟨a, g5⟩ : ∃ z, z = hp4.size := ⟨_, rfl⟩
    rw [← g5] at E5 F5 lt5 le5 ⊢
    refine Own.dup C d0_34 rfl ?_
    refine Own.aloadN C d0_35 rfl rfl ?_
    have Fv := F5 (Or.inr (hw _ (List.mem_of_getElem? (i := 36) rfl)) : Laid Z a0 "java/lang/String" "java/lang/String" "value" "[B") (ty := .array .byte) (by decide)
    have Fc := F5 (Or.inr (hw _ (List.mem_of_getElem? (i := 34) rfl)) : Laid Z a0 "java/lang/String" "java/lang/String" "coder" "B") (ty := .byte) (by decide)
    refine callI_ C (as' := [(.ref b0)]) (st := [(.ref a)]) rfl (hw _ (List.mem_of_getElem? (i := 11) rfl)) (hw _ (List.mem_of_getElem? (i := 12) rfl)) (hw _ (List.mem_of_getElem? (i := 10) rfl)) (hw _ (List.mem_of_getElem? (i := 13) rfl)) ⟨by decide, by decide⟩ pd__28_5bC_29V rfl (fun O => k_init (N := 2) hw hs (by simp; exact ⟨narc_ch _, narc_ch _⟩) (dle rfl) ⟨dle rfl, by decide⟩ (by simp; exact ⟨ch8_lt _, ch8_lt _⟩) (dle rfl) (A.keep K5 nin0) E5 Fv Fc O) (by simp) rfl (dle rfl) (dle rfl) (dle rfl) (dle rfl) d0_36 rfl (fun v6 hp6 gs6 K6 Q6 => ?_)
    obtain ⟨rfl, rfl, S6⟩ := Q6
    show Go _ K Z _ n0 _ _ 39 #[.val (.int p), .val (.int c), .val (.ref b0)] [(.ref a)] hp6 _ _ _
    exact retA C (gs := []) rfl rfl d0_39 (dle rfl) (dle rfl) (fun _ q => nomatch q) ⟨rfl, _, rfl, by simp only [so, if_pos q1]; exact ⟨a, rfl, S6⟩⟩
  · refine Own.aconstNull C d0_4 ?_
    exact retA C (gs := []) rfl rfl d0_5 (dle rfl) (dle rfl) (fun _ q => nomatch q) ⟨rfl, _, rfl, by simp only [so, if_neg q1]; rfl⟩
set_option maxRecDepth 65536 in
set_option maxHeartbeats 4000000 in
theorem k_record {Z : State} {a0 : Array Value} (hw : ∀ d ∈ tables_1, d.before a0 Z = true) (hs : Stt Z) {n0 : Nat} {h0 : Heap} {a : Addr} (O : Old Z n0 h0) :
    Con WD Z EL0 n0 (⟨"java/lang/Record", "<init>", "()V"⟩ : MethodName) jdk_30_method_1_code 1 none (Rm 1 0 0 12) [(.ref a)] h0 [] (fun v h gs => v = none ∧ gs = []) := by
  refine Con.of (a0 := a0) (by first | (simp [plainName, overriddenIn]; done) | decide +kernel) (hEL hw) hWE O (L0 := #[.val (.ref a)]) (fun m => by first | rfl | (simp [entryFrame, mkF, argsToLocals, Value.category]; done)) ?_
  intro K C hh
  refine Own.aloadN C d8_0 rfl rfl ?_
  refine initO_ C (hw _ (List.mem_of_getElem? (i := 45) rfl)) (hw _ (List.mem_of_getElem? (i := 19) rfl)) (hw _ (List.mem_of_getElem? (i := 20) rfl)) rfl (dle rfl) (dle rfl) d8_1 ?_
  exact retV C (gs := []) d8_4 (dle rfl) (dle rfl) (fun _ q => nomatch q) ⟨rfl, rfl⟩
set_option maxRecDepth 65536 in
set_option maxHeartbeats 4000000 in
theorem k_agg {Z : State} {a0 : Array Value} (hw : ∀ d ∈ tables_1, d.before a0 Z = true) (hs : Stt Z) {n0 : Nat} {h0 : Heap} {a : Addr} {v w : Value} {u1 u2 : Value} (hv : v.isRef = true) (hv' : w.isRef = true) (E : Exa Z h0 a "com/example/twyce/twyce/Aggregate") (Ft : Fld Z h0 a "com/example/twyce/twyce/Aggregate" "type" "Ljava/lang/String;" u1) (Fi : Fld Z h0 a "com/example/twyce/twyce/Aggregate" "id" "Ljava/lang/String;" u2) (O : Old Z n0 h0) :
    Con WD Z EL0 n0 (⟨"com/example/twyce/twyce/Aggregate", "<init>", "(Ljava/lang/String;Ljava/lang/String;)V"⟩ : MethodName) prog_1_method_1_code 3 none (Rm 2 0 0 24) [(.ref a), v, w] h0 [a] (fun z h gs => z = none ∧ gs = [] ∧ Exa Z h a "com/example/twyce/twyce/Aggregate" ∧ Fld Z h a "com/example/twyce/twyce/Aggregate" "type" "Ljava/lang/String;" v ∧ Fld Z h a "com/example/twyce/twyce/Aggregate" "id" "Ljava/lang/String;" w) := by
  rcases ref_cases hv with rfl | ⟨r1, rfl⟩ <;> rcases ref_cases hv' with rfl | ⟨r2, rfl⟩
  · refine Con.of (a0 := a0) (by first | (simp [plainName, overriddenIn]; done) | decide +kernel) (hEL hw) hWE O (L0 := #[.val (.ref a), .val .null, .val .null]) (fun m => by first | rfl | (simp [entryFrame, mkF, argsToLocals, Value.category]; done)) ?_
    intro K C hh
    refine Own.aloadN C d7_0 rfl rfl ?_
    refine callI_ C (as' := []) (st := []) rfl (hw _ (List.mem_of_getElem? (i := 40) rfl)) (hw _ (List.mem_of_getElem? (i := 41) rfl)) (hw _ (List.mem_of_getElem? (i := 43) rfl)) (hw _ (List.mem_of_getElem? (i := 44) rfl)) ⟨by decide, by decide⟩ pd__28_29V rfl (fun O => k_record hw hs O) (fun _ q => nomatch q) rfl (dle rfl) (dle rfl) (dle rfl) (dle rfl) d7_1 rfl (fun v1 hp1 gs1 K1 Q1 => ?_)
    obtain ⟨rfl, rfl⟩ := Q1
    show Go _ K Z _ n0 _ _ 4 #[.val (.ref a), .val .null, .val .null] [] hp1 _ _ _
    have E1 := E.keep K1
    have T1 := Ft.keep K1 nin0
    have I1 := Fi.keep K1 nin0
    refine Own.aloadN C d7_4 rfl rfl ?_
    refine Own.aloadN C d7_5 rfl rfl ?_
    refine putF_ C (v' := .null) (ty := (.object "java/lang/String")) (hw _ (List.mem_of_getElem? (i := 46) rfl)) T1 E1 (Or.inr ⟨(hw _ (List.mem_of_getElem? (i := 47) rfl)), rfl, rfl⟩) (hw _ (List.mem_of_getElem? (i := 1) rfl)) (by decide) rfl rfl (by simp) d7_6 (fun hp2 W3 => ?_)
    have hne := slot_ne (Or.inr (hw _ (List.mem_of_getElem? (i := 47) rfl)) : Laid Z a0 "com/example/twyce/twyce/Aggregate" "com/example/twyce/twyce/Aggregate" "type" "Ljava/lang/String;") (Or.inr (hw _ (List.mem_of_getElem? (i := 49) rfl)) : Laid Z a0 "com/example/twyce/twyce/Aggregate" "com/example/twyce/twyce/Aggregate" "id" "Ljava/lang/String;") (by decide) (t := .object "java/lang/String") (t' := .object "java/lang/String") (by decide) (by decide)
    have E2 := E1.wr W3
    have T2 := T1.same W3
    have I2 := I1.other W3 (Or.inr hne.symm)
    refine Own.aloadN C d7_9 rfl rfl ?_
    refine Own.aloadN C d7_10 rfl rfl ?_
    refine putF_ C (v' := .null) (ty := (.object "java/lang/String")) (hw _ (List.mem_of_getElem? (i := 48) rfl)) I2 E2 (Or.inr ⟨(hw _ (List.mem_of_getElem? (i := 49) rfl)), rfl, rfl⟩) (hw _ (List.mem_of_getElem? (i := 1) rfl)) (by decide) rfl rfl (by simp) d7_11 (fun hp4 W5 => ?_)
    exact retV C (gs := []) d7_14 (dle rfl) (dle rfl) (fun _ q => nomatch q) ⟨rfl, rfl, E2.wr W5, T2.other W5 (Or.inr hne), I2.same W5⟩
  · refine Con.of (a0 := a0) (by first | (simp [plainName, overriddenIn]; done) | decide +kernel) (hEL hw) hWE O (L0 := #[.val (.ref a), .val .null, .val (.ref r2)]) (fun m => by first | rfl | (simp [entryFrame, mkF, argsToLocals, Value.category]; done)) ?_
    intro K C hh
    refine Own.aloadN C d7_0 rfl rfl ?_
    refine callI_ C (as' := []) (st := []) rfl (hw _ (List.mem_of_getElem? (i := 40) rfl)) (hw _ (List.mem_of_getElem? (i := 41) rfl)) (hw _ (List.mem_of_getElem? (i := 43) rfl)) (hw _ (List.mem_of_getElem? (i := 44) rfl)) ⟨by decide, by decide⟩ pd__28_29V rfl (fun O => k_record hw hs O) (fun _ q => nomatch q) rfl (dle rfl) (dle rfl) (dle rfl) (dle rfl) d7_1 rfl (fun v1 hp1 gs1 K1 Q1 => ?_)
    obtain ⟨rfl, rfl⟩ := Q1
    show Go _ K Z _ n0 _ _ 4 #[.val (.ref a), .val .null, .val (.ref r2)] [] hp1 _ _ _
    have E1 := E.keep K1
    have T1 := Ft.keep K1 nin0
    have I1 := Fi.keep K1 nin0
    refine Own.aloadN C d7_4 rfl rfl ?_
    refine Own.aloadN C d7_5 rfl rfl ?_
    refine putF_ C (v' := .null) (ty := (.object "java/lang/String")) (hw _ (List.mem_of_getElem? (i := 46) rfl)) T1 E1 (Or.inr ⟨(hw _ (List.mem_of_getElem? (i := 47) rfl)), rfl, rfl⟩) (hw _ (List.mem_of_getElem? (i := 1) rfl)) (by decide) rfl rfl (by simp) d7_6 (fun hp2 W3 => ?_)
    have hne := slot_ne (Or.inr (hw _ (List.mem_of_getElem? (i := 47) rfl)) : Laid Z a0 "com/example/twyce/twyce/Aggregate" "com/example/twyce/twyce/Aggregate" "type" "Ljava/lang/String;") (Or.inr (hw _ (List.mem_of_getElem? (i := 49) rfl)) : Laid Z a0 "com/example/twyce/twyce/Aggregate" "com/example/twyce/twyce/Aggregate" "id" "Ljava/lang/String;") (by decide) (t := .object "java/lang/String") (t' := .object "java/lang/String") (by decide) (by decide)
    have E2 := E1.wr W3
    have T2 := T1.same W3
    have I2 := I1.other W3 (Or.inr hne.symm)
    refine Own.aloadN C d7_9 rfl rfl ?_
    refine Own.aloadN C d7_10 rfl rfl ?_
    refine putF_ C (v' := .ref r2) (ty := (.object "java/lang/String")) (hw _ (List.mem_of_getElem? (i := 48) rfl)) I2 E2 (Or.inr ⟨(hw _ (List.mem_of_getElem? (i := 49) rfl)), rfl, rfl⟩) (hw _ (List.mem_of_getElem? (i := 1) rfl)) (by decide) rfl rfl (by simp) d7_11 (fun hp4 W5 => ?_)
    exact retV C (gs := []) d7_14 (dle rfl) (dle rfl) (fun _ q => nomatch q) ⟨rfl, rfl, E2.wr W5, T2.other W5 (Or.inr hne), I2.same W5⟩
  · refine Con.of (a0 := a0) (by first | (simp [plainName, overriddenIn]; done) | decide +kernel) (hEL hw) hWE O (L0 := #[.val (.ref a), .val (.ref r1), .val .null]) (fun m => by first | rfl | (simp [entryFrame, mkF, argsToLocals, Value.category]; done)) ?_
    intro K C hh
    refine Own.aloadN C d7_0 rfl rfl ?_
    refine callI_ C (as' := []) (st := []) rfl (hw _ (List.mem_of_getElem? (i := 40) rfl)) (hw _ (List.mem_of_getElem? (i := 41) rfl)) (hw _ (List.mem_of_getElem? (i := 43) rfl)) (hw _ (List.mem_of_getElem? (i := 44) rfl)) ⟨by decide, by decide⟩ pd__28_29V rfl (fun O => k_record hw hs O) (fun _ q => nomatch q) rfl (dle rfl) (dle rfl) (dle rfl) (dle rfl) d7_1 rfl (fun v1 hp1 gs1 K1 Q1 => ?_)
    obtain ⟨rfl, rfl⟩ := Q1
    show Go _ K Z _ n0 _ _ 4 #[.val (.ref a), .val (.ref r1), .val .null] [] hp1 _ _ _
    have E1 := E.keep K1
    have T1 := Ft.keep K1 nin0
    have I1 := Fi.keep K1 nin0
    refine Own.aloadN C d7_4 rfl rfl ?_
    refine Own.aloadN C d7_5 rfl rfl ?_
    refine putF_ C (v' := .ref r1) (ty := (.object "java/lang/String")) (hw _ (List.mem_of_getElem? (i := 46) rfl)) T1 E1 (Or.inr ⟨(hw _ (List.mem_of_getElem? (i := 47) rfl)), rfl, rfl⟩) (hw _ (List.mem_of_getElem? (i := 1) rfl)) (by decide) rfl rfl (by simp) d7_6 (fun hp2 W3 => ?_)
    have hne := slot_ne (Or.inr (hw _ (List.mem_of_getElem? (i := 47) rfl)) : Laid Z a0 "com/example/twyce/twyce/Aggregate" "com/example/twyce/twyce/Aggregate" "type" "Ljava/lang/String;") (Or.inr (hw _ (List.mem_of_getElem? (i := 49) rfl)) : Laid Z a0 "com/example/twyce/twyce/Aggregate" "com/example/twyce/twyce/Aggregate" "id" "Ljava/lang/String;") (by decide) (t := .object "java/lang/String") (t' := .object "java/lang/String") (by decide) (by decide)
    have E2 := E1.wr W3
    have T2 := T1.same W3
    have I2 := I1.other W3 (Or.inr hne.symm)
    refine Own.aloadN C d7_9 rfl rfl ?_
    refine Own.aloadN C d7_10 rfl rfl ?_
    refine putF_ C (v' := .null) (ty := (.object "java/lang/String")) (hw _ (List.mem_of_getElem? (i := 48) rfl)) I2 E2 (Or.inr ⟨(hw _ (List.mem_of_getElem? (i := 49) rfl)), rfl, rfl⟩) (hw _ (List.mem_of_getElem? (i := 1) rfl)) (by decide) rfl rfl (by simp) d7_11 (fun hp4 W5 => ?_)
    exact retV C (gs := []) d7_14 (dle rfl) (dle rfl) (fun _ q => nomatch q) ⟨rfl, rfl, E2.wr W5, T2.other W5 (Or.inr hne), I2.same W5⟩
  · refine Con.of (a0 := a0) (by first | (simp [plainName, overriddenIn]; done) | decide +kernel) (hEL hw) hWE O (L0 := #[.val (.ref a), .val (.ref r1), .val (.ref r2)]) (fun m => by first | rfl | (simp [entryFrame, mkF, argsToLocals, Value.category]; done)) ?_
    intro K C hh
    refine Own.aloadN C d7_0 rfl rfl ?_
    refine callI_ C (as' := []) (st := []) rfl (hw _ (List.mem_of_getElem? (i := 40) rfl)) (hw _ (List.mem_of_getElem? (i := 41) rfl)) (hw _ (List.mem_of_getElem? (i := 43) rfl)) (hw _ (List.mem_of_getElem? (i := 44) rfl)) ⟨by decide, by decide⟩ pd__28_29V rfl (fun O => k_record hw hs O) (fun _ q => nomatch q) rfl (dle rfl) (dle rfl) (dle rfl) (dle rfl) d7_1 rfl (fun v1 hp1 gs1 K1 Q1 => ?_)
    obtain ⟨rfl, rfl⟩ := Q1
    show Go _ K Z _ n0 _ _ 4 #[.val (.ref a), .val (.ref r1), .val (.ref r2)] [] hp1 _ _ _
    have E1 := E.keep K1
    have T1 := Ft.keep K1 nin0
    have I1 := Fi.keep K1 nin0
    refine Own.aloadN C d7_4 rfl rfl ?_
    refine Own.aloadN C d7_5 rfl rfl ?_
    refine putF_ C (v' := .ref r1) (ty := (.object "java/lang/String")) (hw _ (List.mem_of_getElem? (i := 46) rfl)) T1 E1 (Or.inr ⟨(hw _ (List.mem_of_getElem? (i := 47) rfl)), rfl, rfl⟩) (hw _ (List.mem_of_getElem? (i := 1) rfl)) (by decide) rfl rfl (by simp) d7_6 (fun hp2 W3 => ?_)
    have hne := slot_ne (Or.inr (hw _ (List.mem_of_getElem? (i := 47) rfl)) : Laid Z a0 "com/example/twyce/twyce/Aggregate" "com/example/twyce/twyce/Aggregate" "type" "Ljava/lang/String;") (Or.inr (hw _ (List.mem_of_getElem? (i := 49) rfl)) : Laid Z a0 "com/example/twyce/twyce/Aggregate" "com/example/twyce/twyce/Aggregate" "id" "Ljava/lang/String;") (by decide) (t := .object "java/lang/String") (t' := .object "java/lang/String") (by decide) (by decide)
    have E2 := E1.wr W3
    have T2 := T1.same W3
    have I2 := I1.other W3 (Or.inr hne.symm)
    refine Own.aloadN C d7_9 rfl rfl ?_
    refine Own.aloadN C d7_10 rfl rfl ?_
    refine putF_ C (v' := .ref r2) (ty := (.object "java/lang/String")) (hw _ (List.mem_of_getElem? (i := 48) rfl)) I2 E2 (Or.inr ⟨(hw _ (List.mem_of_getElem? (i := 49) rfl)), rfl, rfl⟩) (hw _ (List.mem_of_getElem? (i := 1) rfl)) (by decide) rfl rfl (by simp) d7_11 (fun hp4 W5 => ?_)
    exact retV C (gs := []) d7_14 (dle rfl) (dle rfl) (fun _ q => nomatch q) ⟨rfl, rfl, E2.wr W5, T2.other W5 (Or.inr hne), I2.same W5⟩
set_option maxRecDepth 65536 in
set_option maxHeartbeats 4000000 in
theorem k_oeq {Z : State} {a0 : Array Value} (hw : ∀ d ∈ tables_1, d.before a0 Z = true) (hs : Stt Z) {n0 : Nat} {h0 : Heap} {v w : Value} {o o' : Option (List Int32)} (F : SV Z h0 v o) (G : SV Z h0 w o') (O : Old Z n0 h0) :
    Con WD Z EL0 n0 (⟨"java/util/Objects", "equals", "(Ljava/lang/Object;Ljava/lang/Object;)Z"⟩ : MethodName) jdk_31_method_2_code 2 (some .boolean) (Rm 2 0 0 28) [v, w] h0 [] (fun z h gs => z = some (.int (if o = o' then 1 else 0)) ∧ gs = []) := by
  rcases o with _ | cs <;> rcases o' with _ | cs'
  · cases (show v = .null from F)
    cases (show w = .null from G)
    refine Con.of (a0 := a0) (by first | (simp [plainName, overriddenIn]; done) | decide +kernel) (hEL hw) hWE O (L0 := #[.val .null, .val .null]) (fun m => by first | rfl | (simp [entryFrame, mkF, argsToLocals, Value.category]; done)) ?_
    intro K C hh
    refine Own.aloadN C d11_0 rfl rfl ?_
    refine Own.aloadN C d11_1 rfl rfl ?_
    refine acmp_eq C rfl rfl d11_2 (fun q1 => ?_) (fun q1 => ?_)
    · refine Own.iconst (v := 1) C d11_17 rfl ?_
      refine Own.goto_ C d11_18 ?_
      exact retZ C (gs := []) d11_22 (dle rfl) (dle rfl) (fun _ q => nomatch q) ⟨rfl, rfl⟩
    · exact absurd rfl q1
  · cases (show v = .null from F)
    obtain ⟨a', rfl, G⟩ := G
    refine Con.of (a0 := a0) (by first | (simp [plainName, overriddenIn]; done) | decide +kernel) (hEL hw) hWE O (L0 := #[.val .null, .val (.ref a')]) (fun m => by first | rfl | (simp [entryFrame, mkF, argsToLocals, Value.category]; done)) ?_
    intro K C hh
    refine Own.aloadN C d11_0 rfl rfl ?_
    refine Own.aloadN C d11_1 rfl rfl ?_
    refine acmp_eq C rfl rfl d11_2 (fun q1 => ?_) (fun q1 => ?_)
    · cases q1
    · refine Own.aloadN C d11_5 rfl rfl ?_
      refine ifnullY (b := 0) C d11_6 ?_
      refine Own.iconst (v := 0) C d11_21 rfl ?_
      exact retZ C (gs := []) d11_22 (dle rfl) (dle rfl) (fun _ q => nomatch q) ⟨rfl, rfl⟩
  · obtain ⟨a, rfl, F⟩ := F
    cases (show w = .null from G)
    refine Con.of (a0 := a0) (by first | (simp [plainName, overriddenIn]; done) | decide +kernel) (hEL hw) hWE O (L0 := #[.val (.ref a), .val .null]) (fun m => by first | rfl | (simp [entryFrame, mkF, argsToLocals, Value.category]; done)) ?_
    intro K C hh
    refine Own.aloadN C d11_0 rfl rfl ?_
    refine Own.aloadN C d11_1 rfl rfl ?_
    refine acmp_eq C rfl rfl d11_2 (fun q1 => ?_) (fun q1 => ?_)
    · cases q1
    · refine Own.aloadN C d11_5 rfl rfl ?_
      refine ifnullN C d11_6 ?_
      refine Own.aloadN C d11_9 rfl rfl ?_
      refine Own.aloadN C d11_10 rfl rfl ?_
      refine callV_ C (as' := [.null]) (st := []) (hw _ (List.mem_of_getElem? (i := 64) rfl)) (hw _ (List.mem_of_getElem? (i := 65) rfl)) (fun _ hZ => nf_top (args := #[]) (mvT hZ (hw _ (List.mem_of_getElem? (i := 76) rfl)))) (hw _ (List.mem_of_getElem? (i := 67) rfl)) (hw _ (List.mem_of_getElem? (i := 68) rfl)) (hw _ (List.mem_of_getElem? (i := 10) rfl)) (hw _ (List.mem_of_getElem? (i := 69) rfl)) ⟨by decide, by decide⟩ F.1 pd__28Ljava_2flang_2fObject_3b_29Z rfl (fun O => k_equals0 hw hs O) (fun _ q => nomatch q) rfl (dle rfl) (dle rfl) (dle rfl) (dle rfl) d11_11 rfl (fun v2 hp2 gs2 K2 Q2 => ?_)
      obtain ⟨rfl, rfl⟩ := Q2
      show Go _ K Z _ n0 _ _ 14 #[.val (.ref a), .val .null] [(.int (0 : Int32))] hp2 _ _ _
      refine if_eq C d11_14 (fun q3 => ?_) (fun q3 => ?_)
      · refine Own.iconst (v := 0) C d11_21 rfl ?_
        exact retZ C (gs := []) d11_22 (dle rfl) (dle rfl) (fun _ q => nomatch q) ⟨rfl, rfl⟩
      · exact absurd rfl q3
  · obtain ⟨a, rfl, F⟩ := F
    obtain ⟨a', rfl, G⟩ := G
    refine Con.of (a0 := a0) (by first | (simp [plainName, overriddenIn]; done) | decide +kernel) (hEL hw) hWE O (L0 := #[.val (.ref a), .val (.ref a')]) (fun m => by first | rfl | (simp [entryFrame, mkF, argsToLocals, Value.category]; done)) ?_
    intro K C hh
    refine Own.aloadN C d11_0 rfl rfl ?_
    refine Own.aloadN C d11_1 rfl rfl ?_
    refine acmp_eq C rfl rfl d11_2 (fun q1 => ?_) (fun q1 => ?_)
    · refine Own.iconst (v := 1) C d11_17 rfl ?_
      refine Own.goto_ C d11_18 ?_
      have e : cs = cs' := by cases Value.ref.inj q1; exact F.fn G
      exact retZ C (gs := []) d11_22 (dle rfl) (dle rfl) (fun _ q => nomatch q) ⟨by rw [if_pos (by rw [e])]; rfl, rfl⟩
    · refine Own.aloadN C d11_5 rfl rfl ?_
      refine ifnullN C d11_6 ?_
      refine Own.aloadN C d11_9 rfl rfl ?_
      refine Own.aloadN C d11_10 rfl rfl ?_
      refine callV_ C (as' := [(.ref a')]) (st := []) (hw _ (List.mem_of_getElem? (i := 64) rfl)) (hw _ (List.mem_of_getElem? (i := 65) rfl)) (fun _ hZ => nf_top (args := #[]) (mvT hZ (hw _ (List.mem_of_getElem? (i := 76) rfl)))) (hw _ (List.mem_of_getElem? (i := 67) rfl)) (hw _ (List.mem_of_getElem? (i := 68) rfl)) (hw _ (List.mem_of_getElem? (i := 10) rfl)) (hw _ (List.mem_of_getElem? (i := 69) rfl)) ⟨by decide, by decide⟩ F.1 pd__28Ljava_2flang_2fObject_3b_29Z rfl (fun O => k_equals hw hs F G O) (fun _ q => nomatch q) rfl (dle rfl) (dle rfl) (dle rfl) (dle rfl) d11_11 rfl (fun v2 hp2 gs2 K2 Q2 => ?_)
      obtain ⟨rfl, rfl⟩ := Q2
      show Go _ K Z _ n0 _ _ 14 #[.val (.ref a), .val (.ref a')] [(.int (if cs = cs' then 1 else 0))] hp2 _ _ _
      refine if_eq C d11_14 (fun q3 => ?_) (fun q3 => ?_)
      · refine Own.iconst (v := 0) C d11_21 rfl ?_
        have e : ¬ cs = cs' := fun z => by rw [if_pos z] at q3; exact absurd q3 (by decide)
        exact retZ C (gs := []) d11_22 (dle rfl) (dle rfl) (fun _ q => nomatch q) ⟨by rw [if_neg (fun z => e (Option.some.inj z))]; rfl, rfl⟩
      · refine Own.iconst (v := 1) C d11_17 rfl ?_
        refine Own.goto_ C d11_18 ?_
        have e : cs = cs' := by by_cases z : cs = cs'; exact z; exact absurd (if_neg z) q3
        exact retZ C (gs := []) d11_22 (dle rfl) (dle rfl) (fun _ q => nomatch q) ⟨by rw [if_pos (by rw [e])]; rfl, rfl⟩
set_option maxRecDepth 65536 in
set_option maxHeartbeats 4000000 in
theorem k_aeq {Z : State} {a0 : Array Value} (hw : ∀ d ∈ tables_1, d.before a0 Z = true) (hs : Stt Z) {n0 : Nat} {h0 : Heap} {a a' : Addr} {v1 v2 w1 w2 : Value} {o1 o2 p1 p2 : Option (List Int32)} (E' : Exa Z h0 a' "com/example/twyce/twyce/Aggregate") (T : Fld Z h0 a "com/example/twyce/twyce/Aggregate" "type" "Ljava/lang/String;" v1) (I : Fld Z h0 a "com/example/twyce/twyce/Aggregate" "id" "Ljava/lang/String;" v2) (T' : Fld Z h0 a' "com/example/twyce/twyce/Aggregate" "type" "Ljava/lang/String;" w1) (I' : Fld Z h0 a' "com/example/twyce/twyce/Aggregate" "id" "Ljava/lang/String;" w2) (S1 : SV Z h0 v1 o1) (S2 : SV Z h0 v2 o2) (S1' : SV Z h0 w1 p1) (S2' : SV Z h0 w2 p2) (O : Old Z n0 h0) :
    Con WD Z EL0 n0 (⟨"com/example/twyce/twyce/Aggregate", "equals", "(Ljava/lang/Object;)Z"⟩ : MethodName) prog_1_method_2_code 3 (some .boolean) (Rm 3 0 0 41) [(.ref a), (.ref a')] h0 [] (fun z h gs => z = some (.int (if o1 = p1 ∧ o2 = p2 then 1 else 0)) ∧ gs = []) := by
  refine Con.of (a0 := a0) (by first | (simp [plainName, overriddenIn]; done) | decide +kernel) (hEL hw) hWE O (L0 := #[.val (.ref a), .val (.ref a'), .unset]) (fun m => by first | rfl | (simp [entryFrame, mkF, argsToLocals, Value.category]; done)) ?_
  intro K C hh
  refine Own.aloadN C d10_0 rfl rfl ?_
  refine instY_ C (hw _ (List.mem_of_getElem? (i := 58) rfl)) (Ins.self E') d10_1 ?_
  refine if_eq C d10_4 (fun q1 => ?_) (fun q1 => ?_)
  · exact absurd q1 (by decide)
  · refine Own.aloadN C d10_7 rfl rfl ?_
    refine cast_ C (hw _ (List.mem_of_getElem? (i := 58) rfl)) (Ins.self E') d10_8 ?_
    refine Own.astoreN (L' := #[.val (.ref a), .val (.ref a'), .val (.ref a')]) C d10_11 rfl rfl ?_
    refine Own.aloadN C d10_12 rfl rfl ?_
    refine getF_ C (hw _ (List.mem_of_getElem? (i := 46) rfl)) T d10_13 ?_
    refine Own.aloadN C d10_16 rfl rfl ?_
    refine getF_ C (hw _ (List.mem_of_getElem? (i := 46) rfl)) T' d10_17 ?_
    refine callS_ C (as := [v1, w1]) (st := []) (hw _ (List.mem_of_getElem? (i := 60) rfl)) (hw _ (List.mem_of_getElem? (i := 61) rfl)) (hw _ (List.mem_of_getElem? (i := 62) rfl)) (hw _ (List.mem_of_getElem? (i := 63) rfl)) ⟨by decide, by decide⟩ pd__28Ljava_2flang_2fObject_3bLjava_2flang_2fObject_3b_29Z rfl (fun O => k_oeq hw hs S1 S1' O) (fun _ q => nomatch q) rfl (dle rfl) (dle rfl) (dle rfl) (dle rfl) d10_20 rfl (fun v2 hp2 gs2 K2 Q2 => ?_)
    obtain ⟨rfl, rfl⟩ := Q2
    show Go _ K Z _ n0 _ _ 23 #[.val (.ref a), .val (.ref a'), .val (.ref a')] [(.int (if o1 = p1 then 1 else 0))] hp2 _ _ _
    refine if_eq C d10_23 (fun q3 => ?_) (fun q3 => ?_)
    · refine Own.iconst (v := 0) C d10_44 rfl ?_
      have e : ¬ o1 = p1 := fun z => by rw [if_pos z] at q3; exact absurd q3 (by decide)
      exact retZ C (gs := []) d10_45 (dle rfl) (dle rfl) (fun _ q => nomatch q) ⟨by rw [if_neg (fun z => e z.1)]; rfl, rfl⟩
    · have e : o1 = p1 := by by_cases z : o1 = p1; exact z; exact absurd (if_neg z) q3
      refine Own.aloadN C d10_26 rfl rfl ?_
      refine getF_ C (hw _ (List.mem_of_getElem? (i := 48) rfl)) (I.keep K2 nin0) d10_27 ?_
      refine Own.aloadN C d10_30 rfl rfl ?_
      refine getF_ C (hw _ (List.mem_of_getElem? (i := 48) rfl)) (I'.keep K2 nin0) d10_31 ?_
      refine callS_ C (as := [v2, w2]) (st := []) (hw _ (List.mem_of_getElem? (i := 60) rfl)) (hw _ (List.mem_of_getElem? (i := 61) rfl)) (hw _ (List.mem_of_getElem? (i := 62) rfl)) (hw _ (List.mem_of_getElem? (i := 63) rfl)) ⟨by decide, by decide⟩ pd__28Ljava_2flang_2fObject_3bLjava_2flang_2fObject_3b_29Z rfl (fun O => k_oeq hw hs (S2.keep K2) (S2'.keep K2) O) (fun _ q => nomatch q) rfl (dle rfl) (dle rfl) (dle rfl) (dle rfl) d10_34 rfl (fun v4 hp4 gs4 K4 Q4 => ?_)
      obtain ⟨rfl, rfl⟩ := Q4
      show Go _ K Z _ n0 _ _ 37 #[.val (.ref a), .val (.ref a'), .val (.ref a')] [(.int (if o2 = p2 then 1 else 0))] hp4 _ _ _
      refine if_eq C d10_37 (fun q5 => ?_) (fun q5 => ?_)
      · refine Own.iconst (v := 0) C d10_44 rfl ?_
        have e2 : ¬ o2 = p2 := fun z => by rw [if_pos z] at q5; exact absurd q5 (by decide)
        exact retZ C (gs := []) d10_45 (dle rfl) (dle rfl) (fun _ q => nomatch q) ⟨by rw [if_neg (fun z => e2 z.2)]; rfl, rfl⟩
      · have e2 : o2 = p2 := by by_cases z : o2 = p2; exact z; exact absurd (if_neg z) q5
        refine Own.iconst (v := 1) C d10_40 rfl ?_
        refine Own.goto_ C d10_41 ?_
        exact retZ C (gs := []) d10_45 (dle rfl) (dle rfl) (fun _ q => nomatch q) ⟨by rw [if_pos ⟨e, e2⟩]; rfl, rfl⟩
set_option maxRecDepth 65536 in
set_option maxHeartbeats 4000000 in
theorem k_aeq0 {Z : State} {a0 : Array Value} (hw : ∀ d ∈ tables_1, d.before a0 Z = true) (hs : Stt Z) {n0 : Nat} {h0 : Heap} {a : Addr} (O : Old Z n0 h0) :
    Con WD Z EL0 n0 (⟨"com/example/twyce/twyce/Aggregate", "equals", "(Ljava/lang/Object;)Z"⟩ : MethodName) prog_1_method_2_code 3 (some .boolean) (Rm 0 0 0 0) [(.ref a), .null] h0 [] (fun z h gs => z = some (.int 0) ∧ gs = []) := by
  refine Con.of (a0 := a0) (by first | (simp [plainName, overriddenIn]; done) | decide +kernel) (hEL hw) hWE O (L0 := #[.val (.ref a), .val .null, .unset]) (fun m => by first | rfl | (simp [entryFrame, mkF, argsToLocals, Value.category]; done)) ?_
  intro K C hh
  refine Own.aloadN C d10_0 rfl rfl ?_
  refine inst0_ C (hw _ (List.mem_of_getElem? (i := 58) rfl))  d10_1 ?_
  refine if_eq C d10_4 (fun q1 => ?_) (fun q1 => ?_)
  · refine Own.iconst (v := 0) C d10_44 rfl ?_
    exact retZ C (gs := []) d10_45 (dle rfl) (dle rfl) (fun _ q => nomatch q) ⟨rfl, rfl⟩
  · exact absurd rfl q1
set_option maxRecDepth 65536 in
set_option maxHeartbeats 4000000 in
theorem k_aeqS {Z : State} {a0 : Array Value} (hw : ∀ d ∈ tables_1, d.before a0 Z = true) (hs : Stt Z) {n0 : Nat} {h0 : Heap} {a a' : Addr} (E' : Exa Z h0 a' "java/lang/String") (O : Old Z n0 h0) :
    Con WD Z EL0 n0 (⟨"com/example/twyce/twyce/Aggregate", "equals", "(Ljava/lang/Object;)Z"⟩ : MethodName) prog_1_method_2_code 3 (some .boolean) (Rm 0 0 0 0) [(.ref a), (.ref a')] h0 [] (fun z h gs => z = some (.int 0) ∧ gs = []) := by
  refine Con.of (a0 := a0) (by first | (simp [plainName, overriddenIn]; done) | decide +kernel) (hEL hw) hWE O (L0 := #[.val (.ref a), .val (.ref a'), .unset]) (fun m => by first | rfl | (simp [entryFrame, mkF, argsToLocals, Value.category]; done)) ?_
  intro K C hh
  refine Own.aloadN C d10_0 rfl rfl ?_
  refine instN_ C (hw _ (List.mem_of_getElem? (i := 58) rfl)) E' (not_sub (hw _ (List.mem_of_getElem? (i := 75) rfl)) (hw _ (List.mem_of_getElem? (i := 76) rfl)) (hw _ (List.mem_of_getElem? (i := 1) rfl)) (by decide) (by decide)) d10_1 ?_
  refine if_eq C d10_4 (fun q1 => ?_) (fun q1 => ?_)
  · refine Own.iconst (v := 0) C d10_44 rfl ?_
    exact retZ C (gs := []) d10_45 (dle rfl) (dle rfl) (fun _ q => nomatch q) ⟨rfl, rfl⟩
  · exact absurd rfl q1
set_option maxRecDepth 65536 in
set_option maxHeartbeats 4000000 in
theorem k_law {Z : State} {a0 : Array Value} (hw : ∀ d ∈ tables_1, d.before a0 Z = true) (hs : Stt Z) {n0 : Nat} {h0 : Heap} {t1 i1 t2 i2 m : Int32} (O : Old Z n0 h0) :
    Con WD Z EL0 n0 (⟨"com/example/twyce/twyce/AggregateEqualsPinLaw", "law", "(IIIII)Z"⟩ : MethodName) code 15 (some .boolean) (Rm 8 48 192 192) [(.int t1), (.int i1), (.int t2), (.int i2), (.int m)] h0 [] (fun v h gs => v = some (.int 1)) := by
  refine Con.of (a0 := a0) (by first | (simp [plainName, overriddenIn]; done) | decide +kernel) (hEL hw) hWE O (L0 := #[.val (.int t1), .val (.int i1), .val (.int t2), .val (.int i2), .val (.int m), .unset, .unset, .unset, .unset, .unset, .unset, .unset, .unset, .unset, .unset]) (fun m => by first | rfl | (simp [entryFrame, mkF, argsToLocals, Value.category]; done)) ?_
  intro K C hh
  refine Own.iload C d14_0 rfl ?_
  refine Own.iconst (v := 1) C d14_2 rfl ?_
  refine Own.iand C d14_3 ?_
  refine Go.join (c := (m &&& 1) = 0) (x := 0) (y := 1) (pcJ := 12) (LJ := #[.val (.int t1), .val (.int i1), .val (.int t2), .val (.int i2), .val (.int m), .unset, .unset, .unset, .unset, .unset, .unset, .unset, .unset, .unset, .unset]) (stJ := []) (fun JT JF => ?_) ?_
  · refine if_eq C d14_4 (fun q1 => ?_) (fun q1 => ?_)
    · refine Own.iconst (v := 0) C d14_11 rfl ?_
      exact JT q1
    · refine Own.iconst (v := 1) C d14_7 rfl ?_
      refine Own.goto_ C d14_8 ?_
      exact JF q1
  generalize en1 : (if (m &&& 1) = 0 then 0 else 1 : Int32) = n1
  refine Own.istore (L' := #[.val (.int t1), .val (.int i1), .val (.int t2), .val (.int i2), .val (.int m), .val (.int n1), .unset, .unset, .unset, .unset, .unset, .unset, .unset, .unset, .unset]) C d14_12 rfl ?_
  refine Own.iload C d14_14 rfl ?_
  refine Own.iconst (v := 2) C d14_16 rfl ?_
  refine Own.iand C d14_17 ?_
  refine Go.join (c := (m &&& 2) = 0) (x := 0) (y := 1) (pcJ := 26) (LJ := #[.val (.int t1), .val (.int i1), .val (.int t2), .val (.int i2), .val (.int m), .val (.int n1), .unset, .unset, .unset, .unset, .unset, .unset, .unset, .unset, .unset]) (stJ := []) (fun JT JF => ?_) ?_
  · refine if_eq C d14_18 (fun q3 => ?_) (fun q3 => ?_)
    · refine Own.iconst (v := 0) C d14_25 rfl ?_
      exact JT q3
    · refine Own.iconst (v := 1) C d14_21 rfl ?_
      refine Own.goto_ C d14_22 ?_
      exact JF q3
  generalize en2 : (if (m &&& 2) = 0 then 0 else 1 : Int32) = n2
  refine Own.istore (L' := #[.val (.int t1), .val (.int i1), .val (.int t2), .val (.int i2), .val (.int m), .val (.int n1), .val (.int n2), .unset, .unset, .unset, .unset, .unset, .unset, .unset, .unset]) C d14_26 rfl ?_
  refine Own.iload C d14_28 rfl ?_
  refine Own.iconst (v := 4) C d14_30 rfl ?_
  refine Own.iand C d14_31 ?_
  refine Go.join (c := (m &&& 4) = 0) (x := 0) (y := 1) (pcJ := 40) (LJ := #[.val (.int t1), .val (.int i1), .val (.int t2), .val (.int i2), .val (.int m), .val (.int n1), .val (.int n2), .unset, .unset, .unset, .unset, .unset, .unset, .unset, .unset]) (stJ := []) (fun JT JF => ?_) ?_
  · refine if_eq C d14_32 (fun q5 => ?_) (fun q5 => ?_)
    · refine Own.iconst (v := 0) C d14_39 rfl ?_
      exact JT q5
    · refine Own.iconst (v := 1) C d14_35 rfl ?_
      refine Own.goto_ C d14_36 ?_
      exact JF q5
  generalize en3 : (if (m &&& 4) = 0 then 0 else 1 : Int32) = n3
  refine Own.istore (L' := #[.val (.int t1), .val (.int i1), .val (.int t2), .val (.int i2), .val (.int m), .val (.int n1), .val (.int n2), .val (.int n3), .unset, .unset, .unset, .unset, .unset, .unset, .unset]) C d14_40 rfl ?_
  refine Own.iload C d14_42 rfl ?_
  refine Own.bipush (v := 8) C d14_44 rfl ?_
  refine Own.iand C d14_46 ?_
  refine Go.join (c := (m &&& 8) = 0) (x := 0) (y := 1) (pcJ := 55) (LJ := #[.val (.int t1), .val (.int i1), .val (.int t2), .val (.int i2), .val (.int m), .val (.int n1), .val (.int n2), .val (.int n3), .unset, .unset, .unset, .unset, .unset, .unset, .unset]) (stJ := []) (fun JT JF => ?_) ?_
  · refine if_eq C d14_47 (fun q7 => ?_) (fun q7 => ?_)
    · refine Own.iconst (v := 0) C d14_54 rfl ?_
      exact JT q7
    · refine Own.iconst (v := 1) C d14_50 rfl ?_
      refine Own.goto_ C d14_51 ?_
      exact JF q7
  generalize en4 : (if (m &&& 8) = 0 then 0 else 1 : Int32) = n4
  refine Own.istore (L' := #[.val (.int t1), .val (.int i1), .val (.int t2), .val (.int i2), .val (.int m), .val (.int n1), .val (.int n2), .val (.int n3), .val (.int n4), .unset, .unset, .unset, .unset, .unset, .unset]) C d14_55 rfl ?_
  refine Own.iload C d14_57 rfl ?_
  refine Own.bipush (v := 64) C d14_59 rfl ?_
  refine Own.iand C d14_61 ?_
  refine Go.join (c := (m &&& 64) = 0) (x := t2) (y := t1) (pcJ := 70) (LJ := #[.val (.int t1), .val (.int i1), .val (.int t2), .val (.int i2), .val (.int m), .val (.int n1), .val (.int n2), .val (.int n3), .val (.int n4), .unset, .unset, .unset, .unset, .unset, .unset]) (stJ := []) (fun JT JF => ?_) ?_
  · refine if_eq C d14_62 (fun q9 => ?_) (fun q9 => ?_)
    · refine Own.iloadN C d14_69 rfl ?_
      exact JT q9
    · refine Own.iloadN C d14_65 rfl ?_
      refine Own.goto_ C d14_66 ?_
      exact JF q9
  generalize ec3 : (if (m &&& 64) = 0 then t2 else t1 : Int32) = c3
  refine Own.istore (L' := #[.val (.int t1), .val (.int i1), .val (.int t2), .val (.int i2), .val (.int m), .val (.int n1), .val (.int n2), .val (.int n3), .val (.int n4), .val (.int c3), .unset, .unset, .unset, .unset, .unset]) C d14_70 rfl ?_
  refine Own.iload C d14_72 rfl ?_
  refine Own.sipush (v := 128) C d14_74 rfl ?_
  refine Own.iand C d14_77 ?_
  refine Go.join (c := (m &&& 128) = 0) (x := i2) (y := i1) (pcJ := 86) (LJ := #[.val (.int t1), .val (.int i1), .val (.int t2), .val (.int i2), .val (.int m), .val (.int n1), .val (.int n2), .val (.int n3), .val (.int n4), .val (.int c3), .unset, .unset, .unset, .unset, .unset]) (stJ := []) (fun JT JF => ?_) ?_
  · refine if_eq C d14_78 (fun q11 => ?_) (fun q11 => ?_)
    · refine Own.iloadN C d14_85 rfl ?_
      exact JT q11
    · refine Own.iloadN C d14_81 rfl ?_
      refine Own.goto_ C d14_82 ?_
      exact JF q11
  generalize ec4 : (if (m &&& 128) = 0 then i2 else i1 : Int32) = c4
  refine Own.istore (L' := #[.val (.int t1), .val (.int i1), .val (.int t2), .val (.int i2), .val (.int m), .val (.int n1), .val (.int n2), .val (.int n3), .val (.int n4), .val (.int c3), .val (.int c4), .unset, .unset, .unset, .unset]) C d14_86 rfl ?_
  refine new_ C (hw _ (List.mem_of_getElem? (i := 0) rfl)) (hw _ (List.mem_of_getElem? (i := 1) rfl)) (hw _ (List.mem_of_getElem? (i := 2) rfl)) (dle rfl) (dle rfl) d14_88 (fun hp13 K13 lt13 le13 ⟨E13, F13⟩ => ?_)
  obtain ⟨ax, g13⟩ : ∃ z, z = h0.size := ⟨_, rfl⟩
  rw [← g13] at E13 F13 lt13 le13 ⊢
  refine Own.dup C d14_91 rfl ?_
  refine Own.iload C d14_92 rfl ?_
  refine Own.iloadN C d14_94 rfl ?_
  refine callS_ C (as := [(.int n1), (.int t1)]) (st := [(.ref ax), (.ref ax)]) (hw _ (List.mem_of_getElem? (i := 3) rfl)) (hw _ (List.mem_of_getElem? (i := 4) rfl)) (hw _ (List.mem_of_getElem? (i := 5) rfl)) (hw _ (List.mem_of_getElem? (i := 6) rfl)) ⟨by decide, by decide⟩ pd__28ZI_29Ljava_2flang_2fString_3b rfl (fun O => k_str hw hs O) (fun _ q => nomatch q) rfl (dle rfl) (dle rfl) (dle rfl) (dle rfl) d14_95 rfl (fun v14 hp14 gs14 K14 Q14 => ?_)
  obtain ⟨rfl, vx, rfl, Sx⟩ := Q14
  show Go _ K Z _ n0 _ _ 98 #[.val (.int t1), .val (.int i1), .val (.int t2), .val (.int i2), .val (.int m), .val (.int n1), .val (.int n2), .val (.int n3), .val (.int n4), .val (.int c3), .val (.int c4), .unset, .unset, .unset, .unset] [vx, (.ref ax), (.ref ax)] hp14 _ _ _
  refine Own.iload C d14_98 rfl ?_
  refine Own.iloadN C d14_100 rfl ?_
  refine callS_ C (as := [(.int n2), (.int i1)]) (st := [vx, (.ref ax), (.ref ax)]) (hw _ (List.mem_of_getElem? (i := 3) rfl)) (hw _ (List.mem_of_getElem? (i := 4) rfl)) (hw _ (List.mem_of_getElem? (i := 5) rfl)) (hw _ (List.mem_of_getElem? (i := 6) rfl)) ⟨by decide, by decide⟩ pd__28ZI_29Ljava_2flang_2fString_3b rfl (fun O => k_str hw hs O) (fun _ q => nomatch q) rfl (dle rfl) (by simp only [List.map, catR Sx.ref]; exact dle rfl) (dle rfl) (dle rfl) d14_101 rfl (fun v15 hp15 gs15 K15 Q15 => ?_)
  obtain ⟨rfl, wx, rfl, Ux⟩ := Q15
  show Go _ K Z _ n0 _ _ 104 #[.val (.int t1), .val (.int i1), .val (.int t2), .val (.int i2), .val (.int m), .val (.int n1), .val (.int n2), .val (.int n3), .val (.int n4), .val (.int c3), .val (.int c4), .unset, .unset, .unset, .unset] [wx, vx, (.ref ax), (.ref ax)] hp15 _ _ _
  have KKx := K14.trans K15 (fun _ q => nomatch q)
  have Tx := (F13 (Or.inr (hw _ (List.mem_of_getElem? (i := 47) rfl)) : Laid Z a0 "com/example/twyce/twyce/Aggregate" "com/example/twyce/twyce/Aggregate" "type" "Ljava/lang/String;") (ty := .object "java/lang/String") (by decide)).keep KKx nin0
  have Ix := (F13 (Or.inr (hw _ (List.mem_of_getElem? (i := 49) rfl)) : Laid Z a0 "com/example/twyce/twyce/Aggregate" "com/example/twyce/twyce/Aggregate" "id" "Ljava/lang/String;") (ty := .object "java/lang/String") (by decide)).keep KKx nin0
  have Ex' := E13.keep KKx
  refine callI_ C (as' := [vx, wx]) (st := [(.ref ax)]) rfl (hw _ (List.mem_of_getElem? (i := 37) rfl)) (hw _ (List.mem_of_getElem? (i := 38) rfl)) (hw _ (List.mem_of_getElem? (i := 2) rfl)) (hw _ (List.mem_of_getElem? (i := 39) rfl)) ⟨by decide, by decide⟩ pd__28Ljava_2flang_2fString_3bLjava_2flang_2fString_3b_29V rfl (fun O => k_agg hw hs Sx.ref Ux.ref Ex' Tx Ix O) (by simp) rfl (dle rfl) (dle rfl) (dle rfl) (dle rfl) d14_104 rfl (fun v16 hp16 gs16 K16 Q16 => ?_)
  obtain ⟨rfl, rfl, Ex'', Tx', Ix'⟩ := Q16
  show Go _ K Z _ n0 _ _ 107 #[.val (.int t1), .val (.int i1), .val (.int t2), .val (.int i2), .val (.int m), .val (.int n1), .val (.int n2), .val (.int n3), .val (.int n4), .val (.int c3), .val (.int c4), .unset, .unset, .unset, .unset] [(.ref ax)] hp16 _ _ _
  have Sx' := (Sx.keep K15).keepX K16 Ex' (by decide) (hw _ (List.mem_of_getElem? (i := 1) rfl))
  have Ux' := Ux.keepX K16 Ex' (by decide) (hw _ (List.mem_of_getElem? (i := 1) rfl))
  have gx0 : ax < hp16.size := Ex''.lt
  refine Own.astore (L' := #[.val (.int t1), .val (.int i1), .val (.int t2), .val (.int i2), .val (.int m), .val (.int n1), .val (.int n2), .val (.int n3), .val (.int n4), .val (.int c3), .val (.int c4), .val (.ref ax), .unset, .unset, .unset]) C d14_107 rfl rfl ?_
  refine new_ C (hw _ (List.mem_of_getElem? (i := 0) rfl)) (hw _ (List.mem_of_getElem? (i := 1) rfl)) (hw _ (List.mem_of_getElem? (i := 2) rfl)) (dle rfl) (dle rfl) d14_109 (fun hp17 K17 lt17 le17 ⟨E17, F17⟩ => ?_)
  obtain ⟨ay, g17⟩ : ∃ z, z = hp16.size := ⟨_, rfl⟩
  rw [← g17] at E17 F17 lt17 le17 ⊢
  refine Own.dup C d14_112 rfl ?_
  refine Own.iload C d14_113 rfl ?_
  refine Own.iload C d14_115 rfl ?_
  refine callS_ C (as := [(.int n3), (.int c3)]) (st := [(.ref ay), (.ref ay)]) (hw _ (List.mem_of_getElem? (i := 3) rfl)) (hw _ (List.mem_of_getElem? (i := 4) rfl)) (hw _ (List.mem_of_getElem? (i := 5) rfl)) (hw _ (List.mem_of_getElem? (i := 6) rfl)) ⟨by decide, by decide⟩ pd__28ZI_29Ljava_2flang_2fString_3b rfl (fun O => k_str hw hs O) (fun _ q => nomatch q) rfl (dle rfl) (dle rfl) (dle rfl) (dle rfl) d14_117 rfl (fun v18 hp18 gs18 K18 Q18 => ?_)
  obtain ⟨rfl, vy, rfl, Sy⟩ := Q18
  show Go _ K Z _ n0 _ _ 120 #[.val (.int t1), .val (.int i1), .val (.int t2), .val (.int i2), .val (.int m), .val (.int n1), .val (.int n2), .val (.int n3), .val (.int n4), .val (.int c3), .val (.int c4), .val (.ref ax), .unset, .unset, .unset] [vy, (.ref ay), (.ref ay)] hp18 _ _ _
  refine Own.iload C d14_120 rfl ?_
  refine Own.iload C d14_122 rfl ?_
  refine callS_ C (as := [(.int n4), (.int c4)]) (st := [vy, (.ref ay), (.ref ay)]) (hw _ (List.mem_of_getElem? (i := 3) rfl)) (hw _ (List.mem_of_getElem? (i := 4) rfl)) (hw _ (List.mem_of_getElem? (i := 5) rfl)) (hw _ (List.mem_of_getElem? (i := 6) rfl)) ⟨by decide, by decide⟩ pd__28ZI_29Ljava_2flang_2fString_3b rfl (fun O => k_str hw hs O) (fun _ q => nomatch q) rfl (dle rfl) (by simp only [List.map, catR Sy.ref]; exact dle rfl) (dle rfl) (dle rfl) d14_124 rfl (fun v19 hp19 gs19 K19 Q19 => ?_)
  obtain ⟨rfl, wy, rfl, Uy⟩ := Q19
  show Go _ K Z _ n0 _ _ 127 #[.val (.int t1), .val (.int i1), .val (.int t2), .val (.int i2), .val (.int m), .val (.int n1), .val (.int n2), .val (.int n3), .val (.int n4), .val (.int c3), .val (.int c4), .val (.ref ax), .unset, .unset, .unset] [wy, vy, (.ref ay), (.ref ay)] hp19 _ _ _
  have KKy := K18.trans K19 (fun _ q => nomatch q)
  have Ty := (F17 (Or.inr (hw _ (List.mem_of_getElem? (i := 47) rfl)) : Laid Z a0 "com/example/twyce/twyce/Aggregate" "com/example/twyce/twyce/Aggregate" "type" "Ljava/lang/String;") (ty := .object "java/lang/String") (by decide)).keep KKy nin0
  have Iy := (F17 (Or.inr (hw _ (List.mem_of_getElem? (i := 49) rfl)) : Laid Z a0 "com/example/twyce/twyce/Aggregate" "com/example/twyce/twyce/Aggregate" "id" "Ljava/lang/String;") (ty := .object "java/lang/String") (by decide)).keep KKy nin0
  have Ey' := E17.keep KKy
  refine callI_ C (as' := [vy, wy]) (st := [(.ref ay)]) rfl (hw _ (List.mem_of_getElem? (i := 37) rfl)) (hw _ (List.mem_of_getElem? (i := 38) rfl)) (hw _ (List.mem_of_getElem? (i := 2) rfl)) (hw _ (List.mem_of_getElem? (i := 39) rfl)) ⟨by decide, by decide⟩ pd__28Ljava_2flang_2fString_3bLjava_2flang_2fString_3b_29V rfl (fun O => k_agg hw hs Sy.ref Uy.ref Ey' Ty Iy O) (by simp) rfl (dle rfl) (dle rfl) (dle rfl) (dle rfl) d14_127 rfl (fun v20 hp20 gs20 K20 Q20 => ?_)
  obtain ⟨rfl, rfl, Ey'', Ty', Iy'⟩ := Q20
  show Go _ K Z _ n0 _ _ 130 #[.val (.int t1), .val (.int i1), .val (.int t2), .val (.int i2), .val (.int m), .val (.int n1), .val (.int n2), .val (.int n3), .val (.int n4), .val (.int c3), .val (.int c4), .val (.ref ax), .unset, .unset, .unset] [(.ref ay)] hp20 _ _ _
  have Sy' := (Sy.keep K19).keepX K20 Ey' (by decide) (hw _ (List.mem_of_getElem? (i := 1) rfl))
  have Uy' := Uy.keepX K20 Ey' (by decide) (hw _ (List.mem_of_getElem? (i := 1) rfl))
  have KA : Keep hp16 hp20 [] := (K17.trans KKy (fun _ q => nomatch q)).trans K20 (fun x hx => Or.inr (by cases List.mem_singleton.mp hx; rw [g17]; exact Nat.le_refl _))
  have Ex3 := Ex''.keep KA
  have Tx3 := Tx'.keep KA nin0
  have Ix3 := Ix'.keep KA nin0
  have Sx3 := Sx'.keep KA
  have Ux3 := Ux'.keep KA
  refine Own.astore (L' := #[.val (.int t1), .val (.int i1), .val (.int t2), .val (.int i2), .val (.int m), .val (.int n1), .val (.int n2), .val (.int n3), .val (.int n4), .val (.int c3), .val (.int c4), .val (.ref ax), .val (.ref ay), .unset, .unset]) C d14_130 rfl rfl ?_
  refine Own.iload C d14_132 rfl ?_
  refine Own.iconst (v := 4) C d14_134 rfl ?_
  refine Own.iushr C d14_135 ?_
  refine Own.iconst (v := 3) C d14_136 rfl ?_
  refine Own.iand C d14_137 ?_
  refine Own.istore (L' := #[.val (.int t1), .val (.int i1), .val (.int t2), .val (.int i2), .val (.int m), .val (.int n1), .val (.int n2), .val (.int n3), .val (.int n4), .val (.int c3), .val (.int c4), .val (.ref ax), .val (.ref ay), .val (.int ((ushr m (4 : Int32)) &&& (3 : Int32))), .unset]) C d14_138 rfl ?_
  refine Own.iload C d14_140 rfl ?_
  refine if_ne C d14_142 (fun q21 => ?_) (fun q21 => ?_)
  · refine Own.iload C d14_208 rfl ?_
    refine Own.iconst (v := 1) C d14_210 rfl ?_
    refine icmp_ne C d14_211 (fun q22 => ?_) (fun q22 => ?_)
    · refine Own.iload C d14_229 rfl ?_
      refine Own.iconst (v := 2) C d14_231 rfl ?_
      refine icmp_ne C d14_232 (fun q23 => ?_) (fun q23 => ?_)
      · refine Own.aload C d14_258 rfl rfl ?_
        refine Own.aload C d14_260 rfl rfl ?_
        refine callV_ C (as' := [(.ref ax)]) (st := []) (hw _ (List.mem_of_getElem? (i := 53) rfl)) (hw _ (List.mem_of_getElem? (i := 54) rfl)) (fun _ hZ => notFace_of_selects (args := #[]) (mvT hZ (hw _ (List.mem_of_getElem? (i := 56) rfl)))) (hw _ (List.mem_of_getElem? (i := 56) rfl)) (hw _ (List.mem_of_getElem? (i := 55) rfl)) (hw _ (List.mem_of_getElem? (i := 2) rfl)) (hw _ (List.mem_of_getElem? (i := 57) rfl)) ⟨by decide, by decide⟩ Ex3 pd__28Ljava_2flang_2fObject_3b_29Z rfl (fun O => k_aeq hw hs Ex3 Tx3 Ix3 Tx3 Ix3 Sx3 Ux3 Sx3 Ux3 O) (fun _ q => nomatch q) rfl (dle rfl) (dle rfl) (dle rfl) (dle rfl) d14_262 rfl (fun v24 hp24 gs24 K24 Q24 => ?_)
        obtain ⟨rfl, rfl⟩ := Q24
        rw [if_pos ⟨rfl, rfl⟩]
        show Go _ K Z _ n0 _ _ 265 #[.val (.int t1), .val (.int i1), .val (.int t2), .val (.int i2), .val (.int m), .val (.int n1), .val (.int n2), .val (.int n3), .val (.int n4), .val (.int c3), .val (.int c4), .val (.ref ax), .val (.ref ay), .val (.int ((ushr m (4 : Int32)) &&& (3 : Int32))), .unset] [(.int (1 : Int32))] hp24 _ _ _
        exact retZ C (gs := []) d14_265 (dle rfl) (dle rfl) (fun _ q => nomatch q) rfl
      · refine Own.iconst (v := 0) C d14_235 rfl ?_
        refine Own.iloadN C d14_236 rfl ?_
        refine callS_ C (as := [(.int (0 : Int32)), (.int t1)]) (st := []) (hw _ (List.mem_of_getElem? (i := 3) rfl)) (hw _ (List.mem_of_getElem? (i := 4) rfl)) (hw _ (List.mem_of_getElem? (i := 5) rfl)) (hw _ (List.mem_of_getElem? (i := 6) rfl)) ⟨by decide, by decide⟩ pd__28ZI_29Ljava_2flang_2fString_3b rfl (fun O => k_str hw hs O) (fun _ q => nomatch q) rfl (dle rfl) (dle rfl) (dle rfl) (dle rfl) d14_237 rfl (fun v25 hp25 gs25 K25 Q25 => ?_)
        obtain ⟨rfl, vs, rfl, ⟨as, rfl, Ss⟩⟩ := Q25
        show Go _ K Z _ n0 _ _ 240 #[.val (.int t1), .val (.int i1), .val (.int t2), .val (.int i2), .val (.int m), .val (.int n1), .val (.int n2), .val (.int n3), .val (.int n4), .val (.int c3), .val (.int c4), .val (.ref ax), .val (.ref ay), .val (.int ((ushr m (4 : Int32)) &&& (3 : Int32))), .unset] [(.ref as)] hp25 _ _ _
        refine Own.astore (L' := #[.val (.int t1), .val (.int i1), .val (.int t2), .val (.int i2), .val (.int m), .val (.int n1), .val (.int n2), .val (.int n3), .val (.int n4), .val (.int c3), .val (.int c4), .val (.ref ax), .val (.ref ay), .val (.int ((ushr m (4 : Int32)) &&& (3 : Int32))), .val (.ref as)]) C d14_240 rfl rfl ?_
        refine Own.aload C d14_242 rfl rfl ?_
        refine Own.aload C d14_244 rfl rfl ?_
        refine callV_ C (as' := [(.ref as)]) (st := []) (hw _ (List.mem_of_getElem? (i := 53) rfl)) (hw _ (List.mem_of_getElem? (i := 54) rfl)) (fun _ hZ => notFace_of_selects (args := #[]) (mvT hZ (hw _ (List.mem_of_getElem? (i := 56) rfl)))) (hw _ (List.mem_of_getElem? (i := 56) rfl)) (hw _ (List.mem_of_getElem? (i := 55) rfl)) (hw _ (List.mem_of_getElem? (i := 2) rfl)) (hw _ (List.mem_of_getElem? (i := 57) rfl)) ⟨by decide, by decide⟩ (Ex3.keep K25) pd__28Ljava_2flang_2fObject_3b_29Z rfl (fun O => k_aeqS hw hs Ss.1 O) (fun _ q => nomatch q) rfl (dle rfl) (dle rfl) (dle rfl) (dle rfl) d14_246 rfl (fun v26 hp26 gs26 K26 Q26 => ?_)
        obtain ⟨rfl, rfl⟩ := Q26
        show Go _ K Z _ n0 _ _ 249 #[.val (.int t1), .val (.int i1), .val (.int t2), .val (.int i2), .val (.int m), .val (.int n1), .val (.int n2), .val (.int n3), .val (.int n4), .val (.int c3), .val (.int c4), .val (.ref ax), .val (.ref ay), .val (.int ((ushr m (4 : Int32)) &&& (3 : Int32))), .val (.ref as)] [(.int (0 : Int32))] hp26 _ _ _
        refine if_ne C d14_249 (fun q27 => ?_) (fun q27 => ?_)
        · exact absurd rfl q27
        · refine Own.iconst (v := 1) C d14_252 rfl ?_
          refine Own.goto_ C d14_253 ?_
          exact retZ C (gs := []) d14_257 (dle rfl) (dle rfl) (fun _ q => nomatch q) rfl
    · refine Own.aload C d14_214 rfl rfl ?_
      refine Own.aconstNull C d14_216 ?_
      refine callV_ C (as' := [.null]) (st := []) (hw _ (List.mem_of_getElem? (i := 53) rfl)) (hw _ (List.mem_of_getElem? (i := 54) rfl)) (fun _ hZ => notFace_of_selects (args := #[]) (mvT hZ (hw _ (List.mem_of_getElem? (i := 56) rfl)))) (hw _ (List.mem_of_getElem? (i := 56) rfl)) (hw _ (List.mem_of_getElem? (i := 55) rfl)) (hw _ (List.mem_of_getElem? (i := 2) rfl)) (hw _ (List.mem_of_getElem? (i := 57) rfl)) ⟨by decide, by decide⟩ Ex3 pd__28Ljava_2flang_2fObject_3b_29Z rfl (fun O => k_aeq0 hw hs O) (fun _ q => nomatch q) rfl (dle rfl) (dle rfl) (dle rfl) (dle rfl) d14_217 rfl (fun v28 hp28 gs28 K28 Q28 => ?_)
      obtain ⟨rfl, rfl⟩ := Q28
      show Go _ K Z _ n0 _ _ 220 #[.val (.int t1), .val (.int i1), .val (.int t2), .val (.int i2), .val (.int m), .val (.int n1), .val (.int n2), .val (.int n3), .val (.int n4), .val (.int c3), .val (.int c4), .val (.ref ax), .val (.ref ay), .val (.int ((ushr m (4 : Int32)) &&& (3 : Int32))), .unset] [(.int (0 : Int32))] hp28 _ _ _
      refine if_ne C d14_220 (fun q29 => ?_) (fun q29 => ?_)
      · exact absurd rfl q29
      · refine Own.iconst (v := 1) C d14_223 rfl ?_
        refine Own.goto_ C d14_224 ?_
        exact retZ C (gs := []) d14_228 (dle rfl) (dle rfl) (fun _ q => nomatch q) rfl
  · refine Own.iload C d14_145 rfl ?_
    refine Own.iloadN C d14_147 rfl ?_
    refine Own.iload C d14_148 rfl ?_
    refine Own.iload C d14_150 rfl ?_
    refine callS_ C (as := [(.int n1), (.int t1), (.int n3), (.int c3)]) (st := []) (hw _ (List.mem_of_getElem? (i := 50) rfl)) (hw _ (List.mem_of_getElem? (i := 51) rfl)) (hw _ (List.mem_of_getElem? (i := 5) rfl)) (hw _ (List.mem_of_getElem? (i := 52) rfl)) ⟨by decide, by decide⟩ pd__28ZIZI_29Z rfl (fun O => k_same hw hs O) (fun _ q => nomatch q) rfl (dle rfl) (dle rfl) (dle rfl) (dle rfl) d14_152 rfl (fun v30 hp30 gs30 K30 Q30 => ?_)
    obtain ⟨rfl, rfl⟩ := Q30
    show Go _ K Z _ n0 _ _ 155 #[.val (.int t1), .val (.int i1), .val (.int t2), .val (.int i2), .val (.int m), .val (.int n1), .val (.int n2), .val (.int n3), .val (.int n4), .val (.int c3), .val (.int c4), .val (.ref ax), .val (.ref ay), .val (.int ((ushr m (4 : Int32)) &&& (3 : Int32))), .unset] [(.int (if so n1 t1 = so n3 c3 then 1 else 0))] hp30 _ _ _
    refine if_eq C d14_155 (fun q31 => ?_) (fun q31 => ?_)
    · have e : ¬ so n1 t1 = so n3 c3 := fun z => by rw [if_pos z] at q31; exact absurd q31 (by decide)
      refine Own.iconst (v := 0) C d14_175 rfl ?_
      refine Own.istore (L' := #[.val (.int t1), .val (.int i1), .val (.int t2), .val (.int i2), .val (.int m), .val (.int n1), .val (.int n2), .val (.int n3), .val (.int n4), .val (.int c3), .val (.int c4), .val (.ref ax), .val (.ref ay), .val (.int ((ushr m (4 : Int32)) &&& (3 : Int32))), .val (.int (0 : Int32))]) C d14_176 rfl ?_
      refine Own.aload C d14_178 rfl rfl ?_
      refine Own.aload C d14_180 rfl rfl ?_
      refine callV_ C (as' := [(.ref ay)]) (st := []) (hw _ (List.mem_of_getElem? (i := 53) rfl)) (hw _ (List.mem_of_getElem? (i := 54) rfl)) (fun _ hZ => notFace_of_selects (args := #[]) (mvT hZ (hw _ (List.mem_of_getElem? (i := 56) rfl)))) (hw _ (List.mem_of_getElem? (i := 56) rfl)) (hw _ (List.mem_of_getElem? (i := 55) rfl)) (hw _ (List.mem_of_getElem? (i := 2) rfl)) (hw _ (List.mem_of_getElem? (i := 57) rfl)) ⟨by decide, by decide⟩ (Ex3.keep K30) pd__28Ljava_2flang_2fObject_3b_29Z rfl (fun O => k_aeq hw hs (Ey''.keep K30) (Tx3.keep K30 nin0) (Ix3.keep K30 nin0) (Ty'.keep K30 nin0) (Iy'.keep K30 nin0) (Sx3.keep K30) (Ux3.keep K30) (Sy'.keep K30) (Uy'.keep K30) O) (fun _ q => nomatch q) rfl (dle rfl) (dle rfl) (dle rfl) (dle rfl) d14_182 rfl (fun v32 hp32 gs32 K32 Q32 => ?_)
      obtain ⟨rfl, rfl⟩ := Q32
      rw [if_neg (fun z => e z.1)]
      show Go _ K Z _ n0 _ _ 185 #[.val (.int t1), .val (.int i1), .val (.int t2), .val (.int i2), .val (.int m), .val (.int n1), .val (.int n2), .val (.int n3), .val (.int n4), .val (.int c3), .val (.int c4), .val (.ref ax), .val (.ref ay), .val (.int ((ushr m (4 : Int32)) &&& (3 : Int32))), .val (.int (0 : Int32))] [(.int (0 : Int32))] hp32 _ _ _
      refine Own.iload C d14_185 rfl ?_
      refine icmp_ne C d14_187 (fun q33 => ?_) (fun q33 => ?_)
      · exact absurd rfl q33
      · have K9 := (K30).trans K32 (fun _ q => nomatch q)
        refine Own.aload C d14_190 rfl rfl ?_
        refine Own.aload C d14_192 rfl rfl ?_
        refine callV_ C (as' := [(.ref ax)]) (st := []) (hw _ (List.mem_of_getElem? (i := 53) rfl)) (hw _ (List.mem_of_getElem? (i := 54) rfl)) (fun _ hZ => notFace_of_selects (args := #[]) (mvT hZ (hw _ (List.mem_of_getElem? (i := 56) rfl)))) (hw _ (List.mem_of_getElem? (i := 56) rfl)) (hw _ (List.mem_of_getElem? (i := 55) rfl)) (hw _ (List.mem_of_getElem? (i := 2) rfl)) (hw _ (List.mem_of_getElem? (i := 57) rfl)) ⟨by decide, by decide⟩ (Ey''.keep K9) pd__28Ljava_2flang_2fObject_3b_29Z rfl (fun O => k_aeq hw hs (Ex3.keep K9) (Ty'.keep K9 nin0) (Iy'.keep K9 nin0) (Tx3.keep K9 nin0) (Ix3.keep K9 nin0) (Sy'.keep K9) (Uy'.keep K9) (Sx3.keep K9) (Ux3.keep K9) O) (fun _ q => nomatch q) rfl (dle rfl) (dle rfl) (dle rfl) (dle rfl) d14_194 rfl (fun v34 hp34 gs34 K34 Q34 => ?_)
        obtain ⟨rfl, rfl⟩ := Q34
        rw [if_neg (fun z => ((fun z => e z.1) : ¬ (so n1 t1 = so n3 c3 ∧ so n2 i1 = so n4 c4)) ⟨z.1.symm, z.2.symm⟩)]
        show Go _ K Z _ n0 _ _ 197 #[.val (.int t1), .val (.int i1), .val (.int t2), .val (.int i2), .val (.int m), .val (.int n1), .val (.int n2), .val (.int n3), .val (.int n4), .val (.int c3), .val (.int c4), .val (.ref ax), .val (.ref ay), .val (.int ((ushr m (4 : Int32)) &&& (3 : Int32))), .val (.int (0 : Int32))] [(.int (0 : Int32))] hp34 _ _ _
        refine Own.iload C d14_197 rfl ?_
        refine icmp_ne C d14_199 (fun q35 => ?_) (fun q35 => ?_)
        · exact absurd rfl q35
        · refine Own.iconst (v := 1) C d14_202 rfl ?_
          refine Own.goto_ C d14_203 ?_
          exact retZ C (gs := []) d14_207 (dle rfl) (dle rfl) (fun _ q => nomatch q) rfl
    · have e : so n1 t1 = so n3 c3 := by by_cases z : so n1 t1 = so n3 c3; exact z; exact absurd (if_neg z) q31
      refine Own.iload C d14_158 rfl ?_
      refine Own.iloadN C d14_160 rfl ?_
      refine Own.iload C d14_161 rfl ?_
      refine Own.iload C d14_163 rfl ?_
      refine callS_ C (as := [(.int n2), (.int i1), (.int n4), (.int c4)]) (st := []) (hw _ (List.mem_of_getElem? (i := 50) rfl)) (hw _ (List.mem_of_getElem? (i := 51) rfl)) (hw _ (List.mem_of_getElem? (i := 5) rfl)) (hw _ (List.mem_of_getElem? (i := 52) rfl)) ⟨by decide, by decide⟩ pd__28ZIZI_29Z rfl (fun O => k_same hw hs O) (fun _ q => nomatch q) rfl (dle rfl) (dle rfl) (dle rfl) (dle rfl) d14_165 rfl (fun v36 hp36 gs36 K36 Q36 => ?_)
      obtain ⟨rfl, rfl⟩ := Q36
      show Go _ K Z _ n0 _ _ 168 #[.val (.int t1), .val (.int i1), .val (.int t2), .val (.int i2), .val (.int m), .val (.int n1), .val (.int n2), .val (.int n3), .val (.int n4), .val (.int c3), .val (.int c4), .val (.ref ax), .val (.ref ay), .val (.int ((ushr m (4 : Int32)) &&& (3 : Int32))), .unset] [(.int (if so n2 i1 = so n4 c4 then 1 else 0))] hp36 _ _ _
      have KS := K30.trans K36 (fun _ q => nomatch q)
      refine if_eq C d14_168 (fun q37 => ?_) (fun q37 => ?_)
      · have e2 : ¬ so n2 i1 = so n4 c4 := fun z => by rw [if_pos z] at q37; exact absurd q37 (by decide)
        refine Own.iconst (v := 0) C d14_175 rfl ?_
        refine Own.istore (L' := #[.val (.int t1), .val (.int i1), .val (.int t2), .val (.int i2), .val (.int m), .val (.int n1), .val (.int n2), .val (.int n3), .val (.int n4), .val (.int c3), .val (.int c4), .val (.ref ax), .val (.ref ay), .val (.int ((ushr m (4 : Int32)) &&& (3 : Int32))), .val (.int (0 : Int32))]) C d14_176 rfl ?_
        refine Own.aload C d14_178 rfl rfl ?_
        refine Own.aload C d14_180 rfl rfl ?_
        refine callV_ C (as' := [(.ref ay)]) (st := []) (hw _ (List.mem_of_getElem? (i := 53) rfl)) (hw _ (List.mem_of_getElem? (i := 54) rfl)) (fun _ hZ => notFace_of_selects (args := #[]) (mvT hZ (hw _ (List.mem_of_getElem? (i := 56) rfl)))) (hw _ (List.mem_of_getElem? (i := 56) rfl)) (hw _ (List.mem_of_getElem? (i := 55) rfl)) (hw _ (List.mem_of_getElem? (i := 2) rfl)) (hw _ (List.mem_of_getElem? (i := 57) rfl)) ⟨by decide, by decide⟩ (Ex3.keep KS) pd__28Ljava_2flang_2fObject_3b_29Z rfl (fun O => k_aeq hw hs (Ey''.keep KS) (Tx3.keep KS nin0) (Ix3.keep KS nin0) (Ty'.keep KS nin0) (Iy'.keep KS nin0) (Sx3.keep KS) (Ux3.keep KS) (Sy'.keep KS) (Uy'.keep KS) O) (fun _ q => nomatch q) rfl (dle rfl) (dle rfl) (dle rfl) (dle rfl) d14_182 rfl (fun v38 hp38 gs38 K38 Q38 => ?_)
        obtain ⟨rfl, rfl⟩ := Q38
        rw [if_neg (fun z => e2 z.2)]
        show Go _ K Z _ n0 _ _ 185 #[.val (.int t1), .val (.int i1), .val (.int t2), .val (.int i2), .val (.int m), .val (.int n1), .val (.int n2), .val (.int n3), .val (.int n4), .val (.int c3), .val (.int c4), .val (.ref ax), .val (.ref ay), .val (.int ((ushr m (4 : Int32)) &&& (3 : Int32))), .val (.int (0 : Int32))] [(.int (0 : Int32))] hp38 _ _ _
        refine Own.iload C d14_185 rfl ?_
        refine icmp_ne C d14_187 (fun q39 => ?_) (fun q39 => ?_)
        · exact absurd rfl q39
        · have K9 := (KS).trans K38 (fun _ q => nomatch q)
          refine Own.aload C d14_190 rfl rfl ?_
          refine Own.aload C d14_192 rfl rfl ?_
          refine callV_ C (as' := [(.ref ax)]) (st := []) (hw _ (List.mem_of_getElem? (i := 53) rfl)) (hw _ (List.mem_of_getElem? (i := 54) rfl)) (fun _ hZ => notFace_of_selects (args := #[]) (mvT hZ (hw _ (List.mem_of_getElem? (i := 56) rfl)))) (hw _ (List.mem_of_getElem? (i := 56) rfl)) (hw _ (List.mem_of_getElem? (i := 55) rfl)) (hw _ (List.mem_of_getElem? (i := 2) rfl)) (hw _ (List.mem_of_getElem? (i := 57) rfl)) ⟨by decide, by decide⟩ (Ey''.keep K9) pd__28Ljava_2flang_2fObject_3b_29Z rfl (fun O => k_aeq hw hs (Ex3.keep K9) (Ty'.keep K9 nin0) (Iy'.keep K9 nin0) (Tx3.keep K9 nin0) (Ix3.keep K9 nin0) (Sy'.keep K9) (Uy'.keep K9) (Sx3.keep K9) (Ux3.keep K9) O) (fun _ q => nomatch q) rfl (dle rfl) (dle rfl) (dle rfl) (dle rfl) d14_194 rfl (fun v40 hp40 gs40 K40 Q40 => ?_)
          obtain ⟨rfl, rfl⟩ := Q40
          rw [if_neg (fun z => ((fun z => e2 z.2) : ¬ (so n1 t1 = so n3 c3 ∧ so n2 i1 = so n4 c4)) ⟨z.1.symm, z.2.symm⟩)]
          show Go _ K Z _ n0 _ _ 197 #[.val (.int t1), .val (.int i1), .val (.int t2), .val (.int i2), .val (.int m), .val (.int n1), .val (.int n2), .val (.int n3), .val (.int n4), .val (.int c3), .val (.int c4), .val (.ref ax), .val (.ref ay), .val (.int ((ushr m (4 : Int32)) &&& (3 : Int32))), .val (.int (0 : Int32))] [(.int (0 : Int32))] hp40 _ _ _
          refine Own.iload C d14_197 rfl ?_
          refine icmp_ne C d14_199 (fun q41 => ?_) (fun q41 => ?_)
          · exact absurd rfl q41
          · refine Own.iconst (v := 1) C d14_202 rfl ?_
            refine Own.goto_ C d14_203 ?_
            exact retZ C (gs := []) d14_207 (dle rfl) (dle rfl) (fun _ q => nomatch q) rfl
      · have e2 : so n2 i1 = so n4 c4 := by by_cases z : so n2 i1 = so n4 c4; exact z; exact absurd (if_neg z) q37
        refine Own.iconst (v := 1) C d14_171 rfl ?_
        refine Own.goto_ C d14_172 ?_
        refine Own.istore (L' := #[.val (.int t1), .val (.int i1), .val (.int t2), .val (.int i2), .val (.int m), .val (.int n1), .val (.int n2), .val (.int n3), .val (.int n4), .val (.int c3), .val (.int c4), .val (.ref ax), .val (.ref ay), .val (.int ((ushr m (4 : Int32)) &&& (3 : Int32))), .val (.int (1 : Int32))]) C d14_176 rfl ?_
        refine Own.aload C d14_178 rfl rfl ?_
        refine Own.aload C d14_180 rfl rfl ?_
        refine callV_ C (as' := [(.ref ay)]) (st := []) (hw _ (List.mem_of_getElem? (i := 53) rfl)) (hw _ (List.mem_of_getElem? (i := 54) rfl)) (fun _ hZ => notFace_of_selects (args := #[]) (mvT hZ (hw _ (List.mem_of_getElem? (i := 56) rfl)))) (hw _ (List.mem_of_getElem? (i := 56) rfl)) (hw _ (List.mem_of_getElem? (i := 55) rfl)) (hw _ (List.mem_of_getElem? (i := 2) rfl)) (hw _ (List.mem_of_getElem? (i := 57) rfl)) ⟨by decide, by decide⟩ (Ex3.keep KS) pd__28Ljava_2flang_2fObject_3b_29Z rfl (fun O => k_aeq hw hs (Ey''.keep KS) (Tx3.keep KS nin0) (Ix3.keep KS nin0) (Ty'.keep KS nin0) (Iy'.keep KS nin0) (Sx3.keep KS) (Ux3.keep KS) (Sy'.keep KS) (Uy'.keep KS) O) (fun _ q => nomatch q) rfl (dle rfl) (dle rfl) (dle rfl) (dle rfl) d14_182 rfl (fun v42 hp42 gs42 K42 Q42 => ?_)
        obtain ⟨rfl, rfl⟩ := Q42
        rw [if_pos ⟨e, e2⟩]
        show Go _ K Z _ n0 _ _ 185 #[.val (.int t1), .val (.int i1), .val (.int t2), .val (.int i2), .val (.int m), .val (.int n1), .val (.int n2), .val (.int n3), .val (.int n4), .val (.int c3), .val (.int c4), .val (.ref ax), .val (.ref ay), .val (.int ((ushr m (4 : Int32)) &&& (3 : Int32))), .val (.int (1 : Int32))] [(.int (1 : Int32))] hp42 _ _ _
        refine Own.iload C d14_185 rfl ?_
        refine icmp_ne C d14_187 (fun q43 => ?_) (fun q43 => ?_)
        · exact absurd rfl q43
        · have K9 := (KS).trans K42 (fun _ q => nomatch q)
          refine Own.aload C d14_190 rfl rfl ?_
          refine Own.aload C d14_192 rfl rfl ?_
          refine callV_ C (as' := [(.ref ax)]) (st := []) (hw _ (List.mem_of_getElem? (i := 53) rfl)) (hw _ (List.mem_of_getElem? (i := 54) rfl)) (fun _ hZ => notFace_of_selects (args := #[]) (mvT hZ (hw _ (List.mem_of_getElem? (i := 56) rfl)))) (hw _ (List.mem_of_getElem? (i := 56) rfl)) (hw _ (List.mem_of_getElem? (i := 55) rfl)) (hw _ (List.mem_of_getElem? (i := 2) rfl)) (hw _ (List.mem_of_getElem? (i := 57) rfl)) ⟨by decide, by decide⟩ (Ey''.keep K9) pd__28Ljava_2flang_2fObject_3b_29Z rfl (fun O => k_aeq hw hs (Ex3.keep K9) (Ty'.keep K9 nin0) (Iy'.keep K9 nin0) (Tx3.keep K9 nin0) (Ix3.keep K9 nin0) (Sy'.keep K9) (Uy'.keep K9) (Sx3.keep K9) (Ux3.keep K9) O) (fun _ q => nomatch q) rfl (dle rfl) (dle rfl) (dle rfl) (dle rfl) d14_194 rfl (fun v44 hp44 gs44 K44 Q44 => ?_)
          obtain ⟨rfl, rfl⟩ := Q44
          rw [if_pos (by obtain ⟨z1, z2⟩ := (⟨e, e2⟩ : so n1 t1 = so n3 c3 ∧ so n2 i1 = so n4 c4); exact ⟨z1.symm, z2.symm⟩)]
          show Go _ K Z _ n0 _ _ 197 #[.val (.int t1), .val (.int i1), .val (.int t2), .val (.int i2), .val (.int m), .val (.int n1), .val (.int n2), .val (.int n3), .val (.int n4), .val (.int c3), .val (.int c4), .val (.ref ax), .val (.ref ay), .val (.int ((ushr m (4 : Int32)) &&& (3 : Int32))), .val (.int (1 : Int32))] [(.int (1 : Int32))] hp44 _ _ _
          refine Own.iload C d14_197 rfl ?_
          refine icmp_ne C d14_199 (fun q45 => ?_) (fun q45 => ?_)
          · exact absurd rfl q45
          · refine Own.iconst (v := 1) C d14_202 rfl ?_
            refine Own.goto_ C d14_203 ?_
            exact retZ C (gs := []) d14_207 (dle rfl) (dle rfl) (fun _ q => nomatch q) rfl
set_option maxRecDepth 65536 in
set_option maxHeartbeats 4000000 in
theorem comes_1 {Post : Tables → Env → Array Value → State → Outcome → State → Prop} (hpost : ∀ tb e args s v u, (limb_1_1.after args s (.returned v) u = true ∧ limb_1_2.after args s (.returned v) u = true ∧ True) → FrameEnd s (.returned v) u (Jvm.fieldLocs frame_1_writes args s ++ Jvm.arrayLocs frame_1_arrays args s ++ Jvm.staticLocs frame_1_statics s) 48 192 → Post tb e args s (.returned v) u) :
    ArmFor flags0 classFile x code maxLocals ret World_1 tables_1 room_1 Calls_1 rest_1 Pre_1 Post := by
  intro l hfl _ _ p e ha hc hk s m args below hf hA hF happ hP
  obtain ⟨hcalls, hrest, hpre⟩ := hP
  obtain ⟨-, -, -, hnamed, -, -, -, hat⟩ := (Spec.applies_iff hf).mp happ
  obtain ⟨hg, hn⟩ := and_e (Cond.before_iff.mp (show (Jvm.Cond.and given_1 narrow_1).before args s = true from hpre))
  obtain ⟨h1, h2⟩ := and_e hg
  obtain ⟨j0, h2⟩ := and_e h2
  obtain ⟨j1, h2⟩ := and_e h2
  obtain ⟨j2, h2⟩ := and_e h2
  obtain ⟨j3, j4⟩ := and_e h2
  obtain ⟨w0, w1, w2, w3, w4, rfl⟩ : ∃ w0 w1 w2 w3 w4 : Value, args = #[w0, w1, w2, w3, w4] := by
    have hs : args.size = 5 := by simpa [Cond.value, given_1] using h1
    obtain ⟨L⟩ := args
    match L, hs with
    | [w0, w1, w2, w3, w4], _ => exact ⟨w0, w1, w2, w3, w4, rfl⟩
  have hw := fun d (hd : d ∈ tables_1) => atoms_spec (ws := Jvm.Cond.code x code maxLocals ret :: tables_1) hat d (List.mem_cons_of_mem _ hd)
  obtain ⟨hsets, hown0⟩ := atoms_of _ (rest_1_c_eq ▸ (show rest_1_c.before _ s = true from hrest))
  have n5 := not_v (Cond.before_iff.mp (hsets _ (List.mem_of_getElem? (i := 2) rfl)))
  obtain ⟨x0, f0⟩ := is_v j0
  obtain rfl : w0 = (.int x0) := Option.some.inj f0
  obtain ⟨x1, f1⟩ := is_v j1
  obtain rfl : w1 = (.int x1) := Option.some.inj f1
  obtain ⟨x2, f2⟩ := is_v j2
  obtain rfl : w2 = (.int x2) := Option.some.inj f2
  obtain ⟨x3, f3⟩ := is_v j3
  obtain rfl : w3 = (.int x3) := Option.some.inj f3
  obtain ⟨x4, f4⟩ := is_v j4
  obtain rfl : w4 = (.int x4) := Option.some.inj f4
  obtain ⟨i11, e10⟩ := is_v (Cond.before_iff.mp (hsets _ (List.mem_of_getElem? (i := 1) rfl)))
  have S12 : Sta s s.heap "java/lang/String" "COMPACT_STRINGS" "Z" (.int i11) := Sta.start e10 (Or.inl (hsets _ (List.mem_of_getElem? (i := 0) rfl)))
  have c17 : ¬ (i11 = (0 : Int32)) := gotF (Cond.eq_ints e10 (Term.int_eval (0))) n5
  obtain ⟨n, o, h1, h2, h3, v, L, gs, rfl, rfl, N, -, -, -, -, hq⟩ := k_law hw ⟨⟨i11, c17, S12⟩, trivial⟩ (t1 := x0) (i1 := x1) (t2 := x2) (i2 := x3) (m := x4) (Old.start s) l tables_1 p e ha hc hk s m _ below hf ((Spec.applies_iff_loose hf).mp happ).1 ⟨rfl, State.Warmed39.refl s, rfl, fun _ hp => absurd hp List.not_mem_nil, fun _ hx => absurd hx List.not_mem_nil⟩ trivial
  refine ⟨n, _, h1, h2, h3, hpost _ _ _ _ _ _ ⟨Cond.after_iff.mpr rfl, Cond.after_iff.mpr (eq_i res_at (Term.int_eval (1)) rfl), trivial⟩ ⟨hq.1, hq.2.1, (hq.2.2.sift fun y hy => Or.inr (N y hy)).mono (by decide) (by decide)⟩⟩
theorem main_1_1 : Claimed_1_1 := comes_1 fun _ _ _ _ _ _ h hF => ⟨h.1, hF⟩
theorem main_1_2 : Claimed_1_2 := comes_1 fun _ _ _ _ _ _ h hF => ⟨h.2.1, hF⟩
end Jvm.Pilot.@@N@@
namespace Jvm.Pilot.@@N@@
open Jvm Jvm.ClassFile Sem Op Lib Jvm.Free Jvm.Stand Jvm.Pilot.@@N@@.Jvm.D
/-! MADE BY PROGRAM (witnessworld.py) out of the Statement's table words and the real class files: 22 classes; the members and pool entries that the words name. The judged class is class 1, her method 3. -/
namespace start1
open Jvm.ClassFile
def u (s : String) : CpInfo := .utf8 (stringToUtf16 s)
/-- a pool by its gaps: so many unusable entries, then the entry; so many at the end -/
def gap : Nat → List CpInfo → List CpInfo
  | 0, r => r
  | n + 1, r => .unusable :: gap n r
def poolList (es : List (Nat × CpInfo)) (last : Nat) : List CpInfo := es.foldr (fun e r => gap e.1 (e.2 :: r)) (gap last [])
def pool (es : List (Nat × CpInfo)) (last : Nat) : Array CpInfo := ⟨poolList es last⟩
def fileOf (pool : Array CpInfo) (this : Nat) (attrs : Array Attribute := #[]) (ms : Array MethodInfo := #[]) (fl : Nat := 33) (sup : Nat := 0) (ifs : Array Nat := #[]) (fds : Array FieldInfo := #[]) : ClassFile where
  minorVersion := 0
  majorVersion := 65
  constantPool := pool
  accessFlags := fl
  thisClass := this
  superClass := sup
  interfaces := ifs
  fields := fds
  methods := ms
  attributes := attrs
def plain (name : String) (sup : Option ClassId) : Class where
  name := name
  kind := .ordinary
  loader := none
  accessFlags := 33
  super := sup
  interfaces := #[]
  cf := none
  fields := #[]
  methods := #[]
  instanceTypes := #[]
  staticTypes := #[]
  resolved := #[]
  callSites := []
  init := .initialized
  statics := none
  mirror := none

def pool0 : Array CpInfo := pool [(5, u "<init>"), (0, u "()V"), (1, .class_ 10), (1, u "java/lang/Object"), (81, u "equals"), (0, u "(Ljava/lang/Object;)Z")] 30

def k0c0 : Code := { maxStack := 0, maxLocals := 1, code := object_method_1_code, exceptionTable := #[], attributes := #[] }
def k0m0 : Method := { name := "<init>", desc := "()V", sig := { parameters := [], returnType := none }, accessFlags := 1, code := some k0c0 }
def k0c1 : Code := { maxStack := 2, maxLocals := 2, code := ⟨#[0x2a, 0x2b, 0xa6, 0x00, 0x07, 0x04, 0xa7, 0x00, 0x04, 0x03, 0xac]⟩, exceptionTable := #[], attributes := #[] }
def k0m1 : Method := { name := "equals", desc := "(Ljava/lang/Object;)Z", sig := { parameters := [(.object "java/lang/Object")], returnType := some .boolean }, accessFlags := 1, code := some k0c1 }
/-- java/lang/Object -/
def k0 : Class := { plain "java/lang/Object" none with
  accessFlags := 33
  interfaces := #[]
  cf := some (fileOf pool0 8 #[] #[{ accessFlags := 1, nameIndex := 5, descriptorIndex := 6, attributes := #[] }, { accessFlags := 1, nameIndex := 92, descriptorIndex := 93, attributes := #[] }] 33 0 #[] #[])
  fields := #[]
  methods := #[k0m0, k0m1]
  instanceTypes := #[]
  staticTypes := #[]
  resolved := Array.replicate 124 none
  statics := none }

def pool1 : Array CpInfo := pool [(2, .class_ 4), (1, u "java/lang/Object"), (0, u "<init>"), (0, u "()V"), (0, .class_ 8), (0, u "java/lang/String"), (0, .methodref 7 10), (0, .nameAndType 5 11), (0, u "([C)V"), (0, .class_ 13), (0, u "com/example/twyce/twyce/Aggregate"), (0, .methodref 15 16), (0, .class_ 17), (0, .nameAndType 18 19), (0, u "com/example/twyce/twyce/AggregateEqualsPinLaw"), (0, u "str"), (0, u "(ZI)Ljava/lang/String;"), (0, .methodref 12 21), (0, .nameAndType 5 22), (0, u "(Ljava/lang/String;Ljava/lang/String;)V"), (0, .methodref 15 24), (0, .nameAndType 25 26), (0, u "same"), (0, u "(ZIZI)Z"), (0, .methodref 12 28), (0, .nameAndType 29 30), (0, u "equals"), (0, u "(Ljava/lang/Object;)Z"), (3, u "law"), (0, u "(IIIII)Z")] 2

def k1m0 : Method := { name := "<init>", desc := "()V", sig := { parameters := [], returnType := none }, accessFlags := 1, code := none }
def k1c1 : Code := { maxStack := 4, maxLocals := 3, code := method_2_code, exceptionTable := #[], attributes := #[] }
def k1m1 : Method := { name := "str", desc := "(ZI)Ljava/lang/String;", sig := { parameters := [.boolean, .int], returnType := some (.object "java/lang/String") }, accessFlags := 10, code := some k1c1 }
def k1c2 : Code := { maxStack := 3, maxLocals := 4, code := method_3_code, exceptionTable := #[], attributes := #[] }
def k1m2 : Method := { name := "same", desc := "(ZIZI)Z", sig := { parameters := [.boolean, .int, .boolean, .int], returnType := some .boolean }, accessFlags := 10, code := some k1c2 }
def k1c3 : Code := { maxStack := 5, maxLocals := 15, code := code, exceptionTable := #[], attributes := #[] }
def k1m3 : Method := { name := "law", desc := "(IIIII)Z", sig := { parameters := [.int, .int, .int, .int, .int], returnType := some .boolean }, accessFlags := 9, code := some k1c3 }
/-- com/example/twyce/twyce/AggregateEqualsPinLaw -/
def k1 : Class := { plain "com/example/twyce/twyce/AggregateEqualsPinLaw" (some 0) with
  accessFlags := 49
  interfaces := #[]
  cf := some (fileOf pool1 15 #[] #[{ accessFlags := 1, nameIndex := 5, descriptorIndex := 6, attributes := #[] }, { accessFlags := 10, nameIndex := 18, descriptorIndex := 19, attributes := #[] }, { accessFlags := 10, nameIndex := 25, descriptorIndex := 26, attributes := #[] }, { accessFlags := 9, nameIndex := 34, descriptorIndex := 35, attributes := #[] }] 49 2 #[] #[])
  fields := #[]
  methods := #[k1m0, k1m1, k1m2, k1m3]
  instanceTypes := #[]
  staticTypes := #[]
  resolved := Array.replicate 38 none
  statics := none }

def pool2 : Array CpInfo := pool [(1, .methodref 2 3), (0, .class_ 4), (0, .nameAndType 5 6), (0, u "java/lang/Object"), (0, u "<init>"), (0, u "()V"), (0, .class_ 8), (0, u "java/lang/Record")] 13

def k2c0 : Code := { maxStack := 1, maxLocals := 1, code := jdk_30_method_1_code, exceptionTable := #[], attributes := #[] }
def k2m0 : Method := { name := "<init>", desc := "()V", sig := { parameters := [], returnType := none }, accessFlags := 4, code := some k2c0 }
/-- java/lang/Record -/
def k2 : Class := { plain "java/lang/Record" (some 0) with
  accessFlags := 1057
  interfaces := #[]
  cf := some (fileOf pool2 7 #[] #[{ accessFlags := 4, nameIndex := 5, descriptorIndex := 6, attributes := #[] }] 1057 2 #[] #[])
  fields := #[]
  methods := #[k2m0]
  instanceTypes := #[]
  staticTypes := #[]
  resolved := Array.replicate 22 none
  statics := none }

def pool3 : Array CpInfo := pool [(1, .methodref 2 3), (0, .class_ 4), (0, .nameAndType 5 6), (0, u "java/lang/Record"), (0, u "<init>"), (0, u "()V"), (0, .fieldref 8 9), (0, .class_ 10), (0, .nameAndType 11 12), (0, u "com/example/twyce/twyce/Aggregate"), (0, u "type"), (0, u "Ljava/lang/String;"), (0, .fieldref 8 14), (0, .nameAndType 15 12), (0, u "id"), (0, .methodref 17 18), (0, .class_ 19), (0, .nameAndType 20 21), (0, u "java/util/Objects"), (0, u "equals"), (0, u "(Ljava/lang/Object;Ljava/lang/Object;)Z"), (8, u "(Ljava/lang/String;Ljava/lang/String;)V"), (3, u "(Ljava/lang/Object;)Z")] 24

def k3c0 : Code := { maxStack := 2, maxLocals := 3, code := prog_1_method_1_code, exceptionTable := #[], attributes := #[] }
def k3m0 : Method := { name := "<init>", desc := "(Ljava/lang/String;Ljava/lang/String;)V", sig := { parameters := [(.object "java/lang/String"), (.object "java/lang/String")], returnType := none }, accessFlags := 1, code := some k3c0 }
def k3c1 : Code := { maxStack := 2, maxLocals := 3, code := prog_1_method_2_code, exceptionTable := #[], attributes := #[] }
def k3m1 : Method := { name := "equals", desc := "(Ljava/lang/Object;)Z", sig := { parameters := [(.object "java/lang/Object")], returnType := some .boolean }, accessFlags := 1, code := some k3c1 }
/-- com/example/twyce/twyce/Aggregate -/
def k3 : Class := { plain "com/example/twyce/twyce/Aggregate" (some 2) with
  accessFlags := 49
  interfaces := #[]
  cf := some (fileOf pool3 8 #[] #[{ accessFlags := 1, nameIndex := 5, descriptorIndex := 30, attributes := #[] }, { accessFlags := 1, nameIndex := 20, descriptorIndex := 34, attributes := #[] }] 49 2 #[] #[{ accessFlags := 18, nameIndex := 11, descriptorIndex := 12, attributes := #[] }, { accessFlags := 18, nameIndex := 15, descriptorIndex := 12, attributes := #[] }])
  fields := #[{ name := "type", type := (.object "java/lang/String"), accessFlags := 18, slot := 0, constantValue := 0 }, { name := "id", type := (.object "java/lang/String"), accessFlags := 18, slot := 1, constantValue := 0 }]
  methods := #[k3m0, k3m1]
  instanceTypes := #[(.object "java/lang/String"), (.object "java/lang/String")]
  staticTypes := #[]
  resolved := Array.replicate 59 none
  statics := none }

def pool4 : Array CpInfo := pool [(1, .class_ 2), (0, u "java/io/Serializable"), (0, .class_ 4), (0, u "java/lang/Object")] 2

/-- java/io/Serializable -/
def k4 : Class := { plain "java/io/Serializable" (some 0) with
  accessFlags := 1537
  interfaces := #[]
  cf := some (fileOf pool4 1 #[] #[] 1537 3 #[] #[])
  fields := #[]
  methods := #[]
  instanceTypes := #[]
  staticTypes := #[]
  resolved := Array.replicate 7 none
  statics := none }

def pool5 : Array CpInfo := pool [(1, .class_ 2), (0, u "java/lang/Comparable"), (0, .class_ 4), (0, u "java/lang/Object")] 7

/-- java/lang/Comparable -/
def k5 : Class := { plain "java/lang/Comparable" (some 0) with
  accessFlags := 1537
  interfaces := #[]
  cf := some (fileOf pool5 1 #[] #[] 1537 3 #[] #[])
  fields := #[]
  methods := #[]
  instanceTypes := #[]
  staticTypes := #[]
  resolved := Array.replicate 12 none
  statics := none }

def pool6 : Array CpInfo := pool [(2, .class_ 4), (1, u "java/lang/CharSequence"), (42, .class_ 48), (0, u "java/lang/CharSequence$1CodePointIterator"), (10, .class_ 60), (0, u "java/lang/CharSequence$1CharIterator"), (5, .class_ 67), (0, u "java/lang/Object")] 63

/-- java/lang/CharSequence -/
def k6 : Class := { plain "java/lang/CharSequence" (some 0) with
  accessFlags := 1537
  interfaces := #[]
  cf := some (fileOf pool6 2 #[.nestMembers #[47, 59]] #[] 1537 66 #[] #[])
  fields := #[]
  methods := #[]
  instanceTypes := #[]
  staticTypes := #[]
  resolved := Array.replicate 131 none
  statics := none }

def pool7 : Array CpInfo := pool [(1, .class_ 2), (0, u "java/lang/constant/Constable"), (0, .class_ 4), (0, u "java/lang/Object")] 6

/-- java/lang/constant/Constable -/
def k7 : Class := { plain "java/lang/constant/Constable" (some 0) with
  accessFlags := 1537
  interfaces := #[]
  cf := some (fileOf pool7 1 #[] #[] 1537 3 #[] #[])
  fields := #[]
  methods := #[]
  instanceTypes := #[]
  staticTypes := #[]
  resolved := Array.replicate 11 none
  statics := none }

def pool8 : Array CpInfo := pool [(1, .class_ 2), (0, u "java/lang/constant/ConstantDesc"), (0, .class_ 4), (0, u "java/lang/Object")] 32

/-- java/lang/constant/ConstantDesc -/
def k8 : Class := { plain "java/lang/constant/ConstantDesc" (some 0) with
  accessFlags := 1537
  interfaces := #[]
  cf := some (fileOf pool8 1 #[] #[] 1537 3 #[] #[])
  fields := #[]
  methods := #[]
  instanceTypes := #[]
  staticTypes := #[]
  resolved := Array.replicate 37 none
  statics := none }

def pool9 : Array CpInfo := pool [(1, .methodref 2 3), (0, .class_ 4), (0, .nameAndType 5 6), (0, u "java/lang/Object"), (0, u "<init>"), (0, u "()V"), (2, .fieldref 10 11), (0, .class_ 12), (0, .nameAndType 13 14), (0, u "java/lang/String"), (0, u "value"), (0, u "[B"), (0, .fieldref 10 16), (0, .nameAndType 17 18), (0, u "coder"), (0, u "B"), (2, u "hash"), (0, u "I"), (2, u "hashIsZero"), (0, u "Z"), (0, .methodref 10 28), (0, .nameAndType 5 29), (0, u "([CIILjava/lang/Void;)V"), (8, .fieldref 10 39), (0, .nameAndType 40 26), (0, u "COMPACT_STRINGS"), (1, .class_ 44), (1, u "java/lang/StringUTF16"), (0, u "compress"), (1, .methodref 42 48), (0, .nameAndType 49 50), (0, u "coderFromArrayLen"), (0, u "([BI)B"), (56, .class_ 109), (1, u "java/lang/StringLatin1"), (67, .methodref 42 178), (0, .nameAndType 45 179), (0, u "([CII)[B"), (361, .methodref 107 542), (0, .nameAndType 543 544), (0, u "equals"), (0, u "([B[B)Z"), (28, u "(Ljava/lang/Object;)Z"), (1, .class_ 576), (0, u "java/lang/CharSequence"), (22, u "CASE_INSENSITIVE_ORDER"), (0, u "Ljava/util/Comparator;"), (409, u "([C)V"), (90, u "serialPersistentFields"), (0, u "[Ljava/io/ObjectStreamField;"), (0, .class_ 1104), (0, u "java/lang/String$CaseInsensitiveComparator"), (1, .class_ 1107), (0, u "java/io/Serializable"), (0, .class_ 1109), (0, u "java/lang/Comparable"), (0, .class_ 1111), (0, u "java/lang/constant/Constable"), (0, .class_ 1113), (0, u "java/lang/constant/ConstantDesc"), (2, u "serialVersionUID"), (0, u "J"), (3, u "REPL"), (0, u "C"), (2, u "LATIN1"), (1, u "UTF16")] 323

def k9m0 : Method := { name := "<init>", desc := "()V", sig := { parameters := [], returnType := none }, accessFlags := 1, code := none }
def k9c1 : Code := { maxStack := 5, maxLocals := 2, code := jdk_42_method_3_code, exceptionTable := #[], attributes := #[] }
def k9m1 : Method := { name := "<init>", desc := "([C)V", sig := { parameters := [(.array .char)], returnType := none }, accessFlags := 1, code := some k9c1 }
def k9c2 : Code := { maxStack := 2, maxLocals := 3, code := jdk_42_method_66_code, exceptionTable := #[], attributes := #[] }
def k9m2 : Method := { name := "equals", desc := "(Ljava/lang/Object;)Z", sig := { parameters := [(.object "java/lang/Object")], returnType := some .boolean }, accessFlags := 1, code := some k9c2 }
def k9c3 : Code := { maxStack := 4, maxLocals := 6, code := jdk_42_method_149_code, exceptionTable := #[], attributes := #[] }
def k9m3 : Method := { name := "<init>", desc := "([CIILjava/lang/Void;)V", sig := { parameters := [(.array .char), .int, .int, (.object "java/lang/Void")], returnType := none }, accessFlags := 2, code := some k9c3 }
/-- java/lang/String -/
def k9 : Class := { plain "java/lang/String" (some 0) with
  accessFlags := 49
  interfaces := #[4, 5, 6, 7, 8]
  cf := some (fileOf pool9 10 #[.nestMembers #[1103]] #[{ accessFlags := 1, nameIndex := 5, descriptorIndex := 6, attributes := #[] }, { accessFlags := 1, nameIndex := 5, descriptorIndex := 1010, attributes := #[] }, { accessFlags := 1, nameIndex := 543, descriptorIndex := 573, attributes := #[] }, { accessFlags := 2, nameIndex := 5, descriptorIndex := 29, attributes := #[] }] 49 2 #[1106, 1108, 575, 1110, 1112] #[{ accessFlags := 18, nameIndex := 13, descriptorIndex := 14, attributes := #[] }, { accessFlags := 18, nameIndex := 17, descriptorIndex := 18, attributes := #[] }, { accessFlags := 2, nameIndex := 21, descriptorIndex := 22, attributes := #[] }, { accessFlags := 2, nameIndex := 25, descriptorIndex := 26, attributes := #[] }, { accessFlags := 26, nameIndex := 1116, descriptorIndex := 1117, attributes := #[] }, { accessFlags := 24, nameIndex := 40, descriptorIndex := 26, attributes := #[] }, { accessFlags := 26, nameIndex := 1101, descriptorIndex := 1102, attributes := #[] }, { accessFlags := 26, nameIndex := 1121, descriptorIndex := 1122, attributes := #[] }, { accessFlags := 25, nameIndex := 599, descriptorIndex := 600, attributes := #[] }, { accessFlags := 24, nameIndex := 1125, descriptorIndex := 18, attributes := #[] }, { accessFlags := 24, nameIndex := 1127, descriptorIndex := 18, attributes := #[] }])
  fields := #[{ name := "value", type := (.array .byte), accessFlags := 18, slot := 0, constantValue := 0 }, { name := "coder", type := .byte, accessFlags := 18, slot := 1, constantValue := 0 }, { name := "hash", type := .int, accessFlags := 2, slot := 2, constantValue := 0 }, { name := "hashIsZero", type := .boolean, accessFlags := 2, slot := 3, constantValue := 0 }, { name := "serialVersionUID", type := .long, accessFlags := 26, slot := 0, constantValue := 0 }, { name := "COMPACT_STRINGS", type := .boolean, accessFlags := 24, slot := 1, constantValue := 0 }, { name := "serialPersistentFields", type := (.array (.object "java/io/ObjectStreamField")), accessFlags := 26, slot := 2, constantValue := 0 }, { name := "REPL", type := .char, accessFlags := 26, slot := 3, constantValue := 0 }, { name := "CASE_INSENSITIVE_ORDER", type := (.object "java/util/Comparator"), accessFlags := 25, slot := 4, constantValue := 0 }, { name := "LATIN1", type := .byte, accessFlags := 24, slot := 5, constantValue := 0 }, { name := "UTF16", type := .byte, accessFlags := 24, slot := 6, constantValue := 0 }]
  methods := #[k9m0, k9m1, k9m2, k9m3]
  instanceTypes := #[(.array .byte), .byte, .int, .boolean]
  staticTypes := #[.long, .boolean, (.array (.object "java/io/ObjectStreamField")), .char, (.object "java/util/Comparator"), .byte, .byte]
  resolved := Array.replicate 1451 none
  statics := some 0 }

def pool10 : Array CpInfo := pool [(6, .class_ 8), (1, u "java/lang/Object"), (0, u "<init>"), (0, u "()V"), (1, .class_ 14), (1, u "java/lang/StringUTF16"), (31, u "$assertionsDisabled"), (0, u "Z"), (13, u "HI_BYTE_SHIFT"), (0, u "I"), (2, u "LO_BYTE_SHIFT"), (49, .methodref 12 116), (0, .nameAndType 117 118), (0, u "compress"), (0, u "([CI[BII)I"), (3, u "([CII)[B"), (138, u "coderFromArrayLen"), (0, u "([BI)B"), (106, .class_ 371), (1, u "java/lang/StringUTF16$LinesSpliterator"), (58, u "MAX_LENGTH"), (196, .class_ 628), (0, u "java/lang/StringUTF16$CodePointsSpliterator"), (0, .class_ 630), (0, u "java/lang/StringUTF16$CharsSpliterator")] 4

def k10m0 : Method := { name := "<init>", desc := "()V", sig := { parameters := [], returnType := none }, accessFlags := 0, code := none }
def k10c1 : Code := { maxStack := 2, maxLocals := 2, code := jdk_52_method_15_code, exceptionTable := #[], attributes := #[] }
def k10m1 : Method := { name := "coderFromArrayLen", desc := "([BI)B", sig := { parameters := [(.array .byte), .int], returnType := some .byte }, accessFlags := 8, code := some k10c1 }
def k10c2 : Code := { maxStack := 5, maxLocals := 6, code := jdk_52_method_16_code, exceptionTable := #[], attributes := #[] }
def k10m2 : Method := { name := "compress", desc := "([CII)[B", sig := { parameters := [(.array .char), .int, .int], returnType := some (.array .byte) }, accessFlags := 9, code := some k10c2 }
def k10c3 : Code := { maxStack := 3, maxLocals := 7, code := jdk_52_method_21_code, exceptionTable := #[], attributes := #[] }
def k10m3 : Method := { name := "compress", desc := "([CI[BII)I", sig := { parameters := [(.array .char), .int, (.array .byte), .int, .int], returnType := some .int }, accessFlags := 9, code := some k10c3 }
/-- java/lang/StringUTF16 -/
def k10 : Class := { plain "java/lang/StringUTF16" (some 0) with
  accessFlags := 48
  interfaces := #[]
  cf := some (fileOf pool10 12 #[.nestMembers #[627, 629, 369]] #[{ accessFlags := 0, nameIndex := 9, descriptorIndex := 10, attributes := #[] }, { accessFlags := 8, nameIndex := 261, descriptorIndex := 262, attributes := #[] }, { accessFlags := 9, nameIndex := 117, descriptorIndex := 122, attributes := #[] }, { accessFlags := 9, nameIndex := 117, descriptorIndex := 118, attributes := #[] }] 48 6 #[] #[{ accessFlags := 26, nameIndex := 61, descriptorIndex := 62, attributes := #[] }, { accessFlags := 26, nameIndex := 65, descriptorIndex := 62, attributes := #[] }, { accessFlags := 24, nameIndex := 430, descriptorIndex := 62, attributes := #[] }, { accessFlags := 4120, nameIndex := 46, descriptorIndex := 47, attributes := #[] }])
  fields := #[{ name := "HI_BYTE_SHIFT", type := .int, accessFlags := 26, slot := 0, constantValue := 0 }, { name := "LO_BYTE_SHIFT", type := .int, accessFlags := 26, slot := 1, constantValue := 0 }, { name := "MAX_LENGTH", type := .int, accessFlags := 24, slot := 2, constantValue := 0 }, { name := "$assertionsDisabled", type := .boolean, accessFlags := 4120, slot := 3, constantValue := 0 }]
  methods := #[k10m0, k10m1, k10m2, k10m3]
  instanceTypes := #[]
  staticTypes := #[.int, .int, .int, .boolean]
  resolved := Array.replicate 635 none
  statics := none }

def pool11 : Array CpInfo := pool [(2, .class_ 4), (1, u "java/lang/Object"), (0, u "<init>"), (0, u "()V"), (7, .methodref 2 15), (0, .nameAndType 16 17), (0, u "equals"), (0, u "(Ljava/lang/Object;)Z"), (5, u "(Ljava/lang/Object;Ljava/lang/Object;)Z"), (18, .class_ 44), (1, u "java/util/Objects")] 139

def k11m0 : Method := { name := "<init>", desc := "()V", sig := { parameters := [], returnType := none }, accessFlags := 2, code := none }
def k11c1 : Code := { maxStack := 2, maxLocals := 2, code := jdk_31_method_2_code, exceptionTable := #[], attributes := #[] }
def k11m1 : Method := { name := "equals", desc := "(Ljava/lang/Object;Ljava/lang/Object;)Z", sig := { parameters := [(.object "java/lang/Object"), (.object "java/lang/Object")], returnType := some .boolean }, accessFlags := 9, code := some k11c1 }
/-- java/util/Objects -/
def k11 : Class := { plain "java/util/Objects" (some 0) with
  accessFlags := 49
  interfaces := #[]
  cf := some (fileOf pool11 42 #[] #[{ accessFlags := 2, nameIndex := 5, descriptorIndex := 6, attributes := #[] }, { accessFlags := 9, nameIndex := 16, descriptorIndex := 23, attributes := #[] }] 49 2 #[] #[])
  fields := #[]
  methods := #[k11m0, k11m1]
  instanceTypes := #[]
  staticTypes := #[]
  resolved := Array.replicate 184 none
  statics := none }

def pool12 : Array CpInfo := pool [(4, .class_ 6), (1, u "java/lang/Object"), (0, u "<init>"), (0, u "()V"), (5, .class_ 16), (1, u "java/lang/StringLatin1"), (104, u "$assertionsDisabled"), (0, u "Z"), (98, .class_ 223), (1, u "java/lang/StringLatin1$LinesSpliterator"), (57, u "equals"), (0, u "([B[B)Z"), (107, .class_ 391), (0, u "java/lang/StringLatin1$CharsSpliterator")] 3

def k12m0 : Method := { name := "<init>", desc := "()V", sig := { parameters := [], returnType := none }, accessFlags := 0, code := none }
def k12c1 : Code := { maxStack := 3, maxLocals := 3, code := jdk_43_method_13_code, exceptionTable := #[], attributes := #[] }
def k12m1 : Method := { name := "equals", desc := "([B[B)Z", sig := { parameters := [(.array .byte), (.array .byte)], returnType := some .boolean }, accessFlags := 9, code := some k12c1 }
/-- java/lang/StringLatin1 -/
def k12 : Class := { plain "java/lang/StringLatin1" (some 0) with
  accessFlags := 48
  interfaces := #[]
  cf := some (fileOf pool12 14 #[.nestMembers #[390, 221]] #[{ accessFlags := 0, nameIndex := 7, descriptorIndex := 8, attributes := #[] }, { accessFlags := 9, nameIndex := 281, descriptorIndex := 282, attributes := #[] }] 48 4 #[] #[{ accessFlags := 4120, nameIndex := 121, descriptorIndex := 122, attributes := #[] }])
  fields := #[{ name := "$assertionsDisabled", type := .boolean, accessFlags := 4120, slot := 0, constantValue := 0 }]
  methods := #[k12m0, k12m1]
  instanceTypes := #[]
  staticTypes := #[.boolean]
  resolved := Array.replicate 395 none
  statics := none }

def pool13 : Array CpInfo := pool [(2, .class_ 4), (1, u "java/lang/Object"), (0, u "<init>"), (0, u "()V"), (17, .class_ 26), (1, u "jdk/internal/util/Preconditions"), (28, .class_ 56), (0, u "jdk/internal/util/Preconditions$4"), (57, .class_ 115), (0, u "jdk/internal/util/Preconditions$1"), (7, u "SIOOBE_FORMATTER"), (0, u "Ljava/util/function/BiFunction;"), (0, .class_ 126), (0, u "jdk/internal/util/Preconditions$2"), (3, u "AIOOBE_FORMATTER"), (0, .class_ 132), (0, u "jdk/internal/util/Preconditions$3"), (3, u "IOOBE_FORMATTER")] 57

def k13m0 : Method := { name := "<init>", desc := "()V", sig := { parameters := [], returnType := none }, accessFlags := 1, code := none }
/-- jdk/internal/util/Preconditions -/
def k13 : Class := { plain "jdk/internal/util/Preconditions" (some 0) with
  accessFlags := 33
  interfaces := #[]
  cf := some (fileOf pool13 24 #[.nestMembers #[55, 131, 125, 114]] #[{ accessFlags := 1, nameIndex := 5, descriptorIndex := 6, attributes := #[] }] 33 2 #[] #[{ accessFlags := 25, nameIndex := 123, descriptorIndex := 124, attributes := #[] }, { accessFlags := 25, nameIndex := 130, descriptorIndex := 124, attributes := #[] }, { accessFlags := 25, nameIndex := 136, descriptorIndex := 124, attributes := #[] }])
  fields := #[{ name := "SIOOBE_FORMATTER", type := (.object "java/util/function/BiFunction"), accessFlags := 25, slot := 0, constantValue := 0 }, { name := "AIOOBE_FORMATTER", type := (.object "java/util/function/BiFunction"), accessFlags := 25, slot := 1, constantValue := 0 }, { name := "IOOBE_FORMATTER", type := (.object "java/util/function/BiFunction"), accessFlags := 25, slot := 2, constantValue := 0 }]
  methods := #[k13m0]
  instanceTypes := #[]
  staticTypes := #[(.object "java/util/function/BiFunction"), (.object "java/util/function/BiFunction"), (.object "java/util/function/BiFunction")]
  resolved := Array.replicate 194 none
  statics := some 1 }

def pool14 : Array CpInfo := pool [(9, u "<init>"), (6, .class_ 18), (1, u "java/lang/Object"), (0, u "()V"), (1, .class_ 23), (1, u "jdk/internal/util/ArraysSupport"), (0, u "LOG2_ARRAY_LONG_INDEX_SCALE"), (0, u "I"), (2, u "U"), (0, u "Ljdk/internal/misc/Unsafe;"), (8, u "BIG_ENDIAN"), (0, u "Z"), (8, u "LOG2_BYTE_BIT_SIZE"), (4, u "LOG2_ARRAY_INT_INDEX_SCALE"), (54, u "JLA"), (0, u "Ljdk/internal/access/JavaLangAccess;"), (11, u "LOG2_ARRAY_BOOLEAN_INDEX_SCALE"), (9, u "LOG2_ARRAY_BYTE_INDEX_SCALE"), (5, u "LOG2_ARRAY_CHAR_INDEX_SCALE"), (5, u "LOG2_ARRAY_SHORT_INDEX_SCALE"), (18, u "LOG2_ARRAY_FLOAT_INDEX_SCALE"), (24, u "LOG2_ARRAY_DOUBLE_INDEX_SCALE"), (89, u "T_BOOLEAN"), (2, u "T_CHAR"), (1, u "T_FLOAT"), (1, u "T_DOUBLE"), (1, u "T_BYTE"), (1, u "T_SHORT"), (1, u "T_INT"), (1, u "T_LONG"), (1, u "SOFT_MAX_ARRAY_LENGTH")] 83

def k14m0 : Method := { name := "<init>", desc := "()V", sig := { parameters := [], returnType := none }, accessFlags := 2, code := none }
/-- jdk/internal/util/ArraysSupport -/
def k14 : Class := { plain "jdk/internal/util/ArraysSupport" (some 0) with
  accessFlags := 33
  interfaces := #[]
  cf := some (fileOf pool14 21 #[] #[{ accessFlags := 2, nameIndex := 9, descriptorIndex := 19, attributes := #[] }] 33 16 #[] #[{ accessFlags := 24, nameIndex := 28, descriptorIndex := 29, attributes := #[] }, { accessFlags := 26, nameIndex := 38, descriptorIndex := 39, attributes := #[] }, { accessFlags := 25, nameIndex := 121, descriptorIndex := 25, attributes := #[] }, { accessFlags := 25, nameIndex := 131, descriptorIndex := 25, attributes := #[] }, { accessFlags := 25, nameIndex := 137, descriptorIndex := 25, attributes := #[] }, { accessFlags := 25, nameIndex := 143, descriptorIndex := 25, attributes := #[] }, { accessFlags := 25, nameIndex := 53, descriptorIndex := 25, attributes := #[] }, { accessFlags := 25, nameIndex := 24, descriptorIndex := 25, attributes := #[] }, { accessFlags := 25, nameIndex := 162, descriptorIndex := 25, attributes := #[] }, { accessFlags := 25, nameIndex := 187, descriptorIndex := 25, attributes := #[] }, { accessFlags := 26, nameIndex := 48, descriptorIndex := 25, attributes := #[] }, { accessFlags := 25, nameIndex := 277, descriptorIndex := 25, attributes := #[] }, { accessFlags := 25, nameIndex := 280, descriptorIndex := 25, attributes := #[] }, { accessFlags := 25, nameIndex := 282, descriptorIndex := 25, attributes := #[] }, { accessFlags := 25, nameIndex := 284, descriptorIndex := 25, attributes := #[] }, { accessFlags := 25, nameIndex := 286, descriptorIndex := 25, attributes := #[] }, { accessFlags := 25, nameIndex := 288, descriptorIndex := 25, attributes := #[] }, { accessFlags := 25, nameIndex := 290, descriptorIndex := 25, attributes := #[] }, { accessFlags := 25, nameIndex := 292, descriptorIndex := 25, attributes := #[] }, { accessFlags := 26, nameIndex := 108, descriptorIndex := 109, attributes := #[] }, { accessFlags := 25, nameIndex := 294, descriptorIndex := 25, attributes := #[] }])
  fields := #[{ name := "U", type := (.object "jdk/internal/misc/Unsafe"), accessFlags := 24, slot := 0, constantValue := 0 }, { name := "BIG_ENDIAN", type := .boolean, accessFlags := 26, slot := 1, constantValue := 0 }, { name := "LOG2_ARRAY_BOOLEAN_INDEX_SCALE", type := .int, accessFlags := 25, slot := 2, constantValue := 0 }, { name := "LOG2_ARRAY_BYTE_INDEX_SCALE", type := .int, accessFlags := 25, slot := 3, constantValue := 0 }, { name := "LOG2_ARRAY_CHAR_INDEX_SCALE", type := .int, accessFlags := 25, slot := 4, constantValue := 0 }, { name := "LOG2_ARRAY_SHORT_INDEX_SCALE", type := .int, accessFlags := 25, slot := 5, constantValue := 0 }, { name := "LOG2_ARRAY_INT_INDEX_SCALE", type := .int, accessFlags := 25, slot := 6, constantValue := 0 }, { name := "LOG2_ARRAY_LONG_INDEX_SCALE", type := .int, accessFlags := 25, slot := 7, constantValue := 0 }, { name := "LOG2_ARRAY_FLOAT_INDEX_SCALE", type := .int, accessFlags := 25, slot := 8, constantValue := 0 }, { name := "LOG2_ARRAY_DOUBLE_INDEX_SCALE", type := .int, accessFlags := 25, slot := 9, constantValue := 0 }, { name := "LOG2_BYTE_BIT_SIZE", type := .int, accessFlags := 26, slot := 10, constantValue := 0 }, { name := "T_BOOLEAN", type := .int, accessFlags := 25, slot := 11, constantValue := 0 }, { name := "T_CHAR", type := .int, accessFlags := 25, slot := 12, constantValue := 0 }, { name := "T_FLOAT", type := .int, accessFlags := 25, slot := 13, constantValue := 0 }, { name := "T_DOUBLE", type := .int, accessFlags := 25, slot := 14, constantValue := 0 }, { name := "T_BYTE", type := .int, accessFlags := 25, slot := 15, constantValue := 0 }, { name := "T_SHORT", type := .int, accessFlags := 25, slot := 16, constantValue := 0 }, { name := "T_INT", type := .int, accessFlags := 25, slot := 17, constantValue := 0 }, { name := "T_LONG", type := .int, accessFlags := 25, slot := 18, constantValue := 0 }, { name := "JLA", type := (.object "jdk/internal/access/JavaLangAccess"), accessFlags := 26, slot := 19, constantValue := 0 }, { name := "SOFT_MAX_ARRAY_LENGTH", type := .int, accessFlags := 25, slot := 20, constantValue := 0 }]
  methods := #[k14m0]
  instanceTypes := #[]
  staticTypes := #[(.object "jdk/internal/misc/Unsafe"), .boolean, .int, .int, .int, .int, .int, .int, .int, .int, .int, .int, .int, .int, .int, .int, .int, .int, .int, (.object "jdk/internal/access/JavaLangAccess"), .int]
  resolved := Array.replicate 378 none
  statics := none }

def pool15 : Array CpInfo := pool [(1, u "java/lang/Cloneable"), (0, .class_ 1), (0, u "java/lang/Object"), (0, .class_ 3)] 3

/-- java/lang/Cloneable -/
def k15 : Class := { plain "java/lang/Cloneable" (some 0) with
  accessFlags := 1537
  interfaces := #[]
  cf := some (fileOf pool15 2 #[] #[] 1537 4 #[] #[])
  fields := #[]
  methods := #[]
  instanceTypes := #[]
  staticTypes := #[]
  resolved := Array.replicate 8 none
  statics := none }

/-- the primitive byte -/
def k16 : Class := { plain "byte" none with kind := .primitive 'B', accessFlags := 0x411 }
/-- [B -/
def k17 : Class := { plain "[B" (some 0) with kind := .array 16 .byte, interfaces := #[15, 4], accessFlags := 1041 }

/-- the primitive char -/
def k18 : Class := { plain "char" none with kind := .primitive 'C', accessFlags := 0x411 }
/-- [C -/
def k19 : Class := { plain "[C" (some 0) with kind := .array 18 .char, interfaces := #[15, 4], accessFlags := 1041 }

/-- the primitive int -/
def k20 : Class := { plain "int" none with kind := .primitive 'I', accessFlags := 0x411 }
/-- [I -/
def k21 : Class := { plain "[I" (some 0) with kind := .array 20 .int, interfaces := #[15, 4], accessFlags := 1041 }

def heap : Heap := #[{ cls := 9, slots := #[.long 0, .int 1, .null, .int 0, .null, .int 0, .int 0], vm := .statics 9 },
  { cls := 13, slots := #[.null, .null, .null], vm := .statics 13 }]
def classes : Array Class := #[k0, k1, k2, k3, k4, k5, k6, k7, k8, k9, k10, k11, k12, k13, k14, k15, k16, k17, k18, k19, k20, k21]
def interned : List (Array UInt16 × Addr) := []
def slotsUsed : Nat := 10
def theMethod : MethodId := ⟨1, 3⟩
def args0 : Array Value := #[.int 5, .int 6, .int 7, .int 8, .int 0]
def aboutOver (below : List Frame) : State where
  vm := { classes := classes, interned := interned.toArray }
  heap := heap
  slotsUsed := slotsUsed
  threads := #[{ frames := .invoking theMethod args0 :: below }]
def below0 : List Frame := [.native { method := ⟨0, 0⟩, args := #[] }]
def about1 : State := aboutOver below0
def p0 : Program := .bare "" "" ""
def e0 : Env := launch0.env 0 0 0
theorem w_frames : about1.frames = Frame.invoking theMethod args0 :: below0 := rfl
set_option maxRecDepth 65536 in
theorem w_args : argsFit about1.vm theMethod args0 = true := by decide +kernel
set_option maxRecDepth 65536 in
theorem w_heap : heapFits about1 = true := by decide +kernel
set_option maxRecDepth 65536 in
theorem w_runnable : about1.curStatus? = some .runnable := by decide +kernel
set_option maxRecDepth 65536 in
theorem w_alone : about1.alone = true := by decide +kernel
set_option maxRecDepth 65536 in
theorem w_named : about1.methodNamed? x = some theMethod := by decide +kernel
set_option maxRecDepth 65536 in
theorem w_hears : about1.hears theMethod below0 = true := by decide +kernel
set_option maxRecDepth 65536 in
theorem w_ripe : about1.ripe theMethod args0 below0 = true := by decide +kernel
theorem w_running : about1.status = .running := rfl
set_option maxRecDepth 65536 in
theorem w_room : about1.hasRoom e0.platform room_1 = true :=
  launch0.hasRoom_least _ room_1 (by decide +kernel) (by decide +kernel) (by decide +kernel) (by decide +kernel) (by decide +kernel) (by decide +kernel)
theorem allAtoms_all (ts : List Jvm.Cond) (a : Array Jvm.Value) (st : Jvm.State) : (allAtoms ts).before a st = ts.all (fun c => c.before a st) := by
  induction ts with
  | nil => rfl
  | cons c t ih =>
    show (Jvm.Cond.and c (allAtoms t)).before a st = _
    rw [Jvm.Cond.before_and, ih, List.all_cons]
def words1 : List Jvm.Cond := Jvm.Cond.code x code maxLocals ret :: tables_1
/-- a 'code' word, met by the world's own term for the bytes: nothing is compared byte by byte -/
theorem code_word {y : MethodName} {bytes : ByteArray} {mx : Nat} {rt : Option FieldType} {a : Array Value} {s : State} {m : MethodId} {meth : Method} {c : Code} (h1 : s.methodNamed? y = some m) (h2 : s.vm.method? m = some meth) (h3 : meth.code = some c) (h4 : c.code = bytes)
    (h5 : (c.maxLocals == mx && c.exceptionTable.isEmpty && decide (c.maxStack ≤ mostOperands) && decide (meth.sig.returnType = rt) && !meth.locks && decide (parseMethodDescriptor y.desc = some meth.sig)) = true) : (Jvm.Cond.code y bytes mx rt).before a s = true := by
  simp only [Bool.and_eq_true, beq_iff_eq, Bool.not_eq_true', decide_eq_true_eq] at h5
  obtain ⟨⟨⟨⟨⟨g1, g2⟩, g3⟩, g4⟩, g5⟩, g6⟩ := h5
  simp [Cond.before, Cond.holds, Cond.value, h1, h2, h3, h4, g1, g2, g3, g4, g5, g6]
def isCode : Jvm.Cond → Bool
  | .code _ _ _ _ => true
  | _ => false
theorem all_split {L : List Jvm.Cond} {P : Jvm.Cond → Bool} (h1 : L.all (fun c => isCode c || P c) = true) (h2 : ∀ c ∈ L.filter isCode, P c = true) : L.all P = true := by
  refine List.all_eq_true.mpr fun c hc => ?_
  have h := List.all_eq_true.mp h1 c hc
  rcases Bool.eq_false_or_eq_true (isCode c) with hi | hi
  · exact h2 c (List.mem_filter.mpr ⟨hc, hi⟩)
  · simpa [hi] using h
set_option maxRecDepth 65536 in
theorem w_c0 : (Jvm.Cond.code x code maxLocals ret).before args0 about1 = true := code_word (m := ⟨1, 3⟩) (meth := k1m3) (c := k1c3) (by decide +kernel) rfl rfl rfl (by decide +kernel)
set_option maxRecDepth 65536 in
theorem w_c1 : (Jvm.Cond.code ({ cls := "com/example/twyce/twyce/AggregateEqualsPinLaw", name := "str", desc := "(ZI)Ljava/lang/String;" } : Jvm.MethodName) method_2_code (3 : Nat) (Option.some (Jvm.ClassFile.FieldType.object "java/lang/String"))).before args0 about1 = true := code_word (m := ⟨1, 1⟩) (meth := k1m1) (c := k1c1) (by decide +kernel) rfl rfl rfl (by decide +kernel)
set_option maxRecDepth 65536 in
theorem w_c2 : (Jvm.Cond.code ({ cls := "java/lang/String", name := "<init>", desc := "([C)V" } : Jvm.MethodName) jdk_42_method_3_code (2 : Nat) (Option.none : Option Jvm.ClassFile.FieldType)).before args0 about1 = true := code_word (m := ⟨9, 1⟩) (meth := k9m1) (c := k9c1) (by decide +kernel) rfl rfl rfl (by decide +kernel)
set_option maxRecDepth 65536 in
theorem w_c3 : (Jvm.Cond.code ({ cls := "java/lang/String", name := "<init>", desc := "([CIILjava/lang/Void;)V" } : Jvm.MethodName) jdk_42_method_149_code (6 : Nat) (Option.none : Option Jvm.ClassFile.FieldType)).before args0 about1 = true := code_word (m := ⟨9, 3⟩) (meth := k9m3) (c := k9c3) (by decide +kernel) rfl rfl rfl (by decide +kernel)
set_option maxRecDepth 65536 in
theorem w_c4 : (Jvm.Cond.code ({ cls := "java/lang/Object", name := "<init>", desc := "()V" } : Jvm.MethodName) object_method_1_code (1 : Nat) (Option.none : Option Jvm.ClassFile.FieldType)).before args0 about1 = true := code_word (m := ⟨0, 0⟩) (meth := k0m0) (c := k0c0) (by decide +kernel) rfl rfl rfl (by decide +kernel)
set_option maxRecDepth 65536 in
theorem w_c5 : (Jvm.Cond.code ({ cls := "java/lang/StringUTF16", name := "compress", desc := "([CII)[B" } : Jvm.MethodName) jdk_52_method_16_code (6 : Nat) (Option.some (Jvm.ClassFile.FieldType.array Jvm.ClassFile.FieldType.byte))).before args0 about1 = true := code_word (m := ⟨10, 2⟩) (meth := k10m2) (c := k10c2) (by decide +kernel) rfl rfl rfl (by decide +kernel)
set_option maxRecDepth 65536 in
theorem w_c6 : (Jvm.Cond.code ({ cls := "java/lang/StringUTF16", name := "compress", desc := "([CI[BII)I" } : Jvm.MethodName) jdk_52_method_21_code (7 : Nat) (Option.some Jvm.ClassFile.FieldType.int)).before args0 about1 = true := code_word (m := ⟨10, 3⟩) (meth := k10m3) (c := k10c3) (by decide +kernel) rfl rfl rfl (by decide +kernel)
set_option maxRecDepth 65536 in
theorem w_c7 : (Jvm.Cond.code ({ cls := "java/lang/StringUTF16", name := "coderFromArrayLen", desc := "([BI)B" } : Jvm.MethodName) jdk_52_method_15_code (2 : Nat) (Option.some Jvm.ClassFile.FieldType.byte)).before args0 about1 = true := code_word (m := ⟨10, 1⟩) (meth := k10m1) (c := k10c1) (by decide +kernel) rfl rfl rfl (by decide +kernel)
set_option maxRecDepth 65536 in
theorem w_c8 : (Jvm.Cond.code ({ cls := "com/example/twyce/twyce/Aggregate", name := "<init>", desc := "(Ljava/lang/String;Ljava/lang/String;)V" } : Jvm.MethodName) prog_1_method_1_code (3 : Nat) (Option.none : Option Jvm.ClassFile.FieldType)).before args0 about1 = true := code_word (m := ⟨3, 0⟩) (meth := k3m0) (c := k3c0) (by decide +kernel) rfl rfl rfl (by decide +kernel)
set_option maxRecDepth 65536 in
theorem w_c9 : (Jvm.Cond.code ({ cls := "java/lang/Record", name := "<init>", desc := "()V" } : Jvm.MethodName) jdk_30_method_1_code (1 : Nat) (Option.none : Option Jvm.ClassFile.FieldType)).before args0 about1 = true := code_word (m := ⟨2, 0⟩) (meth := k2m0) (c := k2c0) (by decide +kernel) rfl rfl rfl (by decide +kernel)
set_option maxRecDepth 65536 in
theorem w_c10 : (Jvm.Cond.code ({ cls := "com/example/twyce/twyce/AggregateEqualsPinLaw", name := "same", desc := "(ZIZI)Z" } : Jvm.MethodName) method_3_code (4 : Nat) (Option.some Jvm.ClassFile.FieldType.boolean)).before args0 about1 = true := code_word (m := ⟨1, 2⟩) (meth := k1m2) (c := k1c2) (by decide +kernel) rfl rfl rfl (by decide +kernel)
set_option maxRecDepth 65536 in
theorem w_c11 : (Jvm.Cond.code ({ cls := "com/example/twyce/twyce/Aggregate", name := "equals", desc := "(Ljava/lang/Object;)Z" } : Jvm.MethodName) prog_1_method_2_code (3 : Nat) (Option.some Jvm.ClassFile.FieldType.boolean)).before args0 about1 = true := code_word (m := ⟨3, 1⟩) (meth := k3m1) (c := k3c1) (by decide +kernel) rfl rfl rfl (by decide +kernel)
set_option maxRecDepth 65536 in
theorem w_c12 : (Jvm.Cond.code ({ cls := "java/util/Objects", name := "equals", desc := "(Ljava/lang/Object;Ljava/lang/Object;)Z" } : Jvm.MethodName) jdk_31_method_2_code (2 : Nat) (Option.some Jvm.ClassFile.FieldType.boolean)).before args0 about1 = true := code_word (m := ⟨11, 1⟩) (meth := k11m1) (c := k11c1) (by decide +kernel) rfl rfl rfl (by decide +kernel)
set_option maxRecDepth 65536 in
theorem w_c13 : (Jvm.Cond.code ({ cls := "java/lang/String", name := "equals", desc := "(Ljava/lang/Object;)Z" } : Jvm.MethodName) jdk_42_method_66_code (3 : Nat) (Option.some Jvm.ClassFile.FieldType.boolean)).before args0 about1 = true := code_word (m := ⟨9, 2⟩) (meth := k9m2) (c := k9c2) (by decide +kernel) rfl rfl rfl (by decide +kernel)
set_option maxRecDepth 65536 in
theorem w_c14 : (Jvm.Cond.code ({ cls := "java/lang/StringLatin1", name := "equals", desc := "([B[B)Z" } : Jvm.MethodName) jdk_43_method_13_code (3 : Nat) (Option.some Jvm.ClassFile.FieldType.boolean)).before args0 about1 = true := code_word (m := ⟨12, 1⟩) (meth := k12m1) (c := k12c1) (by decide +kernel) rfl rfl rfl (by decide +kernel)
def codes1 : List Jvm.Cond := [Jvm.Cond.code x code maxLocals ret, Jvm.Cond.code ({ cls := "com/example/twyce/twyce/AggregateEqualsPinLaw", name := "str", desc := "(ZI)Ljava/lang/String;" } : Jvm.MethodName) method_2_code (3 : Nat) (Option.some (Jvm.ClassFile.FieldType.object "java/lang/String")), Jvm.Cond.code ({ cls := "java/lang/String", name := "<init>", desc := "([C)V" } : Jvm.MethodName) jdk_42_method_3_code (2 : Nat) (Option.none : Option Jvm.ClassFile.FieldType), Jvm.Cond.code ({ cls := "java/lang/String", name := "<init>", desc := "([CIILjava/lang/Void;)V" } : Jvm.MethodName) jdk_42_method_149_code (6 : Nat) (Option.none : Option Jvm.ClassFile.FieldType), Jvm.Cond.code ({ cls := "java/lang/Object", name := "<init>", desc := "()V" } : Jvm.MethodName) object_method_1_code (1 : Nat) (Option.none : Option Jvm.ClassFile.FieldType), Jvm.Cond.code ({ cls := "java/lang/StringUTF16", name := "compress", desc := "([CII)[B" } : Jvm.MethodName) jdk_52_method_16_code (6 : Nat) (Option.some (Jvm.ClassFile.FieldType.array Jvm.ClassFile.FieldType.byte)), Jvm.Cond.code ({ cls := "java/lang/StringUTF16", name := "compress", desc := "([CI[BII)I" } : Jvm.MethodName) jdk_52_method_21_code (7 : Nat) (Option.some Jvm.ClassFile.FieldType.int), Jvm.Cond.code ({ cls := "java/lang/StringUTF16", name := "coderFromArrayLen", desc := "([BI)B" } : Jvm.MethodName) jdk_52_method_15_code (2 : Nat) (Option.some Jvm.ClassFile.FieldType.byte), Jvm.Cond.code ({ cls := "com/example/twyce/twyce/Aggregate", name := "<init>", desc := "(Ljava/lang/String;Ljava/lang/String;)V" } : Jvm.MethodName) prog_1_method_1_code (3 : Nat) (Option.none : Option Jvm.ClassFile.FieldType), Jvm.Cond.code ({ cls := "java/lang/Record", name := "<init>", desc := "()V" } : Jvm.MethodName) jdk_30_method_1_code (1 : Nat) (Option.none : Option Jvm.ClassFile.FieldType), Jvm.Cond.code ({ cls := "com/example/twyce/twyce/AggregateEqualsPinLaw", name := "same", desc := "(ZIZI)Z" } : Jvm.MethodName) method_3_code (4 : Nat) (Option.some Jvm.ClassFile.FieldType.boolean), Jvm.Cond.code ({ cls := "com/example/twyce/twyce/Aggregate", name := "equals", desc := "(Ljava/lang/Object;)Z" } : Jvm.MethodName) prog_1_method_2_code (3 : Nat) (Option.some Jvm.ClassFile.FieldType.boolean), Jvm.Cond.code ({ cls := "java/util/Objects", name := "equals", desc := "(Ljava/lang/Object;Ljava/lang/Object;)Z" } : Jvm.MethodName) jdk_31_method_2_code (2 : Nat) (Option.some Jvm.ClassFile.FieldType.boolean), Jvm.Cond.code ({ cls := "java/lang/String", name := "equals", desc := "(Ljava/lang/Object;)Z" } : Jvm.MethodName) jdk_42_method_66_code (3 : Nat) (Option.some Jvm.ClassFile.FieldType.boolean), Jvm.Cond.code ({ cls := "java/lang/StringLatin1", name := "equals", desc := "([B[B)Z" } : Jvm.MethodName) jdk_43_method_13_code (3 : Nat) (Option.some Jvm.ClassFile.FieldType.boolean)]
set_option maxRecDepth 65536 in
theorem codes_eq : words1.filter isCode = codes1 := rfl
theorem w_codes : ∀ c ∈ words1.filter isCode, c.before args0 about1 = true := by
  rw [codes_eq]
  intro c hc
  simp only [codes1, List.mem_cons, List.not_mem_nil, or_false] at hc
  rcases hc with rfl | rfl | rfl | rfl | rfl | rfl | rfl | rfl | rfl | rfl | rfl | rfl | rfl | rfl | rfl
  · exact w_c0
  · exact w_c1
  · exact w_c2
  · exact w_c3
  · exact w_c4
  · exact w_c5
  · exact w_c6
  · exact w_c7
  · exact w_c8
  · exact w_c9
  · exact w_c10
  · exact w_c11
  · exact w_c12
  · exact w_c13
  · exact w_c14
set_option maxRecDepth 65536 in
theorem w_t1 : (words1.take 24).all (fun c => isCode c || c.before args0 about1) = true := by decide +kernel
set_option maxRecDepth 65536 in
theorem w_t2 : ((words1.drop 24).take 24).all (fun c => isCode c || c.before args0 about1) = true := by decide +kernel
set_option maxRecDepth 65536 in
theorem w_t3 : (((words1.drop 24).drop 24).take 24).all (fun c => isCode c || c.before args0 about1) = true := by decide +kernel
set_option maxRecDepth 65536 in
theorem w_t4 : (((words1.drop 24).drop 24).drop 24).all (fun c => isCode c || c.before args0 about1) = true := by decide +kernel
theorem w_tables : (allAtoms (Jvm.Cond.code x code maxLocals ret :: tables_1)).before args0 about1 = true := by
  rw [allAtoms_all]
  show words1.all (fun c => c.before args0 about1) = true
  refine all_split ?_ w_codes
  rw [← List.take_append_drop 24 words1, List.all_append, w_t1, ← List.take_append_drop 24 (words1.drop 24), List.all_append, w_t2, ← List.take_append_drop 24 ((words1.drop 24).drop 24), List.all_append, w_t3, w_t4]
  rfl
set_option maxRecDepth 65536 in
theorem w_rest : rest_1_c.before args0 about1 = true := by decide +kernel
set_option maxRecDepth 65536 in
theorem w_case : (Jvm.Cond.and given_1 narrow_1).before args0 about1 = true := by decide +kernel
theorem w_applies : (headSpec (Jvm.Cond.code x code maxLocals ret :: tables_1) room_1).applies x e0.platform about1 = true :=
  (Spec.applies_iff w_frames).mpr ⟨w_running, w_runnable, w_alone, w_named, w_hears, w_ripe, w_room, w_tables⟩
theorem atStart : AtStart classFile x code maxLocals ret World_1 tables_1 room_1 Calls_1 rest_1 Pre_1 launch0 p0 e0 about1 theMethod args0 below0 :=
  ⟨lists_1, trivial, launch0.admits_env _ _ _, launch0.least_env, fairChoices_fair.cas, fairChoices_fair.clock, w_frames, w_args, w_heap, w_applies, trivial, w_rest, w_case⟩
end start1
theorem witness_1 : WitnessClaimed_1 := ⟨start1.p0, start1.e0, start1.about1, start1.theMethod, start1.args0, start1.below0, start1.atStart⟩
end Jvm.Pilot.@@N@@
